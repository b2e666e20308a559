import JvmDerived
import JvmDerived.Pilot.@@N@@Statement
import JvmDerived.Pilot.@@N@@Code
set_option linter.unusedVariables false
set_option linter.unusedSimpArgs false
namespace Jvm.Pilot.@@N@@
open Jvm Jvm.ClassFile Sem Op Lib Jvm.Free Jvm.Stand Jvm.LawKit Jvm.RoadKit Bundle Jvm.Pilot.@@N@@.Jvm.D
/-! OWN PRELUDE (the same text in every proof of this seat): the walk as a goal that goes forward -/
section OwnPrelude
variable {Z : State} {hs : Heap} {W : List Addr} {own : String} {bytes : ByteArray} {maxL : Nat} {ret : Option FieldType} {nm : String}
  {p : Program} {l : Launch} {e : Env} {R : Room} {s : State} {m : MethodId} {args : Array Value} {below : List Frame} {meth : Method} {c : Code}
  {T : State} {h : Heap} {cells slots : Nat} {k n : Nat} {Q : Option Value → Heap → Prop} {a0 : Array Value} {pc : Nat} {Ls : Array Slot} {st rest : List Value}

/-- what stays the same while one body is walked -/
def own_G (Z : State) (hs : Heap) (W : List Addr) (own : String) (bytes : ByteArray) (maxL : Nat) (ret : Option FieldType) (nm : String) (p : Program) (s : State) (m : MethodId) (meth : Method) (c : Code) : Prop :=
  p.tables.exec = Jvm.exec ∧ Z.Warmed39 s.vm ∧ s.vm.findClass own = some m.cls ∧ c.code = bytes ∧ c.maxLocals = maxL ∧ meth.sig.returnType = ret ∧ meth.locks = false ∧ meth.name = nm ∧ Ext Z.heap hs ∧ ∀ a ∈ W, Z.heap.size ≤ a
/-- where the walk stands: state T, heap h, so many cells and slots made; nothing old but W was written -/
def own_S (Z : State) (hs : Heap) (W : List Addr) (own : String) (bytes : ByteArray) (maxL : Nat) (ret : Option FieldType) (nm : String) (p : Program) (l : Launch) (e : Env) (R : Room) (s : State) (m : MethodId) (args : Array Value) (below : List Frame) (meth : Method) (c : Code)
    (T : State) (h : Heap) (cells slots : Nat) : Prop :=
  own_G Z hs W own bytes maxL ret nm p s m meth c ∧ ∃ locs, Stand p l e R s m args below meth c T locs cells slots ∧ Fr Z.heap.size locs ∧ T.heap = h ∧ Keep hs h W
/-- from A the call comes to its end, and there Q holds -/
def own_F (p : Program) (e : Env) (below : List Frame) (s : State) (Z : State) (hs : Heap) (W : List Addr) (k n : Nat) (Q : Option Value → Heap → Prop) (A : State) : Prop :=
  ∃ s₂ o, Steps p.tables e below A s₂ ∧ s₂.status = .running ∧ Ended s₂ below o ∧ ∃ v L, o = .returned v ∧ (Fr Z.heap.size L ∧ Keep hs s₂.heap W ∧ Q v s₂.heap) ∧ FrameEnd s o s₂ L k n
/-- a body's contract -/
def own_C (l : Launch) (Z : State) (y : MethodName) (bytes : ByteArray) (maxL : Nat) (ret : Option FieldType) (ws : List Jvm.Cond) (rm : Room) (W : List Addr) (as' : Array Value) (h0 : Heap) (Q : Option Value → Heap → Prop) : Prop :=
  MetFree l y (head1 (Jvm.Cond.code y bytes maxL ret :: ws) rm) (fun a U => a = as' ∧ Z.Warmed39 U.vm ∧ U.heap = h0) (fun _ _ _ _ _ => True)
    (fun _ U o U' => ∃ v L, o = .returned v ∧ (Fr Z.heap.size L ∧ Keep h0 U'.heap W ∧ Q v U'.heap) ∧ FrameEnd U o U' L rm.cells rm.slots)

theorem own_C.of {y : MethodName} {ws : List Jvm.Cond} {rm : Room} {as' : Array Value} {h0 : Heap} (hpl : plainFor y = true) (hO : Ext Z.heap h0) (hW : ∀ a ∈ W, Z.heap.size ≤ a)
    (body : ∀ p e s m below meth c T, own_S Z h0 W y.cls bytes maxL ret y.name p l e rm s m as' below meth c T h0 0 0 → own_F p e below s Z h0 W rm.cells rm.slots Q (T.setTop (entryFrame m as' maxL))) :
    own_C l Z y bytes maxL ret ws rm W as' h0 Q := by
  refine MetFree.of_bodySF hpl hisR ?_
  intro p e s m args below meth c s₁ Bd hml hP hK
  obtain ⟨rfl, hZ, hh⟩ := hP
  exact body p e s m below meth c s₁ ⟨⟨Bd.exec, hZ, findClass_of_methodNamed Bd.named, Bd.bytes, hml, Bd.returns, Bd.notSynchronized, (name_of_methodNamed Bd.named Bd.method).1, hO, hW⟩, [], Stand.of_body Bd, Fr.nil _, (by rw [← hh, Bd.state]; rfl), Keep.refl _ _⟩

theorem own_F.of {A B : State} (h : ∀ t, Steps p.tables e below B t → Steps p.tables e below A t) (f : own_F p e below s Z hs W k n Q B) : own_F p e below s Z hs W k n Q A := by
  obtain ⟨s₂, o, h1, r⟩ := f
  exact ⟨s₂, o, h _ h1, r⟩
theorem own_F.to {A B : State} (h : Steps p.tables e below A B) (f : own_F p e below s Z hs W k n Q B) : own_F p e below s Z hs W k n Q A := own_F.of (fun _ => h.trans) f
theorem own_F.cast {g g' : JFrame} (q : g = g') (f : own_F p e below s Z hs W k n Q (T.setTop g')) : own_F p e below s Z hs W k n Q (T.setTop g) := q ▸ f
theorem own_F.mono {A : State} {Q' : Option Value → Heap → Prop} (f : own_F p e below s Z hs W k n Q A) (q : ∀ v h, Q v h → Q' v h) : own_F p e below s Z hs W k n Q' A := by
  obtain ⟨s₂, o, h1, h2, h3, v, L, h4, ⟨h5, h6, h7⟩, h8⟩ := f
  exact ⟨s₂, o, h1, h2, h3, v, L, h4, ⟨h5, h6, q _ _ h7⟩, h8⟩
theorem own_C.mono {y : MethodName} {ws : List Jvm.Cond} {rm : Room} {as' : Array Value} {h0 : Heap} {Q' : Option Value → Heap → Prop} (f : own_C l Z y bytes maxL ret ws rm W as' h0 Q) (q : ∀ v h, Q v h → Q' v h) : own_C l Z y bytes maxL ret ws rm W as' h0 Q' := by
  intro p e ha hc hk s m args below hf happ hP hK
  obtain ⟨n, o, h1, h2, h3, v, L, h4, ⟨h5, h6, h7⟩, h8⟩ := f p e ha hc hk s m args below hf happ hP hK
  exact ⟨n, o, h1, h2, h3, v, L, h4, ⟨h5, h6, q _ _ h7⟩, h8⟩

theorem own_S.hx (S : own_S Z hs W own bytes maxL ret nm p l e R s m args below meth c T h cells slots) : p.tables.exec = Jvm.exec := S.1.1
theorem own_S.hZ (S : own_S Z hs W own bytes maxL ret nm p l e R s m args below meth c T h cells slots) : Z.Warmed39 s.vm := S.1.2.1
theorem own_S.hown (S : own_S Z hs W own bytes maxL ret nm p l e R s m args below meth c T h cells slots) : s.vm.findClass own = some m.cls := S.1.2.2.1
theorem own_S.hby (S : own_S Z hs W own bytes maxL ret nm p l e R s m args below meth c T h cells slots) : c.code = bytes := S.1.2.2.2.1
theorem own_S.hml (S : own_S Z hs W own bytes maxL ret nm p l e R s m args below meth c T h cells slots) : c.maxLocals = maxL := S.1.2.2.2.2.1
theorem own_S.hret (S : own_S Z hs W own bytes maxL ret nm p l e R s m args below meth c T h cells slots) : meth.sig.returnType = ret := S.1.2.2.2.2.2.1
theorem own_S.hlk (S : own_S Z hs W own bytes maxL ret nm p l e R s m args below meth c T h cells slots) : meth.locks = false := S.1.2.2.2.2.2.2.1
theorem own_S.hnm (S : own_S Z hs W own bytes maxL ret nm p l e R s m args below meth c T h cells slots) : meth.name = nm := S.1.2.2.2.2.2.2.2.1
theorem own_S.hO (S : own_S Z hs W own bytes maxL ret nm p l e R s m args below meth c T h cells slots) : Ext Z.heap hs := S.1.2.2.2.2.2.2.2.2.1
theorem own_S.hW (S : own_S Z hs W own bytes maxL ret nm p l e R s m args below meth c T h cells slots) : ∀ a ∈ W, Z.heap.size ≤ a := S.1.2.2.2.2.2.2.2.2.2
theorem own_S.keep (S : own_S Z hs W own bytes maxL ret nm p l e R s m args below meth c T h cells slots) : Keep hs h W := by obtain ⟨-, _, -, -, -, K⟩ := S; exact K
theorem own_S.size (S : own_S Z hs W own bytes maxL ret nm p l e R s m args below meth c T h cells slots) : hs.size ≤ h.size := S.keep.1
theorem own_S.old (S : own_S Z hs W own bytes maxL ret nm p l e R s m args below meth c T h cells slots) : Ext Z.heap h :=
  ⟨Nat.le_trans S.hO.1 S.size, fun x cc q => S.keep.2.1 x cc (S.hO.2 x cc q) fun r => absurd (Array.getElem?_eq_some_iff.mp q).1 (Nat.not_lt.mpr (S.hW x r))⟩
theorem own_S.here (S : own_S Z hs W own bytes maxL ret nm p l e R s m args below meth c T h cells slots) : At T m c below := by obtain ⟨-, _, X, -⟩ := S; exact X.here
theorem own_S.dec (S : own_S Z hs W own bytes maxL ret nm p l e R s m args below meth c T h cells slots) {r : Except ClassFile.DecodeError (ClassFile.Instr × Nat)} (h2 : decode bytes pc = r) : decode c.code pc = r := hb S.hby h2
theorem own_S.may (S : own_S Z hs W own bytes maxL ret nm p l e R s m args below meth c T h cells slots) {a : Addr} (q : a ∈ W ∨ hs.size ≤ a) : Z.heap.size ≤ a := q.elim (S.hW a) (Nat.le_trans S.hO.1)
theorem own_S.more (S : own_S Z hs W own bytes maxL ret nm p l e R s m args below meth c T h cells slots) {k' n' : Nat} (hk : cells ≤ k') (hn : slots ≤ n') : own_S Z hs W own bytes maxL ret nm p l e R s m args below meth c T h k' n' := by
  obtain ⟨G, locs, X, r⟩ := S
  exact ⟨G, locs, X.more hk hn, r⟩

/-! the ends -/
theorem own_S.leave (S : own_S Z hs W own bytes maxL ret nm p l e R s m args below meth c T h cells slots) {A : State} {v : Option Value} (hk : cells ≤ k) (hn : slots ≤ n) (hv : ret = none → v = none) (hq : Q v h)
    (go : ∀ (locs : List Loc) (_ : Stand p l e R s m args below meth c T locs cells slots) (fs : List Frame), (∀ (f : JFrame) (acts : List Action), f.method = m → f.locked = none → f.entered = [] → (doReturn e (T.setTop f) acts v).1 = T.setFrames fs) → Steps p.tables e below A (T.setFrames fs)) : own_F p e below s Z hs W k n Q A := by
  obtain ⟨G, locs, X, N, e0, K⟩ := S
  have hlk : meth.locks = false := own_S.hlk (⟨G, locs, X, N, e0, K⟩ : own_S Z hs W own bytes maxL ret nm p l e R s m args below meth c T h cells slots)
  have hret : meth.sig.returnType = ret := own_S.hret (⟨G, locs, X, N, e0, K⟩ : own_S Z hs W own bytes maxL ret nm p l e R s m args below meth c T h cells slots)
  obtain ⟨fs, hr, hrun, hended, hW, hsame⟩ := X.leave (v := v) (fun q => hv (hret ▸ q)) hlk
  subst e0
  exact ⟨_, _, go locs X fs hr, hrun, hended, _, _, rfl, ⟨N, K, hq⟩, ⟨_, rfl⟩, hW, hsame.mono hk hn⟩
theorem own_retV (S : own_S Z hs W own bytes maxL none nm p l e R s m args below meth c T h cells slots) (hd : decode bytes pc = .ok (.return_, 1)) (hk : cells ≤ k) (hn : slots ≤ n) (hq : Q none h) : own_F p e below s Z hs W k n Q (T.setTop (mkF m pc Ls [])) :=
  S.leave hk hn (fun _ => rfl) hq fun locs X fs hr => X.returnOut S.hx S.hret (S.dec hd) hr
theorem own_retZ {t : FieldType} (S : own_S Z hs W own bytes maxL (some t) nm p l e R s m args below meth c T h cells slots) {z : Int32} (ht : t = .boolean ∨ t = .byte ∨ t = .char ∨ t = .short) (hd : decode bytes pc = .ok (.ireturn, 1)) (hk : cells ≤ k) (hn : slots ≤ n) (hq : Q (some (.int (nar t z))) h) : own_F p e below s Z hs W k n Q (T.setTop (mkF m pc Ls (.int z :: rest))) :=
  S.leave hk hn (fun q => by cases q) hq fun locs X fs hr => retN X S.hx S.hret ht (S.dec hd) hr
theorem own_retI (S : own_S Z hs W own bytes maxL (some .int) nm p l e R s m args below meth c T h cells slots) {z : Int32} (hd : decode bytes pc = .ok (.ireturn, 1)) (hk : cells ≤ k) (hn : slots ≤ n) (hq : Q (some (.int z)) h) : own_F p e below s Z hs W k n Q (T.setTop (mkF m pc Ls (.int z :: rest))) :=
  S.leave hk hn (fun q => by cases q) hq fun locs X fs hr => retOut X S.hx S.hret rfl (Or.inl ⟨rfl, Or.inl rfl, _, rfl⟩) (S.dec hd) hr
theorem own_retJ (S : own_S Z hs W own bytes maxL (some .long) nm p l e R s m args below meth c T h cells slots) {z : Int64} (hd : decode bytes pc = .ok (.lreturn, 1)) (hk : cells ≤ k) (hn : slots ≤ n) (hq : Q (some (.long z)) h) : own_F p e below s Z hs W k n Q (T.setTop (mkF m pc Ls (.long z :: rest))) :=
  S.leave hk hn (fun q => by cases q) hq fun locs X fs hr => retOut X S.hx S.hret rfl (Or.inr (Or.inl ⟨rfl, rfl, _, rfl⟩)) (S.dec hd) hr
theorem own_retD (S : own_S Z hs W own bytes maxL (some .double) nm p l e R s m args below meth c T h cells slots) {z : UInt64} (hd : decode bytes pc = .ok (.dreturn, 1)) (hk : cells ≤ k) (hn : slots ≤ n) (hq : Q (some (.double z)) h) : own_F p e below s Z hs W k n Q (T.setTop (mkF m pc Ls (.double z :: rest))) :=
  S.leave hk hn (fun q => by cases q) hq fun locs X fs hr => retOut X S.hx S.hret rfl (Or.inr (Or.inr (Or.inl ⟨rfl, rfl, _, rfl⟩))) (S.dec hd) hr
theorem own_retA {t : FieldType} (S : own_S Z hs W own bytes maxL (some t) nm p l e R s m args below meth c T h cells slots) {w : Value} (ht : t.isReference = true) (hw : w.isRef = true) (hd : decode bytes pc = .ok (.areturn, 1)) (hk : cells ≤ k) (hn : slots ≤ n) (hq : Q (some w) h) : own_F p e below s Z hs W k n Q (T.setTop (mkF m pc Ls (w :: rest))) :=
  S.leave hk hn (fun q => by cases q) hq fun locs X fs hr => retOut X S.hx S.hret (by cases w <;> simp [Value.isRef] at hw <;> cases t <;> simp [FieldType.isReference] at ht <;> rfl) (Or.inr (Or.inr (Or.inr (Or.inr ⟨rfl, ht, hw⟩)))) (S.dec hd) hr

/-! branches -/
def own_cd : ClassFile.Cond → Int32 → Int32 → Prop
  | .eq, x, y => x = y
  | .ne, x, y => ¬ x = y
  | .lt, x, y => x < y
  | .ge, x, y => ¬ x < y
  | .gt, x, y => y < x
  | .le, x, y => ¬ y < x
theorem own_cd_t {cd : ClassFile.Cond} {x y : Int32} (q : own_cd cd x y) : if_icmp.holds cd x y = true := by
  cases cd
  · exact (teq q).1
  · exact (feq q).2
  · exact (tlt q).1
  · exact (flt q).2.1
  · exact (tlt q).2.2.1
  · exact (flt q).2.2.2
def own_cn : ClassFile.Cond → Int32 → Int32 → Prop
  | .eq, x, y => ¬ x = y
  | .ne, x, y => x = y
  | .lt, x, y => ¬ x < y
  | .ge, x, y => x < y
  | .gt, x, y => ¬ y < x
  | .le, x, y => y < x
theorem own_cd_f {cd : ClassFile.Cond} {x y : Int32} (q : own_cn cd x y) : if_icmp.holds cd x y = false := by
  cases cd
  · exact (feq q).1
  · exact (teq q).2
  · exact (flt q).1
  · exact (tlt q).2.1
  · exact (flt q).2.2.1
  · exact (tlt q).2.2.2
theorem own_cd_em (cd : ClassFile.Cond) (x y : Int32) : own_cd cd x y ∨ own_cn cd x y := by
  cases cd
  · exact Classical.em (x = y)
  · exact (Classical.em (x = y)).symm
  · exact Classical.em (x < y)
  · exact (Classical.em (x < y)).symm
  · exact Classical.em (y < x)
  · exact (Classical.em (y < x)).symm
theorem own_icmp (S : own_S Z hs W own bytes maxL ret nm p l e R s m args below meth c T h cells slots) {cd : ClassFile.Cond} {o : Int} {x y : Int32} (pc' : Nat) (hd : decode bytes pc = .ok (.if_icmp cd o, 3)) (ho : 0 ≤ (pc : Int) + o) (hp : ((pc : Int) + o).toNat = pc')
    (ft : own_cd cd x y → own_F p e below s Z hs W k n Q (T.setTop (mkF m pc' Ls rest))) (ff : own_cn cd x y → own_F p e below s Z hs W k n Q (T.setTop (mkF m (pc + 3) Ls rest))) : own_F p e below s Z hs W k n Q (T.setTop (mkF m pc Ls (.int y :: .int x :: rest))) := by
  rcases own_cd_em cd x y with q | q
  · exact own_F.of (fun _ => XS.icmpYes S.here S.hx rfl (pc0 := pc) rfl (S.dec hd) rfl (own_cd_t q) ho hp) (ft q)
  · exact own_F.of (fun _ => XS.icmpNo S.here S.hx rfl (S.dec hd) rfl (own_cd_f q)) (ff q)
theorem own_if (S : own_S Z hs W own bytes maxL ret nm p l e R s m args below meth c T h cells slots) {cd : ClassFile.Cond} {o : Int} {x : Int32} (pc' : Nat) (hd : decode bytes pc = .ok (.ifCond cd o, 3)) (ho : 0 ≤ (pc : Int) + o) (hp : ((pc : Int) + o).toNat = pc')
    (ft : own_cd cd x 0 → own_F p e below s Z hs W k n Q (T.setTop (mkF m pc' Ls rest))) (ff : own_cn cd x 0 → own_F p e below s Z hs W k n Q (T.setTop (mkF m (pc + 3) Ls rest))) : own_F p e below s Z hs W k n Q (T.setTop (mkF m pc Ls (.int x :: rest))) := by
  rcases own_cd_em cd x 0 with q | q
  · exact own_F.of (fun _ => XS.ifYes S.here S.hx rfl (pc0 := pc) rfl (S.dec hd) rfl ((if0 _ _).trans (own_cd_t q)) ho hp) (ft q)
  · exact own_F.of (fun _ => XS.ifNo S.here S.hx rfl (S.dec hd) rfl ((if0 _ _).trans (own_cd_f q))) (ff q)
def own_ac : ACond → Value → Value → Prop
  | .eq, x, y => x = y
  | .ne, x, y => ¬ x = y
def own_an : ACond → Value → Value → Prop
  | .eq, x, y => ¬ x = y
  | .ne, x, y => x = y
theorem own_acmp (S : own_S Z hs W own bytes maxL ret nm p l e R s m args below meth c T h cells slots) {cd : ACond} {o : Int} {x y : Value} (h1 : x.isRef = true) (h2 : y.isRef = true) (pc' : Nat) (hd : decode bytes pc = .ok (.if_acmp cd o, 3)) (ho : 0 ≤ (pc : Int) + o) (hp : ((pc : Int) + o).toNat = pc')
    (ft : own_ac cd x y → own_F p e below s Z hs W k n Q (T.setTop (mkF m pc' Ls rest))) (ff : own_an cd x y → own_F p e below s Z hs W k n Q (T.setTop (mkF m (pc + 3) Ls rest))) : own_F p e below s Z hs W k n Q (T.setTop (mkF m pc Ls (y :: x :: rest))) := by
  obtain ⟨locs, X, -⟩ := S.2
  cases cd <;> rcases Classical.em (x = y) with q | q
  · exact own_F.of (fun _ => Jvm.RoadKit.acmp (g := mkF m pc Ls (y :: x :: rest)) X S.hx rfl h1 h2 (pc0 := pc) (pc' := pc') (same := true) rfl (S.dec hd) rfl (decide_eq_true q) ho (by simp [acV, ← hp])) (ft q)
  · exact own_F.of (fun _ => Jvm.RoadKit.acmp (g := mkF m pc Ls (y :: x :: rest)) X S.hx rfl h1 h2 (pc0 := pc) (pc' := pc + 3) (same := false) rfl (S.dec hd) rfl (decide_eq_false q) ho (by simp [acV])) (ff q)
  · exact own_F.of (fun _ => Jvm.RoadKit.acmp (g := mkF m pc Ls (y :: x :: rest)) X S.hx rfl h1 h2 (pc0 := pc) (pc' := pc + 3) (same := true) rfl (S.dec hd) rfl (decide_eq_true q) ho (by simp [acV])) (ff q)
  · exact own_F.of (fun _ => Jvm.RoadKit.acmp (g := mkF m pc Ls (y :: x :: rest)) X S.hx rfl h1 h2 (pc0 := pc) (pc' := pc') (same := false) rfl (S.dec hd) rfl (decide_eq_false q) ho (by simp [acV, ← hp])) (ft q)

/-! the heap -/
theorem own_getF (S : own_S Z hs W own bytes maxL ret nm p l e R s m args below meth c T h cells slots) {R0 O fn d host : String} {index : Nat} (w : (Jvm.Cond.fieldLink own index R0 fn d).before a0 Z = true ∨ (Jvm.Cond.fieldLinkNest own index R0 fn d host).before a0 Z = true) (via : Via Z R0 O fn d)
    {a : Addr} {v : Value} (F : Fld Z h a O fn d v) (hd : decode bytes pc = .ok (.getfield index, 3))
    (f : ∀ T', own_S Z hs W own bytes maxL ret nm p l e R s m args below meth c T' h cells slots → own_F p e below s Z hs W k n Q (T'.setTop (mkF m (pc + 3) Ls (v :: rest)))) : own_F p e below s Z hs W k n Q (T.setTop (mkF m pc Ls (.ref a :: rest))) := by
  have S' := S
  obtain ⟨G, locs, X, N, e0, K⟩ := S
  obtain ⟨T', X', e', st⟩ := getF X S'.hx S'.hZ S'.hown w via e0 F (g := mkF m pc Ls (.ref a :: rest)) rfl rfl (S'.dec hd)
  exact own_F.of st (f T' ⟨G, locs, X', N, e', K⟩)
theorem own_getS (S : own_S Z hs W own bytes maxL ret nm p l e R s m args below meth c T h cells slots) {R0 O fn d host : String} {index : Nat} (w : (Jvm.Cond.fieldLink own index R0 fn d).before a0 Z = true ∨ (Jvm.Cond.fieldLinkNest own index R0 fn d host).before a0 Z = true) (via : Via Z R0 O fn d)
    {v : Value} (F : Sta Z h O fn d v) (hd : decode bytes pc = .ok (.getstatic index, 3))
    (f : ∀ T', own_S Z hs W own bytes maxL ret nm p l e R s m args below meth c T' h cells slots → own_F p e below s Z hs W k n Q (T'.setTop (mkF m (pc + 3) Ls (v :: st)))) : own_F p e below s Z hs W k n Q (T.setTop (mkF m pc Ls st)) := by
  have S' := S
  obtain ⟨G, locs, X, N, e0, K⟩ := S
  obtain ⟨T', X', e', st⟩ := getS2 X S'.hx S'.hZ S'.hown w via e0 F (g := mkF m pc Ls st) rfl (S'.dec hd)
  exact own_F.of st (f T' ⟨G, locs, X', N, e', K⟩)
theorem own_putF (S : own_S Z hs W own bytes maxL ret nm p l e R s m args below meth c T h cells slots) {R0 O fn d host C : String} {index kk : Nat} {ty : FieldType} (w : (Jvm.Cond.fieldLink own index R0 fn d).before a0 Z = true ∨ (Jvm.Cond.fieldLinkNest own index R0 fn d host).before a0 Z = true) (via : Via Z R0 O fn d)
    {a : Addr} {v old : Value} (F : Fld Z h a O fn d old) (E : Exa Z h a C) (L : (Jvm.Cond.lays C O fn d).before a0 Z = true ∨ ((Jvm.Cond.laysFinal C O fn d).before a0 Z = true ∧ own = O ∧ nm = "<init>")) (wi : (Jvm.Cond.instantiable C kk).before a0 Z = true)
    (hty : parseFieldDescriptor d = some ty) (hn : narrow ty v = v) (hf : fits ty v = true) (hd : decode bytes pc = .ok (.putfield index, 3)) (ok : a ∈ W ∨ hs.size ≤ a)
    (f : ∀ T' h', own_S Z hs W own bytes maxL ret nm p l e R s m args below meth c T' h' cells slots → Wr h h' a (Jvm.RoadKit.slotOf Z O fn d) v → own_F p e below s Z hs W k n Q (T'.setTop (mkF m (pc + 3) Ls rest))) : own_F p e below s Z hs W k n Q (T.setTop (mkF m pc Ls (v :: .ref a :: rest))) := by
  have S' := S
  obtain ⟨G, locs, X, N, e0, K⟩ := S
  obtain ⟨T', h', X', e', Wt, st⟩ := putF X S'.hx S'.hZ S'.hown w via e0 F E (L.imp id fun q => ⟨q.1, q.2.1, S'.hnm.trans q.2.2⟩) wi hty hn hf (g := mkF m pc Ls (v :: .ref a :: rest)) rfl rfl (S'.dec hd)
  exact own_F.of st (f T' h' ⟨G, _, X', Fr.snoc X' N (S'.may ok), e', K.wr Wt ok⟩ Wt)
theorem own_new (S : own_S Z hs W own bytes maxL ret nm p l e R s m args below meth c T h cells slots) {C : String} {index sl : Nat} (w : (Jvm.Cond.classLink own index C).before a0 Z = true) (wi : (Jvm.Cond.instantiable C sl).before a0 Z = true) (wz : (Jvm.Cond.initialized C).before a0 Z = true)
    (hd : decode bytes pc = .ok (.new index, 3)) (hc : cells + 1 ≤ R.cells) (hl : slots + sl ≤ R.slots)
    (f : ∀ T' h' a, a = h.size → own_S Z hs W own bytes maxL ret nm p l e R s m args below meth c T' h' (cells + 1) (slots + sl) → Ext h h' → Exa Z h' a C → (∀ {O fn d : String} {ty : FieldType}, Laid Z a0 C O fn d → parseFieldDescriptor d = some ty → Fld Z h' a O fn d (defaultValue ty)) →
      own_F p e below s Z hs W k n Q (T'.setTop (mkF m (pc + 3) Ls (.ref a :: st)))) : own_F p e below s Z hs W k n Q (T.setTop (mkF m pc Ls st)) := by
  have S' := S
  obtain ⟨G, locs, X, N, e0, K⟩ := S
  obtain ⟨T', h', X', e', E, A, D, -, st⟩ := newO X S'.hx S'.hZ S'.hown w wi wz e0 (g := mkF m pc Ls st) rfl (S'.dec hd) hc hl
  exact own_F.of st (f T' h' _ rfl ⟨G, _, X', N, e', K.ext E⟩ E A D)
theorem own_initO (S : own_S Z hs W own bytes maxL ret nm p l e R s m args below meth c T h cells slots) {index : Nat} (w1 : (Jvm.Cond.methodLink own index Lib.objectInit).before a0 Z = true) (w2 : (Jvm.Cond.instanceMethod Lib.objectInit).before a0 Z = true)
    (w3 : (Jvm.Cond.code Lib.objectInit ⟨#[0xb1]⟩ 1 none).before a0 Z = true) {a : Addr} (hsz : Ls.size = maxL) (hd : decode bytes pc = .ok (.invokespecial index, 3)) (hf : 1 ≤ R.frames) (hl : (rest.map fun v => v.category).sum + 12 ≤ R.locals)
    (f : ∀ T', own_S Z hs W own bytes maxL ret nm p l e R s m args below meth c T' h cells slots → own_F p e below s Z hs W k n Q (T'.setTop (mkF m (pc + 3) Ls rest))) : own_F p e below s Z hs W k n Q (T.setTop (mkF m pc Ls (.ref a :: rest))) := by
  have S' := S
  obtain ⟨G, locs, X, N, e0, K⟩ := S
  obtain ⟨T', X', e', st⟩ := initO X S'.hx S'.hZ S'.hown w1 w2 w3 e0 (g := mkF m pc Ls (.ref a :: rest)) rfl (hsz.trans S'.hml.symm) rfl (S'.dec hd) hf (W := (rest.map fun v => v.category).sum) (by show 2 * 0 + _ ≤ _; omega) hl
  exact own_F.of st (f T' ⟨G, locs, X', N, e', K⟩)

/-! calls -/
variable {index : Nat} {y y' : MethodName} {bytes' : ByteArray} {maxL' : Nat} {ret' : Option FieldType} {rm : Room} {W' : List Addr} {Q' : Option Value → Heap → Prop} {argsL : List Value} {ps : List FieldType} {rt : Option FieldType}
theorem own_callS (S : own_S Z hs W own bytes maxL ret nm p l e R s m args below meth c T h cells slots)
    (w1 : (Jvm.Cond.methodLink own index y).before a0 Z = true) (w2 : (Jvm.Cond.static y).before a0 Z = true) (w3 : (Jvm.Cond.initialized y.cls).before a0 Z = true) (w4 : (Jvm.Cond.code y bytes' maxL' ret').before a0 Z = true) (hy : y.cls ≠ "java/lang/invoke/MethodHandle" ∧ y.cls ≠ "java/lang/invoke/VarHandle")
    (C : own_C l Z y bytes' maxL' ret' [] rm W' argsL.toArray h Q') (hWW : ∀ a ∈ W', a ∈ W ∨ hs.size ≤ a) (pd : parseMethodDescriptor y.desc = some ⟨ps, rt⟩) (hlen : argsL.length = ps.length) (hsz : Ls.size = maxL) (hst : st = argsL.reverse ++ rest)
    (hd : decode bytes pc = .ok (.invokestatic index, 3)) (hfr : rm.frames + 1 ≤ R.frames) (hlo : (rest.map fun v => v.category).sum + (maxL' + 11) + rm.locals ≤ R.locals) (hc : cells + rm.cells ≤ R.cells) (hsl : slots + rm.slots ≤ R.slots)
    (f : ∀ T' h' v, own_S Z hs W own bytes maxL ret nm p l e R s m args below meth c T' h' (cells + rm.cells) (slots + rm.slots) → Keep h h' W' → Q' v h' → own_F p e below s Z hs W k n Q (T'.setTop (mkF m (pc + 3) Ls (v.toList ++ rest)))) : own_F p e below s Z hs W k n Q (T.setTop (mkF m pc Ls st)) := by
  have S' := S
  obtain ⟨G, locs, X, N, e0, K⟩ := S
  obtain ⟨v, _, ⟨T', L', k', n'⟩, -, X', ⟨Lc, hQ, h1, h2, h3⟩, st⟩ := Jvm.LawKit.callS X S'.hx (y := y) S'.hown (mvT S'.hZ w1) (mvT S'.hZ w2) (mvT S'.hZ w3) (mvT S'.hZ w4) hy (backOf (W := (rest.map fun v => v.category).sum) (Q := fun v hh L => Fr Z.heap.size L ∧ Keep h hh W' ∧ Q' v hh) C S'.hZ w4 w3 hfr hlo) (g := mkF m pc Ls st) rfl (hsz.trans S'.hml.symm) (argsL := argsL) (rest := rest) (lenOf pd hlen) hst (by show 2 * 0 + _ ≤ _; omega) (S'.dec hd) (fun _ _ => ⟨rfl, e0, hc, hsl⟩)
  dsimp only [Pt.U, Pt.locs, Pt.cells, Pt.slots] at X' h1 h2 h3 st hQ
  subst h1 h2 h3
  obtain ⟨N', K', q⟩ := hQ
  exact own_F.of st (f T' T'.heap v ⟨G, _, X', Fr.app N N', rfl, K.trans K' hWW⟩ K' q)
theorem own_callI (S : own_S Z hs W own bytes maxL ret nm p l e R s m args below meth c T h cells slots) (hy1 : y.name = "<init>")
    (w1 : (Jvm.Cond.methodLink own index y).before a0 Z = true) (w2 : (Jvm.Cond.instanceMethod y).before a0 Z = true) (w3 : (Jvm.Cond.initialized y.cls).before a0 Z = true) (w4 : (Jvm.Cond.code y bytes' maxL' none).before a0 Z = true) (hy : y.cls ≠ "java/lang/invoke/MethodHandle" ∧ y.cls ≠ "java/lang/invoke/VarHandle")
    {a : Addr} (C : own_C l Z y bytes' maxL' none [] rm W' (.ref a :: argsL).toArray h Q') (hWW : ∀ a ∈ W', a ∈ W ∨ hs.size ≤ a) (pd : parseMethodDescriptor y.desc = some ⟨ps, rt⟩) (hlen : argsL.length = ps.length) (hsz : Ls.size = maxL) (hst : st = argsL.reverse ++ .ref a :: rest)
    (hd : decode bytes pc = .ok (.invokespecial index, 3)) (hfr : rm.frames + 1 ≤ R.frames) (hlo : (rest.map fun v => v.category).sum + (maxL' + 11) + rm.locals ≤ R.locals) (hc : cells + rm.cells ≤ R.cells) (hsl : slots + rm.slots ≤ R.slots)
    (f : ∀ T' h' v, own_S Z hs W own bytes maxL ret nm p l e R s m args below meth c T' h' (cells + rm.cells) (slots + rm.slots) → Keep h h' W' → Q' v h' → own_F p e below s Z hs W k n Q (T'.setTop (mkF m (pc + 3) Ls (v.toList ++ rest)))) : own_F p e below s Z hs W k n Q (T.setTop (mkF m pc Ls st)) := by
  have S' := S
  obtain ⟨G, locs, X, N, e0, K⟩ := S
  obtain ⟨v, _, ⟨T', L', k', n'⟩, -, X', ⟨Lc, hQ, h1, h2, h3⟩, st⟩ := X.specialBack S'.hx (y := y) hy1 S'.hown (mvT S'.hZ w1) (mvT S'.hZ w2) (mvT S'.hZ w4) hy (backOf (W := (rest.map fun v => v.category).sum) (Q := fun v hh L => Fr Z.heap.size L ∧ Keep h hh W' ∧ Q' v hh) C S'.hZ w4 w3 hfr hlo) (g := mkF m pc Ls st) rfl (hsz.trans S'.hml.symm) (Steps.refl _) (a := a) (argsL := argsL) (rest := rest) (lenOf pd hlen) hst (by show 2 * 0 + _ ≤ _; omega) (S'.dec hd) (fun _ _ => ⟨rfl, e0, hc, hsl⟩)
  dsimp only [Pt.U, Pt.locs, Pt.cells, Pt.slots] at X' h1 h2 h3 st hQ
  subst h1 h2 h3
  obtain ⟨N', K', q⟩ := hQ
  exact own_F.to st (f T' T'.heap v ⟨G, _, X', Fr.app N N', rfl, K.trans K' hWW⟩ K' q)
theorem own_callV (S : own_S Z hs W own bytes maxL ret nm p l e R s m args below meth c T h cells slots) {Cn : String}
    (w1 : (Jvm.Cond.methodLink own index y).before a0 Z = true) (w2 : (Jvm.Cond.declares y).before a0 Z = true) (nf : NotFace s y) (w3 : (Jvm.Cond.selects Cn y y').before a0 Z = true) (w4 : (Jvm.Cond.instanceMethod y').before a0 Z = true) (w5 : (Jvm.Cond.code y' bytes' maxL' ret').before a0 Z = true) (w6 : (Jvm.Cond.initialized y'.cls).before a0 Z = true) (hy : y.cls ≠ "java/lang/invoke/MethodHandle" ∧ y.cls ≠ "java/lang/invoke/VarHandle")
    {a : Addr} (E : Exa Z h a Cn) (C : own_C l Z y' bytes' maxL' ret' [] rm W' (.ref a :: argsL).toArray h Q') (hWW : ∀ a ∈ W', a ∈ W ∨ hs.size ≤ a) (pd : parseMethodDescriptor y.desc = some ⟨ps, rt⟩) (hlen : argsL.length = ps.length) (hsz : Ls.size = maxL) (hst : st = argsL.reverse ++ .ref a :: rest)
    (hd : decode bytes pc = .ok (.invokevirtual index, 3)) (hfr : rm.frames + 1 ≤ R.frames) (hlo : (rest.map fun v => v.category).sum + (maxL' + 11) + rm.locals ≤ R.locals) (hc : cells + rm.cells ≤ R.cells) (hsl : slots + rm.slots ≤ R.slots)
    (f : ∀ T' h' v, own_S Z hs W own bytes maxL ret nm p l e R s m args below meth c T' h' (cells + rm.cells) (slots + rm.slots) → Keep h h' W' → Q' v h' → own_F p e below s Z hs W k n Q (T'.setTop (mkF m (pc + 3) Ls (v.toList ++ rest)))) : own_F p e below s Z hs W k n Q (T.setTop (mkF m pc Ls st)) := by
  have S' := S
  obtain ⟨G, locs, X, N, e0, K⟩ := S
  obtain ⟨cq, kq, qa, qb, qc⟩ := isOf S'.hZ e0 E
  obtain ⟨v, _, ⟨T', L', k', n'⟩, -, X', ⟨Lc, hQ, h1, h2, h3⟩, st⟩ := X.virtualBack S'.hx (y := y) (z := y') S'.hown (mvT S'.hZ w1) (mvT S'.hZ w2) nf (mvT S'.hZ w3) (mvT S'.hZ w4) hy (backOf (W := (rest.map fun v => v.category).sum) (Q := fun v hh L => Fr Z.heap.size L ∧ Keep h hh W' ∧ Q' v hh) C S'.hZ w5 w6 hfr hlo) qa qc (g := mkF m pc Ls st) rfl (hsz.trans S'.hml.symm) (Steps.refl _) (argsL := argsL) (rest := rest) (lenOf pd hlen) hst (by show 2 * 0 + _ ≤ _; omega) (S'.dec hd) (fun _ _ => ⟨rfl, e0, hc, hsl⟩)
  dsimp only [Pt.U, Pt.locs, Pt.cells, Pt.slots] at X' h1 h2 h3 st hQ
  subst h1 h2 h3
  obtain ⟨N', K', q⟩ := hQ
  exact own_F.to st (f T' T'.heap v ⟨G, _, X', Fr.app N N', rfl, K.trans K' hWW⟩ K' q)
theorem own_nf (S : own_S Z hs W own bytes maxL ret nm p l e R s m args below meth c T h cells slots) {Cn : String} (w : (Jvm.Cond.selects Cn y y).before a0 Z = true) : NotFace s y := notFace_of_selects (args := #[]) (mvT S.hZ w)
theorem own_callX (S : own_S Z hs W own bytes maxL ret nm p l e R s m args below meth c T h cells slots) {Cn : String} {cnt : Nat}
    (w1 : (Jvm.Cond.methodLink own index y).before a0 Z = true) (w2 : (Jvm.Cond.declares y).before a0 Z = true) (w7 : (Jvm.Cond.interfaceMethod y.cls y.cls y.name y.desc).before a0 Z = true) (w3 : (Jvm.Cond.selects Cn y y').before a0 Z = true) (w4 : (Jvm.Cond.instanceMethod y').before a0 Z = true) (w8 : (Jvm.Cond.publicMethod y').before a0 Z = true) (w9 : (Jvm.Cond.unhidden Cn y.name y.desc).before a0 Z = true) (w10 : (Jvm.Cond.castable Cn y.cls).before a0 Z = true)
    (w5 : (Jvm.Cond.code y' bytes' maxL' ret').before a0 Z = true) (w6 : (Jvm.Cond.initialized y'.cls).before a0 Z = true) (hy : y.cls ≠ "java/lang/invoke/MethodHandle" ∧ y.cls ≠ "java/lang/invoke/VarHandle")
    {a : Addr} (E : Exa Z h a Cn) (C : own_C l Z y' bytes' maxL' ret' [] rm W' (.ref a :: argsL).toArray h Q') (hWW : ∀ a ∈ W', a ∈ W ∨ hs.size ≤ a) (pd : parseMethodDescriptor y.desc = some ⟨ps, rt⟩) (hlen : argsL.length = ps.length) (hsz : Ls.size = maxL) (hst : st = argsL.reverse ++ .ref a :: rest)
    (hd : decode bytes pc = .ok (.invokeinterface index cnt, 5)) (hfr : rm.frames + 1 ≤ R.frames) (hlo : (rest.map fun v => v.category).sum + (maxL' + 11) + rm.locals ≤ R.locals) (hc : cells + rm.cells ≤ R.cells) (hsl : slots + rm.slots ≤ R.slots)
    (f : ∀ T' h' v, own_S Z hs W own bytes maxL ret nm p l e R s m args below meth c T' h' (cells + rm.cells) (slots + rm.slots) → Keep h h' W' → Q' v h' → own_F p e below s Z hs W k n Q (T'.setTop (mkF m (pc + 5) Ls (v.toList ++ rest)))) : own_F p e below s Z hs W k n Q (T.setTop (mkF m pc Ls st)) := by
  have S' := S
  obtain ⟨G, locs, X, N, e0, K⟩ := S
  obtain ⟨cq, kq, qa, qb, qc⟩ := isOf S'.hZ e0 E
  obtain ⟨v, _, ⟨T', L', k', n'⟩, -, X', ⟨Lc, hQ, h1, h2, h3⟩, st⟩ := X.interfaceBack S'.hx (xi := y) (y := y') S'.hown (mvT S'.hZ w1) (mvT S'.hZ w2) (mvT S'.hZ w7 (by simp [Cond.onTables, Cond.keepsFace, Cond.keeps, Cond.steady, Cond.faceAtom, hy])) (mvT S'.hZ w3) (mvT S'.hZ w4) (mvT S'.hZ w8) (mvT S'.hZ w9) (mvT S'.hZ w10) hy (backOf (W := (rest.map fun v => v.category).sum) (Q := fun v hh L => Fr Z.heap.size L ∧ Keep h hh W' ∧ Q' v hh) C S'.hZ w5 w6 hfr hlo) qa qb qc (g := mkF m pc Ls st) rfl (hsz.trans S'.hml.symm) (Steps.refl _) (argsL := argsL) (rest := rest) (lenOf pd hlen) hst (by show 2 * 0 + _ ≤ _; omega) (S'.dec hd) (fun _ _ => ⟨rfl, e0, hc, hsl⟩)
  dsimp only [Pt.U, Pt.locs, Pt.cells, Pt.slots] at X' h1 h2 h3 st hQ
  subst h1 h2 h3
  obtain ⟨N', K', q⟩ := hQ
  exact own_F.to st (f T' T'.heap v ⟨G, _, X', Fr.app N N', rfl, K.trans K' hWW⟩ K' q)
theorem own_callP (S : own_S Z hs W own bytes maxL ret nm p l e R s m args below meth c T h cells slots)
    (w1 : (Jvm.Cond.methodLink own index y).before a0 Z = true) (w2 : (Jvm.Cond.instanceMethod y).before a0 Z = true) {kk : Nat} (w3 : (Jvm.Cond.instantiable y.cls kk).before a0 Z = true) (wp : (Jvm.Cond.privateMethod y).before a0 Z = true) (w5 : (Jvm.Cond.code y bytes' maxL' ret').before a0 Z = true) (w6 : (Jvm.Cond.initialized y.cls).before a0 Z = true) (hy : y.cls ≠ "java/lang/invoke/MethodHandle" ∧ y.cls ≠ "java/lang/invoke/VarHandle")
    {a : Addr} {Cn : String} (E : Exa Z h a Cn) (C : own_C l Z y bytes' maxL' ret' [] rm W' (.ref a :: argsL).toArray h Q') (hWW : ∀ a ∈ W', a ∈ W ∨ hs.size ≤ a) (pd : parseMethodDescriptor y.desc = some ⟨ps, rt⟩) (hlen : argsL.length = ps.length) (hsz : Ls.size = maxL) (hst : st = argsL.reverse ++ .ref a :: rest)
    (hd : decode bytes pc = .ok (.invokevirtual index, 3)) (hfr : rm.frames + 1 ≤ R.frames) (hlo : (rest.map fun v => v.category).sum + (maxL' + 11) + rm.locals ≤ R.locals) (hc : cells + rm.cells ≤ R.cells) (hsl : slots + rm.slots ≤ R.slots)
    (f : ∀ T' h' v, own_S Z hs W own bytes maxL ret nm p l e R s m args below meth c T' h' (cells + rm.cells) (slots + rm.slots) → Keep h h' W' → Q' v h' → own_F p e below s Z hs W k n Q (T'.setTop (mkF m (pc + 3) Ls (v.toList ++ rest)))) : own_F p e below s Z hs W k n Q (T.setTop (mkF m pc Ls st)) := by
  have S' := S
  obtain ⟨G, locs, X, N, e0, K⟩ := S
  obtain ⟨cq, qq, qq'⟩ := E.cell
  obtain ⟨ci, ki, i1, i2, i3, i4, -⟩ := Cond.instantiable_spec (mvT (args := args) S'.hZ w3)
  have hsel : (Jvm.Cond.selects y.cls y y).before args s = true := Jvm.Stand.selects_self_of_private i1 i2 (by simp only [Bool.or_eq_false_iff] at i4; exact i4.1) (Cond.privateMethod_at (mvP S'.hZ wp (args := #[]))) (mvT S'.hZ w2) hy
  obtain ⟨v, _, ⟨T', L', k', n'⟩, -, X', ⟨Lc, hQ, h1, h2, h3⟩, st⟩ := X.privateBack S'.hx (y := y) S'.hown (mvT S'.hZ w1) (mvT S'.hZ w2) hsel (Cond.privateMethod_at (mvP S'.hZ wp (args := #[]))) (mvT S'.hZ w5) hy (backOf (W := (rest.map fun v => v.category).sum) (Q := fun v hh L => Fr Z.heap.size L ∧ Keep h hh W' ∧ Q' v hh) C S'.hZ w5 w6 hfr hlo) (g := mkF m pc Ls st) rfl (hsz.trans S'.hml.symm) (Steps.refl _) (a := a) (by rw [e0]; exact qq) qq' (argsL := argsL) (rest := rest) (lenOf pd hlen) hst (by show 2 * 0 + _ ≤ _; omega) (S'.dec hd) (fun _ _ => ⟨rfl, e0, hc, hsl⟩)
  dsimp only [Pt.U, Pt.locs, Pt.cells, Pt.slots] at X' h1 h2 h3 st hQ
  subst h1 h2 h3
  obtain ⟨N', K', q⟩ := hQ
  exact own_F.to st (f T' T'.heap v ⟨G, _, X', Fr.app N N', rfl, K.trans K' hWW⟩ K' q)
theorem own_callU (S : own_S Z hs W own bytes maxL ret nm p l e R s m args below meth c T h cells slots) {Cn owner : String}
    (w1 : (Jvm.Cond.methodLink own index y).before a0 Z = true) (w2 : (Jvm.Cond.sameMethod y.cls owner y.name y.desc).before a0 Z = true) (w7 : (Jvm.Cond.declares ⟨owner, y.name, y.desc⟩).before a0 Z = true) (hy : owner ≠ "java/lang/invoke/MethodHandle" ∧ owner ≠ "java/lang/invoke/VarHandle") (w3 : (Jvm.Cond.selects Cn y y').before a0 Z = true) (w4 : (Jvm.Cond.instanceMethod y').before a0 Z = true) (w5 : (Jvm.Cond.code y' bytes' maxL' ret').before a0 Z = true) (w6 : (Jvm.Cond.initialized y'.cls).before a0 Z = true)
    {a : Addr} (E : Exa Z h a Cn) (C : own_C l Z y' bytes' maxL' ret' [] rm W' (.ref a :: argsL).toArray h Q') (hWW : ∀ a ∈ W', a ∈ W ∨ hs.size ≤ a) (pd : parseMethodDescriptor y.desc = some ⟨ps, rt⟩) (hlen : argsL.length = ps.length) (hsz : Ls.size = maxL) (hst : st = argsL.reverse ++ .ref a :: rest)
    (hd : decode bytes pc = .ok (.invokevirtual index, 3)) (hfr : rm.frames + 1 ≤ R.frames) (hlo : (rest.map fun v => v.category).sum + (maxL' + 11) + rm.locals ≤ R.locals) (hc : cells + rm.cells ≤ R.cells) (hsl : slots + rm.slots ≤ R.slots)
    (f : ∀ T' h' v, own_S Z hs W own bytes maxL ret nm p l e R s m args below meth c T' h' (cells + rm.cells) (slots + rm.slots) → Keep h h' W' → Q' v h' → own_F p e below s Z hs W k n Q (T'.setTop (mkF m (pc + 3) Ls (v.toList ++ rest)))) : own_F p e below s Z hs W k n Q (T.setTop (mkF m pc Ls st)) := by
  have S' := S
  obtain ⟨G, locs, X, N, e0, K⟩ := S
  obtain ⟨cq, kq, qa, qb, qc⟩ := isOf S'.hZ e0 E
  obtain ⟨v, _, ⟨T', L', k', n'⟩, -, X', ⟨Lc, hQ, h1, h2, h3⟩, st⟩ := X.virtualBackUp S'.hx (x := y) (y := y') S'.hown (mvT S'.hZ w1) (mvT S'.hZ w2) (mvT S'.hZ w7) hy (mvT S'.hZ w3) (mvT S'.hZ w4) (backOf (W := (rest.map fun v => v.category).sum) (Q := fun v hh L => Fr Z.heap.size L ∧ Keep h hh W' ∧ Q' v hh) C S'.hZ w5 w6 hfr hlo) qa qc (g := mkF m pc Ls st) rfl (hsz.trans S'.hml.symm) (Steps.refl _) (argsL := argsL) (rest := rest) (lenOf pd hlen) hst (by show 2 * 0 + _ ≤ _; omega) (S'.dec hd) (fun _ _ => ⟨rfl, e0, hc, hsl⟩)
  dsimp only [Pt.U, Pt.locs, Pt.cells, Pt.slots] at X' h1 h2 h3 st hQ
  subst h1 h2 h3
  obtain ⟨N', K', q⟩ := hQ
  exact own_F.to st (f T' T'.heap v ⟨G, _, X', Fr.app N N', rfl, K.trans K' hWW⟩ K' q)
/-! casts and tests of classes -/
theorem own_cast (S : own_S Z hs W own bytes maxL ret nm p l e R s m args below meth c T h cells slots) {Kn : String} {a : Addr} (w : (Jvm.Cond.classLink own index Kn).before a0 Z = true) (F : Ins Z h a Kn true) (hd : decode bytes pc = .ok (.checkcast index, 3))
    (f : ∀ T', own_S Z hs W own bytes maxL ret nm p l e R s m args below meth c T' h cells slots → own_F p e below s Z hs W k n Q (T'.setTop (mkF m (pc + 3) Ls (.ref a :: rest)))) : own_F p e below s Z hs W k n Q (T.setTop (mkF m pc Ls (.ref a :: rest))) := by
  have S' := S
  obtain ⟨G, locs, X, N, e0, K⟩ := S
  obtain ⟨T', X', e', st⟩ := castY X S'.hx S'.hZ S'.hown w e0 F (g := mkF m pc Ls (.ref a :: rest)) rfl rfl (S'.dec hd)
  exact own_F.of st (f T' ⟨G, locs, X', N, e', K⟩)
theorem own_inst (S : own_S Z hs W own bytes maxL ret nm p l e R s m args below meth c T h cells slots) {Kn : String} {a : Addr} (w : (Jvm.Cond.classLink own index Kn).before a0 Z = true) (F : Ins Z h a Kn true) (hd : decode bytes pc = .ok (.instanceof index, 3))
    (f : ∀ T', own_S Z hs W own bytes maxL ret nm p l e R s m args below meth c T' h cells slots → own_F p e below s Z hs W k n Q (T'.setTop (mkF m (pc + 3) Ls (.int (1 : Int32) :: rest)))) : own_F p e below s Z hs W k n Q (T.setTop (mkF m pc Ls (.ref a :: rest))) := by
  have S' := S
  obtain ⟨G, locs, X, N, e0, K⟩ := S
  obtain ⟨T', X', e', st⟩ := instY X S'.hx S'.hZ S'.hown w e0 F (g := mkF m pc Ls (.ref a :: rest)) rfl rfl (S'.dec hd)
  exact own_F.of st (f T' ⟨G, locs, X', N, e', K⟩)

theorem own_instN (S : own_S Z hs W own bytes maxL ret nm p l e R s m args below meth c T h cells slots) {Kn Cn : String} {a : Addr} (w : (Jvm.Cond.classLink own index Kn).before a0 Z = true) (E : Exa Z h a Cn) (F : ∃ c t, Z.vm.findClass Cn = some c ∧ Z.vm.findClass Kn = some t ∧ Z.vm.assignable c t = false) (hd : decode bytes pc = .ok (.instanceof index, 3))
    (f : ∀ T', own_S Z hs W own bytes maxL ret nm p l e R s m args below meth c T' h cells slots → own_F p e below s Z hs W k n Q (T'.setTop (mkF m (pc + 3) Ls (.int (0 : Int32) :: rest)))) : own_F p e below s Z hs W k n Q (T.setTop (mkF m pc Ls (.ref a :: rest))) := by
  have S' := S
  obtain ⟨G, locs, X, N, e0, K⟩ := S
  obtain ⟨T', X', e', st⟩ := instNo X S'.hx S'.hZ S'.hown w e0 E F (g := mkF m pc Ls (.ref a :: rest)) rfl rfl (S'.dec hd)
  exact own_F.of st (f T' ⟨G, locs, X', N, e', K⟩)
theorem own_inst0 (S : own_S Z hs W own bytes maxL ret nm p l e R s m args below meth c T h cells slots) (hd : decode bytes pc = .ok (.instanceof index, 3))
    (f : own_F p e below s Z hs W k n Q (T.setTop (mkF m (pc + 3) Ls (.int (0 : Int32) :: rest)))) : own_F p e below s Z hs W k n Q (T.setTop (mkF m pc Ls (.null :: rest))) := by
  obtain ⟨locs, X, -⟩ := S.2
  exact own_F.of (X.instanceofNull S.hx (g := mkF m pc Ls (.null :: rest)) rfl rfl (S.dec hd)) f
theorem own_cast0 (S : own_S Z hs W own bytes maxL ret nm p l e R s m args below meth c T h cells slots) (hd : decode bytes pc = .ok (.checkcast index, 3))
    (f : own_F p e below s Z hs W k n Q (T.setTop (mkF m (pc + 3) Ls (.null :: rest)))) : own_F p e below s Z hs W k n Q (T.setTop (mkF m pc Ls (.null :: rest))) := by
  obtain ⟨locs, X, -⟩ := S.2
  exact own_F.of (X.checkcastNull S.hx (g := mkF m pc Ls (.null :: rest)) rfl rfl (S.dec hd)) f
theorem own_NSroot {O Kn : String} {i : Nat} (w : (Jvm.Cond.noSuperclass O).before a0 Z = true) (wk : (Jvm.Cond.instantiable Kn i).before a0 Z = true) (hn : O ≠ Kn) : NS Z O Kn := by
  obtain ⟨cO, kO, h1, h2, h3, -⟩ := Cond.noSuperclass_spec w
  obtain ⟨t, kt, g1, -⟩ := Cond.instantiable_spec wk
  refine ⟨cO, t, h1, g1, fun fuel => ?_⟩
  cases fuel with
  | zero => rfl
  | succ f => simp [Vm.isSubclassAux, ids_ne h1 g1 hn, h2, h3]
theorem own_NSno {Cn Sn Kn : String} {i : Nat} (w : (Jvm.Cond.superclass Cn Sn).before a0 Z = true) (wk : (Jvm.Cond.instantiable Kn i).before a0 Z = true) (q : NS Z Cn Kn) (hn : Cn ≠ Kn) : ∃ c t, Z.vm.findClass Cn = some c ∧ Z.vm.findClass Kn = some t ∧ Z.vm.assignable c t = false := by
  obtain ⟨cC, t, h0, g0, n3⟩ := q
  obtain ⟨p, kC, kp, h1, h2, h3, h4, h5, -, h7⟩ := Cond.superclass_spec h0 w
  obtain ⟨t', kt, g1, g2, g3, g4, -⟩ := Cond.instantiable_spec wk
  cases g0.symm.trans g1
  have g5 : kt.isInterface = false := by simp only [Bool.or_eq_false_iff] at g4; exact g4.1
  refine ⟨cC, t, h0, g0, ?_⟩
  show Z.vm.assignableAux (255 + 1) cC t = false
  simp [Vm.assignableAux, ids_ne h0 g0 hn, h2, g2, h5, g3, g5, Vm.isSubclass, n3]

/-! more single steps -/
theorem own_irem (S : own_S Z hs W own bytes maxL ret nm p l e R s m args below meth c T h cells slots) {x y : Int32} {t : State} (hd : decode bytes pc = .ok (.irem, 1)) (hy : y ≠ 0) (k : Steps p.tables e below (T.setTop (mkF m (pc + 1) Ls (.int (x % y) :: rest))) t) : Steps p.tables e below (T.setTop (mkF m pc Ls (.int y :: .int x :: rest))) t := by
  obtain ⟨locs, X, -⟩ := S.2
  exact iremM X S.hx (g := mkF m pc Ls (.int y :: .int x :: rest)) rfl (S.dec hd) rfl hy k
theorem own_lrem (S : own_S Z hs W own bytes maxL ret nm p l e R s m args below meth c T h cells slots) {x y : Int64} {t : State} (hd : decode bytes pc = .ok (.lrem, 1)) (hy : y ≠ 0) (k : Steps p.tables e below (T.setTop (mkF m (pc + 1) Ls (.long (x % y) :: rest))) t) : Steps p.tables e below (T.setTop (mkF m pc Ls (.long y :: .long x :: rest))) t := by
  have q : x - x / y * y = x % y := lrem_mod x y
  exact XS.lrem S.here S.hx (g := mkF m pc Ls (.long y :: .long x :: rest)) rfl (S.dec hd) rfl hy (by rw [q]; exact k)
theorem own_ldcI (S : own_S Z hs W own bytes maxL ret nm p l e R s m args below meth c T h cells slots) {i : Nat} {v : Int32} (w : (Jvm.Cond.constant own i v).before a0 Z = true) (hd : decode bytes pc = .ok (.ldc i, 2)) (f : own_F p e below s Z hs W k n Q (T.setTop (mkF m (pc + 2) Ls (.int v :: st)))) : own_F p e below s Z hs W k n Q (T.setTop (mkF m pc Ls st)) := by
  obtain ⟨locs, X, -⟩ := S.2
  exact own_F.of (X.ldcInt S.hx S.hown (mvT S.hZ w) (g := mkF m pc Ls st) rfl (S.dec hd)) f
theorem own_ldcIw (S : own_S Z hs W own bytes maxL ret nm p l e R s m args below meth c T h cells slots) {i : Nat} {v : Int32} (w : (Jvm.Cond.constant own i v).before a0 Z = true) (hd : decode bytes pc = .ok (.ldc_w i, 3)) (f : own_F p e below s Z hs W k n Q (T.setTop (mkF m (pc + 3) Ls (.int v :: st)))) : own_F p e below s Z hs W k n Q (T.setTop (mkF m pc Ls st)) := by
  obtain ⟨locs, X, -⟩ := S.2
  exact own_F.of (X.ldcwInt S.hx S.hown (mvT S.hZ w) (g := mkF m pc Ls st) rfl (S.dec hd)) f
theorem own_ldcJ (S : own_S Z hs W own bytes maxL ret nm p l e R s m args below meth c T h cells slots) {i : Nat} {v : Int64} (w : (Jvm.Cond.constantLong own i v).before a0 Z = true) (hd : decode bytes pc = .ok (.ldc2_w i, 3)) (f : own_F p e below s Z hs W k n Q (T.setTop (mkF m (pc + 3) Ls (.long v :: st)))) : own_F p e below s Z hs W k n Q (T.setTop (mkF m pc Ls st)) := by
  obtain ⟨locs, X, -⟩ := S.2
  exact own_F.of (X.ldc2Long S.hx S.hown (mvT S.hZ w) (g := mkF m pc Ls st) rfl (S.dec hd)) f
theorem own_ldcD (S : own_S Z hs W own bytes maxL ret nm p l e R s m args below meth c T h cells slots) {i : Nat} {v : UInt64} (w : (Jvm.Cond.constantDouble own i v).before a0 Z = true) (hd : decode bytes pc = .ok (.ldc2_w i, 3)) (f : own_F p e below s Z hs W k n Q (T.setTop (mkF m (pc + 3) Ls (.double v :: st)))) : own_F p e below s Z hs W k n Q (T.setTop (mkF m pc Ls st)) := by
  obtain ⟨locs, X, -⟩ := S.2
  exact own_F.of (X.ldc2DoubleC S.hx S.hown (mvT S.hZ w) (g := mkF m pc Ls st) rfl (S.dec hd)) f
theorem own_tsw (S : own_S Z hs W own bytes maxL ret nm p l e R s m args below meth c T h cells slots) {dflt low high : Int} {offs : Array Int} {len : Nat} {i : Int32} (v o : Int) (pc' : Nat) (hd : decode bytes pc = .ok (.tableswitch dflt low high offs, len)) (hv : i.toInt = v) (hin : ¬ (v < low ∨ v > high)) (hoff : offs[(v - low).toNat]? = some o) (ho : 0 ≤ (pc : Int) + o) (hp : ((pc : Int) + o).toNat = pc')
    (f : own_F p e below s Z hs W k n Q (T.setTop (mkF m pc' Ls rest))) : own_F p e below s Z hs W k n Q (T.setTop (mkF m pc Ls (.int i :: rest))) := by
  subst hv
  exact own_F.of (fun _ => XS.tswIn S.here S.hx (g := mkF m pc Ls (.int i :: rest)) rfl (pc0 := pc) (pc' := pc') rfl (S.dec hd) rfl hin hoff ho hp) f
theorem own_tswO (S : own_S Z hs W own bytes maxL ret nm p l e R s m args below meth c T h cells slots) {dflt low high : Int} {offs : Array Int} {len : Nat} {i : Int32} (v : Int) (pc' : Nat) (hd : decode bytes pc = .ok (.tableswitch dflt low high offs, len)) (hv : i.toInt = v) (hout : v < low ∨ v > high) (ho : 0 ≤ (pc : Int) + dflt) (hp : ((pc : Int) + dflt).toNat = pc')
    (f : own_F p e below s Z hs W k n Q (T.setTop (mkF m pc' Ls rest))) : own_F p e below s Z hs W k n Q (T.setTop (mkF m pc Ls (.int i :: rest))) := by
  subst hv
  exact own_F.of (fun _ => XS.tswOut S.here S.hx (g := mkF m pc Ls (.int i :: rest)) rfl (pc0 := pc) (pc' := pc') rfl (S.dec hd) rfl hout ho hp) f
theorem own_narR {ty : FieldType} {v : Value} (ht : ty.isReference = true) (hv : v.isRef = true) : narrow ty v = v := by cases v <;> simp [Value.isRef] at hv <;> cases ty <;> simp [FieldType.isReference] at ht <;> rfl
theorem own_fitR {ty : FieldType} {v : Value} (ht : ty.isReference = true) (hv : v.isRef = true) : fits ty v = true := by cases v <;> simp [Value.isRef] at hv <;> cases ty <;> simp [FieldType.isReference] at ht <;> rfl

/-! from the case's words to facts of the start -/
theorem own_extRefl (h : Heap) : Ext h h := ⟨Nat.le_refl _, fun _ _ q => q⟩
theorem own_sta {C fn d K : String} (hx : (Jvm.Cond.exactly (.static C fn d) K).value a0 Z none Z [] = some true) (w1 : (Jvm.Cond.initialized C).before a0 Z = true) (w2 : (Jvm.Cond.laysStatic C fn d).before a0 Z = true) :
    ∃ a, (Term.static C fn d).eval a0 Z none [] Z = some (.ref a) ∧ Sta Z Z.heap C fn d (.ref a) ∧ Exa Z Z.heap a K := by
  obtain ⟨a, ev⟩ := exa_v hx
  exact ⟨a, ev, Sta.start ev (Or.inr ⟨w1, w2⟩), Exa.start ev hx⟩
theorem own_fldI {t : Term} {C fn d : String} {a : Addr} {v : Int32} (ev : t.eval a0 Z none [] Z = some (.ref a)) (hx : (Jvm.Cond.eq (.field t C fn d) (.int v)).value a0 Z none Z [] = some true) : Fld Z Z.heap a C fn d (.int v) := by
  obtain ⟨x, y, h1, h2, -⟩ := cmp_v (Or.inl hx)
  have h2' : y = .int v := by simpa [Term.eval] using h2.symm
  subst h2'
  have h3 : x = .int v := by
    simp only [Jvm.Cond.value, h1, h2] at hx
    cases x <;> simp at hx
    rw [hx]
  subst h3
  refine Fld.start ?_
  simpa [Term.eval, ev] using h1
end OwnPrelude
/-! OWN: arrays by their whole contents -/
section OwnArrays
variable {Z : State} {hs : Heap} {W : List Addr} {own : String} {bytes : ByteArray} {maxL : Nat} {ret : Option FieldType} {nm : String}
  {p : Program} {l : Launch} {e : Env} {R : Room} {s : State} {m : MethodId} {args : Array Value} {below : List Frame} {meth : Method} {c : Code}
  {T : State} {h h' : Heap} {cells slots : Nat} {k n : Nat} {Q : Option Value → Heap → Prop} {a0 : Array Value} {pc : Nat} {Ls : Array Slot} {st rest : List Value} {a b : Addr} {ty : FieldType} {vs : List Value} {v : Value} {j x : Int32}

def own_A (Z : State) (h : Heap) (a : Addr) (ty : FieldType) (vs : List Value) : Prop := ∃ cl : Cell, Arr Z h a cl ty ∧ cl.slots.toList = vs ∧ vs.length < 2 ^ 31
theorem own_A.lt (F : own_A Z h a ty vs) : a < h.size := by obtain ⟨_, A, -⟩ := F; exact A.lt
theorem own_A.ext (F : own_A Z h a ty vs) (E : Ext h h') : own_A Z h' a ty vs := by obtain ⟨cl, A, r⟩ := F; exact ⟨cl, A.ext E, r⟩
theorem own_A.other {sl : Nat} {w : Value} (F : own_A Z h b ty vs) (Wt : Wr h h' a sl w) (q : b ≠ a) : own_A Z h' b ty vs := by obtain ⟨cl, A, r⟩ := F; exact ⟨cl, A.other Wt q, r⟩
theorem own_A.keep {ws : List Addr} (F : own_A Z h a ty vs) (K : Keep h h' ws) (q : a ∉ ws) : own_A Z h' a ty vs := by obtain ⟨cl, A, r⟩ := F; exact ⟨cl, ⟨K.2.1 a cl A.1 q, A.2⟩, r⟩
theorem own_A.set {i : Nat} (F : own_A Z h a ty vs) (Wt : Wr h h' a i v) : own_A Z h' a ty (vs.set i v) := by
  obtain ⟨cl, A, r1, r2⟩ := F
  subst r1
  refine ⟨cl.setSlot i v, A.same Wt, ?_, by simpa using r2⟩
  simp [Cell.setSlot]
theorem own_A.inb {cl : Cell} {vs : List Value} (r1 : cl.slots.toList = vs) (h0 : ¬ j < 0) (hv : j.toNatClampNeg < vs.length) : ¬ (j < 0 ∨ cl.slots.size ≤ j.toNatClampNeg) := by
  rintro (q | q)
  · exact h0 q
  · subst r1; simp at hv; omega
theorem own_A.get {cl : Cell} {vs : List Value} {i : Nat} (r1 : cl.slots.toList = vs) (hv : vs[i]? = some v) : cl.slots[i]? = some v := by subst r1; simpa using hv
theorem own_A.ix {i : Nat} (hv : vs[i]? = some v) : i < vs.length := (List.getElem?_eq_some_iff.mp hv).1
theorem own_len (S : own_S Z hs W own bytes maxL ret nm p l e R s m args below meth c T h cells slots) (F : own_A Z h a ty vs) (hd : decode bytes pc = .ok (.arraylength, 1))
    (f : own_F p e below s Z hs W k n Q (T.setTop (mkF m (pc + 1) Ls (.int vs.length.toInt32 :: rest)))) : own_F p e below s Z hs W k n Q (T.setTop (mkF m pc Ls (.ref a :: rest))) := by
  have S' := S
  obtain ⟨G, locs, X, N, e0, K⟩ := S
  obtain ⟨cl, A, r1, r2⟩ := F
  have q : cl.slots.size = vs.length := by rw [← r1]; simp
  rw [← q] at f
  exact own_F.of (fun t => X.arraylength S'.hx (by rw [e0]; exact A.1) (State.isArrayOf_alike S'.hZ.alike A.2.1) (g := mkF m pc Ls (.ref a :: rest)) rfl rfl (S'.dec hd) t) f
theorem own_iald (S : own_S Z hs W own bytes maxL ret nm p l e R s m args below meth c T h cells slots) (F : own_A Z h a .int vs) (h0 : ¬ j < 0) (hv : vs[j.toNatClampNeg]? = some v) (hd : decode bytes pc = .ok (.iaload, 1))
    (f : own_F p e below s Z hs W k n Q (T.setTop (mkF m (pc + 1) Ls (v :: rest)))) : own_F p e below s Z hs W k n Q (T.setTop (mkF m pc Ls (.int j :: .ref a :: rest))) := by
  have S' := S
  obtain ⟨G, locs, X, N, e0, K⟩ := S
  obtain ⟨cl, A, r1, r2⟩ := F
  exact own_F.of (fun t => X.iaload S'.hx (by rw [e0]; exact A.1) (State.isArrayOf_alike S'.hZ.alike A.2.1) A.2.2 (own_A.inb r1 h0 (own_A.ix hv)) (own_A.get r1 hv) (g := mkF m pc Ls (.int j :: .ref a :: rest)) rfl rfl (S'.dec hd) t) f
theorem own_lald (S : own_S Z hs W own bytes maxL ret nm p l e R s m args below meth c T h cells slots) (F : own_A Z h a .long vs) (h0 : ¬ j < 0) (hv : vs[j.toNatClampNeg]? = some v) (hd : decode bytes pc = .ok (.laload, 1))
    (f : own_F p e below s Z hs W k n Q (T.setTop (mkF m (pc + 1) Ls (v :: rest)))) : own_F p e below s Z hs W k n Q (T.setTop (mkF m pc Ls (.int j :: .ref a :: rest))) := by
  have S' := S
  obtain ⟨G, locs, X, N, e0, K⟩ := S
  obtain ⟨cl, A, r1, r2⟩ := F
  exact own_F.of (fun t => X.laload S'.hx (by rw [e0]; exact A.1) (State.isArrayOf_alike S'.hZ.alike A.2.1) A.2.2 (own_A.inb r1 h0 (own_A.ix hv)) (own_A.get r1 hv) (g := mkF m pc Ls (.int j :: .ref a :: rest)) rfl rfl (S'.dec hd) t) f
theorem own_cald (S : own_S Z hs W own bytes maxL ret nm p l e R s m args below meth c T h cells slots) (F : own_A Z h a .char vs) (h0 : ¬ j < 0) (hv : vs[j.toNatClampNeg]? = some v) (hd : decode bytes pc = .ok (.caload, 1))
    (f : own_F p e below s Z hs W k n Q (T.setTop (mkF m (pc + 1) Ls (v :: rest)))) : own_F p e below s Z hs W k n Q (T.setTop (mkF m pc Ls (.int j :: .ref a :: rest))) := by
  have S' := S
  obtain ⟨G, locs, X, N, e0, K⟩ := S
  obtain ⟨cl, A, r1, r2⟩ := F
  exact own_F.of (fun t => X.caload S'.hx (by rw [e0]; exact A.1) (State.isArrayOf_alike S'.hZ.alike A.2.1) A.2.2 (own_A.inb r1 h0 (own_A.ix hv)) (own_A.get r1 hv) (g := mkF m pc Ls (.int j :: .ref a :: rest)) rfl rfl (S'.dec hd) t) f
theorem own_bald (S : own_S Z hs W own bytes maxL ret nm p l e R s m args below meth c T h cells slots) (F : own_A Z h a .byte vs) (h0 : ¬ j < 0) (hv : vs[j.toNatClampNeg]? = some v) (hd : decode bytes pc = .ok (.baload, 1))
    (f : own_F p e below s Z hs W k n Q (T.setTop (mkF m (pc + 1) Ls (v :: rest)))) : own_F p e below s Z hs W k n Q (T.setTop (mkF m pc Ls (.int j :: .ref a :: rest))) := by
  have S' := S
  obtain ⟨G, locs, X, N, e0, K⟩ := S
  obtain ⟨cl, A, r1, r2⟩ := F
  exact own_F.of (fun t => X.baloadBytes S'.hx (by rw [e0]; exact A.1) (State.isArrayOf_alike S'.hZ.alike A.2.1) A.2.2 (own_A.inb r1 h0 (own_A.ix hv)) (own_A.get r1 hv) (g := mkF m pc Ls (.int j :: .ref a :: rest)) rfl rfl (S'.dec hd) t) f
theorem own_zald (S : own_S Z hs W own bytes maxL ret nm p l e R s m args below meth c T h cells slots) (F : own_A Z h a .boolean vs) (h0 : ¬ j < 0) (hv : vs[j.toNatClampNeg]? = some v) (hd : decode bytes pc = .ok (.baload, 1))
    (f : own_F p e below s Z hs W k n Q (T.setTop (mkF m (pc + 1) Ls (v :: rest)))) : own_F p e below s Z hs W k n Q (T.setTop (mkF m pc Ls (.int j :: .ref a :: rest))) := by
  have S' := S
  obtain ⟨G, locs, X, N, e0, K⟩ := S
  obtain ⟨cl, A, r1, r2⟩ := F
  exact own_F.of (fun t => X.baloadBooleans S'.hx (by rw [e0]; exact A.1) (State.isArrayOf_alike S'.hZ.alike A.2.1) A.2.2 (own_A.inb r1 h0 (own_A.ix hv)) (own_A.get r1 hv) (g := mkF m pc Ls (.int j :: .ref a :: rest)) rfl rfl (S'.dec hd) t) f
theorem own_aald (S : own_S Z hs W own bytes maxL ret nm p l e R s m args below meth c T h cells slots) (F : own_A Z h a ty vs) (hty : ty.isReference = true) (h0 : ¬ j < 0) (hv : vs[j.toNatClampNeg]? = some v) (hd : decode bytes pc = .ok (.aaload, 1))
    (f : own_F p e below s Z hs W k n Q (T.setTop (mkF m (pc + 1) Ls (v :: rest)))) : own_F p e below s Z hs W k n Q (T.setTop (mkF m pc Ls (.int j :: .ref a :: rest))) := by
  have S' := S
  obtain ⟨G, locs, X, N, e0, K⟩ := S
  obtain ⟨cl, A, r1, r2⟩ := F
  exact own_F.of (fun t => X.aaload S'.hx (by rw [e0]; exact A.1) (State.isArrayOf_alike S'.hZ.alike A.2.1) hty A.2.2 (own_A.inb r1 h0 (own_A.ix hv)) (own_A.get r1 hv) (g := mkF m pc Ls (.int j :: .ref a :: rest)) rfl rfl (S'.dec hd) t) f
theorem own_ist (S : own_S Z hs W own bytes maxL ret nm p l e R s m args below meth c T h cells slots) (F : own_A Z h a .int vs) (h0 : ¬ j < 0) (hv : j.toNatClampNeg < vs.length) (hd : decode bytes pc = .ok (.iastore, 1)) (ok : a ∈ W ∨ hs.size ≤ a)
    (f : ∀ T' h', own_S Z hs W own bytes maxL ret nm p l e R s m args below meth c T' h' cells slots → Wr h h' a j.toNatClampNeg (.int x) → own_A Z h' a .int (vs.set j.toNatClampNeg (.int x)) → own_F p e below s Z hs W k n Q (T'.setTop (mkF m (pc + 1) Ls rest))) : own_F p e below s Z hs W k n Q (T.setTop (mkF m pc Ls (.int x :: .int j :: .ref a :: rest))) := by
  have S' := S; have F' := F
  obtain ⟨G, locs, X, N, e0, K⟩ := S
  obtain ⟨cl, A, r1, r2⟩ := F
  obtain ⟨T', h', X', e', Wt, stp⟩ := stI X S'.hx S'.hZ e0 A (own_A.inb r1 h0 hv) (g := mkF m pc Ls (.int x :: .int j :: .ref a :: rest)) rfl rfl (S'.dec hd)
  exact own_F.of stp (f T' h' ⟨G, _, X', Fr.snoc X' N (S'.may ok), e', K.wr Wt ok⟩ Wt (F'.set Wt))
theorem own_jst {x : Int64} (S : own_S Z hs W own bytes maxL ret nm p l e R s m args below meth c T h cells slots) (F : own_A Z h a .long vs) (h0 : ¬ j < 0) (hv : j.toNatClampNeg < vs.length) (hd : decode bytes pc = .ok (.lastore, 1)) (ok : a ∈ W ∨ hs.size ≤ a)
    (f : ∀ T' h', own_S Z hs W own bytes maxL ret nm p l e R s m args below meth c T' h' cells slots → Wr h h' a j.toNatClampNeg (.long x) → own_A Z h' a .long (vs.set j.toNatClampNeg (.long x)) → own_F p e below s Z hs W k n Q (T'.setTop (mkF m (pc + 1) Ls rest))) : own_F p e below s Z hs W k n Q (T.setTop (mkF m pc Ls (.long x :: .int j :: .ref a :: rest))) := by
  have S' := S; have F' := F
  obtain ⟨G, locs, X, N, e0, K⟩ := S
  obtain ⟨cl, A, r1, r2⟩ := F
  obtain ⟨T', h', X', e', Wt, stp⟩ := stJ X S'.hx S'.hZ e0 A (own_A.inb r1 h0 hv) (g := mkF m pc Ls (.long x :: .int j :: .ref a :: rest)) rfl rfl (S'.dec hd)
  exact own_F.of stp (f T' h' ⟨G, _, X', Fr.snoc X' N (S'.may ok), e', K.wr Wt ok⟩ Wt (F'.set Wt))
theorem own_cst (S : own_S Z hs W own bytes maxL ret nm p l e R s m args below meth c T h cells slots) (F : own_A Z h a .char vs) (h0 : ¬ j < 0) (hv : j.toNatClampNeg < vs.length) (hd : decode bytes pc = .ok (.castore, 1)) (ok : a ∈ W ∨ hs.size ≤ a)
    (f : ∀ T' h', own_S Z hs W own bytes maxL ret nm p l e R s m args below meth c T' h' cells slots → Wr h h' a j.toNatClampNeg (.int (nar .char x)) → own_A Z h' a .char (vs.set j.toNatClampNeg (.int (nar .char x))) → own_F p e below s Z hs W k n Q (T'.setTop (mkF m (pc + 1) Ls rest))) : own_F p e below s Z hs W k n Q (T.setTop (mkF m pc Ls (.int x :: .int j :: .ref a :: rest))) := by
  have S' := S; have F' := F
  obtain ⟨G, locs, X, N, e0, K⟩ := S
  obtain ⟨cl, A, r1, r2⟩ := F
  obtain ⟨T', h', X', e', Wt, stp⟩ := stC X S'.hx S'.hZ e0 A (own_A.inb r1 h0 hv) (g := mkF m pc Ls (.int x :: .int j :: .ref a :: rest)) rfl rfl (S'.dec hd)
  exact own_F.of stp (f T' h' ⟨G, _, X', Fr.snoc X' N (S'.may ok), e', K.wr Wt ok⟩ Wt (F'.set Wt))
theorem own_bst (S : own_S Z hs W own bytes maxL ret nm p l e R s m args below meth c T h cells slots) (F : own_A Z h a .byte vs) (h0 : ¬ j < 0) (hv : j.toNatClampNeg < vs.length) (hd : decode bytes pc = .ok (.bastore, 1)) (ok : a ∈ W ∨ hs.size ≤ a)
    (f : ∀ T' h', own_S Z hs W own bytes maxL ret nm p l e R s m args below meth c T' h' cells slots → Wr h h' a j.toNatClampNeg (.int (nar .byte x)) → own_A Z h' a .byte (vs.set j.toNatClampNeg (.int (nar .byte x))) → own_F p e below s Z hs W k n Q (T'.setTop (mkF m (pc + 1) Ls rest))) : own_F p e below s Z hs W k n Q (T.setTop (mkF m pc Ls (.int x :: .int j :: .ref a :: rest))) := by
  have S' := S; have F' := F
  obtain ⟨G, locs, X, N, e0, K⟩ := S
  obtain ⟨cl, A, r1, r2⟩ := F
  obtain ⟨T', h', X', e', Wt, stp⟩ := stB X S'.hx S'.hZ e0 A (own_A.inb r1 h0 hv) (g := mkF m pc Ls (.int x :: .int j :: .ref a :: rest)) rfl rfl (S'.dec hd)
  exact own_F.of stp (f T' h' ⟨G, _, X', Fr.snoc X' N (S'.may ok), e', K.wr Wt ok⟩ Wt (F'.set Wt))
theorem own_zst (S : own_S Z hs W own bytes maxL ret nm p l e R s m args below meth c T h cells slots) (F : own_A Z h a .boolean vs) (h0 : ¬ j < 0) (hv : j.toNatClampNeg < vs.length) (hd : decode bytes pc = .ok (.bastore, 1)) (ok : a ∈ W ∨ hs.size ≤ a)
    (f : ∀ T' h', own_S Z hs W own bytes maxL ret nm p l e R s m args below meth c T' h' cells slots → Wr h h' a j.toNatClampNeg (.int (nar .boolean x)) → own_A Z h' a .boolean (vs.set j.toNatClampNeg (.int (nar .boolean x))) → own_F p e below s Z hs W k n Q (T'.setTop (mkF m (pc + 1) Ls rest))) : own_F p e below s Z hs W k n Q (T.setTop (mkF m pc Ls (.int x :: .int j :: .ref a :: rest))) := by
  have S' := S; have F' := F
  obtain ⟨G, locs, X, N, e0, K⟩ := S
  obtain ⟨cl, A, r1, r2⟩ := F
  obtain ⟨T', h', X', e', Wt, stp⟩ := stZ X S'.hx S'.hZ e0 A (own_A.inb r1 h0 hv) (g := mkF m pc Ls (.int x :: .int j :: .ref a :: rest)) rfl rfl (S'.dec hd)
  exact own_F.of stp (f T' h' ⟨G, _, X', Fr.snoc X' N (S'.may ok), e', K.wr Wt ok⟩ Wt (F'.set Wt))
theorem own_newP (S : own_S Z hs W own bytes maxL ret nm p l e R s m args below meth c T h cells slots) {aty : ArrayType} {z : Int32} (w : (Jvm.Cond.arrayClass (newarray.typeOf aty)).before a0 Z = true) (hd : decode bytes pc = .ok (.newarray aty, 2)) (hz : ¬ z < 0) {cap : Nat} (hcap : z.toNatClampNeg ≤ cap) (hb : cap * 8 ≤ 536870912) (hc : cells + 1 ≤ R.cells) (hl : slots + cap ≤ R.slots)
    (f : ∀ T' h' a, a = h.size → own_S Z hs W own bytes maxL ret nm p l e R s m args below meth c T' h' (cells + 1) (slots + cap) → Ext h h' → own_A Z h' a (newarray.typeOf aty) (List.replicate z.toNatClampNeg (defaultValue (newarray.typeOf aty))) → own_F p e below s Z hs W k n Q (T'.setTop (mkF m (pc + 2) Ls (.ref a :: rest)))) : own_F p e below s Z hs W k n Q (T.setTop (mkF m pc Ls (.int z :: rest))) := by
  have S' := S
  obtain ⟨G, locs, X, N, e0, K⟩ := S
  obtain ⟨T', h', cA, X', e', E, A, stp⟩ := newP X S'.hx S'.hZ w e0 (g := mkF m pc Ls (.int z :: rest)) rfl (S'.dec hd) rfl hz hcap hb hc hl
  refine own_F.of stp (f T' h' _ rfl ⟨G, _, X', N, e', K.ext E⟩ E ⟨_, A, by simp [newA], ?_⟩)
  have := (back32 hz).2
  simpa using this
/-- an array that stands at the start -/
theorem own_A.start {t : Term} {z : Int32} (ev : t.eval a0 Z none [] Z = some (.ref a)) (hx : (Jvm.Cond.arrayOf t ty).value a0 Z none Z [] = some true) (hl : (Jvm.Cond.eq (.length t) (.int z)).value a0 Z none Z [] = some true) : ∃ cl : Cell, Arr Z Z.heap a cl ty ∧ cl.slots.size < 2 ^ 31 ∧ cl.slots.size.toInt32 = z ∧ Z.arrayAt? a = some cl := by
  obtain ⟨cl, A⟩ := Arr.start ev hx
  have q := A.fin (Vm.Alike.refl _)
  refine ⟨cl, A, ?_, ?_, q⟩
  all_goals
    obtain ⟨u, w, h1, h2, -⟩ := cmp_v (Or.inl hl)
    have h1' : (if cl.slots.size < 2 ^ 31 then some (Value.int cl.slots.size.toInt32) else none) = some u := by simpa [Term.eval, ev, q] using h1
    by_cases g : cl.slots.size < 2 ^ 31
    · first
        | exact g
        | (have e1 : u = .int cl.slots.size.toInt32 := by simpa [g] using h1'.symm
           have e2 : w = .int z := by simpa [Term.eval] using h2.symm
           subst e1 e2
           exact gotT (Cond.eq_ints h1 h2) hl)
    · simp [g] at h1'
end OwnArrays
/-! OWN: the caches of boxes -/
section OwnBoxes
variable {Z : State} {hs : Heap} {W : List Addr} {own : String} {bytes : ByteArray} {maxL : Nat} {ret : Option FieldType} {nm : String}
  {p : Program} {l : Launch} {e : Env} {R : Room} {s : State} {m : MethodId} {args : Array Value} {below : List Frame} {meth : Method} {c : Code}
  {T : State} {h : Heap} {cells slots : Nat} {k n : Nat} {Q : Option Value → Heap → Prop} {a0 : Array Value} {pc : Nat} {Ls : Array Slot} {st rest : List Value} {a : Addr} {j z : Int32} {K d : String} {val : Int32 → Value} {cl : Cell}
theorem own_bxald (S : own_S Z hs W own bytes maxL ret nm p l e R s m args below meth c T h cells slots) (B : Bxs Z a cl K d z val) (h0 : ¬ j < 0) (h1 : j < z) (hd : decode bytes pc = .ok (.aaload, 1))
    (f : ∀ box, Exa Z Z.heap box K → Fld Z Z.heap box K "value" d (val j) → own_F p e below s Z hs W k n Q (T.setTop (mkF m (pc + 1) Ls (.ref box :: rest)))) : own_F p e below s Z hs W k n Q (T.setTop (mkF m pc Ls (.int j :: .ref a :: rest))) := by
  have S' := S
  obtain ⟨G, locs, X, N, e0, Kp⟩ := S
  obtain ⟨A, q1, q2⟩ := B.ext S'.old
  have hin := inb_of (j := j) q1 ⟨h0, h1⟩
  obtain ⟨box, r1, r2, r3⟩ := B.2.2.2 j hin
  exact own_F.of (fun t => X.aaload S'.hx (by rw [e0]; exact A.1) (State.isArrayOf_alike S'.hZ.alike A.2.1) rfl A.2.2 hin r1 (g := mkF m pc Ls (.int j :: .ref a :: rest)) rfl rfl (S'.dec hd) t) (f box r2 r3)
theorem own_staI {C fn dd : String} {v : Int32} (hx : (Jvm.Cond.eq (.static C fn dd) (.int v)).value a0 Z none Z [] = some true) (wi : (Jvm.Cond.initializedFor C fn dd).before a0 Z = true ∨ ((Jvm.Cond.initialized C).before a0 Z = true ∧ (Jvm.Cond.laysStatic C fn dd).before a0 Z = true)) : Sta Z Z.heap C fn dd (.int v) :=
  Sta.start (eqv_i rfl hx) wi
theorem own_sub_at {i : Nat} {v : Int32} (h0 : ¬ j < 0) : (Term.sub (.index 0) (.int v)).eval a0 Z none [j.toNatClampNeg] Z = some (.int (j - v)) := by
  have h1 : (Term.index 0).eval a0 Z none [j.toNatClampNeg] Z = some (.int j) := idx_at h0
  simp only [Term.eval] at h1
  simp only [Term.eval]
  rw [h1]; rfl
end OwnBoxes
/-! OWN: arrays of objects, mirrors, copies -/
section OwnObj
variable {Z : State} {hs : Heap} {W : List Addr} {own : String} {bytes : ByteArray} {maxL : Nat} {ret : Option FieldType} {nm : String}
  {p : Program} {l : Launch} {e : Env} {R : Room} {s : State} {m : MethodId} {args : Array Value} {below : List Frame} {meth : Method} {c : Code}
  {T : State} {h h' : Heap} {cells slots : Nat} {k n : Nat} {Q : Option Value → Heap → Prop} {a0 : Array Value} {pc index : Nat} {Ls : Array Slot} {st rest : List Value} {a b : Addr} {vs ws : List Value} {v : Value} {j z : Int32}
theorem own_mvMN {y : MethodName} {host : String} (hZ : Z.Warmed39 s.vm) (w : (Jvm.Cond.methodLinkNest own index y host).before a0 Z = true) : (Jvm.Cond.methodLinkNest own index y host).before args s = true := (Cond.methodLinkNest_wide hZ w :)
def own_AO (Z : State) (h : Heap) (a : Addr) (vs : List Value) : Prop := ∃ cl : Cell, Arr Z h a cl (.object "java/lang/Object") ∧ Ovr Z cl.cls "java/lang/Object" ∧ Exa Z h a "[Ljava/lang/Object;" ∧ cl.slots.toList = vs ∧ vs.length < 2 ^ 31 ∧ ∀ v ∈ vs, v.isRef = true
theorem own_AO.A (F : own_AO Z h a vs) : own_A Z h a (.object "java/lang/Object") vs := by obtain ⟨cl, A, -, -, r1, r2, -⟩ := F; exact ⟨cl, A, r1, r2⟩
theorem own_AO.exa (F : own_AO Z h a vs) : Exa Z h a "[Ljava/lang/Object;" := by obtain ⟨_, -, -, E, -⟩ := F; exact E
theorem own_AO.lt (F : own_AO Z h a vs) : a < h.size := F.exa.lt
theorem own_AO.ext (F : own_AO Z h a vs) (E : Ext h h') : own_AO Z h' a vs := by obtain ⟨cl, A, O, X, r⟩ := F; exact ⟨cl, A.ext E, O, X.ext E, r⟩
theorem own_AO.other {sl : Nat} {w : Value} (F : own_AO Z h b vs) (Wt : Wr h h' a sl w) (q : b ≠ a) : own_AO Z h' b vs := by obtain ⟨cl, A, O, X, r⟩ := F; exact ⟨cl, A.other Wt q, O, X.wr Wt, r⟩
theorem own_AO.keep {ws : List Addr} (F : own_AO Z h a vs) (K : Keep h h' ws) (q : a ∉ ws) : own_AO Z h' a vs := by obtain ⟨cl, A, O, X, r⟩ := F; exact ⟨cl, ⟨K.2.1 a cl A.1 q, A.2⟩, O, X.keep K, r⟩
theorem own_AO.set {i : Nat} (F : own_AO Z h a vs) (Wt : Wr h h' a i v) (hv : v.isRef = true) : own_AO Z h' a (vs.set i v) := by
  obtain ⟨cl, A, O, X, r1, r2, r3⟩ := F
  subst r1
  refine ⟨cl.setSlot i v, A.same Wt, O, X.wr Wt, by simp [Cell.setSlot], by simpa using r2, fun u hu => ?_⟩
  rcases List.mem_or_eq_of_mem_set hu with q | q
  · exact r3 u q
  · exact q ▸ hv
theorem own_anew (S : own_S Z hs W own bytes maxL ret nm p l e R s m args below meth c T h cells slots) (w1 : (Jvm.Cond.classLink own index "java/lang/Object").before a0 Z = true) (w2 : (Jvm.Cond.arrayOver (.object "java/lang/Object")).before a0 Z = true) (hd : decode bytes pc = .ok (.anewarray index, 3)) (hz : ¬ z < 0) {cap : Nat} (hcap : z.toNatClampNeg ≤ cap) (hb : cap * 8 ≤ 536870912) (hc : cells + 1 ≤ R.cells) (hl : slots + cap ≤ R.slots)
    (f : ∀ T' h' a, a = h.size → own_S Z hs W own bytes maxL ret nm p l e R s m args below meth c T' h' (cells + 1) (slots + cap) → Ext h h' → own_AO Z h' a (List.replicate z.toNatClampNeg .null) → own_F p e below s Z hs W k n Q (T'.setTop (mkF m (pc + 3) Ls (.ref a :: rest)))) : own_F p e below s Z hs W k n Q (T.setTop (mkF m pc Ls (.int z :: rest))) := by
  have S' := S
  obtain ⟨G, locs, X, N, e0, K⟩ := S
  obtain ⟨T', h', cA, X', e', E, A, Ex, O, stp⟩ := newRE X S'.hx S'.hZ S'.hown w1 w2 e0 (g := mkF m pc Ls (.int z :: rest)) rfl (S'.dec hd) rfl hz hcap hb hc hl (ad := "[Ljava/lang/Object;") rfl
  refine own_F.of stp (f T' h' _ rfl ⟨G, _, X', N, e', K.ext E⟩ E ⟨_, A, O, Ex, by simp [newA, defaultValue], ?_, fun u hu => ?_⟩)
  · have := (back32 hz).2
    simpa using this
  · rw [List.eq_of_mem_replicate hu]; rfl
theorem own_aast (S : own_S Z hs W own bytes maxL ret nm p l e R s m args below meth c T h cells slots) (F : own_AO Z h a vs) (h0 : ¬ j < 0) (hv : j.toNatClampNeg < vs.length) (I : Ins Z h b "java/lang/Object" true) (hd : decode bytes pc = .ok (.aastore, 1)) (ok : a ∈ W ∨ hs.size ≤ a)
    (f : ∀ T' h', own_S Z hs W own bytes maxL ret nm p l e R s m args below meth c T' h' cells slots → Wr h h' a j.toNatClampNeg (.ref b) → own_AO Z h' a (vs.set j.toNatClampNeg (.ref b)) → own_F p e below s Z hs W k n Q (T'.setTop (mkF m (pc + 1) Ls rest))) : own_F p e below s Z hs W k n Q (T.setTop (mkF m pc Ls (.ref b :: .int j :: .ref a :: rest))) := by
  have S' := S; have F' := F
  obtain ⟨G, locs, X, N, e0, K⟩ := S
  obtain ⟨cl, A, O, Ex, r1, r2, r3⟩ := F
  obtain ⟨T', h', X', e', Wt, stp⟩ := stR X S'.hx S'.hZ e0 A (own_A.inb r1 h0 hv) rfl (Sto.of A O I) (g := mkF m pc Ls (.ref b :: .int j :: .ref a :: rest)) rfl rfl (S'.dec hd)
  exact own_F.of stp (f T' h' ⟨G, _, X', Fr.snoc X' N (S'.may ok), e', K.wr Wt ok⟩ Wt (F'.set Wt rfl))
theorem own_sto (F : own_AO Z h a vs) (I : Ins Z h b "java/lang/Object" true) : Sto Z h a (.ref b) := by obtain ⟨cl, A, O, -⟩ := F; exact Sto.of A O I
theorem own_AO.arv (F : own_AO Z h a vs) : ∃ kk, Arv Z h a kk (.object "java/lang/Object") vs.length.toInt32 vs .null ∧ Ovr Z kk "java/lang/Object" ∧ vs.length.toInt32.toNatClampNeg = vs.length := by
  obtain ⟨cl, A, O, Ex, r1, r2, r3⟩ := F
  subst r1
  have w1 : cl.slots.toList.length.toInt32.toNatClampNeg = cl.slots.toList.length := by simpa using Int32.toNatClampNeg_ofNat_of_lt (n := cl.slots.toList.length) r2
  refine ⟨cl.cls, ⟨cl, A, rfl, ?_, fun q => ?_, fun i hi => ?_, fun i hi => ?_⟩, O, w1⟩
  · rw [w1]; simp
  · have := idx_in (i := cl.slots.toList.length) (n := 2 ^ 31 - 1 + 1) (by omega)
    by_cases q0 : cl.slots.toList.length < 2147483647
    · exact idx_in (i := cl.slots.toList.length) (n := 2147483647) q0 (by decide) (Or.inl q)
    · have e1 : cl.slots.toList.length = 2147483647 := by omega
      rw [e1] at q; exact absurd q (by decide)
  · simp [List.getD_eq_getElem?_getD, Array.getElem?_eq_getElem hi]
  · have hm : cl.slots.toList.getD i .null ∈ cl.slots.toList := by
      have hi' : i < cl.slots.toList.length := by simpa using hi
      rw [List.getD_eq_getElem?_getD, List.getElem?_eq_getElem hi']; exact List.getElem_mem hi'
    exact own_fitR rfl (r3 _ hm)
theorem own_AO.of_arv {kk : ClassId} {zz : Int32} (A : Arv Z h a kk (.object "java/lang/Object") zz vs .null) (O : Ovr Z kk "java/lang/Object") (Ex : Exa Z h a "[Ljava/lang/Object;") (hl : zz.toNatClampNeg = vs.length) (h31 : vs.length < 2 ^ 31) (hr : ∀ v ∈ vs, v.isRef = true) : own_AO Z h a vs := by
  obtain ⟨cl, Ar, q1, q2, q3, H, -⟩ := A
  refine ⟨cl, Ar, q1 ▸ O, Ex, List.ext_getElem? fun i => ?_, h31, hr⟩
  have hsz : cl.slots.size = vs.length := q2.trans hl
  by_cases hi : i < vs.length
  · have w := H i (by omega)
    rw [Array.getElem?_toList, w, List.getD_eq_getElem?_getD, List.getElem?_eq_getElem hi]; rfl
  · rw [List.getElem?_eq_none (by simpa [hsz] using hi), List.getElem?_eq_none (by omega)]
/-- System.arraycopy(a, 0, b, 0, j) between two arrays of objects -/
theorem own_copy (S : own_S Z hs W own bytes maxL ret nm p l e R s m args below meth c T h cells slots) (w1 : (Jvm.Cond.methodLink own index Jvm.Stand.acN).before a0 Z = true) (w2 : (Jvm.Cond.native Jvm.Stand.acN).before a0 Z = true) (w3 : (Jvm.Cond.static Jvm.Stand.acN).before a0 Z = true) (w4 : (Jvm.Cond.initialized "java/lang/System").before a0 Z = true)
    (F : own_AO Z h a vs) (F' : own_AO Z h b ws) (h0 : ¬ j < 0) (h1 : j.toNatClampNeg ≤ vs.length) (h2 : j.toNatClampNeg ≤ ws.length) (us : List Value) (hu : us = (List.range j.toNatClampNeg).map fun i => vs.getD i .null) (hsto : StoL Z h b us) (ok : b ∈ W ∨ hs.size ≤ b)
    (hsz : Ls.size = maxL) (hd : decode bytes pc = .ok (.invokestatic index, 3)) (hf : 1 ≤ R.frames) (hlo : (rest.map fun v => v.category).sum + (nativeFrameWords "java/lang/System" "arraycopy" 5 + 11) ≤ R.locals)
    (f : ∀ T' h', own_S Z hs W own bytes maxL ret nm p l e R s m args below meth c T' h' cells slots → Keep h h' [b] → own_AO Z h' b (us ++ ws.drop j.toNatClampNeg) → own_F p e below s Z hs W k n Q (T'.setTop (mkF m (pc + 3) Ls rest))) :
    own_F p e below s Z hs W k n Q (T.setTop (mkF m pc Ls (.int j :: .int (0 : Int32) :: .ref b :: .int (0 : Int32) :: .ref a :: rest))) := by
  have S' := S
  obtain ⟨G, locs, X, N, e0, K⟩ := S
  obtain ⟨k1, A1, O1, l1⟩ := F.arv
  obtain ⟨k2, A2, O2, l2⟩ := F'.arv
  have z0 : (0 : Int32).toNatClampNeg = 0 := rfl
  obtain ⟨T', h', L, X', e', N', K', A', stp⟩ := cpA X S'.hx S'.hZ S'.hown w1 w2 w3 w4 e0 A1 A2 (Or.inr ⟨rfl, rfl, hsto⟩) (sp := 0) (dp := 0) (nn := j) (by decide) (by decide) h0 (by rw [l1, z0]; omega) (by rw [l2, z0]; omega) (by rw [hu, z0]; simp) (by rw [z0]; omega) N (S'.may ok) (g := mkF m pc Ls (.int j :: .int (0 : Int32) :: .ref b :: .int (0 : Int32) :: .ref a :: rest)) rfl (hsz.trans S'.hml.symm) rfl (S'.dec hd) hf (W := (rest.map fun v => v.category).sum) (by show 2 * 0 + _ ≤ _; omega) hlo
  have lu : us.length = j.toNatClampNeg := by rw [hu]; simp
  have l31 : ws.length < 2 ^ 31 := by obtain ⟨_, -, -, -, -, r, -⟩ := F'; exact r
  refine own_F.of stp (f T' h' ⟨G, L, X', N', e', K.trans K' (allS ok all0)⟩ K' (own_AO.of_arv (zz := ws.length.toInt32) ?_ O2 (F'.exa.keep K') ?_ ?_ ?_))
  · rw [z0] at A'; simpa using A'
  · rw [l2]; simp [lu]; omega
  · simp [lu]; omega
  · intro v hv
    rcases List.mem_append.mp hv with q | q
    · rw [hu] at q
      obtain ⟨i, hi, rfl⟩ := List.mem_map.mp q
      obtain ⟨_, -, -, -, -, -, r3⟩ := F
      have hi' : i < vs.length := by have := List.mem_range.mp hi; omega
      rw [List.getD_eq_getElem?_getD, List.getElem?_eq_getElem hi']; exact r3 _ (List.getElem_mem hi')
    · obtain ⟨_, -, -, -, -, -, r3⟩ := F'
      exact r3 v (List.mem_of_mem_drop q)
theorem own_gcls (S : own_S Z hs W own bytes maxL ret nm p l e R s m args below meth c T h cells slots) {Cn : String} {mr : Addr} (w1 : (Jvm.Cond.methodLink own index ⟨"java/lang/Object", "getClass", "()Ljava/lang/Class;"⟩).before a0 Z = true) (w2 : (Jvm.Cond.declares ⟨"java/lang/Object", "getClass", "()Ljava/lang/Class;"⟩).before a0 Z = true) (w3 : (Jvm.Cond.noSuperclass "java/lang/Object").before a0 Z = true) (w4 : (Jvm.Cond.selects Cn ⟨"java/lang/Object", "getClass", "()Ljava/lang/Class;"⟩ ⟨"java/lang/Object", "getClass", "()Ljava/lang/Class;"⟩).before a0 Z = true)
    (w5 : (Jvm.Cond.instanceMethod ⟨"java/lang/Object", "getClass", "()Ljava/lang/Class;"⟩).before a0 Z = true) (w6 : (Jvm.Cond.native ⟨"java/lang/Object", "getClass", "()Ljava/lang/Class;"⟩).before a0 Z = true) (E : Exa Z h a Cn) (M : Mir Z Cn mr) (hsz : Ls.size = maxL) (hd : decode bytes pc = .ok (.invokevirtual index, 3)) (hf : 1 ≤ R.frames) (hl : (rest.map fun v => v.category).sum + (nativeFrameWords "java/lang/Object" "getClass" 1 + 11) ≤ R.locals)
    (f : ∀ T', own_S Z hs W own bytes maxL ret nm p l e R s m args below meth c T' h cells slots → own_F p e below s Z hs W k n Q (T'.setTop (mkF m (pc + 3) Ls (.ref mr :: rest)))) : own_F p e below s Z hs W k n Q (T.setTop (mkF m pc Ls (.ref a :: rest))) := by
  have S' := S
  obtain ⟨G, locs, X, N, e0, K⟩ := S
  obtain ⟨T', X', e', stp⟩ := gcls X S'.hx S'.hZ S'.hown w1 w2 w3 w4 w5 w6 e0 E M (g := mkF m pc Ls (.ref a :: rest)) rfl (hsz.trans S'.hml.symm) rfl (S'.dec hd) hf (W := (rest.map fun v => v.category).sum) (by show 2 * 0 + _ ≤ _; omega) hl
  exact own_F.of stp (f T' ⟨G, locs, X', N, e', K⟩)
theorem own_ldcM (S : own_S Z hs W own bytes maxL ret nm p l e R s m args below meth c T h cells slots) {Cn : String} {mr : Addr} (w : (Jvm.Cond.classLink own index Cn).before a0 Z = true) (M : Mir Z Cn mr) (hd : decode bytes pc = .ok (.ldc index, 2))
    (f : ∀ T', own_S Z hs W own bytes maxL ret nm p l e R s m args below meth c T' h cells slots → own_F p e below s Z hs W k n Q (T'.setTop (mkF m (pc + 2) Ls (.ref mr :: st)))) : own_F p e below s Z hs W k n Q (T.setTop (mkF m pc Ls st)) := by
  have S' := S
  obtain ⟨G, locs, X, N, e0, K⟩ := S
  obtain ⟨cc, kc, m1, m2, m3, -⟩ := M
  obtain ⟨k', q, ek⟩ := S'.hZ.alike.2.2 _ _ m2
  obtain ⟨vm', X', stp⟩ := X.ldcMirror S'.hx S'.hown (mvT S'.hZ w) (a := mr) (by simp [Term.eval, S'.hZ.alike.findClass, m1, q, show k'.mirror = some mr by rw [ek]; exact m3]) (g := mkF m pc Ls st) rfl (S'.dec hd)
  exact own_F.of stp (f _ ⟨G, locs, X', N, e0, K⟩)
/-- a constructor of a nest mate -/
theorem own_callN {y : MethodName} {bytes' : ByteArray} {maxL' : Nat} {rm : Room} {W' : List Addr} {Q' : Option Value → Heap → Prop} {argsL : List Value} {ps : List FieldType} {rt : Option FieldType} {host : String} (S : own_S Z hs W own bytes maxL ret nm p l e R s m args below meth c T h cells slots) (hy1 : y.name = "<init>")
    (w1 : (Jvm.Cond.methodLinkNest own index y host).before a0 Z = true) (w2 : (Jvm.Cond.instanceMethod y).before a0 Z = true) (w3 : (Jvm.Cond.initialized y.cls).before a0 Z = true) (w4 : (Jvm.Cond.code y bytes' maxL' none).before a0 Z = true) (hy : y.cls ≠ "java/lang/invoke/MethodHandle" ∧ y.cls ≠ "java/lang/invoke/VarHandle")
    {a : Addr} (C : own_C l Z y bytes' maxL' none [] rm W' (.ref a :: argsL).toArray h Q') (hWW : ∀ a ∈ W', a ∈ W ∨ hs.size ≤ a) (pd : parseMethodDescriptor y.desc = some ⟨ps, rt⟩) (hlen : argsL.length = ps.length) (hsz : Ls.size = maxL) (hst : st = argsL.reverse ++ .ref a :: rest)
    (hd : decode bytes pc = .ok (.invokespecial index, 3)) (hfr : rm.frames + 1 ≤ R.frames) (hlo : (rest.map fun v => v.category).sum + (maxL' + 11) + rm.locals ≤ R.locals) (hc : cells + rm.cells ≤ R.cells) (hsl : slots + rm.slots ≤ R.slots)
    (f : ∀ T' h' v, own_S Z hs W own bytes maxL ret nm p l e R s m args below meth c T' h' (cells + rm.cells) (slots + rm.slots) → Keep h h' W' → Q' v h' → own_F p e below s Z hs W k n Q (T'.setTop (mkF m (pc + 3) Ls (v.toList ++ rest)))) : own_F p e below s Z hs W k n Q (T.setTop (mkF m pc Ls st)) := by
  have S' := S
  obtain ⟨G, locs, X, N, e0, K⟩ := S
  obtain ⟨v, _, ⟨T', L', k', n'⟩, -, X', ⟨Lc, hQ, h1, h2, h3⟩, st⟩ := X.specialBackNest S'.hx (y := y) hy1 S'.hown (own_mvMN S'.hZ w1) (mvT S'.hZ w2) (mvT S'.hZ w4) hy (backOf (W := (rest.map fun v => v.category).sum) (Q := fun v hh L => Fr Z.heap.size L ∧ Keep h hh W' ∧ Q' v hh) C S'.hZ w4 w3 hfr hlo) (g := mkF m pc Ls st) rfl (hsz.trans S'.hml.symm) (Steps.refl _) (a := a) (argsL := argsL) (rest := rest) (lenOf pd hlen) hst (by show 2 * 0 + _ ≤ _; omega) (S'.dec hd) (fun _ _ => ⟨rfl, e0, hc, hsl⟩)
  dsimp only [Pt.U, Pt.locs, Pt.cells, Pt.slots] at X' h1 h2 h3 st hQ
  subst h1 h2 h3
  obtain ⟨N', K', q⟩ := hQ
  exact own_F.to st (f T' T'.heap v ⟨G, _, X', Fr.app N N', rfl, K.trans K' hWW⟩ K' q)
end OwnObj

theorem own_w {a0 : Array Value} {Z : State} (hw : ∀ d ∈ tables_1, d.before a0 Z = true) {d : Jvm.Cond} (i : Nat) (q : tables_1[i]? = some d) : d.before a0 Z = true := hw _ (List.mem_of_getElem? q)

theorem own_mayN {Z : State} {hs : Heap} {W : List Addr} {own : String} {bytes : ByteArray} {maxL : Nat} {ret : Option FieldType} {nm : String} {p : Program} {l : Launch} {e : Env} {R : Room} {s : State} {m : MethodId} {args : Array Value} {below : List Frame} {meth : Method} {c : Code} {T : State} {h : Heap} {cells slots : Nat}
    (S : own_S Z hs W own bytes maxL ret nm p l e R s m args below meth c T h cells slots) {a : Addr} (q : a ∈ W ∨ hs.size ≤ a) : Z.heap.size ≤ a := S.may q

theorem own_and3 (x : Int32) : (x &&& (3 : Int32)) = (0 : Int32) ∨ (x &&& (3 : Int32)) = (1 : Int32) ∨ (x &&& (3 : Int32)) = (2 : Int32) ∨ (x &&& (3 : Int32)) = (3 : Int32) := by
  have h := c_mask x 3 2 (by decide) rfl
  have e : ∀ k : Int32, (x &&& 3).toInt = k.toInt → (x &&& 3) = k := fun k => Int32.toInt_inj.mp
  have h1 : (x &&& 3).toInt = 0 ∨ (x &&& 3).toInt = 1 ∨ (x &&& 3).toInt = 2 ∨ (x &&& 3).toInt = 3 := by
    rw [h]; have := Int.emod_nonneg x.toInt (b := ((2 ^ 2 : Nat) : Int)) (by decide); have := Int.emod_lt_of_pos x.toInt (b := ((2 ^ 2 : Nat) : Int)) (by decide); omega
  rcases h1 with q | q | q | q
  · exact Or.inl (e 0 q)
  · exact Or.inr (Or.inl (e 1 q))
  · exact Or.inr (Or.inr (Or.inl (e 2 q)))
  · exact Or.inr (Or.inr (Or.inr (e 3 q)))

theorem own_A0 {Z : State} {a0 : Array Value} {a : Addr} {t : Term} {ty : FieldType} (ev : t.eval a0 Z none [] Z = some (.ref a)) (hx : (Jvm.Cond.arrayOf t ty).value a0 Z none Z [] = some true) (hl : (Jvm.Cond.eq (.length t) (.int 0)).value a0 Z none Z [] = some true) : own_A Z Z.heap a ty [] := by
  obtain ⟨cl, A, h1, h2, -⟩ := own_A.start ev hx hl
  have e : cl.slots.size = 0 := by
    have w1 : cl.slots.size.toInt32.toNatClampNeg = cl.slots.size := by simpa using Int32.toNatClampNeg_ofNat_of_lt (n := cl.slots.size) h1
    rw [h2] at w1; exact w1.symm
  exact ⟨cl, A, by simpa using e, by decide⟩
theorem own_fldR {Z : State} {a0 : Array Value} {a b : Addr} {t : Term} {C fn d : String} (ev : t.eval a0 Z none [] Z = some (.ref a)) (hx : (Term.field t C fn d).eval a0 Z none [] Z = some (.ref b)) : Fld Z Z.heap a C fn d (.ref b) := by
  refine Fld.start ?_
  simpa [Term.eval, ev] using hx

theorem d40_0 : decode jdk_18_method_1_code 0 = .ok (.aload_n 0, 1) := by decide +kernel
theorem d40_1 : decode jdk_18_method_1_code 1 = .ok (.invokespecial 1, 3) := by decide +kernel
theorem d40_4 : decode jdk_18_method_1_code 4 = .ok (.return_, 1) := by decide +kernel
theorem pn40 : plainFor (⟨"java/lang/Number", "<init>", "()V"⟩ : MethodName) = true := plainFor_of_name (by first | (simp [plainName, overriddenIn]; done) | decide +kernel)
set_option maxRecDepth 65536 in
set_option maxHeartbeats 40000000 in
theorem own_NumInit (l : Launch) (Z : State) (a0 : Array Value) (hw : ∀ d ∈ tables_1, d.before a0 Z = true) (a1 : Addr) (h0 : Heap) (hO : Ext Z.heap h0) :
    own_C l Z (⟨"java/lang/Number", "<init>", "()V"⟩ : MethodName) jdk_18_method_1_code 1 none [] ({ frames := 1, cells := 0, slots := 0, locals := 12 } : Room) [] #[(.ref a1)] h0 (fun v h => v = none ∧ h0 = h) := by
  refine own_C.of pn40 hO all0 ?_
  intro p e s m below meth c T0 S0
  refine own_F.cast (by first | (simp [entryFrame, mkF, argsToLocals, Value.category]; done) | rfl : entryFrame m #[(.ref a1)] 1 = mkF m 0 #[.val (.ref a1)] []) ?_
  show own_F p e below s Z _ _ _ _ _ (T0.setTop (mkF m 0 #[.val (.ref a1)] []))
  refine own_F.of (fun _ => XS.aloadN S0.here S0.hx rfl (S0.dec d40_0) rfl rfl) ?_
  show own_F p e below s Z _ _ _ _ _ (T0.setTop (mkF m 1 #[.val (.ref a1)] [(.ref a1)]))
  refine own_initO S0 (own_w hw 268 rfl) (own_w hw 19 rfl) (own_w hw 20 rfl) rfl d40_1 (by decide) (Nat.le_of_ble_eq_true rfl) (fun T1 S1 => ?_)
  show own_F p e below s Z _ _ _ _ _ (T1.setTop (mkF m 4 #[.val (.ref a1)] []))
  refine own_retV S1 d40_4 (by decide) (by decide) ?_
  exact ⟨rfl, rfl⟩
theorem d39_0 : decode jdk_33_method_23_code 0 = .ok (.aload_n 0, 1) := by decide +kernel
theorem d39_1 : decode jdk_33_method_23_code 1 = .ok (.invokespecial 202, 3) := by decide +kernel
theorem d39_4 : decode jdk_33_method_23_code 4 = .ok (.aload_n 0, 1) := by decide +kernel
theorem d39_5 : decode jdk_33_method_23_code 5 = .ok (.iload_n 1, 1) := by decide +kernel
theorem d39_6 : decode jdk_33_method_23_code 6 = .ok (.putfield 205, 3) := by decide +kernel
theorem d39_9 : decode jdk_33_method_23_code 9 = .ok (.return_, 1) := by decide +kernel
theorem pn39 : plainFor (⟨"java/lang/Integer", "<init>", "(I)V"⟩ : MethodName) = true := plainFor_of_name (by first | (simp [plainName, overriddenIn]; done) | decide +kernel)
set_option maxRecDepth 65536 in
set_option maxHeartbeats 40000000 in
theorem own_BoxInitI (l : Launch) (Z : State) (a0 : Array Value) (hw : ∀ d ∈ tables_1, d.before a0 Z = true) (a1 : Addr) (p2 : Int32) (x0 : Int32) (h0 : Heap) (hO : Ext Z.heap h0) (ga : Z.heap.size ≤ a1) (E_a1 : Exa Z h0 a1 "java/lang/Integer") (F_value : Fld Z h0 a1 "java/lang/Integer" "value" "I" (.int x0)) :
    own_C l Z (⟨"java/lang/Integer", "<init>", "(I)V"⟩ : MethodName) jdk_33_method_23_code 2 none [] ({ frames := 2, cells := 0, slots := 0, locals := 24 } : Room) [a1] #[(.ref a1), (.int p2)] h0 (fun v h => v = none ∧ Fld Z h a1 "java/lang/Integer" "value" "I" (.int p2)) := by
  refine own_C.of pn39 hO (allS ga all0) ?_
  intro p e s m below meth c T0 S0
  refine own_F.cast (by first | (simp [entryFrame, mkF, argsToLocals, Value.category]; done) | rfl : entryFrame m #[(.ref a1), (.int p2)] 2 = mkF m 0 #[.val (.ref a1), .val (.int p2)] []) ?_
  show own_F p e below s Z _ _ _ _ _ (T0.setTop (mkF m 0 #[.val (.ref a1), .val (.int p2)] []))
  refine own_F.of (fun _ => XS.aloadN S0.here S0.hx rfl (S0.dec d39_0) rfl rfl) ?_
  show own_F p e below s Z _ _ _ _ _ (T0.setTop (mkF m 1 #[.val (.ref a1), .val (.int p2)] [(.ref a1)]))
  refine own_callI S0 (y := (⟨"java/lang/Number", "<init>", "()V"⟩ : MethodName)) rfl (own_w hw 262 rfl) (own_w hw 263 rfl) (own_w hw 266 rfl) (own_w hw 267 rfl) (by decide) (argsL := []) (rest := []) (own_NumInit l Z a0 hw a1 h0 S0.old) all0 (by decide +kernel : parseMethodDescriptor "()V" = some ⟨[], none⟩) rfl rfl rfl d39_1 (by decide) (Nat.le_of_ble_eq_true rfl) (by decide) (by decide) (fun T1 h1 v1 S1 K1 q1 => ?_)
  obtain ⟨rfl, rfl⟩ := q1
  show own_F p e below s Z _ _ _ _ _ (T1.setTop (mkF m 4 #[.val (.ref a1), .val (.int p2)] []))
  refine own_F.of (fun _ => XS.aloadN S1.here S1.hx rfl (S1.dec d39_4) rfl rfl) ?_
  show own_F p e below s Z _ _ _ _ _ (T1.setTop (mkF m 5 #[.val (.ref a1), .val (.int p2)] [(.ref a1)]))
  refine own_F.of (fun _ => XS.iloadN S1.here S1.hx rfl (S1.dec d39_5) rfl) ?_
  show own_F p e below s Z _ _ _ _ _ (T1.setTop (mkF m 6 #[.val (.ref a1), .val (.int p2)] [(.int p2), (.ref a1)]))
  refine own_putF S1 (host := "") (Or.inl (own_w hw 255 rfl)) Via.refl F_value E_a1 (Or.inr ⟨(own_w hw 256 rfl), rfl, rfl⟩) (own_w hw 258 rfl) (ty := .int) (by decide) rfl rfl d39_6 (Or.inl (List.mem_of_getElem? (i := 0) rfl)) (fun T2 h2 S2 W2 => ?_)
  have Fw2 := F_value.same W2
  show own_F p e below s Z _ _ _ _ _ (T2.setTop (mkF m 9 #[.val (.ref a1), .val (.int p2)] []))
  refine own_retV S2 d39_9 (by decide) (by decide) ?_
  exact ⟨rfl, Fw2⟩
theorem d21_0 : decode jdk_33_method_22_code 0 = .ok (.iload_n 0, 1) := by decide +kernel
theorem d21_1 : decode jdk_33_method_22_code 1 = .ok (.bipush (-128), 2) := by decide +kernel
theorem d21_3 : decode jdk_33_method_22_code 3 = .ok (.if_icmp .lt 20, 3) := by decide +kernel
theorem d21_6 : decode jdk_33_method_22_code 6 = .ok (.iload_n 0, 1) := by decide +kernel
theorem d21_7 : decode jdk_33_method_22_code 7 = .ok (.getstatic 191, 3) := by decide +kernel
theorem d21_10 : decode jdk_33_method_22_code 10 = .ok (.if_icmp .gt 13, 3) := by decide +kernel
theorem d21_13 : decode jdk_33_method_22_code 13 = .ok (.getstatic 195, 3) := by decide +kernel
theorem d21_16 : decode jdk_33_method_22_code 16 = .ok (.iload_n 0, 1) := by decide +kernel
theorem d21_17 : decode jdk_33_method_22_code 17 = .ok (.sipush 128, 3) := by decide +kernel
theorem d21_20 : decode jdk_33_method_22_code 20 = .ok (.iadd, 1) := by decide +kernel
theorem d21_21 : decode jdk_33_method_22_code 21 = .ok (.aaload, 1) := by decide +kernel
theorem d21_22 : decode jdk_33_method_22_code 22 = .ok (.areturn, 1) := by decide +kernel
theorem d21_23 : decode jdk_33_method_22_code 23 = .ok (.new 1, 3) := by decide +kernel
theorem d21_26 : decode jdk_33_method_22_code 26 = .ok (.dup, 1) := by decide +kernel
theorem d21_27 : decode jdk_33_method_22_code 27 = .ok (.iload_n 0, 1) := by decide +kernel
theorem d21_28 : decode jdk_33_method_22_code 28 = .ok (.invokespecial 199, 3) := by decide +kernel
theorem d21_31 : decode jdk_33_method_22_code 31 = .ok (.areturn, 1) := by decide +kernel
theorem pn21 : plainFor (⟨"java/lang/Integer", "valueOf", "(I)Ljava/lang/Integer;"⟩ : MethodName) = true := plainFor_of_name (by first | (simp [plainName, overriddenIn]; done) | decide +kernel)
theorem own_eqFI {Z : State} {h : Heap} {a : Addr} {x y : Int32} (q : x = y) (F : Fld Z h a "java/lang/Integer" "value" "I" (.int x)) : Fld Z h a "java/lang/Integer" "value" "I" (.int y) := q ▸ F
theorem own_bxI0 {x : Int32} (h1 : ¬ x < -128) (h2 : ¬ 127 < x) : ¬ x + 128 < 0 ∧ x + 128 < 256 ∧ x + 128 - 128 = x := by
  have a1 := c_iadd x 128
  rw [Int32.lt_iff_toInt_lt] at h1 h2
  have e1 : (128 : Int32).toInt = 128 := rfl
  have e2 : (-128 : Int32).toInt = -128 := rfl
  have e3 : (127 : Int32).toInt = 127 := rfl
  have e4 : (256 : Int32).toInt = 256 := rfl
  have e5 : (0 : Int32).toInt = 0 := rfl
  have r1 := rng32 x
  have r2 := rng32 (x + 128)
  refine ⟨?_, ?_, ?_⟩
  · rw [Int32.lt_iff_toInt_lt]; omega
  · rw [Int32.lt_iff_toInt_lt]; omega
  · exact Int32.add_sub_cancel x 128
set_option maxRecDepth 65536 in
set_option maxHeartbeats 40000000 in
theorem own_vOfI (l : Launch) (Z : State) (a0 : Array Value) (hw : ∀ d ∈ tables_1, d.before a0 Z = true) (p1 : Int32) (aC : Addr) (clC : Cell) (h0 : Heap) (hO : Ext Z.heap h0) (SHi : Sta Z Z.heap "java/lang/Integer$IntegerCache" "high" "I" (.int 127)) (SCa : Sta Z Z.heap "java/lang/Integer$IntegerCache" "cache" "[Ljava/lang/Integer;" (.ref aC)) (BX : Bxs Z aC clC "java/lang/Integer" "I" 256 (fun j => .int (j - 128))) :
    own_C l Z (⟨"java/lang/Integer", "valueOf", "(I)Ljava/lang/Integer;"⟩ : MethodName) jdk_33_method_22_code 1 (some (.object "java/lang/Integer")) [] ({ frames := 3, cells := 1, slots := 1, locals := 42 } : Room) [] #[(.int p1)] h0 (fun v h => ∃ b, v = some (.ref b) ∧ Exa Z h b "java/lang/Integer" ∧ Fld Z h b "java/lang/Integer" "value" "I" (.int p1)) := by
  refine own_C.of pn21 hO all0 ?_
  intro p e s m below meth c T0 S0
  refine own_F.cast (by first | (simp [entryFrame, mkF, argsToLocals, Value.category]; done) | rfl : entryFrame m #[(.int p1)] 1 = mkF m 0 #[.val (.int p1)] []) ?_
  show own_F p e below s Z _ _ _ _ _ (T0.setTop (mkF m 0 #[.val (.int p1)] []))
  refine own_F.of (fun _ => XS.iloadN S0.here S0.hx rfl (S0.dec d21_0) rfl) ?_
  show own_F p e below s Z _ _ _ _ _ (T0.setTop (mkF m 1 #[.val (.int p1)] [(.int p1)]))
  refine own_F.of (fun _ => XS.bipush S0.here S0.hx rfl (S0.dec d21_1)) ?_
  show own_F p e below s Z _ _ _ _ _ (T0.setTop (mkF m 3 #[.val (.int p1)] [(.int (-128 : Int32)), (.int p1)]))
  refine own_icmp S0 23 d21_3 (by decide) (by decide) (fun (hc3_1 : p1 < (-128 : Int32)) => ?_) (fun (hc3_1 : ¬ (p1 < (-128 : Int32))) => ?_)
  · show own_F p e below s Z _ _ _ _ _ (T0.setTop (mkF m 23 #[.val (.int p1)] []))
    refine own_new S0 (own_w hw 257 rfl) (own_w hw 258 rfl) (own_w hw 144 rfl) d21_23 (by decide) (by decide) (fun T2 h2 b2 g2 S2 E2 A2 D2 => ?_)
    have F2_value : Fld Z h2 b2 "java/lang/Integer" "value" "I" (.int (0 : Int32)) := (D2 (Or.inr (own_w hw 256 rfl)) (ty := .int) (by decide))
    show own_F p e below s Z _ _ _ _ _ (T2.setTop (mkF m 26 #[.val (.int p1)] [(.ref b2)]))
    refine own_F.of (fun _ => XS.dup S2.here S2.hx rfl (S2.dec d21_26) rfl rfl) ?_
    show own_F p e below s Z _ _ _ _ _ (T2.setTop (mkF m 27 #[.val (.int p1)] [(.ref b2), (.ref b2)]))
    refine own_F.of (fun _ => XS.iloadN S2.here S2.hx rfl (S2.dec d21_27) rfl) ?_
    show own_F p e below s Z _ _ _ _ _ (T2.setTop (mkF m 28 #[.val (.int p1)] [(.int p1), (.ref b2), (.ref b2)]))
    refine own_callI S2 (y := (⟨"java/lang/Integer", "<init>", "(I)V"⟩ : MethodName)) rfl (own_w hw 259 rfl) (own_w hw 260 rfl) (own_w hw 144 rfl) (own_w hw 261 rfl) (by decide) (argsL := [(.int p1)]) (rest := [(.ref b2)]) (own_BoxInitI l Z a0 hw b2 p1 _ h2 S2.old (own_mayN S2 (Or.inr (by rw [g2]; exact S0.size))) A2 F2_value) (allS (Or.inr (by rw [g2]; exact S0.size)) all0) (by decide +kernel : parseMethodDescriptor "(I)V" = some ⟨[.int], none⟩) rfl rfl rfl d21_28 (by decide) (Nat.le_of_ble_eq_true rfl) (by decide) (by decide) (fun T3 h3 v3 S3 K3 q3 => ?_)
    obtain ⟨rfl, F3⟩ := q3
    show own_F p e below s Z _ _ _ _ _ (T3.setTop (mkF m 31 #[.val (.int p1)] [(.ref b2)]))
    have fq4 := (A2.keep K3)
    refine own_retA S3 rfl rfl d21_31 (by decide) (by decide) ?_
    exact ⟨_, rfl, fq4, F3⟩
  · show own_F p e below s Z _ _ _ _ _ (T0.setTop (mkF m 6 #[.val (.int p1)] []))
    refine own_F.of (fun _ => XS.iloadN S0.here S0.hx rfl (S0.dec d21_6) rfl) ?_
    show own_F p e below s Z _ _ _ _ _ (T0.setTop (mkF m 7 #[.val (.int p1)] [(.int p1)]))
    refine own_getS S0 (host := "") (Or.inl (own_w hw 146 rfl)) Via.refl (SHi.ext S0.old) d21_7 (fun T5 S5 => ?_)
    show own_F p e below s Z _ _ _ _ _ (T5.setTop (mkF m 10 #[.val (.int p1)] [(.int (127 : Int32)), (.int p1)]))
    refine own_icmp S5 23 d21_10 (by decide) (by decide) (fun (hc10_6 : (127 : Int32) < p1) => ?_) (fun (hc10_6 : ¬ ((127 : Int32) < p1)) => ?_)
    · show own_F p e below s Z _ _ _ _ _ (T5.setTop (mkF m 23 #[.val (.int p1)] []))
      refine own_new S5 (own_w hw 257 rfl) (own_w hw 258 rfl) (own_w hw 144 rfl) d21_23 (by decide) (by decide) (fun T7 h7 b7 g7 S7 E7 A7 D7 => ?_)
      have F7_value : Fld Z h7 b7 "java/lang/Integer" "value" "I" (.int (0 : Int32)) := (D7 (Or.inr (own_w hw 256 rfl)) (ty := .int) (by decide))
      show own_F p e below s Z _ _ _ _ _ (T7.setTop (mkF m 26 #[.val (.int p1)] [(.ref b7)]))
      refine own_F.of (fun _ => XS.dup S7.here S7.hx rfl (S7.dec d21_26) rfl rfl) ?_
      show own_F p e below s Z _ _ _ _ _ (T7.setTop (mkF m 27 #[.val (.int p1)] [(.ref b7), (.ref b7)]))
      refine own_F.of (fun _ => XS.iloadN S7.here S7.hx rfl (S7.dec d21_27) rfl) ?_
      show own_F p e below s Z _ _ _ _ _ (T7.setTop (mkF m 28 #[.val (.int p1)] [(.int p1), (.ref b7), (.ref b7)]))
      refine own_callI S7 (y := (⟨"java/lang/Integer", "<init>", "(I)V"⟩ : MethodName)) rfl (own_w hw 259 rfl) (own_w hw 260 rfl) (own_w hw 144 rfl) (own_w hw 261 rfl) (by decide) (argsL := [(.int p1)]) (rest := [(.ref b7)]) (own_BoxInitI l Z a0 hw b7 p1 _ h7 S7.old (own_mayN S7 (Or.inr (by rw [g7]; exact S5.size))) A7 F7_value) (allS (Or.inr (by rw [g7]; exact S5.size)) all0) (by decide +kernel : parseMethodDescriptor "(I)V" = some ⟨[.int], none⟩) rfl rfl rfl d21_28 (by decide) (Nat.le_of_ble_eq_true rfl) (by decide) (by decide) (fun T8 h8 v8 S8 K8 q8 => ?_)
      obtain ⟨rfl, F8⟩ := q8
      show own_F p e below s Z _ _ _ _ _ (T8.setTop (mkF m 31 #[.val (.int p1)] [(.ref b7)]))
      have fq9 := (A7.keep K8)
      refine own_retA S8 rfl rfl d21_31 (by decide) (by decide) ?_
      exact ⟨_, rfl, fq9, F8⟩
    · show own_F p e below s Z _ _ _ _ _ (T5.setTop (mkF m 13 #[.val (.int p1)] []))
      refine own_getS S5 (host := "") (Or.inl (own_w hw 148 rfl)) Via.refl (SCa.ext S5.old) d21_13 (fun T10 S10 => ?_)
      show own_F p e below s Z _ _ _ _ _ (T10.setTop (mkF m 16 #[.val (.int p1)] [(.ref aC)]))
      refine own_F.of (fun _ => XS.iloadN S10.here S10.hx rfl (S10.dec d21_16) rfl) ?_
      show own_F p e below s Z _ _ _ _ _ (T10.setTop (mkF m 17 #[.val (.int p1)] [(.int p1), (.ref aC)]))
      refine own_F.of (fun _ => XS.sipush S10.here S10.hx rfl (S10.dec d21_17)) ?_
      show own_F p e below s Z _ _ _ _ _ (T10.setTop (mkF m 20 #[.val (.int p1)] [(.int (128 : Int32)), (.int p1), (.ref aC)]))
      refine own_F.of (fun _ => XS.iadd S10.here S10.hx rfl (S10.dec d21_20) rfl) ?_
      show own_F p e below s Z _ _ _ _ _ (T10.setTop (mkF m 21 #[.val (.int p1)] [(.int (p1 + (128 : Int32))), (.ref aC)]))
      refine own_bxald S10 BX (own_bxI0 hc3_1 hc10_6).1 (own_bxI0 hc3_1 hc10_6).2.1 d21_21 (fun b11 X11 F11 => ?_)
      show own_F p e below s Z _ _ _ _ _ (T10.setTop (mkF m 22 #[.val (.int p1)] [(.ref b11)]))
      refine own_retA S10 rfl rfl d21_22 (by decide) (by decide) ?_
      exact ⟨_, rfl, X11.ext S10.old, own_eqFI (own_bxI0 hc3_1 hc10_6).2.2 (F11.ext S10.old)⟩
theorem d3_0 : decode jdk_22_method_1_code 0 = .ok (.aload_n 0, 1) := by decide +kernel
theorem d3_1 : decode jdk_22_method_1_code 1 = .ok (.invokespecial 1, 3) := by decide +kernel
theorem d3_4 : decode jdk_22_method_1_code 4 = .ok (.return_, 1) := by decide +kernel
theorem pn3 : plainFor (⟨"java/util/AbstractCollection", "<init>", "()V"⟩ : MethodName) = true := plainFor_of_name (by first | (simp [plainName, overriddenIn]; done) | decide +kernel)
set_option maxRecDepth 65536 in
set_option maxHeartbeats 40000000 in
theorem own_ABC (l : Launch) (Z : State) (a0 : Array Value) (hw : ∀ d ∈ tables_1, d.before a0 Z = true) (a1 : Addr) (h0 : Heap) (hO : Ext Z.heap h0) :
    own_C l Z (⟨"java/util/AbstractCollection", "<init>", "()V"⟩ : MethodName) jdk_22_method_1_code 1 none [] ({ frames := 1, cells := 0, slots := 0, locals := 12 } : Room) [] #[(.ref a1)] h0 (fun v h => v = none ∧ h0 = h) := by
  refine own_C.of pn3 hO all0 ?_
  intro p e s m below meth c T0 S0
  refine own_F.cast (by first | (simp [entryFrame, mkF, argsToLocals, Value.category]; done) | rfl : entryFrame m #[(.ref a1)] 1 = mkF m 0 #[.val (.ref a1)] []) ?_
  show own_F p e below s Z _ _ _ _ _ (T0.setTop (mkF m 0 #[.val (.ref a1)] []))
  refine own_F.of (fun _ => XS.aloadN S0.here S0.hx rfl (S0.dec d3_0) rfl rfl) ?_
  show own_F p e below s Z _ _ _ _ _ (T0.setTop (mkF m 1 #[.val (.ref a1)] [(.ref a1)]))
  refine own_initO S0 (own_w hw 18 rfl) (own_w hw 19 rfl) (own_w hw 20 rfl) rfl d3_1 (by decide) (Nat.le_of_ble_eq_true rfl) (fun T1 S1 => ?_)
  show own_F p e below s Z _ _ _ _ _ (T1.setTop (mkF m 4 #[.val (.ref a1)] []))
  refine own_retV S1 d3_4 (by decide) (by decide) ?_
  exact ⟨rfl, rfl⟩
theorem d2_0 : decode jdk_39_method_1_code 0 = .ok (.aload_n 0, 1) := by decide +kernel
theorem d2_1 : decode jdk_39_method_1_code 1 = .ok (.invokespecial 1, 3) := by decide +kernel
theorem d2_4 : decode jdk_39_method_1_code 4 = .ok (.aload_n 0, 1) := by decide +kernel
theorem d2_5 : decode jdk_39_method_1_code 5 = .ok (.iconst 0, 1) := by decide +kernel
theorem d2_6 : decode jdk_39_method_1_code 6 = .ok (.putfield 7, 3) := by decide +kernel
theorem d2_9 : decode jdk_39_method_1_code 9 = .ok (.return_, 1) := by decide +kernel
theorem pn2 : plainFor (⟨"java/util/AbstractList", "<init>", "()V"⟩ : MethodName) = true := plainFor_of_name (by first | (simp [plainName, overriddenIn]; done) | decide +kernel)
set_option maxRecDepth 65536 in
set_option maxHeartbeats 40000000 in
theorem own_ABL (l : Launch) (Z : State) (a0 : Array Value) (hw : ∀ d ∈ tables_1, d.before a0 Z = true) (a1 : Addr) (h0 : Heap) (hO : Ext Z.heap h0) (ga : Z.heap.size ≤ a1) (E_a1 : Exa Z h0 a1 "java/util/ArrayList") (F_modCount : Fld Z h0 a1 "java/util/AbstractList" "modCount" "I" (.int 0)) (F_elementData : Fld Z h0 a1 "java/util/ArrayList" "elementData" "[Ljava/lang/Object;" .null) (F_size : Fld Z h0 a1 "java/util/ArrayList" "size" "I" (.int 0)) :
    own_C l Z (⟨"java/util/AbstractList", "<init>", "()V"⟩ : MethodName) jdk_39_method_1_code 1 none [] ({ frames := 2, cells := 0, slots := 0, locals := 24 } : Room) [a1] #[(.ref a1)] h0 (fun v h => v = none ∧ Fld Z h a1 "java/util/AbstractList" "modCount" "I" (.int 0) ∧ Fld Z h a1 "java/util/ArrayList" "elementData" "[Ljava/lang/Object;" .null ∧ Fld Z h a1 "java/util/ArrayList" "size" "I" (.int 0)) := by
  refine own_C.of pn2 hO (allS ga all0) ?_
  intro p e s m below meth c T0 S0
  refine own_F.cast (by first | (simp [entryFrame, mkF, argsToLocals, Value.category]; done) | rfl : entryFrame m #[(.ref a1)] 1 = mkF m 0 #[.val (.ref a1)] []) ?_
  show own_F p e below s Z _ _ _ _ _ (T0.setTop (mkF m 0 #[.val (.ref a1)] []))
  refine own_F.of (fun _ => XS.aloadN S0.here S0.hx rfl (S0.dec d2_0) rfl rfl) ?_
  show own_F p e below s Z _ _ _ _ _ (T0.setTop (mkF m 1 #[.val (.ref a1)] [(.ref a1)]))
  refine own_callI S0 (y := (⟨"java/util/AbstractCollection", "<init>", "()V"⟩ : MethodName)) rfl (own_w hw 12 rfl) (own_w hw 13 rfl) (own_w hw 16 rfl) (own_w hw 17 rfl) (by decide) (argsL := []) (rest := []) (own_ABC l Z a0 hw a1 h0 S0.old) all0 (by decide +kernel : parseMethodDescriptor "()V" = some ⟨[], none⟩) rfl rfl rfl d2_1 (by decide) (Nat.le_of_ble_eq_true rfl) (by decide) (by decide) (fun T1 h1 v1 S1 K1 q1 => ?_)
  obtain ⟨rfl, rfl⟩ := q1
  show own_F p e below s Z _ _ _ _ _ (T1.setTop (mkF m 4 #[.val (.ref a1)] []))
  refine own_F.of (fun _ => XS.aloadN S1.here S1.hx rfl (S1.dec d2_4) rfl rfl) ?_
  show own_F p e below s Z _ _ _ _ _ (T1.setTop (mkF m 5 #[.val (.ref a1)] [(.ref a1)]))
  refine own_F.of (fun _ => XS.iconst S1.here S1.hx rfl (S1.dec d2_5)) ?_
  show own_F p e below s Z _ _ _ _ _ (T1.setTop (mkF m 6 #[.val (.ref a1)] [(.int (0 : Int32)), (.ref a1)]))
  refine own_putF S1 (host := "") (Or.inl (own_w hw 21 rfl)) Via.refl F_modCount E_a1 (Or.inl (own_w hw 22 rfl)) (own_w hw 1 rfl) (ty := .int) (by decide) rfl rfl d2_6 (Or.inl (List.mem_of_getElem? (i := 0) rfl)) (fun T2 h2 S2 W2 => ?_)
  have Fw2 := F_modCount.same W2
  show own_F p e below s Z _ _ _ _ _ (T2.setTop (mkF m 9 #[.val (.ref a1)] []))
  have fq3 := (F_elementData.other W2 (Or.inr (slot_ne (C := "java/util/ArrayList") (Or.inl (own_w hw 25 rfl)) (Or.inl (own_w hw 22 rfl)) (by decide) (t := (.array (.object "java/lang/Object"))) (t' := .int) (by decide) (by decide))))
  have fq4 := (F_size.other W2 (Or.inr (slot_ne (C := "java/util/ArrayList") (Or.inl (own_w hw 62 rfl)) (Or.inl (own_w hw 22 rfl)) (by decide) (t := .int) (t' := .int) (by decide) (by decide))))
  refine own_retV S2 d2_9 (by decide) (by decide) ?_
  exact ⟨rfl, Fw2, fq3, fq4⟩
theorem d1_0 : decode jdk_38_method_2_code 0 = .ok (.aload_n 0, 1) := by decide +kernel
theorem d1_1 : decode jdk_38_method_2_code 1 = .ok (.invokespecial 1, 3) := by decide +kernel
theorem d1_4 : decode jdk_38_method_2_code 4 = .ok (.aload_n 0, 1) := by decide +kernel
theorem d1_5 : decode jdk_38_method_2_code 5 = .ok (.getstatic 39, 3) := by decide +kernel
theorem d1_8 : decode jdk_38_method_2_code 8 = .ok (.putfield 9, 3) := by decide +kernel
theorem d1_11 : decode jdk_38_method_2_code 11 = .ok (.return_, 1) := by decide +kernel
theorem pn1 : plainFor (⟨"java/util/ArrayList", "<init>", "()V"⟩ : MethodName) = true := plainFor_of_name (by first | (simp [plainName, overriddenIn]; done) | decide +kernel)
set_option maxRecDepth 65536 in
set_option maxHeartbeats 40000000 in
theorem own_ALI (l : Launch) (Z : State) (a0 : Array Value) (hw : ∀ d ∈ tables_1, d.before a0 Z = true) (a1 : Addr) (aD : Addr) (h0 : Heap) (hO : Ext Z.heap h0) (SD : Sta Z Z.heap "java/util/ArrayList" "DEFAULTCAPACITY_EMPTY_ELEMENTDATA" "[Ljava/lang/Object;" (.ref aD)) (AD : own_A Z Z.heap aD (.object "java/lang/Object") []) (ga : Z.heap.size ≤ a1) (E_a1 : Exa Z h0 a1 "java/util/ArrayList") (F_modCount : Fld Z h0 a1 "java/util/AbstractList" "modCount" "I" (.int 0)) (F_elementData : Fld Z h0 a1 "java/util/ArrayList" "elementData" "[Ljava/lang/Object;" .null) (F_size : Fld Z h0 a1 "java/util/ArrayList" "size" "I" (.int 0)) :
    own_C l Z (⟨"java/util/ArrayList", "<init>", "()V"⟩ : MethodName) jdk_38_method_2_code 1 none [] ({ frames := 3, cells := 0, slots := 0, locals := 36 } : Room) [a1] #[(.ref a1)] h0 (fun v h => v = none ∧ Fld Z h a1 "java/util/AbstractList" "modCount" "I" (.int 0) ∧ Fld Z h a1 "java/util/ArrayList" "elementData" "[Ljava/lang/Object;" (.ref aD) ∧ Fld Z h a1 "java/util/ArrayList" "size" "I" (.int 0)) := by
  refine own_C.of pn1 hO (allS ga all0) ?_
  intro p e s m below meth c T0 S0
  refine own_F.cast (by first | (simp [entryFrame, mkF, argsToLocals, Value.category]; done) | rfl : entryFrame m #[(.ref a1)] 1 = mkF m 0 #[.val (.ref a1)] []) ?_
  show own_F p e below s Z _ _ _ _ _ (T0.setTop (mkF m 0 #[.val (.ref a1)] []))
  refine own_F.of (fun _ => XS.aloadN S0.here S0.hx rfl (S0.dec d1_0) rfl rfl) ?_
  show own_F p e below s Z _ _ _ _ _ (T0.setTop (mkF m 1 #[.val (.ref a1)] [(.ref a1)]))
  refine own_callI S0 (y := (⟨"java/util/AbstractList", "<init>", "()V"⟩ : MethodName)) rfl (own_w hw 6 rfl) (own_w hw 7 rfl) (own_w hw 10 rfl) (own_w hw 11 rfl) (by decide) (argsL := []) (rest := []) (own_ABL l Z a0 hw a1 h0 S0.old ga E_a1 F_modCount F_elementData F_size) (allS (Or.inl (List.mem_of_getElem? (i := 0) rfl)) all0) (by decide +kernel : parseMethodDescriptor "()V" = some ⟨[], none⟩) rfl rfl rfl d1_1 (by decide) (Nat.le_of_ble_eq_true rfl) (by decide) (by decide) (fun T1 h1 v1 S1 K1 q1 => ?_)
  obtain ⟨rfl, Fm1, Fe1, Fs1⟩ := q1
  show own_F p e below s Z _ _ _ _ _ (T1.setTop (mkF m 4 #[.val (.ref a1)] []))
  refine own_F.of (fun _ => XS.aloadN S1.here S1.hx rfl (S1.dec d1_4) rfl rfl) ?_
  show own_F p e below s Z _ _ _ _ _ (T1.setTop (mkF m 5 #[.val (.ref a1)] [(.ref a1)]))
  refine own_getS S1 (host := "") (Or.inl (own_w hw 23 rfl)) Via.refl (SD.ext S1.old) d1_5 (fun T2 S2 => ?_)
  show own_F p e below s Z _ _ _ _ _ (T2.setTop (mkF m 8 #[.val (.ref a1)] [(.ref aD), (.ref a1)]))
  have fq3 := (E_a1.keep K1)
  refine own_putF S2 (host := "") (Or.inl (own_w hw 24 rfl)) Via.refl Fe1 fq3 (Or.inl (own_w hw 25 rfl)) (own_w hw 1 rfl) (ty := (.array (.object "java/lang/Object"))) (by decide) rfl rfl d1_8 (Or.inl (List.mem_of_getElem? (i := 0) rfl)) (fun T4 h4 S4 W4 => ?_)
  have Fw4 := Fe1.same W4
  show own_F p e below s Z _ _ _ _ _ (T4.setTop (mkF m 11 #[.val (.ref a1)] []))
  have fq5 := (Fm1.other W4 (Or.inr (slot_ne (C := "java/util/ArrayList") (Or.inl (own_w hw 22 rfl)) (Or.inl (own_w hw 25 rfl)) (by decide) (t := .int) (t' := (.array (.object "java/lang/Object"))) (by decide) (by decide))))
  have fq6 := (Fs1.other W4 (Or.inr (slot_ne (C := "java/util/ArrayList") (Or.inl (own_w hw 62 rfl)) (Or.inl (own_w hw 25 rfl)) (by decide) (t := .int) (t' := (.array (.object "java/lang/Object"))) (by decide) (by decide))))
  refine own_retV S4 d1_11 (by decide) (by decide) ?_
  exact ⟨rfl, fq5, Fw4, fq6⟩
theorem d26_0 : decode jdk_29_method_65_code 0 = .ok (.iload_n 0, 1) := by decide +kernel
theorem d26_1 : decode jdk_29_method_65_code 1 = .ok (.iload_n 1, 1) := by decide +kernel
theorem d26_2 : decode jdk_29_method_65_code 2 = .ok (.if_icmp .lt 7, 3) := by decide +kernel
theorem d26_5 : decode jdk_29_method_65_code 5 = .ok (.iload_n 0, 1) := by decide +kernel
theorem d26_6 : decode jdk_29_method_65_code 6 = .ok (.goto 4, 3) := by decide +kernel
theorem d26_9 : decode jdk_29_method_65_code 9 = .ok (.iload_n 1, 1) := by decide +kernel
theorem d26_10 : decode jdk_29_method_65_code 10 = .ok (.ireturn, 1) := by decide +kernel
theorem pn26 : plainFor (⟨"java/lang/Math", "max", "(II)I"⟩ : MethodName) = true := Jvm.Free.JP.mathPlain rfl (by decide +kernel)
set_option maxRecDepth 65536 in
set_option maxHeartbeats 40000000 in
theorem own_max (l : Launch) (Z : State) (a0 : Array Value) (hw : ∀ d ∈ tables_1, d.before a0 Z = true)  (h0 : Heap) (hO : Ext Z.heap h0) :
    own_C l Z (⟨"java/lang/Math", "max", "(II)I"⟩ : MethodName) jdk_29_method_65_code 2 (some .int) [] ({ frames := 0, cells := 0, slots := 0, locals := 0 } : Room) [] #[(.int (10 : Int32)), (.int (1 : Int32))] h0 (fun v h => v = some (.int 10) ∧ h0 = h) := by
  refine own_C.of pn26 hO all0 ?_
  intro p e s m below meth c T0 S0
  refine own_F.cast (by first | (simp [entryFrame, mkF, argsToLocals, Value.category]; done) | rfl : entryFrame m #[(.int (10 : Int32)), (.int (1 : Int32))] 2 = mkF m 0 #[.val (.int (10 : Int32)), .val (.int (1 : Int32))] []) ?_
  show own_F p e below s Z _ _ _ _ _ (T0.setTop (mkF m 0 #[.val (.int (10 : Int32)), .val (.int (1 : Int32))] []))
  refine own_F.of (fun _ => XS.iloadN S0.here S0.hx rfl (S0.dec d26_0) rfl) ?_
  show own_F p e below s Z _ _ _ _ _ (T0.setTop (mkF m 1 #[.val (.int (10 : Int32)), .val (.int (1 : Int32))] [(.int (10 : Int32))]))
  refine own_F.of (fun _ => XS.iloadN S0.here S0.hx rfl (S0.dec d26_1) rfl) ?_
  show own_F p e below s Z _ _ _ _ _ (T0.setTop (mkF m 2 #[.val (.int (10 : Int32)), .val (.int (1 : Int32))] [(.int (1 : Int32)), (.int (10 : Int32))]))
  refine own_icmp S0 9 d26_2 (by decide) (by decide) (fun (hc2_1 : (10 : Int32) < (1 : Int32)) => False.elim (absurd hc2_1 (by decide))) (fun (hc2_1 : ¬ ((10 : Int32) < (1 : Int32))) => ?_)
  show own_F p e below s Z _ _ _ _ _ (T0.setTop (mkF m 5 #[.val (.int (10 : Int32)), .val (.int (1 : Int32))] []))
  refine own_F.of (fun _ => XS.iloadN S0.here S0.hx rfl (S0.dec d26_5) rfl) ?_
  show own_F p e below s Z _ _ _ _ _ (T0.setTop (mkF m 6 #[.val (.int (10 : Int32)), .val (.int (1 : Int32))] [(.int (10 : Int32))]))
  refine own_F.of (fun _ => XS.goto S0.here S0.hx rfl (pc0 := 6) (pc' := 10) rfl (S0.dec d26_6) (by decide) (by decide)) ?_
  show own_F p e below s Z _ _ _ _ _ (T0.setTop (mkF m 10 #[.val (.int (10 : Int32)), .val (.int (1 : Int32))] [(.int (10 : Int32))]))
  refine own_retI S0 d26_10 (by decide) (by decide) ?_
  exact ⟨rfl, rfl⟩
theorem d25_0 : decode jdk_38_method_6_code 0 = .ok (.aload_n 0, 1) := by decide +kernel
theorem d25_1 : decode jdk_38_method_6_code 1 = .ok (.getfield 9, 3) := by decide +kernel
theorem d25_4 : decode jdk_38_method_6_code 4 = .ok (.arraylength, 1) := by decide +kernel
theorem d25_5 : decode jdk_38_method_6_code 5 = .ok (.istore_n 2, 1) := by decide +kernel
theorem d25_6 : decode jdk_38_method_6_code 6 = .ok (.iload_n 2, 1) := by decide +kernel
theorem d25_7 : decode jdk_38_method_6_code 7 = .ok (.ifCond .gt 13, 3) := by decide +kernel
theorem d25_10 : decode jdk_38_method_6_code 10 = .ok (.aload_n 0, 1) := by decide +kernel
theorem d25_11 : decode jdk_38_method_6_code 11 = .ok (.getfield 9, 3) := by decide +kernel
theorem d25_14 : decode jdk_38_method_6_code 14 = .ok (.getstatic 39, 3) := by decide +kernel
theorem d25_17 : decode jdk_38_method_6_code 17 = .ok (.if_acmp .eq 28, 3) := by decide +kernel
theorem d25_20 : decode jdk_38_method_6_code 20 = .ok (.iload_n 2, 1) := by decide +kernel
theorem d25_21 : decode jdk_38_method_6_code 21 = .ok (.iload_n 1, 1) := by decide +kernel
theorem d25_22 : decode jdk_38_method_6_code 22 = .ok (.iload_n 2, 1) := by decide +kernel
theorem d25_23 : decode jdk_38_method_6_code 23 = .ok (.isub, 1) := by decide +kernel
theorem d25_24 : decode jdk_38_method_6_code 24 = .ok (.iload_n 2, 1) := by decide +kernel
theorem d25_25 : decode jdk_38_method_6_code 25 = .ok (.iconst 1, 1) := by decide +kernel
theorem d25_26 : decode jdk_38_method_6_code 26 = .ok (.ishr, 1) := by decide +kernel
theorem d25_27 : decode jdk_38_method_6_code 27 = .ok (.invokestatic 73, 3) := by decide +kernel
theorem d25_30 : decode jdk_38_method_6_code 30 = .ok (.istore_n 3, 1) := by decide +kernel
theorem d25_31 : decode jdk_38_method_6_code 31 = .ok (.aload_n 0, 1) := by decide +kernel
theorem d25_32 : decode jdk_38_method_6_code 32 = .ok (.aload_n 0, 1) := by decide +kernel
theorem d25_33 : decode jdk_38_method_6_code 33 = .ok (.getfield 9, 3) := by decide +kernel
theorem d25_36 : decode jdk_38_method_6_code 36 = .ok (.iload_n 3, 1) := by decide +kernel
theorem d25_37 : decode jdk_38_method_6_code 37 = .ok (.invokestatic 66, 3) := by decide +kernel
theorem d25_40 : decode jdk_38_method_6_code 40 = .ok (.dup_x1, 1) := by decide +kernel
theorem d25_41 : decode jdk_38_method_6_code 41 = .ok (.putfield 9, 3) := by decide +kernel
theorem d25_44 : decode jdk_38_method_6_code 44 = .ok (.areturn, 1) := by decide +kernel
theorem d25_45 : decode jdk_38_method_6_code 45 = .ok (.aload_n 0, 1) := by decide +kernel
theorem d25_46 : decode jdk_38_method_6_code 46 = .ok (.bipush 10, 2) := by decide +kernel
theorem d25_48 : decode jdk_38_method_6_code 48 = .ok (.iload_n 1, 1) := by decide +kernel
theorem d25_49 : decode jdk_38_method_6_code 49 = .ok (.invokestatic 79, 3) := by decide +kernel
theorem d25_52 : decode jdk_38_method_6_code 52 = .ok (.anewarray 7, 3) := by decide +kernel
theorem d25_55 : decode jdk_38_method_6_code 55 = .ok (.dup_x1, 1) := by decide +kernel
theorem d25_56 : decode jdk_38_method_6_code 56 = .ok (.putfield 9, 3) := by decide +kernel
theorem d25_59 : decode jdk_38_method_6_code 59 = .ok (.areturn, 1) := by decide +kernel
theorem pn25 : plainFor (⟨"java/util/ArrayList", "grow", "(I)[Ljava/lang/Object;"⟩ : MethodName) = true := plainFor_of_name (by first | (simp [plainName, overriddenIn]; done) | decide +kernel)
set_option maxRecDepth 65536 in
set_option maxHeartbeats 40000000 in
theorem own_growI (l : Launch) (Z : State) (a0 : Array Value) (hw : ∀ d ∈ tables_1, d.before a0 Z = true) (a1 : Addr) (mc : Int32) (aD : Addr) (h0 : Heap) (hO : Ext Z.heap h0) (SD : Sta Z Z.heap "java/util/ArrayList" "DEFAULTCAPACITY_EMPTY_ELEMENTDATA" "[Ljava/lang/Object;" (.ref aD)) (AD : own_A Z Z.heap aD (.object "java/lang/Object") []) (ga : Z.heap.size ≤ a1) (E_a1 : Exa Z h0 a1 "java/util/ArrayList") (F_elementData : Fld Z h0 a1 "java/util/ArrayList" "elementData" "[Ljava/lang/Object;" (.ref aD)) (F_size : Fld Z h0 a1 "java/util/ArrayList" "size" "I" (.int 0)) (F_modCount : Fld Z h0 a1 "java/util/AbstractList" "modCount" "I" (.int mc)) :
    own_C l Z (⟨"java/util/ArrayList", "grow", "(I)[Ljava/lang/Object;"⟩ : MethodName) jdk_38_method_6_code 4 (some (.array (.object "java/lang/Object"))) [] ({ frames := 1, cells := 1, slots := 10, locals := 14 } : Room) [a1] #[(.ref a1), (.int (1 : Int32))] h0 (fun v h => ∃ b, v = some (.ref b) ∧ h0.size ≤ b ∧ own_AO Z h b [.null, .null, .null, .null, .null, .null, .null, .null, .null, .null] ∧ Fld Z h a1 "java/util/ArrayList" "elementData" "[Ljava/lang/Object;" (.ref b) ∧ Fld Z h a1 "java/util/ArrayList" "size" "I" (.int 0) ∧ Fld Z h a1 "java/util/AbstractList" "modCount" "I" (.int mc)) := by
  refine own_C.of pn25 hO (allS ga all0) ?_
  intro p e s m below meth c T0 S0
  refine own_F.cast (by first | (simp [entryFrame, mkF, argsToLocals, Value.category]; done) | rfl : entryFrame m #[(.ref a1), (.int (1 : Int32))] 4 = mkF m 0 #[.val (.ref a1), .val (.int (1 : Int32)), .unset, .unset] []) ?_
  show own_F p e below s Z _ _ _ _ _ (T0.setTop (mkF m 0 #[.val (.ref a1), .val (.int (1 : Int32)), .unset, .unset] []))
  refine own_F.of (fun _ => XS.aloadN S0.here S0.hx rfl (S0.dec d25_0) rfl rfl) ?_
  show own_F p e below s Z _ _ _ _ _ (T0.setTop (mkF m 1 #[.val (.ref a1), .val (.int (1 : Int32)), .unset, .unset] [(.ref a1)]))
  refine own_getF S0 (host := "") (Or.inl (own_w hw 24 rfl)) Via.refl F_elementData d25_1 (fun T1 S1 => ?_)
  show own_F p e below s Z _ _ _ _ _ (T1.setTop (mkF m 4 #[.val (.ref a1), .val (.int (1 : Int32)), .unset, .unset] [(.ref aD)]))
  refine own_len S1 (AD.ext S1.old) d25_4 ?_
  show own_F p e below s Z _ _ _ _ _ (T1.setTop (mkF m 5 #[.val (.ref a1), .val (.int (1 : Int32)), .unset, .unset] [(.int (0 : Int32))]))
  refine own_F.of (fun _ => XS.istoreN S1.here S1.hx rfl (S1.dec d25_5) rfl (l' := #[.val (.ref a1), .val (.int (1 : Int32)), .val (.int (0 : Int32)), .unset]) rfl) ?_
  show own_F p e below s Z _ _ _ _ _ (T1.setTop (mkF m 6 #[.val (.ref a1), .val (.int (1 : Int32)), .val (.int (0 : Int32)), .unset] []))
  refine own_F.of (fun _ => XS.iloadN S1.here S1.hx rfl (S1.dec d25_6) rfl) ?_
  show own_F p e below s Z _ _ _ _ _ (T1.setTop (mkF m 7 #[.val (.ref a1), .val (.int (1 : Int32)), .val (.int (0 : Int32)), .unset] [(.int (0 : Int32))]))
  refine own_if S1 20 d25_7 (by decide) (by decide) (fun (hc7_2 : (0 : Int32) < (0 : Int32)) => False.elim (absurd hc7_2 (by decide))) (fun (hc7_2 : ¬ ((0 : Int32) < (0 : Int32))) => ?_)
  show own_F p e below s Z _ _ _ _ _ (T1.setTop (mkF m 10 #[.val (.ref a1), .val (.int (1 : Int32)), .val (.int (0 : Int32)), .unset] []))
  refine own_F.of (fun _ => XS.aloadN S1.here S1.hx rfl (S1.dec d25_10) rfl rfl) ?_
  show own_F p e below s Z _ _ _ _ _ (T1.setTop (mkF m 11 #[.val (.ref a1), .val (.int (1 : Int32)), .val (.int (0 : Int32)), .unset] [(.ref a1)]))
  refine own_getF S1 (host := "") (Or.inl (own_w hw 24 rfl)) Via.refl F_elementData d25_11 (fun T3 S3 => ?_)
  show own_F p e below s Z _ _ _ _ _ (T3.setTop (mkF m 14 #[.val (.ref a1), .val (.int (1 : Int32)), .val (.int (0 : Int32)), .unset] [(.ref aD)]))
  refine own_getS S3 (host := "") (Or.inl (own_w hw 23 rfl)) Via.refl (SD.ext S3.old) d25_14 (fun T4 S4 => ?_)
  show own_F p e below s Z _ _ _ _ _ (T4.setTop (mkF m 17 #[.val (.ref a1), .val (.int (1 : Int32)), .val (.int (0 : Int32)), .unset] [(.ref aD), (.ref aD)]))
  refine own_acmp S4 rfl rfl 45 d25_17 (by decide) (by decide) (fun (hc17_5 : (Value.ref aD) = (Value.ref aD)) => ?_) (fun (hc17_5 : ¬ ((Value.ref aD) = (Value.ref aD))) => False.elim (hc17_5 rfl))
  show own_F p e below s Z _ _ _ _ _ (T4.setTop (mkF m 45 #[.val (.ref a1), .val (.int (1 : Int32)), .val (.int (0 : Int32)), .unset] []))
  refine own_F.of (fun _ => XS.aloadN S4.here S4.hx rfl (S4.dec d25_45) rfl rfl) ?_
  show own_F p e below s Z _ _ _ _ _ (T4.setTop (mkF m 46 #[.val (.ref a1), .val (.int (1 : Int32)), .val (.int (0 : Int32)), .unset] [(.ref a1)]))
  refine own_F.of (fun _ => XS.bipush S4.here S4.hx rfl (S4.dec d25_46)) ?_
  show own_F p e below s Z _ _ _ _ _ (T4.setTop (mkF m 48 #[.val (.ref a1), .val (.int (1 : Int32)), .val (.int (0 : Int32)), .unset] [(.int (10 : Int32)), (.ref a1)]))
  refine own_F.of (fun _ => XS.iloadN S4.here S4.hx rfl (S4.dec d25_48) rfl) ?_
  show own_F p e below s Z _ _ _ _ _ (T4.setTop (mkF m 49 #[.val (.ref a1), .val (.int (1 : Int32)), .val (.int (0 : Int32)), .unset] [(.int (1 : Int32)), (.int (10 : Int32)), (.ref a1)]))
  refine own_callS S4 (y := (⟨"java/lang/Math", "max", "(II)I"⟩ : MethodName)) (own_w hw 171 rfl) (own_w hw 172 rfl) (own_w hw 173 rfl) (own_w hw 174 rfl) (by decide) (argsL := [(.int (10 : Int32)), (.int (1 : Int32))]) (rest := [(.ref a1)]) (own_max l Z a0 hw h0 S4.old) all0 (by decide +kernel : parseMethodDescriptor "(II)I" = some ⟨[.int, .int], some .int⟩) rfl rfl rfl d25_49 (by decide) (Nat.le_of_ble_eq_true rfl) (by decide) (by decide) (fun T6 h6 v6 S6 K6 q6 => ?_)
  obtain ⟨rfl, rfl⟩ := q6
  show own_F p e below s Z _ _ _ _ _ (T6.setTop (mkF m 52 #[.val (.ref a1), .val (.int (1 : Int32)), .val (.int (0 : Int32)), .unset] [(.int (10 : Int32)), (.ref a1)]))
  refine own_anew S6 (own_w hw 175 rfl) (own_w hw 176 rfl) d25_52 (by decide) (cap := 10) (by decide) (by decide) (by decide) (by decide) (fun T7 h7 b7 g7 S7 E7 A7 => ?_)
  have V8 : own_AO Z h7 b7 [.null, .null, .null, .null, .null, .null, .null, .null, .null, .null] := A7
  show own_F p e below s Z _ _ _ _ _ (T7.setTop (mkF m 55 #[.val (.ref a1), .val (.int (1 : Int32)), .val (.int (0 : Int32)), .unset] [(.ref b7), (.ref a1)]))
  refine own_F.of (fun _ => XS.dupX1 S7.here S7.hx rfl (S7.dec d25_55) rfl rfl rfl) ?_
  show own_F p e below s Z _ _ _ _ _ (T7.setTop (mkF m 56 #[.val (.ref a1), .val (.int (1 : Int32)), .val (.int (0 : Int32)), .unset] [(.ref b7), (.ref a1), (.ref b7)]))
  have fq9 := (F_elementData.ext E7)
  have fq10 := (E_a1.ext E7)
  refine own_putF S7 (host := "") (Or.inl (own_w hw 24 rfl)) Via.refl fq9 fq10 (Or.inl (own_w hw 25 rfl)) (own_w hw 1 rfl) (ty := (.array (.object "java/lang/Object"))) (by decide) rfl rfl d25_56 (Or.inl (List.mem_of_getElem? (i := 0) rfl)) (fun T11 h11 S11 W11 => ?_)
  have Fw11 := fq9.same W11
  show own_F p e below s Z _ _ _ _ _ (T11.setTop (mkF m 59 #[.val (.ref a1), .val (.int (1 : Int32)), .val (.int (0 : Int32)), .unset] [(.ref b7)]))
  have fq12 := (V8.other W11 (ne_exa V8.exa fq10 (by decide)))
  have fq13 := ((F_size.ext E7).other W11 (Or.inr (slot_ne (C := "java/util/ArrayList") (Or.inl (own_w hw 62 rfl)) (Or.inl (own_w hw 25 rfl)) (by decide) (t := .int) (t' := (.array (.object "java/lang/Object"))) (by decide) (by decide))))
  have fq14 := ((F_modCount.ext E7).other W11 (Or.inr (slot_ne (C := "java/util/ArrayList") (Or.inl (own_w hw 22 rfl)) (Or.inl (own_w hw 25 rfl)) (by decide) (t := .int) (t' := (.array (.object "java/lang/Object"))) (by decide) (by decide))))
  refine own_retA S11 rfl rfl d25_59 (by decide) (by decide) ?_
  exact ⟨_, rfl, (by rw [g7]; exact S6.size), fq12, Fw11, fq13, fq14⟩
theorem d24_0 : decode jdk_38_method_7_code 0 = .ok (.aload_n 0, 1) := by decide +kernel
theorem d24_1 : decode jdk_38_method_7_code 1 = .ok (.aload_n 0, 1) := by decide +kernel
theorem d24_2 : decode jdk_38_method_7_code 2 = .ok (.getfield 48, 3) := by decide +kernel
theorem d24_5 : decode jdk_38_method_7_code 5 = .ok (.iconst 1, 1) := by decide +kernel
theorem d24_6 : decode jdk_38_method_7_code 6 = .ok (.iadd, 1) := by decide +kernel
theorem d24_7 : decode jdk_38_method_7_code 7 = .ok (.invokevirtual 69, 3) := by decide +kernel
theorem d24_10 : decode jdk_38_method_7_code 10 = .ok (.areturn, 1) := by decide +kernel
theorem pn24 : plainFor (⟨"java/util/ArrayList", "grow", "()[Ljava/lang/Object;"⟩ : MethodName) = true := plainFor_of_name (by first | (simp [plainName, overriddenIn]; done) | decide +kernel)
set_option maxRecDepth 65536 in
set_option maxHeartbeats 40000000 in
theorem own_grow (l : Launch) (Z : State) (a0 : Array Value) (hw : ∀ d ∈ tables_1, d.before a0 Z = true) (a1 : Addr) (mc : Int32) (aD : Addr) (h0 : Heap) (hO : Ext Z.heap h0) (SD : Sta Z Z.heap "java/util/ArrayList" "DEFAULTCAPACITY_EMPTY_ELEMENTDATA" "[Ljava/lang/Object;" (.ref aD)) (AD : own_A Z Z.heap aD (.object "java/lang/Object") []) (ga : Z.heap.size ≤ a1) (E_a1 : Exa Z h0 a1 "java/util/ArrayList") (F_elementData : Fld Z h0 a1 "java/util/ArrayList" "elementData" "[Ljava/lang/Object;" (.ref aD)) (F_size : Fld Z h0 a1 "java/util/ArrayList" "size" "I" (.int 0)) (F_modCount : Fld Z h0 a1 "java/util/AbstractList" "modCount" "I" (.int mc)) :
    own_C l Z (⟨"java/util/ArrayList", "grow", "()[Ljava/lang/Object;"⟩ : MethodName) jdk_38_method_7_code 1 (some (.array (.object "java/lang/Object"))) [] ({ frames := 2, cells := 1, slots := 10, locals := 29 } : Room) [a1] #[(.ref a1)] h0 (fun v h => ∃ b, v = some (.ref b) ∧ h0.size ≤ b ∧ own_AO Z h b [.null, .null, .null, .null, .null, .null, .null, .null, .null, .null] ∧ Fld Z h a1 "java/util/ArrayList" "elementData" "[Ljava/lang/Object;" (.ref b) ∧ Fld Z h a1 "java/util/ArrayList" "size" "I" (.int 0) ∧ Fld Z h a1 "java/util/AbstractList" "modCount" "I" (.int mc)) := by
  refine own_C.of pn24 hO (allS ga all0) ?_
  intro p e s m below meth c T0 S0
  refine own_F.cast (by first | (simp [entryFrame, mkF, argsToLocals, Value.category]; done) | rfl : entryFrame m #[(.ref a1)] 1 = mkF m 0 #[.val (.ref a1)] []) ?_
  show own_F p e below s Z _ _ _ _ _ (T0.setTop (mkF m 0 #[.val (.ref a1)] []))
  refine own_F.of (fun _ => XS.aloadN S0.here S0.hx rfl (S0.dec d24_0) rfl rfl) ?_
  show own_F p e below s Z _ _ _ _ _ (T0.setTop (mkF m 1 #[.val (.ref a1)] [(.ref a1)]))
  refine own_F.of (fun _ => XS.aloadN S0.here S0.hx rfl (S0.dec d24_1) rfl rfl) ?_
  show own_F p e below s Z _ _ _ _ _ (T0.setTop (mkF m 2 #[.val (.ref a1)] [(.ref a1), (.ref a1)]))
  refine own_getF S0 (host := "") (Or.inl (own_w hw 61 rfl)) Via.refl F_size d24_2 (fun T1 S1 => ?_)
  show own_F p e below s Z _ _ _ _ _ (T1.setTop (mkF m 5 #[.val (.ref a1)] [(.int (0 : Int32)), (.ref a1)]))
  refine own_F.of (fun _ => XS.iconst S1.here S1.hx rfl (S1.dec d24_5)) ?_
  show own_F p e below s Z _ _ _ _ _ (T1.setTop (mkF m 6 #[.val (.ref a1)] [(.int (1 : Int32)), (.int (0 : Int32)), (.ref a1)]))
  refine own_F.of (fun _ => XS.iadd S1.here S1.hx rfl (S1.dec d24_6) rfl) ?_
  show own_F p e below s Z _ _ _ _ _ (T1.setTop (mkF m 7 #[.val (.ref a1)] [(.int (1 : Int32)), (.ref a1)]))
  refine own_callP S1 (y := (⟨"java/util/ArrayList", "grow", "(I)[Ljava/lang/Object;"⟩ : MethodName)) (own_w hw 166 rfl) (own_w hw 167 rfl) (own_w hw 1 rfl) (own_w hw 168 rfl) (own_w hw 170 rfl) (own_w hw 2 rfl) (by decide) E_a1 (argsL := [(.int (1 : Int32))]) (rest := []) (own_growI l Z a0 hw a1 mc aD h0 S1.old SD AD ga E_a1 F_elementData F_size F_modCount) (allS (Or.inl (List.mem_of_getElem? (i := 0) rfl)) all0) (by decide +kernel : parseMethodDescriptor "(I)[Ljava/lang/Object;" = some ⟨[.int], some (.array (.object "java/lang/Object"))⟩) rfl rfl rfl d24_7 (by decide) (Nat.le_of_ble_eq_true rfl) (by decide) (by decide) (fun T2 h2 v2 S2 K2 q2 => ?_)
  obtain ⟨b2, rfl, hb2⟩ := q2
  show own_F p e below s Z _ _ _ _ _ (T2.setTop (mkF m 10 #[.val (.ref a1)] [(.ref b2)]))
  refine own_retA S2 rfl rfl d24_10 (by decide) (by decide) ?_
  exact ⟨_, rfl, hb2⟩
theorem d23_0 : decode jdk_38_method_24_code 0 = .ok (.iload_n 3, 1) := by decide +kernel
theorem d23_1 : decode jdk_38_method_24_code 1 = .ok (.aload_n 2, 1) := by decide +kernel
theorem d23_2 : decode jdk_38_method_24_code 2 = .ok (.arraylength, 1) := by decide +kernel
theorem d23_3 : decode jdk_38_method_24_code 3 = .ok (.if_icmp .ne 8, 3) := by decide +kernel
theorem d23_6 : decode jdk_38_method_24_code 6 = .ok (.aload_n 0, 1) := by decide +kernel
theorem d23_7 : decode jdk_38_method_24_code 7 = .ok (.invokevirtual 129, 3) := by decide +kernel
theorem d23_10 : decode jdk_38_method_24_code 10 = .ok (.astore_n 2, 1) := by decide +kernel
theorem d23_11 : decode jdk_38_method_24_code 11 = .ok (.aload_n 2, 1) := by decide +kernel
theorem d23_12 : decode jdk_38_method_24_code 12 = .ok (.iload_n 3, 1) := by decide +kernel
theorem d23_13 : decode jdk_38_method_24_code 13 = .ok (.aload_n 1, 1) := by decide +kernel
theorem d23_14 : decode jdk_38_method_24_code 14 = .ok (.aastore, 1) := by decide +kernel
theorem d23_15 : decode jdk_38_method_24_code 15 = .ok (.aload_n 0, 1) := by decide +kernel
theorem d23_16 : decode jdk_38_method_24_code 16 = .ok (.iload_n 3, 1) := by decide +kernel
theorem d23_17 : decode jdk_38_method_24_code 17 = .ok (.iconst 1, 1) := by decide +kernel
theorem d23_18 : decode jdk_38_method_24_code 18 = .ok (.iadd, 1) := by decide +kernel
theorem d23_19 : decode jdk_38_method_24_code 19 = .ok (.putfield 48, 3) := by decide +kernel
theorem d23_22 : decode jdk_38_method_24_code 22 = .ok (.return_, 1) := by decide +kernel
theorem pn23 : plainFor (⟨"java/util/ArrayList", "add", "(Ljava/lang/Object;[Ljava/lang/Object;I)V"⟩ : MethodName) = true := plainFor_of_name (by first | (simp [plainName, overriddenIn]; done) | decide +kernel)
set_option maxRecDepth 65536 in
set_option maxHeartbeats 40000000 in
theorem own_add3_0 (l : Launch) (Z : State) (a0 : Array Value) (hw : ∀ d ∈ tables_1, d.before a0 Z = true) (a1 : Addr) (e1 : Addr) (aD : Addr) (mc : Int32) (h0 : Heap) (hO : Ext Z.heap h0) (SD : Sta Z Z.heap "java/util/ArrayList" "DEFAULTCAPACITY_EMPTY_ELEMENTDATA" "[Ljava/lang/Object;" (.ref aD)) (AD : own_A Z Z.heap aD (.object "java/lang/Object") []) (ga : Z.heap.size ≤ a1) (E_a1 : Exa Z h0 a1 "java/util/ArrayList") (F_elementData : Fld Z h0 a1 "java/util/ArrayList" "elementData" "[Ljava/lang/Object;" (.ref aD)) (F_size : Fld Z h0 a1 "java/util/ArrayList" "size" "I" (.int 0)) (F_modCount : Fld Z h0 a1 "java/util/AbstractList" "modCount" "I" (.int mc)) (X_e1 : Exa Z h0 e1 "java/lang/Integer") :
    own_C l Z (⟨"java/util/ArrayList", "add", "(Ljava/lang/Object;[Ljava/lang/Object;I)V"⟩ : MethodName) jdk_38_method_24_code 4 none [] ({ frames := 3, cells := 1, slots := 10, locals := 41 } : Room) [a1] #[(.ref a1), (.ref e1), (.ref aD), (.int (0 : Int32))] h0 (fun v h => v = none ∧ ∃ b, h0.size ≤ b ∧ own_AO Z h b [(.ref e1), .null, .null, .null, .null, .null, .null, .null, .null, .null] ∧ Fld Z h a1 "java/util/ArrayList" "elementData" "[Ljava/lang/Object;" (.ref b) ∧ Fld Z h a1 "java/util/ArrayList" "size" "I" (.int 1) ∧ Fld Z h a1 "java/util/AbstractList" "modCount" "I" (.int mc)) := by
  refine own_C.of pn23 hO (allS ga all0) ?_
  intro p e s m below meth c T0 S0
  refine own_F.cast (by first | (simp [entryFrame, mkF, argsToLocals, Value.category]; done) | rfl : entryFrame m #[(.ref a1), (.ref e1), (.ref aD), (.int (0 : Int32))] 4 = mkF m 0 #[.val (.ref a1), .val (.ref e1), .val (.ref aD), .val (.int (0 : Int32))] []) ?_
  show own_F p e below s Z _ _ _ _ _ (T0.setTop (mkF m 0 #[.val (.ref a1), .val (.ref e1), .val (.ref aD), .val (.int (0 : Int32))] []))
  refine own_F.of (fun _ => XS.iloadN S0.here S0.hx rfl (S0.dec d23_0) rfl) ?_
  show own_F p e below s Z _ _ _ _ _ (T0.setTop (mkF m 1 #[.val (.ref a1), .val (.ref e1), .val (.ref aD), .val (.int (0 : Int32))] [(.int (0 : Int32))]))
  refine own_F.of (fun _ => XS.aloadN S0.here S0.hx rfl (S0.dec d23_1) rfl rfl) ?_
  show own_F p e below s Z _ _ _ _ _ (T0.setTop (mkF m 2 #[.val (.ref a1), .val (.ref e1), .val (.ref aD), .val (.int (0 : Int32))] [(.ref aD), (.int (0 : Int32))]))
  refine own_len S0 (AD.ext S0.old) d23_2 ?_
  show own_F p e below s Z _ _ _ _ _ (T0.setTop (mkF m 3 #[.val (.ref a1), .val (.ref e1), .val (.ref aD), .val (.int (0 : Int32))] [(.int (0 : Int32)), (.int (0 : Int32))]))
  refine own_icmp S0 11 d23_3 (by decide) (by decide) (fun (hc3_1 : ¬ ((0 : Int32) = (0 : Int32))) => False.elim (absurd hc3_1 (by decide))) (fun (hc3_1 : (0 : Int32) = (0 : Int32)) => ?_)
  show own_F p e below s Z _ _ _ _ _ (T0.setTop (mkF m 6 #[.val (.ref a1), .val (.ref e1), .val (.ref aD), .val (.int (0 : Int32))] []))
  refine own_F.of (fun _ => XS.aloadN S0.here S0.hx rfl (S0.dec d23_6) rfl rfl) ?_
  show own_F p e below s Z _ _ _ _ _ (T0.setTop (mkF m 7 #[.val (.ref a1), .val (.ref e1), .val (.ref aD), .val (.int (0 : Int32))] [(.ref a1)]))
  refine own_callP S0 (y := (⟨"java/util/ArrayList", "grow", "()[Ljava/lang/Object;"⟩ : MethodName)) (own_w hw 161 rfl) (own_w hw 162 rfl) (own_w hw 1 rfl) (own_w hw 163 rfl) (own_w hw 165 rfl) (own_w hw 2 rfl) (by decide) E_a1 (argsL := []) (rest := []) (own_grow l Z a0 hw a1 mc aD h0 S0.old SD AD ga E_a1 F_elementData F_size F_modCount) (allS (Or.inl (List.mem_of_getElem? (i := 0) rfl)) all0) (by decide +kernel : parseMethodDescriptor "()[Ljava/lang/Object;" = some ⟨[], some (.array (.object "java/lang/Object"))⟩) rfl rfl rfl d23_7 (by decide) (Nat.le_of_ble_eq_true rfl) (by decide) (by decide) (fun T2 h2 v2 S2 K2 q2 => ?_)
  obtain ⟨b2, rfl, g2, A2, Fe2, Fs2, Fm2⟩ := q2
  have V3 : own_AO Z h2 b2 [.null, .null, .null, .null, .null, .null, .null, .null, .null, .null] := A2
  show own_F p e below s Z _ _ _ _ _ (T2.setTop (mkF m 10 #[.val (.ref a1), .val (.ref e1), .val (.ref aD), .val (.int (0 : Int32))] [(.ref b2)]))
  refine own_F.of (fun _ => XS.astoreN S2.here S2.hx rfl (S2.dec d23_10) rfl rfl (l' := #[.val (.ref a1), .val (.ref e1), .val (.ref b2), .val (.int (0 : Int32))]) rfl) ?_
  show own_F p e below s Z _ _ _ _ _ (T2.setTop (mkF m 11 #[.val (.ref a1), .val (.ref e1), .val (.ref b2), .val (.int (0 : Int32))] []))
  refine own_F.of (fun _ => XS.aloadN S2.here S2.hx rfl (S2.dec d23_11) rfl rfl) ?_
  show own_F p e below s Z _ _ _ _ _ (T2.setTop (mkF m 12 #[.val (.ref a1), .val (.ref e1), .val (.ref b2), .val (.int (0 : Int32))] [(.ref b2)]))
  refine own_F.of (fun _ => XS.iloadN S2.here S2.hx rfl (S2.dec d23_12) rfl) ?_
  show own_F p e below s Z _ _ _ _ _ (T2.setTop (mkF m 13 #[.val (.ref a1), .val (.ref e1), .val (.ref b2), .val (.int (0 : Int32))] [(.int (0 : Int32)), (.ref b2)]))
  refine own_F.of (fun _ => XS.aloadN S2.here S2.hx rfl (S2.dec d23_13) rfl rfl) ?_
  show own_F p e below s Z _ _ _ _ _ (T2.setTop (mkF m 14 #[.val (.ref a1), .val (.ref e1), .val (.ref b2), .val (.int (0 : Int32))] [(.ref e1), (.int (0 : Int32)), (.ref b2)]))
  have fq5 := (X_e1.keep K2)
  refine own_aast S2 V3 (by decide) (Nat.le_of_ble_eq_true rfl) (Ins.of_exa fq5 (own_w hw 177 rfl)) d23_14 (Or.inr g2) (fun T4 h4 S4 W4 A4 => ?_)
  have V6 : own_AO Z h4 b2 [(.ref e1), .null, .null, .null, .null, .null, .null, .null, .null, .null] := A4
  show own_F p e below s Z _ _ _ _ _ (T4.setTop (mkF m 15 #[.val (.ref a1), .val (.ref e1), .val (.ref b2), .val (.int (0 : Int32))] []))
  refine own_F.of (fun _ => XS.aloadN S4.here S4.hx rfl (S4.dec d23_15) rfl rfl) ?_
  show own_F p e below s Z _ _ _ _ _ (T4.setTop (mkF m 16 #[.val (.ref a1), .val (.ref e1), .val (.ref b2), .val (.int (0 : Int32))] [(.ref a1)]))
  refine own_F.of (fun _ => XS.iloadN S4.here S4.hx rfl (S4.dec d23_16) rfl) ?_
  show own_F p e below s Z _ _ _ _ _ (T4.setTop (mkF m 17 #[.val (.ref a1), .val (.ref e1), .val (.ref b2), .val (.int (0 : Int32))] [(.int (0 : Int32)), (.ref a1)]))
  refine own_F.of (fun _ => XS.iconst S4.here S4.hx rfl (S4.dec d23_17)) ?_
  show own_F p e below s Z _ _ _ _ _ (T4.setTop (mkF m 18 #[.val (.ref a1), .val (.ref e1), .val (.ref b2), .val (.int (0 : Int32))] [(.int (1 : Int32)), (.int (0 : Int32)), (.ref a1)]))
  refine own_F.of (fun _ => XS.iadd S4.here S4.hx rfl (S4.dec d23_18) rfl) ?_
  show own_F p e below s Z _ _ _ _ _ (T4.setTop (mkF m 19 #[.val (.ref a1), .val (.ref e1), .val (.ref b2), .val (.int (0 : Int32))] [(.int (1 : Int32)), (.ref a1)]))
  have fq7 := (Fs2.other W4 (Or.inl (ne_exa ((E_a1.keep K2).wr W4) V6.exa (by decide))))
  have fq8 := ((E_a1.keep K2).wr W4)
  refine own_putF S4 (host := "") (Or.inl (own_w hw 61 rfl)) Via.refl fq7 fq8 (Or.inl (own_w hw 62 rfl)) (own_w hw 1 rfl) (ty := .int) (by decide) rfl rfl d23_19 (Or.inl (List.mem_of_getElem? (i := 0) rfl)) (fun T9 h9 S9 W9 => ?_)
  have Fw9 := fq7.same W9
  show own_F p e below s Z _ _ _ _ _ (T9.setTop (mkF m 22 #[.val (.ref a1), .val (.ref e1), .val (.ref b2), .val (.int (0 : Int32))] []))
  have fq10 := (V6.other W9 (ne_exa V6.exa fq8 (by decide)))
  have fq11 := ((Fe2.other W4 (Or.inl (ne_exa fq8 V6.exa (by decide)))).other W9 (Or.inr (slot_ne (C := "java/util/ArrayList") (Or.inl (own_w hw 25 rfl)) (Or.inl (own_w hw 62 rfl)) (by decide) (t := (.array (.object "java/lang/Object"))) (t' := .int) (by decide) (by decide))))
  have fq12 := ((Fm2.other W4 (Or.inl (ne_exa fq8 V6.exa (by decide)))).other W9 (Or.inr (slot_ne (C := "java/util/ArrayList") (Or.inl (own_w hw 22 rfl)) (Or.inl (own_w hw 62 rfl)) (by decide) (t := .int) (t' := .int) (by decide) (by decide))))
  refine own_retV S9 d23_22 (by decide) (by decide) ?_
  exact ⟨rfl, _, g2, fq10, fq11, Fw9, fq12⟩
theorem d22_0 : decode jdk_38_method_25_code 0 = .ok (.aload_n 0, 1) := by decide +kernel
theorem d22_1 : decode jdk_38_method_25_code 1 = .ok (.dup, 1) := by decide +kernel
theorem d22_2 : decode jdk_38_method_25_code 2 = .ok (.getfield 63, 3) := by decide +kernel
theorem d22_5 : decode jdk_38_method_25_code 5 = .ok (.iconst 1, 1) := by decide +kernel
theorem d22_6 : decode jdk_38_method_25_code 6 = .ok (.iadd, 1) := by decide +kernel
theorem d22_7 : decode jdk_38_method_25_code 7 = .ok (.putfield 63, 3) := by decide +kernel
theorem d22_10 : decode jdk_38_method_25_code 10 = .ok (.aload_n 0, 1) := by decide +kernel
theorem d22_11 : decode jdk_38_method_25_code 11 = .ok (.aload_n 1, 1) := by decide +kernel
theorem d22_12 : decode jdk_38_method_25_code 12 = .ok (.aload_n 0, 1) := by decide +kernel
theorem d22_13 : decode jdk_38_method_25_code 13 = .ok (.getfield 9, 3) := by decide +kernel
theorem d22_16 : decode jdk_38_method_25_code 16 = .ok (.aload_n 0, 1) := by decide +kernel
theorem d22_17 : decode jdk_38_method_25_code 17 = .ok (.getfield 48, 3) := by decide +kernel
theorem d22_20 : decode jdk_38_method_25_code 20 = .ok (.invokevirtual 131, 3) := by decide +kernel
theorem d22_23 : decode jdk_38_method_25_code 23 = .ok (.iconst 1, 1) := by decide +kernel
theorem d22_24 : decode jdk_38_method_25_code 24 = .ok (.ireturn, 1) := by decide +kernel
theorem pn22 : plainFor (⟨"java/util/ArrayList", "add", "(Ljava/lang/Object;)Z"⟩ : MethodName) = true := plainFor_of_name (by first | (simp [plainName, overriddenIn]; done) | decide +kernel)
set_option maxRecDepth 65536 in
set_option maxHeartbeats 40000000 in
theorem own_add_0 (l : Launch) (Z : State) (a0 : Array Value) (hw : ∀ d ∈ tables_1, d.before a0 Z = true) (a1 : Addr) (e1 : Addr) (aD : Addr) (mc : Int32) (h0 : Heap) (hO : Ext Z.heap h0) (SD : Sta Z Z.heap "java/util/ArrayList" "DEFAULTCAPACITY_EMPTY_ELEMENTDATA" "[Ljava/lang/Object;" (.ref aD)) (AD : own_A Z Z.heap aD (.object "java/lang/Object") []) (ga : Z.heap.size ≤ a1) (E_a1 : Exa Z h0 a1 "java/util/ArrayList") (F_elementData : Fld Z h0 a1 "java/util/ArrayList" "elementData" "[Ljava/lang/Object;" (.ref aD)) (F_size : Fld Z h0 a1 "java/util/ArrayList" "size" "I" (.int 0)) (F_modCount : Fld Z h0 a1 "java/util/AbstractList" "modCount" "I" (.int mc)) (X_e1 : Exa Z h0 e1 "java/lang/Integer") :
    own_C l Z (⟨"java/util/ArrayList", "add", "(Ljava/lang/Object;)Z"⟩ : MethodName) jdk_38_method_25_code 2 (some .boolean) [] ({ frames := 4, cells := 1, slots := 10, locals := 56 } : Room) [a1] #[(.ref a1), (.ref e1)] h0 (fun v h => v = some (.int 1) ∧ ∃ b, h0.size ≤ b ∧ own_AO Z h b [(.ref e1), .null, .null, .null, .null, .null, .null, .null, .null, .null] ∧ Fld Z h a1 "java/util/ArrayList" "elementData" "[Ljava/lang/Object;" (.ref b) ∧ Fld Z h a1 "java/util/ArrayList" "size" "I" (.int 1) ∧ Fld Z h a1 "java/util/AbstractList" "modCount" "I" (.int (mc + (1 : Int32)))) := by
  refine own_C.of pn22 hO (allS ga all0) ?_
  intro p e s m below meth c T0 S0
  refine own_F.cast (by first | (simp [entryFrame, mkF, argsToLocals, Value.category]; done) | rfl : entryFrame m #[(.ref a1), (.ref e1)] 2 = mkF m 0 #[.val (.ref a1), .val (.ref e1)] []) ?_
  show own_F p e below s Z _ _ _ _ _ (T0.setTop (mkF m 0 #[.val (.ref a1), .val (.ref e1)] []))
  refine own_F.of (fun _ => XS.aloadN S0.here S0.hx rfl (S0.dec d22_0) rfl rfl) ?_
  show own_F p e below s Z _ _ _ _ _ (T0.setTop (mkF m 1 #[.val (.ref a1), .val (.ref e1)] [(.ref a1)]))
  refine own_F.of (fun _ => XS.dup S0.here S0.hx rfl (S0.dec d22_1) rfl rfl) ?_
  show own_F p e below s Z _ _ _ _ _ (T0.setTop (mkF m 2 #[.val (.ref a1), .val (.ref e1)] [(.ref a1), (.ref a1)]))
  refine own_getF S0 (host := "") (Or.inl (own_w hw 154 rfl)) (Via.of (own_w hw 155 rfl)) F_modCount d22_2 (fun T1 S1 => ?_)
  show own_F p e below s Z _ _ _ _ _ (T1.setTop (mkF m 5 #[.val (.ref a1), .val (.ref e1)] [(.int mc), (.ref a1)]))
  refine own_F.of (fun _ => XS.iconst S1.here S1.hx rfl (S1.dec d22_5)) ?_
  show own_F p e below s Z _ _ _ _ _ (T1.setTop (mkF m 6 #[.val (.ref a1), .val (.ref e1)] [(.int (1 : Int32)), (.int mc), (.ref a1)]))
  refine own_F.of (fun _ => XS.iadd S1.here S1.hx rfl (S1.dec d22_6) rfl) ?_
  show own_F p e below s Z _ _ _ _ _ (T1.setTop (mkF m 7 #[.val (.ref a1), .val (.ref e1)] [(.int (mc + (1 : Int32))), (.ref a1)]))
  refine own_putF S1 (host := "") (Or.inl (own_w hw 154 rfl)) (Via.of (own_w hw 155 rfl)) F_modCount E_a1 (Or.inl (own_w hw 22 rfl)) (own_w hw 1 rfl) (ty := .int) (by decide) rfl rfl d22_7 (Or.inl (List.mem_of_getElem? (i := 0) rfl)) (fun T2 h2 S2 W2 => ?_)
  have Fw2 := F_modCount.same W2
  show own_F p e below s Z _ _ _ _ _ (T2.setTop (mkF m 10 #[.val (.ref a1), .val (.ref e1)] []))
  refine own_F.of (fun _ => XS.aloadN S2.here S2.hx rfl (S2.dec d22_10) rfl rfl) ?_
  show own_F p e below s Z _ _ _ _ _ (T2.setTop (mkF m 11 #[.val (.ref a1), .val (.ref e1)] [(.ref a1)]))
  refine own_F.of (fun _ => XS.aloadN S2.here S2.hx rfl (S2.dec d22_11) rfl rfl) ?_
  show own_F p e below s Z _ _ _ _ _ (T2.setTop (mkF m 12 #[.val (.ref a1), .val (.ref e1)] [(.ref e1), (.ref a1)]))
  refine own_F.of (fun _ => XS.aloadN S2.here S2.hx rfl (S2.dec d22_12) rfl rfl) ?_
  show own_F p e below s Z _ _ _ _ _ (T2.setTop (mkF m 13 #[.val (.ref a1), .val (.ref e1)] [(.ref a1), (.ref e1), (.ref a1)]))
  have fq3 := (F_elementData.other W2 (Or.inr (slot_ne (C := "java/util/ArrayList") (Or.inl (own_w hw 25 rfl)) (Or.inl (own_w hw 22 rfl)) (by decide) (t := (.array (.object "java/lang/Object"))) (t' := .int) (by decide) (by decide))))
  refine own_getF S2 (host := "") (Or.inl (own_w hw 24 rfl)) Via.refl fq3 d22_13 (fun T4 S4 => ?_)
  show own_F p e below s Z _ _ _ _ _ (T4.setTop (mkF m 16 #[.val (.ref a1), .val (.ref e1)] [(.ref aD), (.ref e1), (.ref a1)]))
  refine own_F.of (fun _ => XS.aloadN S4.here S4.hx rfl (S4.dec d22_16) rfl rfl) ?_
  show own_F p e below s Z _ _ _ _ _ (T4.setTop (mkF m 17 #[.val (.ref a1), .val (.ref e1)] [(.ref a1), (.ref aD), (.ref e1), (.ref a1)]))
  have fq5 := (F_size.other W2 (Or.inr (slot_ne (C := "java/util/ArrayList") (Or.inl (own_w hw 62 rfl)) (Or.inl (own_w hw 22 rfl)) (by decide) (t := .int) (t' := .int) (by decide) (by decide))))
  refine own_getF S4 (host := "") (Or.inl (own_w hw 61 rfl)) Via.refl fq5 d22_17 (fun T6 S6 => ?_)
  show own_F p e below s Z _ _ _ _ _ (T6.setTop (mkF m 20 #[.val (.ref a1), .val (.ref e1)] [(.int (0 : Int32)), (.ref aD), (.ref e1), (.ref a1)]))
  have fq7 := (E_a1.wr W2)
  have fq8 := (X_e1.wr W2)
  refine own_callP S6 (y := (⟨"java/util/ArrayList", "add", "(Ljava/lang/Object;[Ljava/lang/Object;I)V"⟩ : MethodName)) (own_w hw 156 rfl) (own_w hw 157 rfl) (own_w hw 1 rfl) (own_w hw 158 rfl) (own_w hw 160 rfl) (own_w hw 2 rfl) (by decide) fq7 (argsL := [(.ref e1), (.ref aD), (.int (0 : Int32))]) (rest := []) (own_add3_0 l Z a0 hw a1 e1 aD (mc + (1 : Int32)) h2 S6.old SD AD ga fq7 fq3 fq5 Fw2 fq8) (allS (Or.inl (List.mem_of_getElem? (i := 0) rfl)) all0) (by decide +kernel : parseMethodDescriptor "(Ljava/lang/Object;[Ljava/lang/Object;I)V" = some ⟨[(.object "java/lang/Object"), (.array (.object "java/lang/Object")), .int], none⟩) rfl rfl rfl d22_20 (by decide) (Nat.le_of_ble_eq_true rfl) (by decide) (by decide) (fun T9 h9 v9 S9 K9 q9 => ?_)
  obtain ⟨rfl, b9, g9, A9, Fe9, Fs9, Fm9⟩ := q9
  show own_F p e below s Z _ _ _ _ _ (T9.setTop (mkF m 23 #[.val (.ref a1), .val (.ref e1)] []))
  refine own_F.of (fun _ => XS.iconst S9.here S9.hx rfl (S9.dec d22_23)) ?_
  show own_F p e below s Z _ _ _ _ _ (T9.setTop (mkF m 24 #[.val (.ref a1), .val (.ref e1)] [(.int (1 : Int32))]))
  refine own_retZ S9 (by simp) d22_24 (by decide) (by decide) ?_
  exact ⟨rfl, ⟨b9, (Nat.le_trans (by have := W2.size; omega) g9), A9, Fe9, Fs9, Fm9⟩⟩
set_option maxRecDepth 65536 in
set_option maxHeartbeats 40000000 in
theorem own_add3_1 (l : Launch) (Z : State) (a0 : Array Value) (hw : ∀ d ∈ tables_1, d.before a0 Z = true) (a1 aE : Addr) (e1 e2 : Addr) (mc : Int32) (h0 : Heap) (hO : Ext Z.heap h0) (ga : Z.heap.size ≤ a1) (E_a1 : Exa Z h0 a1 "java/util/ArrayList") (gE : Z.heap.size ≤ aE) (AE : own_AO Z h0 aE [(.ref e1), .null, .null, .null, .null, .null, .null, .null, .null, .null]) (F_elementData : Fld Z h0 a1 "java/util/ArrayList" "elementData" "[Ljava/lang/Object;" (.ref aE)) (F_size : Fld Z h0 a1 "java/util/ArrayList" "size" "I" (.int (1 : Int32))) (F_modCount : Fld Z h0 a1 "java/util/AbstractList" "modCount" "I" (.int mc)) (X_e1 : Exa Z h0 e1 "java/lang/Integer") (X_e2 : Exa Z h0 e2 "java/lang/Integer") :
    own_C l Z (⟨"java/util/ArrayList", "add", "(Ljava/lang/Object;[Ljava/lang/Object;I)V"⟩ : MethodName) jdk_38_method_24_code 4 none [] ({ frames := 0, cells := 0, slots := 0, locals := 0 } : Room) [a1, aE] #[(.ref a1), (.ref e2), (.ref aE), (.int (1 : Int32))] h0 (fun v h => v = none ∧ own_AO Z h aE [(.ref e1), (.ref e2), .null, .null, .null, .null, .null, .null, .null, .null] ∧ Fld Z h a1 "java/util/ArrayList" "elementData" "[Ljava/lang/Object;" (.ref aE) ∧ Fld Z h a1 "java/util/ArrayList" "size" "I" (.int (2 : Int32)) ∧ Fld Z h a1 "java/util/AbstractList" "modCount" "I" (.int mc)) := by
  refine own_C.of pn23 hO (allS ga (allS gE all0)) ?_
  intro p e s m below meth c T0 S0
  refine own_F.cast (by first | (simp [entryFrame, mkF, argsToLocals, Value.category]; done) | rfl : entryFrame m #[(.ref a1), (.ref e2), (.ref aE), (.int (1 : Int32))] 4 = mkF m 0 #[.val (.ref a1), .val (.ref e2), .val (.ref aE), .val (.int (1 : Int32))] []) ?_
  show own_F p e below s Z _ _ _ _ _ (T0.setTop (mkF m 0 #[.val (.ref a1), .val (.ref e2), .val (.ref aE), .val (.int (1 : Int32))] []))
  refine own_F.of (fun _ => XS.iloadN S0.here S0.hx rfl (S0.dec d23_0) rfl) ?_
  show own_F p e below s Z _ _ _ _ _ (T0.setTop (mkF m 1 #[.val (.ref a1), .val (.ref e2), .val (.ref aE), .val (.int (1 : Int32))] [(.int (1 : Int32))]))
  refine own_F.of (fun _ => XS.aloadN S0.here S0.hx rfl (S0.dec d23_1) rfl rfl) ?_
  show own_F p e below s Z _ _ _ _ _ (T0.setTop (mkF m 2 #[.val (.ref a1), .val (.ref e2), .val (.ref aE), .val (.int (1 : Int32))] [(.ref aE), (.int (1 : Int32))]))
  refine own_len S0 AE.A d23_2 ?_
  show own_F p e below s Z _ _ _ _ _ (T0.setTop (mkF m 3 #[.val (.ref a1), .val (.ref e2), .val (.ref aE), .val (.int (1 : Int32))] [(.int (10 : Int32)), (.int (1 : Int32))]))
  refine own_icmp S0 11 d23_3 (by decide) (by decide) (fun (hc3_1 : ¬ ((1 : Int32) = (10 : Int32))) => ?_) (fun (hc3_1 : (1 : Int32) = (10 : Int32)) => False.elim (absurd hc3_1 (by decide)))
  show own_F p e below s Z _ _ _ _ _ (T0.setTop (mkF m 11 #[.val (.ref a1), .val (.ref e2), .val (.ref aE), .val (.int (1 : Int32))] []))
  refine own_F.of (fun _ => XS.aloadN S0.here S0.hx rfl (S0.dec d23_11) rfl rfl) ?_
  show own_F p e below s Z _ _ _ _ _ (T0.setTop (mkF m 12 #[.val (.ref a1), .val (.ref e2), .val (.ref aE), .val (.int (1 : Int32))] [(.ref aE)]))
  refine own_F.of (fun _ => XS.iloadN S0.here S0.hx rfl (S0.dec d23_12) rfl) ?_
  show own_F p e below s Z _ _ _ _ _ (T0.setTop (mkF m 13 #[.val (.ref a1), .val (.ref e2), .val (.ref aE), .val (.int (1 : Int32))] [(.int (1 : Int32)), (.ref aE)]))
  refine own_F.of (fun _ => XS.aloadN S0.here S0.hx rfl (S0.dec d23_13) rfl rfl) ?_
  show own_F p e below s Z _ _ _ _ _ (T0.setTop (mkF m 14 #[.val (.ref a1), .val (.ref e2), .val (.ref aE), .val (.int (1 : Int32))] [(.ref e2), (.int (1 : Int32)), (.ref aE)]))
  refine own_aast S0 AE (by decide) (Nat.le_of_ble_eq_true rfl) (Ins.of_exa X_e2 (own_w hw 177 rfl)) d23_14 (Or.inl (List.mem_of_getElem? (i := 1) rfl)) (fun T2 h2 S2 W2 A2 => ?_)
  have V3 : own_AO Z h2 aE [(.ref e1), (.ref e2), .null, .null, .null, .null, .null, .null, .null, .null] := A2
  show own_F p e below s Z _ _ _ _ _ (T2.setTop (mkF m 15 #[.val (.ref a1), .val (.ref e2), .val (.ref aE), .val (.int (1 : Int32))] []))
  refine own_F.of (fun _ => XS.aloadN S2.here S2.hx rfl (S2.dec d23_15) rfl rfl) ?_
  show own_F p e below s Z _ _ _ _ _ (T2.setTop (mkF m 16 #[.val (.ref a1), .val (.ref e2), .val (.ref aE), .val (.int (1 : Int32))] [(.ref a1)]))
  refine own_F.of (fun _ => XS.iloadN S2.here S2.hx rfl (S2.dec d23_16) rfl) ?_
  show own_F p e below s Z _ _ _ _ _ (T2.setTop (mkF m 17 #[.val (.ref a1), .val (.ref e2), .val (.ref aE), .val (.int (1 : Int32))] [(.int (1 : Int32)), (.ref a1)]))
  refine own_F.of (fun _ => XS.iconst S2.here S2.hx rfl (S2.dec d23_17)) ?_
  show own_F p e below s Z _ _ _ _ _ (T2.setTop (mkF m 18 #[.val (.ref a1), .val (.ref e2), .val (.ref aE), .val (.int (1 : Int32))] [(.int (1 : Int32)), (.int (1 : Int32)), (.ref a1)]))
  refine own_F.of (fun _ => XS.iadd S2.here S2.hx rfl (S2.dec d23_18) rfl) ?_
  show own_F p e below s Z _ _ _ _ _ (T2.setTop (mkF m 19 #[.val (.ref a1), .val (.ref e2), .val (.ref aE), .val (.int (1 : Int32))] [(.int (2 : Int32)), (.ref a1)]))
  have fq4 := (F_size.other W2 (Or.inl (ne_exa (E_a1.wr W2) V3.exa (by decide))))
  have fq5 := (E_a1.wr W2)
  refine own_putF S2 (host := "") (Or.inl (own_w hw 61 rfl)) Via.refl fq4 fq5 (Or.inl (own_w hw 62 rfl)) (own_w hw 1 rfl) (ty := .int) (by decide) rfl rfl d23_19 (Or.inl (List.mem_of_getElem? (i := 0) rfl)) (fun T6 h6 S6 W6 => ?_)
  have Fw6 := fq4.same W6
  show own_F p e below s Z _ _ _ _ _ (T6.setTop (mkF m 22 #[.val (.ref a1), .val (.ref e2), .val (.ref aE), .val (.int (1 : Int32))] []))
  have fq7 := (V3.other W6 (ne_exa V3.exa fq5 (by decide)))
  have fq8 := ((F_elementData.other W2 (Or.inl (ne_exa fq5 V3.exa (by decide)))).other W6 (Or.inr (slot_ne (C := "java/util/ArrayList") (Or.inl (own_w hw 25 rfl)) (Or.inl (own_w hw 62 rfl)) (by decide) (t := (.array (.object "java/lang/Object"))) (t' := .int) (by decide) (by decide))))
  have fq9 := ((F_modCount.other W2 (Or.inl (ne_exa fq5 V3.exa (by decide)))).other W6 (Or.inr (slot_ne (C := "java/util/ArrayList") (Or.inl (own_w hw 22 rfl)) (Or.inl (own_w hw 62 rfl)) (by decide) (t := .int) (t' := .int) (by decide) (by decide))))
  refine own_retV S6 d23_22 (by decide) (by decide) ?_
  exact ⟨rfl, fq7, fq8, Fw6, fq9⟩
set_option maxRecDepth 65536 in
set_option maxHeartbeats 40000000 in
theorem own_add_1 (l : Launch) (Z : State) (a0 : Array Value) (hw : ∀ d ∈ tables_1, d.before a0 Z = true) (a1 aE : Addr) (e1 e2 : Addr) (mc : Int32) (h0 : Heap) (hO : Ext Z.heap h0) (ga : Z.heap.size ≤ a1) (E_a1 : Exa Z h0 a1 "java/util/ArrayList") (gE : Z.heap.size ≤ aE) (AE : own_AO Z h0 aE [(.ref e1), .null, .null, .null, .null, .null, .null, .null, .null, .null]) (F_elementData : Fld Z h0 a1 "java/util/ArrayList" "elementData" "[Ljava/lang/Object;" (.ref aE)) (F_size : Fld Z h0 a1 "java/util/ArrayList" "size" "I" (.int (1 : Int32))) (F_modCount : Fld Z h0 a1 "java/util/AbstractList" "modCount" "I" (.int mc)) (X_e1 : Exa Z h0 e1 "java/lang/Integer") (X_e2 : Exa Z h0 e2 "java/lang/Integer") :
    own_C l Z (⟨"java/util/ArrayList", "add", "(Ljava/lang/Object;)Z"⟩ : MethodName) jdk_38_method_25_code 2 (some .boolean) [] ({ frames := 1, cells := 0, slots := 0, locals := 15 } : Room) [a1, aE] #[(.ref a1), (.ref e2)] h0 (fun v h => v = some (.int 1) ∧ own_AO Z h aE [(.ref e1), (.ref e2), .null, .null, .null, .null, .null, .null, .null, .null] ∧ Fld Z h a1 "java/util/ArrayList" "elementData" "[Ljava/lang/Object;" (.ref aE) ∧ Fld Z h a1 "java/util/ArrayList" "size" "I" (.int (2 : Int32)) ∧ Fld Z h a1 "java/util/AbstractList" "modCount" "I" (.int (mc + (1 : Int32)))) := by
  refine own_C.of pn22 hO (allS ga (allS gE all0)) ?_
  intro p e s m below meth c T0 S0
  refine own_F.cast (by first | (simp [entryFrame, mkF, argsToLocals, Value.category]; done) | rfl : entryFrame m #[(.ref a1), (.ref e2)] 2 = mkF m 0 #[.val (.ref a1), .val (.ref e2)] []) ?_
  show own_F p e below s Z _ _ _ _ _ (T0.setTop (mkF m 0 #[.val (.ref a1), .val (.ref e2)] []))
  refine own_F.of (fun _ => XS.aloadN S0.here S0.hx rfl (S0.dec d22_0) rfl rfl) ?_
  show own_F p e below s Z _ _ _ _ _ (T0.setTop (mkF m 1 #[.val (.ref a1), .val (.ref e2)] [(.ref a1)]))
  refine own_F.of (fun _ => XS.dup S0.here S0.hx rfl (S0.dec d22_1) rfl rfl) ?_
  show own_F p e below s Z _ _ _ _ _ (T0.setTop (mkF m 2 #[.val (.ref a1), .val (.ref e2)] [(.ref a1), (.ref a1)]))
  refine own_getF S0 (host := "") (Or.inl (own_w hw 154 rfl)) (Via.of (own_w hw 155 rfl)) F_modCount d22_2 (fun T1 S1 => ?_)
  show own_F p e below s Z _ _ _ _ _ (T1.setTop (mkF m 5 #[.val (.ref a1), .val (.ref e2)] [(.int mc), (.ref a1)]))
  refine own_F.of (fun _ => XS.iconst S1.here S1.hx rfl (S1.dec d22_5)) ?_
  show own_F p e below s Z _ _ _ _ _ (T1.setTop (mkF m 6 #[.val (.ref a1), .val (.ref e2)] [(.int (1 : Int32)), (.int mc), (.ref a1)]))
  refine own_F.of (fun _ => XS.iadd S1.here S1.hx rfl (S1.dec d22_6) rfl) ?_
  show own_F p e below s Z _ _ _ _ _ (T1.setTop (mkF m 7 #[.val (.ref a1), .val (.ref e2)] [(.int (mc + (1 : Int32))), (.ref a1)]))
  refine own_putF S1 (host := "") (Or.inl (own_w hw 154 rfl)) (Via.of (own_w hw 155 rfl)) F_modCount E_a1 (Or.inl (own_w hw 22 rfl)) (own_w hw 1 rfl) (ty := .int) (by decide) rfl rfl d22_7 (Or.inl (List.mem_of_getElem? (i := 0) rfl)) (fun T2 h2 S2 W2 => ?_)
  have Fw2 := F_modCount.same W2
  show own_F p e below s Z _ _ _ _ _ (T2.setTop (mkF m 10 #[.val (.ref a1), .val (.ref e2)] []))
  refine own_F.of (fun _ => XS.aloadN S2.here S2.hx rfl (S2.dec d22_10) rfl rfl) ?_
  show own_F p e below s Z _ _ _ _ _ (T2.setTop (mkF m 11 #[.val (.ref a1), .val (.ref e2)] [(.ref a1)]))
  refine own_F.of (fun _ => XS.aloadN S2.here S2.hx rfl (S2.dec d22_11) rfl rfl) ?_
  show own_F p e below s Z _ _ _ _ _ (T2.setTop (mkF m 12 #[.val (.ref a1), .val (.ref e2)] [(.ref e2), (.ref a1)]))
  refine own_F.of (fun _ => XS.aloadN S2.here S2.hx rfl (S2.dec d22_12) rfl rfl) ?_
  show own_F p e below s Z _ _ _ _ _ (T2.setTop (mkF m 13 #[.val (.ref a1), .val (.ref e2)] [(.ref a1), (.ref e2), (.ref a1)]))
  have fq3 := (F_elementData.other W2 (Or.inr (slot_ne (C := "java/util/ArrayList") (Or.inl (own_w hw 25 rfl)) (Or.inl (own_w hw 22 rfl)) (by decide) (t := (.array (.object "java/lang/Object"))) (t' := .int) (by decide) (by decide))))
  refine own_getF S2 (host := "") (Or.inl (own_w hw 24 rfl)) Via.refl fq3 d22_13 (fun T4 S4 => ?_)
  show own_F p e below s Z _ _ _ _ _ (T4.setTop (mkF m 16 #[.val (.ref a1), .val (.ref e2)] [(.ref aE), (.ref e2), (.ref a1)]))
  refine own_F.of (fun _ => XS.aloadN S4.here S4.hx rfl (S4.dec d22_16) rfl rfl) ?_
  show own_F p e below s Z _ _ _ _ _ (T4.setTop (mkF m 17 #[.val (.ref a1), .val (.ref e2)] [(.ref a1), (.ref aE), (.ref e2), (.ref a1)]))
  have fq5 := (F_size.other W2 (Or.inr (slot_ne (C := "java/util/ArrayList") (Or.inl (own_w hw 62 rfl)) (Or.inl (own_w hw 22 rfl)) (by decide) (t := .int) (t' := .int) (by decide) (by decide))))
  refine own_getF S4 (host := "") (Or.inl (own_w hw 61 rfl)) Via.refl fq5 d22_17 (fun T6 S6 => ?_)
  show own_F p e below s Z _ _ _ _ _ (T6.setTop (mkF m 20 #[.val (.ref a1), .val (.ref e2)] [(.int (1 : Int32)), (.ref aE), (.ref e2), (.ref a1)]))
  have fq7 := (E_a1.wr W2)
  have fq8 := (AE.other W2 (ne_exa (AE.exa.wr W2) fq7 (by decide)))
  have fq9 := (X_e1.wr W2)
  have fq10 := (X_e2.wr W2)
  refine own_callP S6 (y := (⟨"java/util/ArrayList", "add", "(Ljava/lang/Object;[Ljava/lang/Object;I)V"⟩ : MethodName)) (own_w hw 156 rfl) (own_w hw 157 rfl) (own_w hw 1 rfl) (own_w hw 158 rfl) (own_w hw 160 rfl) (own_w hw 2 rfl) (by decide) fq7 (argsL := [(.ref e2), (.ref aE), (.int (1 : Int32))]) (rest := []) (own_add3_1 l Z a0 hw a1 aE e1 e2 (mc + (1 : Int32)) h2 S6.old ga fq7 gE fq8 fq3 fq5 Fw2 fq9 fq10) (allS (Or.inl (List.mem_of_getElem? (i := 0) rfl)) (allS (Or.inl (List.mem_of_getElem? (i := 1) rfl)) all0)) (by decide +kernel : parseMethodDescriptor "(Ljava/lang/Object;[Ljava/lang/Object;I)V" = some ⟨[(.object "java/lang/Object"), (.array (.object "java/lang/Object")), .int], none⟩) rfl rfl rfl d22_20 (by decide) (Nat.le_of_ble_eq_true rfl) (by decide) (by decide) (fun T11 h11 v11 S11 K11 q11 => ?_)
  obtain ⟨rfl, A11, Fe11, Fs11, Fm11⟩ := q11
  show own_F p e below s Z _ _ _ _ _ (T11.setTop (mkF m 23 #[.val (.ref a1), .val (.ref e2)] []))
  refine own_F.of (fun _ => XS.iconst S11.here S11.hx rfl (S11.dec d22_23)) ?_
  show own_F p e below s Z _ _ _ _ _ (T11.setTop (mkF m 24 #[.val (.ref a1), .val (.ref e2)] [(.int (1 : Int32))]))
  refine own_retZ S11 (by simp) d22_24 (by decide) (by decide) ?_
  exact ⟨rfl, A11, Fe11, Fs11, Fm11⟩
set_option maxRecDepth 65536 in
set_option maxHeartbeats 40000000 in
theorem own_add3_2 (l : Launch) (Z : State) (a0 : Array Value) (hw : ∀ d ∈ tables_1, d.before a0 Z = true) (a1 aE : Addr) (e1 e2 e3 : Addr) (mc : Int32) (h0 : Heap) (hO : Ext Z.heap h0) (ga : Z.heap.size ≤ a1) (E_a1 : Exa Z h0 a1 "java/util/ArrayList") (gE : Z.heap.size ≤ aE) (AE : own_AO Z h0 aE [(.ref e1), (.ref e2), .null, .null, .null, .null, .null, .null, .null, .null]) (F_elementData : Fld Z h0 a1 "java/util/ArrayList" "elementData" "[Ljava/lang/Object;" (.ref aE)) (F_size : Fld Z h0 a1 "java/util/ArrayList" "size" "I" (.int (2 : Int32))) (F_modCount : Fld Z h0 a1 "java/util/AbstractList" "modCount" "I" (.int mc)) (X_e1 : Exa Z h0 e1 "java/lang/Integer") (X_e2 : Exa Z h0 e2 "java/lang/Integer") (X_e3 : Exa Z h0 e3 "java/lang/Integer") :
    own_C l Z (⟨"java/util/ArrayList", "add", "(Ljava/lang/Object;[Ljava/lang/Object;I)V"⟩ : MethodName) jdk_38_method_24_code 4 none [] ({ frames := 0, cells := 0, slots := 0, locals := 0 } : Room) [a1, aE] #[(.ref a1), (.ref e3), (.ref aE), (.int (2 : Int32))] h0 (fun v h => v = none ∧ own_AO Z h aE [(.ref e1), (.ref e2), (.ref e3), .null, .null, .null, .null, .null, .null, .null] ∧ Fld Z h a1 "java/util/ArrayList" "elementData" "[Ljava/lang/Object;" (.ref aE) ∧ Fld Z h a1 "java/util/ArrayList" "size" "I" (.int (3 : Int32)) ∧ Fld Z h a1 "java/util/AbstractList" "modCount" "I" (.int mc)) := by
  refine own_C.of pn23 hO (allS ga (allS gE all0)) ?_
  intro p e s m below meth c T0 S0
  refine own_F.cast (by first | (simp [entryFrame, mkF, argsToLocals, Value.category]; done) | rfl : entryFrame m #[(.ref a1), (.ref e3), (.ref aE), (.int (2 : Int32))] 4 = mkF m 0 #[.val (.ref a1), .val (.ref e3), .val (.ref aE), .val (.int (2 : Int32))] []) ?_
  show own_F p e below s Z _ _ _ _ _ (T0.setTop (mkF m 0 #[.val (.ref a1), .val (.ref e3), .val (.ref aE), .val (.int (2 : Int32))] []))
  refine own_F.of (fun _ => XS.iloadN S0.here S0.hx rfl (S0.dec d23_0) rfl) ?_
  show own_F p e below s Z _ _ _ _ _ (T0.setTop (mkF m 1 #[.val (.ref a1), .val (.ref e3), .val (.ref aE), .val (.int (2 : Int32))] [(.int (2 : Int32))]))
  refine own_F.of (fun _ => XS.aloadN S0.here S0.hx rfl (S0.dec d23_1) rfl rfl) ?_
  show own_F p e below s Z _ _ _ _ _ (T0.setTop (mkF m 2 #[.val (.ref a1), .val (.ref e3), .val (.ref aE), .val (.int (2 : Int32))] [(.ref aE), (.int (2 : Int32))]))
  refine own_len S0 AE.A d23_2 ?_
  show own_F p e below s Z _ _ _ _ _ (T0.setTop (mkF m 3 #[.val (.ref a1), .val (.ref e3), .val (.ref aE), .val (.int (2 : Int32))] [(.int (10 : Int32)), (.int (2 : Int32))]))
  refine own_icmp S0 11 d23_3 (by decide) (by decide) (fun (hc3_1 : ¬ ((2 : Int32) = (10 : Int32))) => ?_) (fun (hc3_1 : (2 : Int32) = (10 : Int32)) => False.elim (absurd hc3_1 (by decide)))
  show own_F p e below s Z _ _ _ _ _ (T0.setTop (mkF m 11 #[.val (.ref a1), .val (.ref e3), .val (.ref aE), .val (.int (2 : Int32))] []))
  refine own_F.of (fun _ => XS.aloadN S0.here S0.hx rfl (S0.dec d23_11) rfl rfl) ?_
  show own_F p e below s Z _ _ _ _ _ (T0.setTop (mkF m 12 #[.val (.ref a1), .val (.ref e3), .val (.ref aE), .val (.int (2 : Int32))] [(.ref aE)]))
  refine own_F.of (fun _ => XS.iloadN S0.here S0.hx rfl (S0.dec d23_12) rfl) ?_
  show own_F p e below s Z _ _ _ _ _ (T0.setTop (mkF m 13 #[.val (.ref a1), .val (.ref e3), .val (.ref aE), .val (.int (2 : Int32))] [(.int (2 : Int32)), (.ref aE)]))
  refine own_F.of (fun _ => XS.aloadN S0.here S0.hx rfl (S0.dec d23_13) rfl rfl) ?_
  show own_F p e below s Z _ _ _ _ _ (T0.setTop (mkF m 14 #[.val (.ref a1), .val (.ref e3), .val (.ref aE), .val (.int (2 : Int32))] [(.ref e3), (.int (2 : Int32)), (.ref aE)]))
  refine own_aast S0 AE (by decide) (Nat.le_of_ble_eq_true rfl) (Ins.of_exa X_e3 (own_w hw 177 rfl)) d23_14 (Or.inl (List.mem_of_getElem? (i := 1) rfl)) (fun T2 h2 S2 W2 A2 => ?_)
  have V3 : own_AO Z h2 aE [(.ref e1), (.ref e2), (.ref e3), .null, .null, .null, .null, .null, .null, .null] := A2
  show own_F p e below s Z _ _ _ _ _ (T2.setTop (mkF m 15 #[.val (.ref a1), .val (.ref e3), .val (.ref aE), .val (.int (2 : Int32))] []))
  refine own_F.of (fun _ => XS.aloadN S2.here S2.hx rfl (S2.dec d23_15) rfl rfl) ?_
  show own_F p e below s Z _ _ _ _ _ (T2.setTop (mkF m 16 #[.val (.ref a1), .val (.ref e3), .val (.ref aE), .val (.int (2 : Int32))] [(.ref a1)]))
  refine own_F.of (fun _ => XS.iloadN S2.here S2.hx rfl (S2.dec d23_16) rfl) ?_
  show own_F p e below s Z _ _ _ _ _ (T2.setTop (mkF m 17 #[.val (.ref a1), .val (.ref e3), .val (.ref aE), .val (.int (2 : Int32))] [(.int (2 : Int32)), (.ref a1)]))
  refine own_F.of (fun _ => XS.iconst S2.here S2.hx rfl (S2.dec d23_17)) ?_
  show own_F p e below s Z _ _ _ _ _ (T2.setTop (mkF m 18 #[.val (.ref a1), .val (.ref e3), .val (.ref aE), .val (.int (2 : Int32))] [(.int (1 : Int32)), (.int (2 : Int32)), (.ref a1)]))
  refine own_F.of (fun _ => XS.iadd S2.here S2.hx rfl (S2.dec d23_18) rfl) ?_
  show own_F p e below s Z _ _ _ _ _ (T2.setTop (mkF m 19 #[.val (.ref a1), .val (.ref e3), .val (.ref aE), .val (.int (2 : Int32))] [(.int (3 : Int32)), (.ref a1)]))
  have fq4 := (F_size.other W2 (Or.inl (ne_exa (E_a1.wr W2) V3.exa (by decide))))
  have fq5 := (E_a1.wr W2)
  refine own_putF S2 (host := "") (Or.inl (own_w hw 61 rfl)) Via.refl fq4 fq5 (Or.inl (own_w hw 62 rfl)) (own_w hw 1 rfl) (ty := .int) (by decide) rfl rfl d23_19 (Or.inl (List.mem_of_getElem? (i := 0) rfl)) (fun T6 h6 S6 W6 => ?_)
  have Fw6 := fq4.same W6
  show own_F p e below s Z _ _ _ _ _ (T6.setTop (mkF m 22 #[.val (.ref a1), .val (.ref e3), .val (.ref aE), .val (.int (2 : Int32))] []))
  have fq7 := (V3.other W6 (ne_exa V3.exa fq5 (by decide)))
  have fq8 := ((F_elementData.other W2 (Or.inl (ne_exa fq5 V3.exa (by decide)))).other W6 (Or.inr (slot_ne (C := "java/util/ArrayList") (Or.inl (own_w hw 25 rfl)) (Or.inl (own_w hw 62 rfl)) (by decide) (t := (.array (.object "java/lang/Object"))) (t' := .int) (by decide) (by decide))))
  have fq9 := ((F_modCount.other W2 (Or.inl (ne_exa fq5 V3.exa (by decide)))).other W6 (Or.inr (slot_ne (C := "java/util/ArrayList") (Or.inl (own_w hw 22 rfl)) (Or.inl (own_w hw 62 rfl)) (by decide) (t := .int) (t' := .int) (by decide) (by decide))))
  refine own_retV S6 d23_22 (by decide) (by decide) ?_
  exact ⟨rfl, fq7, fq8, Fw6, fq9⟩
set_option maxRecDepth 65536 in
set_option maxHeartbeats 40000000 in
theorem own_add_2 (l : Launch) (Z : State) (a0 : Array Value) (hw : ∀ d ∈ tables_1, d.before a0 Z = true) (a1 aE : Addr) (e1 e2 e3 : Addr) (mc : Int32) (h0 : Heap) (hO : Ext Z.heap h0) (ga : Z.heap.size ≤ a1) (E_a1 : Exa Z h0 a1 "java/util/ArrayList") (gE : Z.heap.size ≤ aE) (AE : own_AO Z h0 aE [(.ref e1), (.ref e2), .null, .null, .null, .null, .null, .null, .null, .null]) (F_elementData : Fld Z h0 a1 "java/util/ArrayList" "elementData" "[Ljava/lang/Object;" (.ref aE)) (F_size : Fld Z h0 a1 "java/util/ArrayList" "size" "I" (.int (2 : Int32))) (F_modCount : Fld Z h0 a1 "java/util/AbstractList" "modCount" "I" (.int mc)) (X_e1 : Exa Z h0 e1 "java/lang/Integer") (X_e2 : Exa Z h0 e2 "java/lang/Integer") (X_e3 : Exa Z h0 e3 "java/lang/Integer") :
    own_C l Z (⟨"java/util/ArrayList", "add", "(Ljava/lang/Object;)Z"⟩ : MethodName) jdk_38_method_25_code 2 (some .boolean) [] ({ frames := 1, cells := 0, slots := 0, locals := 15 } : Room) [a1, aE] #[(.ref a1), (.ref e3)] h0 (fun v h => v = some (.int 1) ∧ own_AO Z h aE [(.ref e1), (.ref e2), (.ref e3), .null, .null, .null, .null, .null, .null, .null] ∧ Fld Z h a1 "java/util/ArrayList" "elementData" "[Ljava/lang/Object;" (.ref aE) ∧ Fld Z h a1 "java/util/ArrayList" "size" "I" (.int (3 : Int32)) ∧ Fld Z h a1 "java/util/AbstractList" "modCount" "I" (.int (mc + (1 : Int32)))) := by
  refine own_C.of pn22 hO (allS ga (allS gE all0)) ?_
  intro p e s m below meth c T0 S0
  refine own_F.cast (by first | (simp [entryFrame, mkF, argsToLocals, Value.category]; done) | rfl : entryFrame m #[(.ref a1), (.ref e3)] 2 = mkF m 0 #[.val (.ref a1), .val (.ref e3)] []) ?_
  show own_F p e below s Z _ _ _ _ _ (T0.setTop (mkF m 0 #[.val (.ref a1), .val (.ref e3)] []))
  refine own_F.of (fun _ => XS.aloadN S0.here S0.hx rfl (S0.dec d22_0) rfl rfl) ?_
  show own_F p e below s Z _ _ _ _ _ (T0.setTop (mkF m 1 #[.val (.ref a1), .val (.ref e3)] [(.ref a1)]))
  refine own_F.of (fun _ => XS.dup S0.here S0.hx rfl (S0.dec d22_1) rfl rfl) ?_
  show own_F p e below s Z _ _ _ _ _ (T0.setTop (mkF m 2 #[.val (.ref a1), .val (.ref e3)] [(.ref a1), (.ref a1)]))
  refine own_getF S0 (host := "") (Or.inl (own_w hw 154 rfl)) (Via.of (own_w hw 155 rfl)) F_modCount d22_2 (fun T1 S1 => ?_)
  show own_F p e below s Z _ _ _ _ _ (T1.setTop (mkF m 5 #[.val (.ref a1), .val (.ref e3)] [(.int mc), (.ref a1)]))
  refine own_F.of (fun _ => XS.iconst S1.here S1.hx rfl (S1.dec d22_5)) ?_
  show own_F p e below s Z _ _ _ _ _ (T1.setTop (mkF m 6 #[.val (.ref a1), .val (.ref e3)] [(.int (1 : Int32)), (.int mc), (.ref a1)]))
  refine own_F.of (fun _ => XS.iadd S1.here S1.hx rfl (S1.dec d22_6) rfl) ?_
  show own_F p e below s Z _ _ _ _ _ (T1.setTop (mkF m 7 #[.val (.ref a1), .val (.ref e3)] [(.int (mc + (1 : Int32))), (.ref a1)]))
  refine own_putF S1 (host := "") (Or.inl (own_w hw 154 rfl)) (Via.of (own_w hw 155 rfl)) F_modCount E_a1 (Or.inl (own_w hw 22 rfl)) (own_w hw 1 rfl) (ty := .int) (by decide) rfl rfl d22_7 (Or.inl (List.mem_of_getElem? (i := 0) rfl)) (fun T2 h2 S2 W2 => ?_)
  have Fw2 := F_modCount.same W2
  show own_F p e below s Z _ _ _ _ _ (T2.setTop (mkF m 10 #[.val (.ref a1), .val (.ref e3)] []))
  refine own_F.of (fun _ => XS.aloadN S2.here S2.hx rfl (S2.dec d22_10) rfl rfl) ?_
  show own_F p e below s Z _ _ _ _ _ (T2.setTop (mkF m 11 #[.val (.ref a1), .val (.ref e3)] [(.ref a1)]))
  refine own_F.of (fun _ => XS.aloadN S2.here S2.hx rfl (S2.dec d22_11) rfl rfl) ?_
  show own_F p e below s Z _ _ _ _ _ (T2.setTop (mkF m 12 #[.val (.ref a1), .val (.ref e3)] [(.ref e3), (.ref a1)]))
  refine own_F.of (fun _ => XS.aloadN S2.here S2.hx rfl (S2.dec d22_12) rfl rfl) ?_
  show own_F p e below s Z _ _ _ _ _ (T2.setTop (mkF m 13 #[.val (.ref a1), .val (.ref e3)] [(.ref a1), (.ref e3), (.ref a1)]))
  have fq3 := (F_elementData.other W2 (Or.inr (slot_ne (C := "java/util/ArrayList") (Or.inl (own_w hw 25 rfl)) (Or.inl (own_w hw 22 rfl)) (by decide) (t := (.array (.object "java/lang/Object"))) (t' := .int) (by decide) (by decide))))
  refine own_getF S2 (host := "") (Or.inl (own_w hw 24 rfl)) Via.refl fq3 d22_13 (fun T4 S4 => ?_)
  show own_F p e below s Z _ _ _ _ _ (T4.setTop (mkF m 16 #[.val (.ref a1), .val (.ref e3)] [(.ref aE), (.ref e3), (.ref a1)]))
  refine own_F.of (fun _ => XS.aloadN S4.here S4.hx rfl (S4.dec d22_16) rfl rfl) ?_
  show own_F p e below s Z _ _ _ _ _ (T4.setTop (mkF m 17 #[.val (.ref a1), .val (.ref e3)] [(.ref a1), (.ref aE), (.ref e3), (.ref a1)]))
  have fq5 := (F_size.other W2 (Or.inr (slot_ne (C := "java/util/ArrayList") (Or.inl (own_w hw 62 rfl)) (Or.inl (own_w hw 22 rfl)) (by decide) (t := .int) (t' := .int) (by decide) (by decide))))
  refine own_getF S4 (host := "") (Or.inl (own_w hw 61 rfl)) Via.refl fq5 d22_17 (fun T6 S6 => ?_)
  show own_F p e below s Z _ _ _ _ _ (T6.setTop (mkF m 20 #[.val (.ref a1), .val (.ref e3)] [(.int (2 : Int32)), (.ref aE), (.ref e3), (.ref a1)]))
  have fq7 := (E_a1.wr W2)
  have fq8 := (AE.other W2 (ne_exa (AE.exa.wr W2) fq7 (by decide)))
  have fq9 := (X_e1.wr W2)
  have fq10 := (X_e2.wr W2)
  have fq11 := (X_e3.wr W2)
  refine own_callP S6 (y := (⟨"java/util/ArrayList", "add", "(Ljava/lang/Object;[Ljava/lang/Object;I)V"⟩ : MethodName)) (own_w hw 156 rfl) (own_w hw 157 rfl) (own_w hw 1 rfl) (own_w hw 158 rfl) (own_w hw 160 rfl) (own_w hw 2 rfl) (by decide) fq7 (argsL := [(.ref e3), (.ref aE), (.int (2 : Int32))]) (rest := []) (own_add3_2 l Z a0 hw a1 aE e1 e2 e3 (mc + (1 : Int32)) h2 S6.old ga fq7 gE fq8 fq3 fq5 Fw2 fq9 fq10 fq11) (allS (Or.inl (List.mem_of_getElem? (i := 0) rfl)) (allS (Or.inl (List.mem_of_getElem? (i := 1) rfl)) all0)) (by decide +kernel : parseMethodDescriptor "(Ljava/lang/Object;[Ljava/lang/Object;I)V" = some ⟨[(.object "java/lang/Object"), (.array (.object "java/lang/Object")), .int], none⟩) rfl rfl rfl d22_20 (by decide) (Nat.le_of_ble_eq_true rfl) (by decide) (by decide) (fun T12 h12 v12 S12 K12 q12 => ?_)
  obtain ⟨rfl, A12, Fe12, Fs12, Fm12⟩ := q12
  show own_F p e below s Z _ _ _ _ _ (T12.setTop (mkF m 23 #[.val (.ref a1), .val (.ref e3)] []))
  refine own_F.of (fun _ => XS.iconst S12.here S12.hx rfl (S12.dec d22_23)) ?_
  show own_F p e below s Z _ _ _ _ _ (T12.setTop (mkF m 24 #[.val (.ref a1), .val (.ref e3)] [(.int (1 : Int32))]))
  refine own_retZ S12 (by simp) d22_24 (by decide) (by decide) ?_
  exact ⟨rfl, A12, Fe12, Fs12, Fm12⟩
theorem d36_0 : decode jdk_47_method_1_code 0 = .ok (.aload_n 0, 1) := by decide +kernel
theorem d36_1 : decode jdk_47_method_1_code 1 = .ok (.invokespecial 1, 3) := by decide +kernel
theorem d36_4 : decode jdk_47_method_1_code 4 = .ok (.return_, 1) := by decide +kernel
theorem pn36 : plainFor (⟨"java/util/ImmutableCollections$AbstractImmutableCollection", "<init>", "()V"⟩ : MethodName) = true := plainFor_of_name (by first | (simp [plainName, overriddenIn]; done) | decide +kernel)
set_option maxRecDepth 65536 in
set_option maxHeartbeats 40000000 in
theorem own_AIC (l : Launch) (Z : State) (a0 : Array Value) (hw : ∀ d ∈ tables_1, d.before a0 Z = true) (a1 : Addr) (h0 : Heap) (hO : Ext Z.heap h0) :
    own_C l Z (⟨"java/util/ImmutableCollections$AbstractImmutableCollection", "<init>", "()V"⟩ : MethodName) jdk_47_method_1_code 1 none [] ({ frames := 2, cells := 0, slots := 0, locals := 24 } : Room) [] #[(.ref a1)] h0 (fun v h => v = none ∧ h0 = h) := by
  refine own_C.of pn36 hO all0 ?_
  intro p e s m below meth c T0 S0
  refine own_F.cast (by first | (simp [entryFrame, mkF, argsToLocals, Value.category]; done) | rfl : entryFrame m #[(.ref a1)] 1 = mkF m 0 #[.val (.ref a1)] []) ?_
  show own_F p e below s Z _ _ _ _ _ (T0.setTop (mkF m 0 #[.val (.ref a1)] []))
  refine own_F.of (fun _ => XS.aloadN S0.here S0.hx rfl (S0.dec d36_0) rfl rfl) ?_
  show own_F p e below s Z _ _ _ _ _ (T0.setTop (mkF m 1 #[.val (.ref a1)] [(.ref a1)]))
  refine own_callI S0 (y := (⟨"java/util/AbstractCollection", "<init>", "()V"⟩ : MethodName)) rfl (own_w hw 236 rfl) (own_w hw 13 rfl) (own_w hw 16 rfl) (own_w hw 17 rfl) (by decide) (argsL := []) (rest := []) (own_ABC l Z a0 hw a1 h0 S0.old) all0 (by decide +kernel : parseMethodDescriptor "()V" = some ⟨[], none⟩) rfl rfl rfl d36_1 (by decide) (Nat.le_of_ble_eq_true rfl) (by decide) (by decide) (fun T1 h1 v1 S1 K1 q1 => ?_)
  obtain ⟨rfl, rfl⟩ := q1
  show own_F p e below s Z _ _ _ _ _ (T1.setTop (mkF m 4 #[.val (.ref a1)] []))
  refine own_retV S1 d36_4 (by decide) (by decide) ?_
  exact ⟨rfl, rfl⟩
theorem d35_0 : decode jdk_46_method_1_code 0 = .ok (.aload_n 0, 1) := by decide +kernel
theorem d35_1 : decode jdk_46_method_1_code 1 = .ok (.invokespecial 1, 3) := by decide +kernel
theorem d35_4 : decode jdk_46_method_1_code 4 = .ok (.return_, 1) := by decide +kernel
theorem pn35 : plainFor (⟨"java/util/ImmutableCollections$AbstractImmutableList", "<init>", "()V"⟩ : MethodName) = true := plainFor_of_name (by first | (simp [plainName, overriddenIn]; done) | decide +kernel)
set_option maxRecDepth 65536 in
set_option maxHeartbeats 40000000 in
theorem own_AIL (l : Launch) (Z : State) (a0 : Array Value) (hw : ∀ d ∈ tables_1, d.before a0 Z = true) (a1 : Addr) (h0 : Heap) (hO : Ext Z.heap h0) :
    own_C l Z (⟨"java/util/ImmutableCollections$AbstractImmutableList", "<init>", "()V"⟩ : MethodName) jdk_46_method_1_code 1 none [] ({ frames := 3, cells := 0, slots := 0, locals := 36 } : Room) [] #[(.ref a1)] h0 (fun v h => v = none ∧ h0 = h) := by
  refine own_C.of pn35 hO all0 ?_
  intro p e s m below meth c T0 S0
  refine own_F.cast (by first | (simp [entryFrame, mkF, argsToLocals, Value.category]; done) | rfl : entryFrame m #[(.ref a1)] 1 = mkF m 0 #[.val (.ref a1)] []) ?_
  show own_F p e below s Z _ _ _ _ _ (T0.setTop (mkF m 0 #[.val (.ref a1)] []))
  refine own_F.of (fun _ => XS.aloadN S0.here S0.hx rfl (S0.dec d35_0) rfl rfl) ?_
  show own_F p e below s Z _ _ _ _ _ (T0.setTop (mkF m 1 #[.val (.ref a1)] [(.ref a1)]))
  refine own_callI S0 (y := (⟨"java/util/ImmutableCollections$AbstractImmutableCollection", "<init>", "()V"⟩ : MethodName)) rfl (own_w hw 230 rfl) (own_w hw 231 rfl) (own_w hw 234 rfl) (own_w hw 235 rfl) (by decide) (argsL := []) (rest := []) (own_AIC l Z a0 hw a1 h0 S0.old) all0 (by decide +kernel : parseMethodDescriptor "()V" = some ⟨[], none⟩) rfl rfl rfl d35_1 (by decide) (Nat.le_of_ble_eq_true rfl) (by decide) (by decide) (fun T1 h1 v1 S1 K1 q1 => ?_)
  obtain ⟨rfl, rfl⟩ := q1
  show own_F p e below s Z _ _ _ _ _ (T1.setTop (mkF m 4 #[.val (.ref a1)] []))
  refine own_retV S1 d35_4 (by decide) (by decide) ?_
  exact ⟨rfl, rfl⟩
theorem d33_0 : decode jdk_31_method_10_code 0 = .ok (.aload_n 0, 1) := by decide +kernel
theorem d33_1 : decode jdk_31_method_10_code 1 = .ok (.ifnonnull 11, 3) := by decide +kernel
theorem d33_4 : decode jdk_31_method_10_code 4 = .ok (.new 84, 3) := by decide +kernel
theorem d33_7 : decode jdk_31_method_10_code 7 = .ok (.dup, 1) := by decide +kernel
theorem d33_8 : decode jdk_31_method_10_code 8 = .ok (.invokespecial 86, 3) := by decide +kernel
theorem d33_11 : decode jdk_31_method_10_code 11 = .ok (.athrow, 1) := by decide +kernel
theorem d33_12 : decode jdk_31_method_10_code 12 = .ok (.aload_n 0, 1) := by decide +kernel
theorem d33_13 : decode jdk_31_method_10_code 13 = .ok (.areturn, 1) := by decide +kernel
theorem pn33 : plainFor (⟨"java/util/Objects", "requireNonNull", "(Ljava/lang/Object;)Ljava/lang/Object;"⟩ : MethodName) = true := plainFor_of_name (by first | (simp [plainName, overriddenIn]; done) | decide +kernel)
set_option maxRecDepth 65536 in
set_option maxHeartbeats 40000000 in
theorem own_rnn (l : Launch) (Z : State) (a0 : Array Value) (hw : ∀ d ∈ tables_1, d.before a0 Z = true) (e1 : Addr) (h0 : Heap) (hO : Ext Z.heap h0) :
    own_C l Z (⟨"java/util/Objects", "requireNonNull", "(Ljava/lang/Object;)Ljava/lang/Object;"⟩ : MethodName) jdk_31_method_10_code 1 (some (.object "java/lang/Object")) [] ({ frames := 0, cells := 0, slots := 0, locals := 0 } : Room) [] #[(.ref e1)] h0 (fun v h => v = some (.ref e1) ∧ h0 = h) := by
  refine own_C.of pn33 hO all0 ?_
  intro p e s m below meth c T0 S0
  refine own_F.cast (by first | (simp [entryFrame, mkF, argsToLocals, Value.category]; done) | rfl : entryFrame m #[(.ref e1)] 1 = mkF m 0 #[.val (.ref e1)] []) ?_
  show own_F p e below s Z _ _ _ _ _ (T0.setTop (mkF m 0 #[.val (.ref e1)] []))
  refine own_F.of (fun _ => XS.aloadN S0.here S0.hx rfl (S0.dec d33_0) rfl rfl) ?_
  show own_F p e below s Z _ _ _ _ _ (T0.setTop (mkF m 1 #[.val (.ref e1)] [(.ref e1)]))
  refine own_F.of (fun _ => XS.ifnonnullYes S0.here S0.hx rfl (pc0 := 1) (pc' := 12) rfl (S0.dec d33_1) rfl (by decide) (by decide)) ?_
  show own_F p e below s Z _ _ _ _ _ (T0.setTop (mkF m 12 #[.val (.ref e1)] []))
  refine own_F.of (fun _ => XS.aloadN S0.here S0.hx rfl (S0.dec d33_12) rfl rfl) ?_
  show own_F p e below s Z _ _ _ _ _ (T0.setTop (mkF m 13 #[.val (.ref e1)] [(.ref e1)]))
  refine own_retA S0 rfl rfl d33_13 (by decide) (by decide) ?_
  exact ⟨rfl, rfl⟩
theorem d44_0 : decode jdk_44_method_1_code 0 = .ok (.aload_n 0, 1) := by decide +kernel
theorem d44_1 : decode jdk_44_method_1_code 1 = .ok (.invokespecial 1, 3) := by decide +kernel
theorem d44_4 : decode jdk_44_method_1_code 4 = .ok (.aload_n 0, 1) := by decide +kernel
theorem d44_5 : decode jdk_44_method_1_code 5 = .ok (.aload_n 1, 1) := by decide +kernel
theorem d44_6 : decode jdk_44_method_1_code 6 = .ok (.invokestatic 7, 3) := by decide +kernel
theorem d44_9 : decode jdk_44_method_1_code 9 = .ok (.putfield 13, 3) := by decide +kernel
theorem d44_12 : decode jdk_44_method_1_code 12 = .ok (.aload_n 0, 1) := by decide +kernel
theorem d44_13 : decode jdk_44_method_1_code 13 = .ok (.getstatic 19, 3) := by decide +kernel
theorem d44_16 : decode jdk_44_method_1_code 16 = .ok (.putfield 24, 3) := by decide +kernel
theorem d44_19 : decode jdk_44_method_1_code 19 = .ok (.return_, 1) := by decide +kernel
theorem pn44 : plainFor (⟨"java/util/ImmutableCollections$List12", "<init>", "(Ljava/lang/Object;)V"⟩ : MethodName) = true := plainFor_of_name (by first | (simp [plainName, overriddenIn]; done) | decide +kernel)
set_option maxRecDepth 65536 in
set_option maxHeartbeats 40000000 in
theorem own_L12_1 (l : Launch) (Z : State) (a0 : Array Value) (hw : ∀ d ∈ tables_1, d.before a0 Z = true) (a1 : Addr) (e1 : Addr) (aM : Addr) (h0 : Heap) (hO : Ext Z.heap h0) (SM : Sta Z Z.heap "java/util/ImmutableCollections" "EMPTY" "Ljava/lang/Object;" (.ref aM)) (ga : Z.heap.size ≤ a1) (E_a1 : Exa Z h0 a1 "java/util/ImmutableCollections$List12") (F_e0 : Fld Z h0 a1 "java/util/ImmutableCollections$List12" "e0" "Ljava/lang/Object;" .null) (F_e1 : Fld Z h0 a1 "java/util/ImmutableCollections$List12" "e1" "Ljava/lang/Object;" .null) :
    own_C l Z (⟨"java/util/ImmutableCollections$List12", "<init>", "(Ljava/lang/Object;)V"⟩ : MethodName) jdk_44_method_1_code 2 none [] ({ frames := 4, cells := 0, slots := 0, locals := 48 } : Room) [a1] #[(.ref a1), (.ref e1)] h0 (fun v h => v = none ∧ Fld Z h a1 "java/util/ImmutableCollections$List12" "e0" "Ljava/lang/Object;" (.ref e1) ∧ Fld Z h a1 "java/util/ImmutableCollections$List12" "e1" "Ljava/lang/Object;" (.ref aM)) := by
  refine own_C.of pn44 hO (allS ga all0) ?_
  intro p e s m below meth c T0 S0
  refine own_F.cast (by first | (simp [entryFrame, mkF, argsToLocals, Value.category]; done) | rfl : entryFrame m #[(.ref a1), (.ref e1)] 2 = mkF m 0 #[.val (.ref a1), .val (.ref e1)] []) ?_
  show own_F p e below s Z _ _ _ _ _ (T0.setTop (mkF m 0 #[.val (.ref a1), .val (.ref e1)] []))
  refine own_F.of (fun _ => XS.aloadN S0.here S0.hx rfl (S0.dec d44_0) rfl rfl) ?_
  show own_F p e below s Z _ _ _ _ _ (T0.setTop (mkF m 1 #[.val (.ref a1), .val (.ref e1)] [(.ref a1)]))
  refine own_callI S0 (y := (⟨"java/util/ImmutableCollections$AbstractImmutableList", "<init>", "()V"⟩ : MethodName)) rfl (own_w hw 277 rfl) (own_w hw 225 rfl) (own_w hw 228 rfl) (own_w hw 229 rfl) (by decide) (argsL := []) (rest := []) (own_AIL l Z a0 hw a1 h0 S0.old) all0 (by decide +kernel : parseMethodDescriptor "()V" = some ⟨[], none⟩) rfl rfl rfl d44_1 (by decide) (Nat.le_of_ble_eq_true rfl) (by decide) (by decide) (fun T1 h1 v1 S1 K1 q1 => ?_)
  obtain ⟨rfl, rfl⟩ := q1
  show own_F p e below s Z _ _ _ _ _ (T1.setTop (mkF m 4 #[.val (.ref a1), .val (.ref e1)] []))
  refine own_F.of (fun _ => XS.aloadN S1.here S1.hx rfl (S1.dec d44_4) rfl rfl) ?_
  show own_F p e below s Z _ _ _ _ _ (T1.setTop (mkF m 5 #[.val (.ref a1), .val (.ref e1)] [(.ref a1)]))
  refine own_F.of (fun _ => XS.aloadN S1.here S1.hx rfl (S1.dec d44_5) rfl rfl) ?_
  show own_F p e below s Z _ _ _ _ _ (T1.setTop (mkF m 6 #[.val (.ref a1), .val (.ref e1)] [(.ref e1), (.ref a1)]))
  refine own_callS S1 (y := (⟨"java/util/Objects", "requireNonNull", "(Ljava/lang/Object;)Ljava/lang/Object;"⟩ : MethodName)) (own_w hw 281 rfl) (own_w hw 216 rfl) (own_w hw 217 rfl) (own_w hw 218 rfl) (by decide) (argsL := [(.ref e1)]) (rest := [(.ref a1)]) (own_rnn l Z a0 hw e1 h0 S1.old) all0 (by decide +kernel : parseMethodDescriptor "(Ljava/lang/Object;)Ljava/lang/Object;" = some ⟨[(.object "java/lang/Object")], some (.object "java/lang/Object")⟩) rfl rfl rfl d44_6 (by decide) (Nat.le_of_ble_eq_true rfl) (by decide) (by decide) (fun T2 h2 v2 S2 K2 q2 => ?_)
  obtain ⟨rfl, rfl⟩ := q2
  show own_F p e below s Z _ _ _ _ _ (T2.setTop (mkF m 9 #[.val (.ref a1), .val (.ref e1)] [(.ref e1), (.ref a1)]))
  refine own_putF S2 (host := "") (Or.inl (own_w hw 282 rfl)) Via.refl F_e0 E_a1 (Or.inr ⟨(own_w hw 283 rfl), rfl, rfl⟩) (own_w hw 271 rfl) (ty := (.object "java/lang/Object")) (by decide) rfl rfl d44_9 (Or.inl (List.mem_of_getElem? (i := 0) rfl)) (fun T3 h3 S3 W3 => ?_)
  have Fw3 := F_e0.same W3
  show own_F p e below s Z _ _ _ _ _ (T3.setTop (mkF m 12 #[.val (.ref a1), .val (.ref e1)] []))
  refine own_F.of (fun _ => XS.aloadN S3.here S3.hx rfl (S3.dec d44_12) rfl rfl) ?_
  show own_F p e below s Z _ _ _ _ _ (T3.setTop (mkF m 13 #[.val (.ref a1), .val (.ref e1)] [(.ref a1)]))
  refine own_getS S3 (Or.inr (own_w hw 292 rfl)) Via.refl (SM.ext S3.old) d44_13 (fun T4 S4 => ?_)
  show own_F p e below s Z _ _ _ _ _ (T4.setTop (mkF m 16 #[.val (.ref a1), .val (.ref e1)] [(.ref aM), (.ref a1)]))
  have fq5 := (F_e1.other W3 (Or.inr (slot_ne (C := "java/util/ImmutableCollections$List12") (Or.inr (own_w hw 285 rfl)) (Or.inr (own_w hw 283 rfl)) (by decide) (t := (.object "java/lang/Object")) (t' := (.object "java/lang/Object")) (by decide) (by decide))))
  have fq6 := (E_a1.wr W3)
  refine own_putF S4 (host := "") (Or.inl (own_w hw 284 rfl)) Via.refl fq5 fq6 (Or.inr ⟨(own_w hw 285 rfl), rfl, rfl⟩) (own_w hw 271 rfl) (ty := (.object "java/lang/Object")) (by decide) rfl rfl d44_16 (Or.inl (List.mem_of_getElem? (i := 0) rfl)) (fun T7 h7 S7 W7 => ?_)
  have Fw7 := fq5.same W7
  show own_F p e below s Z _ _ _ _ _ (T7.setTop (mkF m 19 #[.val (.ref a1), .val (.ref e1)] []))
  have fq8 := (Fw3.other W7 (Or.inr (slot_ne (C := "java/util/ImmutableCollections$List12") (Or.inr (own_w hw 283 rfl)) (Or.inr (own_w hw 285 rfl)) (by decide) (t := (.object "java/lang/Object")) (t' := (.object "java/lang/Object")) (by decide) (by decide))))
  refine own_retV S7 d44_19 (by decide) (by decide) ?_
  exact ⟨rfl, fq8, Fw7⟩
theorem d41_0 : decode jdk_44_method_2_code 0 = .ok (.aload_n 0, 1) := by decide +kernel
theorem d41_1 : decode jdk_44_method_2_code 1 = .ok (.invokespecial 1, 3) := by decide +kernel
theorem d41_4 : decode jdk_44_method_2_code 4 = .ok (.aload_n 0, 1) := by decide +kernel
theorem d41_5 : decode jdk_44_method_2_code 5 = .ok (.aload_n 1, 1) := by decide +kernel
theorem d41_6 : decode jdk_44_method_2_code 6 = .ok (.invokestatic 7, 3) := by decide +kernel
theorem d41_9 : decode jdk_44_method_2_code 9 = .ok (.putfield 13, 3) := by decide +kernel
theorem d41_12 : decode jdk_44_method_2_code 12 = .ok (.aload_n 0, 1) := by decide +kernel
theorem d41_13 : decode jdk_44_method_2_code 13 = .ok (.aload_n 2, 1) := by decide +kernel
theorem d41_14 : decode jdk_44_method_2_code 14 = .ok (.invokestatic 7, 3) := by decide +kernel
theorem d41_17 : decode jdk_44_method_2_code 17 = .ok (.putfield 24, 3) := by decide +kernel
theorem d41_20 : decode jdk_44_method_2_code 20 = .ok (.return_, 1) := by decide +kernel
theorem pn41 : plainFor (⟨"java/util/ImmutableCollections$List12", "<init>", "(Ljava/lang/Object;Ljava/lang/Object;)V"⟩ : MethodName) = true := plainFor_of_name (by first | (simp [plainName, overriddenIn]; done) | decide +kernel)
set_option maxRecDepth 65536 in
set_option maxHeartbeats 40000000 in
theorem own_L12_2 (l : Launch) (Z : State) (a0 : Array Value) (hw : ∀ d ∈ tables_1, d.before a0 Z = true) (a1 : Addr) (e1 e2 : Addr) (aM : Addr) (h0 : Heap) (hO : Ext Z.heap h0) (SM : Sta Z Z.heap "java/util/ImmutableCollections" "EMPTY" "Ljava/lang/Object;" (.ref aM)) (ga : Z.heap.size ≤ a1) (E_a1 : Exa Z h0 a1 "java/util/ImmutableCollections$List12") (F_e0 : Fld Z h0 a1 "java/util/ImmutableCollections$List12" "e0" "Ljava/lang/Object;" .null) (F_e1 : Fld Z h0 a1 "java/util/ImmutableCollections$List12" "e1" "Ljava/lang/Object;" .null) :
    own_C l Z (⟨"java/util/ImmutableCollections$List12", "<init>", "(Ljava/lang/Object;Ljava/lang/Object;)V"⟩ : MethodName) jdk_44_method_2_code 3 none [] ({ frames := 4, cells := 0, slots := 0, locals := 48 } : Room) [a1] #[(.ref a1), (.ref e1), (.ref e2)] h0 (fun v h => v = none ∧ Fld Z h a1 "java/util/ImmutableCollections$List12" "e0" "Ljava/lang/Object;" (.ref e1) ∧ Fld Z h a1 "java/util/ImmutableCollections$List12" "e1" "Ljava/lang/Object;" (.ref e2)) := by
  refine own_C.of pn41 hO (allS ga all0) ?_
  intro p e s m below meth c T0 S0
  refine own_F.cast (by first | (simp [entryFrame, mkF, argsToLocals, Value.category]; done) | rfl : entryFrame m #[(.ref a1), (.ref e1), (.ref e2)] 3 = mkF m 0 #[.val (.ref a1), .val (.ref e1), .val (.ref e2)] []) ?_
  show own_F p e below s Z _ _ _ _ _ (T0.setTop (mkF m 0 #[.val (.ref a1), .val (.ref e1), .val (.ref e2)] []))
  refine own_F.of (fun _ => XS.aloadN S0.here S0.hx rfl (S0.dec d41_0) rfl rfl) ?_
  show own_F p e below s Z _ _ _ _ _ (T0.setTop (mkF m 1 #[.val (.ref a1), .val (.ref e1), .val (.ref e2)] [(.ref a1)]))
  refine own_callI S0 (y := (⟨"java/util/ImmutableCollections$AbstractImmutableList", "<init>", "()V"⟩ : MethodName)) rfl (own_w hw 277 rfl) (own_w hw 225 rfl) (own_w hw 228 rfl) (own_w hw 229 rfl) (by decide) (argsL := []) (rest := []) (own_AIL l Z a0 hw a1 h0 S0.old) all0 (by decide +kernel : parseMethodDescriptor "()V" = some ⟨[], none⟩) rfl rfl rfl d41_1 (by decide) (Nat.le_of_ble_eq_true rfl) (by decide) (by decide) (fun T1 h1 v1 S1 K1 q1 => ?_)
  obtain ⟨rfl, rfl⟩ := q1
  show own_F p e below s Z _ _ _ _ _ (T1.setTop (mkF m 4 #[.val (.ref a1), .val (.ref e1), .val (.ref e2)] []))
  refine own_F.of (fun _ => XS.aloadN S1.here S1.hx rfl (S1.dec d41_4) rfl rfl) ?_
  show own_F p e below s Z _ _ _ _ _ (T1.setTop (mkF m 5 #[.val (.ref a1), .val (.ref e1), .val (.ref e2)] [(.ref a1)]))
  refine own_F.of (fun _ => XS.aloadN S1.here S1.hx rfl (S1.dec d41_5) rfl rfl) ?_
  show own_F p e below s Z _ _ _ _ _ (T1.setTop (mkF m 6 #[.val (.ref a1), .val (.ref e1), .val (.ref e2)] [(.ref e1), (.ref a1)]))
  refine own_callS S1 (y := (⟨"java/util/Objects", "requireNonNull", "(Ljava/lang/Object;)Ljava/lang/Object;"⟩ : MethodName)) (own_w hw 281 rfl) (own_w hw 216 rfl) (own_w hw 217 rfl) (own_w hw 218 rfl) (by decide) (argsL := [(.ref e1)]) (rest := [(.ref a1)]) (own_rnn l Z a0 hw e1 h0 S1.old) all0 (by decide +kernel : parseMethodDescriptor "(Ljava/lang/Object;)Ljava/lang/Object;" = some ⟨[(.object "java/lang/Object")], some (.object "java/lang/Object")⟩) rfl rfl rfl d41_6 (by decide) (Nat.le_of_ble_eq_true rfl) (by decide) (by decide) (fun T2 h2 v2 S2 K2 q2 => ?_)
  obtain ⟨rfl, rfl⟩ := q2
  show own_F p e below s Z _ _ _ _ _ (T2.setTop (mkF m 9 #[.val (.ref a1), .val (.ref e1), .val (.ref e2)] [(.ref e1), (.ref a1)]))
  refine own_putF S2 (host := "") (Or.inl (own_w hw 282 rfl)) Via.refl F_e0 E_a1 (Or.inr ⟨(own_w hw 283 rfl), rfl, rfl⟩) (own_w hw 271 rfl) (ty := (.object "java/lang/Object")) (by decide) rfl rfl d41_9 (Or.inl (List.mem_of_getElem? (i := 0) rfl)) (fun T3 h3 S3 W3 => ?_)
  have Fw3 := F_e0.same W3
  show own_F p e below s Z _ _ _ _ _ (T3.setTop (mkF m 12 #[.val (.ref a1), .val (.ref e1), .val (.ref e2)] []))
  refine own_F.of (fun _ => XS.aloadN S3.here S3.hx rfl (S3.dec d41_12) rfl rfl) ?_
  show own_F p e below s Z _ _ _ _ _ (T3.setTop (mkF m 13 #[.val (.ref a1), .val (.ref e1), .val (.ref e2)] [(.ref a1)]))
  refine own_F.of (fun _ => XS.aloadN S3.here S3.hx rfl (S3.dec d41_13) rfl rfl) ?_
  show own_F p e below s Z _ _ _ _ _ (T3.setTop (mkF m 14 #[.val (.ref a1), .val (.ref e1), .val (.ref e2)] [(.ref e2), (.ref a1)]))
  refine own_callS S3 (y := (⟨"java/util/Objects", "requireNonNull", "(Ljava/lang/Object;)Ljava/lang/Object;"⟩ : MethodName)) (own_w hw 281 rfl) (own_w hw 216 rfl) (own_w hw 217 rfl) (own_w hw 218 rfl) (by decide) (argsL := [(.ref e2)]) (rest := [(.ref a1)]) (own_rnn l Z a0 hw e2 h3 S3.old) all0 (by decide +kernel : parseMethodDescriptor "(Ljava/lang/Object;)Ljava/lang/Object;" = some ⟨[(.object "java/lang/Object")], some (.object "java/lang/Object")⟩) rfl rfl rfl d41_14 (by decide) (Nat.le_of_ble_eq_true rfl) (by decide) (by decide) (fun T4 h4 v4 S4 K4 q4 => ?_)
  obtain ⟨rfl, rfl⟩ := q4
  show own_F p e below s Z _ _ _ _ _ (T4.setTop (mkF m 17 #[.val (.ref a1), .val (.ref e1), .val (.ref e2)] [(.ref e2), (.ref a1)]))
  have fq5 := (F_e1.other W3 (Or.inr (slot_ne (C := "java/util/ImmutableCollections$List12") (Or.inr (own_w hw 285 rfl)) (Or.inr (own_w hw 283 rfl)) (by decide) (t := (.object "java/lang/Object")) (t' := (.object "java/lang/Object")) (by decide) (by decide))))
  have fq6 := (E_a1.wr W3)
  refine own_putF S4 (host := "") (Or.inl (own_w hw 284 rfl)) Via.refl fq5 fq6 (Or.inr ⟨(own_w hw 285 rfl), rfl, rfl⟩) (own_w hw 271 rfl) (ty := (.object "java/lang/Object")) (by decide) rfl rfl d41_17 (Or.inl (List.mem_of_getElem? (i := 0) rfl)) (fun T7 h7 S7 W7 => ?_)
  have Fw7 := fq5.same W7
  show own_F p e below s Z _ _ _ _ _ (T7.setTop (mkF m 20 #[.val (.ref a1), .val (.ref e1), .val (.ref e2)] []))
  have fq8 := (Fw3.other W7 (Or.inr (slot_ne (C := "java/util/ImmutableCollections$List12") (Or.inr (own_w hw 283 rfl)) (Or.inr (own_w hw 285 rfl)) (by decide) (t := (.object "java/lang/Object")) (t' := (.object "java/lang/Object")) (by decide) (by decide))))
  refine own_retV S7 d41_20 (by decide) (by decide) ?_
  exact ⟨rfl, fq8, Fw7⟩
theorem d34_0 : decode jdk_45_method_1_code 0 = .ok (.aload_n 0, 1) := by decide +kernel
theorem d34_1 : decode jdk_45_method_1_code 1 = .ok (.invokespecial 1, 3) := by decide +kernel
theorem d34_4 : decode jdk_45_method_1_code 4 = .ok (.aload_n 0, 1) := by decide +kernel
theorem d34_5 : decode jdk_45_method_1_code 5 = .ok (.aload_n 1, 1) := by decide +kernel
theorem d34_6 : decode jdk_45_method_1_code 6 = .ok (.putfield 7, 3) := by decide +kernel
theorem d34_9 : decode jdk_45_method_1_code 9 = .ok (.aload_n 0, 1) := by decide +kernel
theorem d34_10 : decode jdk_45_method_1_code 10 = .ok (.iload_n 2, 1) := by decide +kernel
theorem d34_11 : decode jdk_45_method_1_code 11 = .ok (.putfield 13, 3) := by decide +kernel
theorem d34_14 : decode jdk_45_method_1_code 14 = .ok (.return_, 1) := by decide +kernel
theorem pn34 : plainFor (⟨"java/util/ImmutableCollections$ListN", "<init>", "([Ljava/lang/Object;Z)V"⟩ : MethodName) = true := plainFor_of_name (by first | (simp [plainName, overriddenIn]; done) | decide +kernel)
set_option maxRecDepth 65536 in
set_option maxHeartbeats 40000000 in
theorem own_LNI (l : Launch) (Z : State) (a0 : Array Value) (hw : ∀ d ∈ tables_1, d.before a0 Z = true) (a1 ar : Addr) (h0 : Heap) (hO : Ext Z.heap h0) (ga : Z.heap.size ≤ a1) (E_a1 : Exa Z h0 a1 "java/util/ImmutableCollections$ListN") (F_elements : Fld Z h0 a1 "java/util/ImmutableCollections$ListN" "elements" "[Ljava/lang/Object;" .null) (F_allowNulls : Fld Z h0 a1 "java/util/ImmutableCollections$ListN" "allowNulls" "Z" (.int 0)) :
    own_C l Z (⟨"java/util/ImmutableCollections$ListN", "<init>", "([Ljava/lang/Object;Z)V"⟩ : MethodName) jdk_45_method_1_code 3 none [] ({ frames := 4, cells := 0, slots := 0, locals := 48 } : Room) [a1] #[(.ref a1), (.ref ar), (.int (0 : Int32))] h0 (fun v h => v = none ∧ Fld Z h a1 "java/util/ImmutableCollections$ListN" "elements" "[Ljava/lang/Object;" (.ref ar) ∧ Fld Z h a1 "java/util/ImmutableCollections$ListN" "allowNulls" "Z" (.int 0)) := by
  refine own_C.of pn34 hO (allS ga all0) ?_
  intro p e s m below meth c T0 S0
  refine own_F.cast (by first | (simp [entryFrame, mkF, argsToLocals, Value.category]; done) | rfl : entryFrame m #[(.ref a1), (.ref ar), (.int (0 : Int32))] 3 = mkF m 0 #[.val (.ref a1), .val (.ref ar), .val (.int (0 : Int32))] []) ?_
  show own_F p e below s Z _ _ _ _ _ (T0.setTop (mkF m 0 #[.val (.ref a1), .val (.ref ar), .val (.int (0 : Int32))] []))
  refine own_F.of (fun _ => XS.aloadN S0.here S0.hx rfl (S0.dec d34_0) rfl rfl) ?_
  show own_F p e below s Z _ _ _ _ _ (T0.setTop (mkF m 1 #[.val (.ref a1), .val (.ref ar), .val (.int (0 : Int32))] [(.ref a1)]))
  refine own_callI S0 (y := (⟨"java/util/ImmutableCollections$AbstractImmutableList", "<init>", "()V"⟩ : MethodName)) rfl (own_w hw 224 rfl) (own_w hw 225 rfl) (own_w hw 228 rfl) (own_w hw 229 rfl) (by decide) (argsL := []) (rest := []) (own_AIL l Z a0 hw a1 h0 S0.old) all0 (by decide +kernel : parseMethodDescriptor "()V" = some ⟨[], none⟩) rfl rfl rfl d34_1 (by decide) (Nat.le_of_ble_eq_true rfl) (by decide) (by decide) (fun T1 h1 v1 S1 K1 q1 => ?_)
  obtain ⟨rfl, rfl⟩ := q1
  show own_F p e below s Z _ _ _ _ _ (T1.setTop (mkF m 4 #[.val (.ref a1), .val (.ref ar), .val (.int (0 : Int32))] []))
  refine own_F.of (fun _ => XS.aloadN S1.here S1.hx rfl (S1.dec d34_4) rfl rfl) ?_
  show own_F p e below s Z _ _ _ _ _ (T1.setTop (mkF m 5 #[.val (.ref a1), .val (.ref ar), .val (.int (0 : Int32))] [(.ref a1)]))
  refine own_F.of (fun _ => XS.aloadN S1.here S1.hx rfl (S1.dec d34_5) rfl rfl) ?_
  show own_F p e below s Z _ _ _ _ _ (T1.setTop (mkF m 6 #[.val (.ref a1), .val (.ref ar), .val (.int (0 : Int32))] [(.ref ar), (.ref a1)]))
  refine own_putF S1 (host := "") (Or.inl (own_w hw 120 rfl)) Via.refl F_elements E_a1 (Or.inr ⟨(own_w hw 121 rfl), rfl, rfl⟩) (own_w hw 219 rfl) (ty := (.array (.object "java/lang/Object"))) (by decide) rfl rfl d34_6 (Or.inl (List.mem_of_getElem? (i := 0) rfl)) (fun T2 h2 S2 W2 => ?_)
  have Fw2 := F_elements.same W2
  show own_F p e below s Z _ _ _ _ _ (T2.setTop (mkF m 9 #[.val (.ref a1), .val (.ref ar), .val (.int (0 : Int32))] []))
  refine own_F.of (fun _ => XS.aloadN S2.here S2.hx rfl (S2.dec d34_9) rfl rfl) ?_
  show own_F p e below s Z _ _ _ _ _ (T2.setTop (mkF m 10 #[.val (.ref a1), .val (.ref ar), .val (.int (0 : Int32))] [(.ref a1)]))
  refine own_F.of (fun _ => XS.iloadN S2.here S2.hx rfl (S2.dec d34_10) rfl) ?_
  show own_F p e below s Z _ _ _ _ _ (T2.setTop (mkF m 11 #[.val (.ref a1), .val (.ref ar), .val (.int (0 : Int32))] [(.int (0 : Int32)), (.ref a1)]))
  have fq3 := (F_allowNulls.other W2 (Or.inr (slot_ne (C := "java/util/ImmutableCollections$ListN") (Or.inr (own_w hw 239 rfl)) (Or.inr (own_w hw 121 rfl)) (by decide) (t := .boolean) (t' := (.array (.object "java/lang/Object"))) (by decide) (by decide))))
  have fq4 := (E_a1.wr W2)
  refine own_putF S2 (host := "") (Or.inl (own_w hw 238 rfl)) Via.refl fq3 fq4 (Or.inr ⟨(own_w hw 239 rfl), rfl, rfl⟩) (own_w hw 219 rfl) (ty := .boolean) (by decide) rfl rfl d34_11 (Or.inl (List.mem_of_getElem? (i := 0) rfl)) (fun T5 h5 S5 W5 => ?_)
  have Fw5 := fq3.same W5
  show own_F p e below s Z _ _ _ _ _ (T5.setTop (mkF m 14 #[.val (.ref a1), .val (.ref ar), .val (.int (0 : Int32))] []))
  have fq6 := (Fw2.other W5 (Or.inr (slot_ne (C := "java/util/ImmutableCollections$ListN") (Or.inr (own_w hw 121 rfl)) (Or.inr (own_w hw 239 rfl)) (by decide) (t := (.array (.object "java/lang/Object"))) (t' := .boolean) (by decide) (by decide))))
  refine own_retV S5 d34_14 (by decide) (by decide) ?_
  exact ⟨rfl, fq6, Fw5⟩
theorem d32_0 : decode jdk_56_method_4_code 0 = .ok (.aload_n 0, 1) := by decide +kernel
theorem d32_1 : decode jdk_56_method_4_code 1 = .ok (.arraylength, 1) := by decide +kernel
theorem d32_2 : decode jdk_56_method_4_code 2 = .ok (.anewarray 2, 3) := by decide +kernel
theorem d32_5 : decode jdk_56_method_4_code 5 = .ok (.astore_n 1, 1) := by decide +kernel
theorem d32_6 : decode jdk_56_method_4_code 6 = .ok (.iconst 0, 1) := by decide +kernel
theorem d32_7 : decode jdk_56_method_4_code 7 = .ok (.istore_n 2, 1) := by decide +kernel
theorem d32_8 : decode jdk_56_method_4_code 8 = .ok (.iload_n 2, 1) := by decide +kernel
theorem d32_9 : decode jdk_56_method_4_code 9 = .ok (.aload_n 0, 1) := by decide +kernel
theorem d32_10 : decode jdk_56_method_4_code 10 = .ok (.arraylength, 1) := by decide +kernel
theorem d32_11 : decode jdk_56_method_4_code 11 = .ok (.if_icmp .ge 18, 3) := by decide +kernel
theorem d32_14 : decode jdk_56_method_4_code 14 = .ok (.aload_n 1, 1) := by decide +kernel
theorem d32_15 : decode jdk_56_method_4_code 15 = .ok (.iload_n 2, 1) := by decide +kernel
theorem d32_16 : decode jdk_56_method_4_code 16 = .ok (.aload_n 0, 1) := by decide +kernel
theorem d32_17 : decode jdk_56_method_4_code 17 = .ok (.iload_n 2, 1) := by decide +kernel
theorem d32_18 : decode jdk_56_method_4_code 18 = .ok (.aaload, 1) := by decide +kernel
theorem d32_19 : decode jdk_56_method_4_code 19 = .ok (.invokestatic 37, 3) := by decide +kernel
theorem d32_22 : decode jdk_56_method_4_code 22 = .ok (.aastore, 1) := by decide +kernel
theorem d32_23 : decode jdk_56_method_4_code 23 = .ok (.iinc 2 1, 3) := by decide +kernel
theorem d32_26 : decode jdk_56_method_4_code 26 = .ok (.goto (-18), 3) := by decide +kernel
theorem d32_29 : decode jdk_56_method_4_code 29 = .ok (.new 12, 3) := by decide +kernel
theorem d32_32 : decode jdk_56_method_4_code 32 = .ok (.dup, 1) := by decide +kernel
theorem d32_33 : decode jdk_56_method_4_code 33 = .ok (.aload_n 1, 1) := by decide +kernel
theorem d32_34 : decode jdk_56_method_4_code 34 = .ok (.iconst 0, 1) := by decide +kernel
theorem d32_35 : decode jdk_56_method_4_code 35 = .ok (.invokespecial 43, 3) := by decide +kernel
theorem d32_38 : decode jdk_56_method_4_code 38 = .ok (.areturn, 1) := by decide +kernel
theorem pn32 : plainFor (⟨"java/util/ImmutableCollections", "listFromArray", "([Ljava/lang/Object;)Ljava/util/List;"⟩ : MethodName) = true := plainFor_of_name (by first | (simp [plainName, overriddenIn]; done) | decide +kernel)
set_option maxRecDepth 65536 in
set_option maxHeartbeats 40000000 in
theorem own_lfa (l : Launch) (Z : State) (a0 : Array Value) (hw : ∀ d ∈ tables_1, d.before a0 Z = true) (aA : Addr) (e1 e2 e3 : Addr) (h0 : Heap) (hO : Ext Z.heap h0) (AA : own_AO Z h0 aA [(.ref e1), (.ref e2), (.ref e3)]) (X_e1 : Exa Z h0 e1 "java/lang/Integer") (X_e2 : Exa Z h0 e2 "java/lang/Integer") (X_e3 : Exa Z h0 e3 "java/lang/Integer") :
    own_C l Z (⟨"java/util/ImmutableCollections", "listFromArray", "([Ljava/lang/Object;)Ljava/util/List;"⟩ : MethodName) jdk_56_method_4_code 3 (some (.object "java/util/List")) [] ({ frames := 5, cells := 2, slots := 5, locals := 63 } : Room) [] #[(.ref aA)] h0 (fun v h => ∃ b, v = some (.ref b) ∧ ∃ ar, Exa Z h b "java/util/ImmutableCollections$ListN" ∧ Fld Z h b "java/util/ImmutableCollections$ListN" "elements" "[Ljava/lang/Object;" (.ref ar) ∧ own_AO Z h ar [(.ref e1), (.ref e2), (.ref e3)] ∧ Fld Z h b "java/util/ImmutableCollections$ListN" "allowNulls" "Z" (.int 0)) := by
  refine own_C.of pn32 hO all0 ?_
  intro p e s m below meth c T0 S0
  refine own_F.cast (by first | (simp [entryFrame, mkF, argsToLocals, Value.category]; done) | rfl : entryFrame m #[(.ref aA)] 3 = mkF m 0 #[.val (.ref aA), .unset, .unset] []) ?_
  show own_F p e below s Z _ _ _ _ _ (T0.setTop (mkF m 0 #[.val (.ref aA), .unset, .unset] []))
  refine own_F.of (fun _ => XS.aloadN S0.here S0.hx rfl (S0.dec d32_0) rfl rfl) ?_
  show own_F p e below s Z _ _ _ _ _ (T0.setTop (mkF m 1 #[.val (.ref aA), .unset, .unset] [(.ref aA)]))
  refine own_len S0 AA.A d32_1 ?_
  show own_F p e below s Z _ _ _ _ _ (T0.setTop (mkF m 2 #[.val (.ref aA), .unset, .unset] [(.int (3 : Int32))]))
  refine own_anew S0 (own_w hw 214 rfl) (own_w hw 176 rfl) d32_2 (by decide) (cap := 3) (by decide) (by decide) (by decide) (by decide) (fun T1 h1 b1 g1 S1 E1 A1 => ?_)
  have V2 : own_AO Z h1 b1 [.null, .null, .null] := A1
  show own_F p e below s Z _ _ _ _ _ (T1.setTop (mkF m 5 #[.val (.ref aA), .unset, .unset] [(.ref b1)]))
  refine own_F.of (fun _ => XS.astoreN S1.here S1.hx rfl (S1.dec d32_5) rfl rfl (l' := #[.val (.ref aA), .val (.ref b1), .unset]) rfl) ?_
  show own_F p e below s Z _ _ _ _ _ (T1.setTop (mkF m 6 #[.val (.ref aA), .val (.ref b1), .unset] []))
  refine own_F.of (fun _ => XS.iconst S1.here S1.hx rfl (S1.dec d32_6)) ?_
  show own_F p e below s Z _ _ _ _ _ (T1.setTop (mkF m 7 #[.val (.ref aA), .val (.ref b1), .unset] [(.int (0 : Int32))]))
  refine own_F.of (fun _ => XS.istoreN S1.here S1.hx rfl (S1.dec d32_7) rfl (l' := #[.val (.ref aA), .val (.ref b1), .val (.int (0 : Int32))]) rfl) ?_
  show own_F p e below s Z _ _ _ _ _ (T1.setTop (mkF m 8 #[.val (.ref aA), .val (.ref b1), .val (.int (0 : Int32))] []))
  refine own_F.of (fun _ => XS.iloadN S1.here S1.hx rfl (S1.dec d32_8) rfl) ?_
  show own_F p e below s Z _ _ _ _ _ (T1.setTop (mkF m 9 #[.val (.ref aA), .val (.ref b1), .val (.int (0 : Int32))] [(.int (0 : Int32))]))
  refine own_F.of (fun _ => XS.aloadN S1.here S1.hx rfl (S1.dec d32_9) rfl rfl) ?_
  show own_F p e below s Z _ _ _ _ _ (T1.setTop (mkF m 10 #[.val (.ref aA), .val (.ref b1), .val (.int (0 : Int32))] [(.ref aA), (.int (0 : Int32))]))
  have fq3 := (AA.ext E1)
  refine own_len S1 fq3.A d32_10 ?_
  show own_F p e below s Z _ _ _ _ _ (T1.setTop (mkF m 11 #[.val (.ref aA), .val (.ref b1), .val (.int (0 : Int32))] [(.int (3 : Int32)), (.int (0 : Int32))]))
  refine own_icmp S1 29 d32_11 (by decide) (by decide) (fun (hc11_4 : ¬ ((0 : Int32) < (3 : Int32))) => False.elim (absurd hc11_4 (by decide))) (fun (hc11_4 : (0 : Int32) < (3 : Int32)) => ?_)
  show own_F p e below s Z _ _ _ _ _ (T1.setTop (mkF m 14 #[.val (.ref aA), .val (.ref b1), .val (.int (0 : Int32))] []))
  refine own_F.of (fun _ => XS.aloadN S1.here S1.hx rfl (S1.dec d32_14) rfl rfl) ?_
  show own_F p e below s Z _ _ _ _ _ (T1.setTop (mkF m 15 #[.val (.ref aA), .val (.ref b1), .val (.int (0 : Int32))] [(.ref b1)]))
  refine own_F.of (fun _ => XS.iloadN S1.here S1.hx rfl (S1.dec d32_15) rfl) ?_
  show own_F p e below s Z _ _ _ _ _ (T1.setTop (mkF m 16 #[.val (.ref aA), .val (.ref b1), .val (.int (0 : Int32))] [(.int (0 : Int32)), (.ref b1)]))
  refine own_F.of (fun _ => XS.aloadN S1.here S1.hx rfl (S1.dec d32_16) rfl rfl) ?_
  show own_F p e below s Z _ _ _ _ _ (T1.setTop (mkF m 17 #[.val (.ref aA), .val (.ref b1), .val (.int (0 : Int32))] [(.ref aA), (.int (0 : Int32)), (.ref b1)]))
  refine own_F.of (fun _ => XS.iloadN S1.here S1.hx rfl (S1.dec d32_17) rfl) ?_
  show own_F p e below s Z _ _ _ _ _ (T1.setTop (mkF m 18 #[.val (.ref aA), .val (.ref b1), .val (.int (0 : Int32))] [(.int (0 : Int32)), (.ref aA), (.int (0 : Int32)), (.ref b1)]))
  refine own_aald S1 fq3.A rfl (by decide) rfl d32_18 ?_
  show own_F p e below s Z _ _ _ _ _ (T1.setTop (mkF m 19 #[.val (.ref aA), .val (.ref b1), .val (.int (0 : Int32))] [(.ref e1), (.int (0 : Int32)), (.ref b1)]))
  refine own_callS S1 (y := (⟨"java/util/Objects", "requireNonNull", "(Ljava/lang/Object;)Ljava/lang/Object;"⟩ : MethodName)) (own_w hw 215 rfl) (own_w hw 216 rfl) (own_w hw 217 rfl) (own_w hw 218 rfl) (by decide) (argsL := [(.ref e1)]) (rest := [(.int (0 : Int32)), (.ref b1)]) (own_rnn l Z a0 hw e1 h1 S1.old) all0 (by decide +kernel : parseMethodDescriptor "(Ljava/lang/Object;)Ljava/lang/Object;" = some ⟨[(.object "java/lang/Object")], some (.object "java/lang/Object")⟩) rfl rfl rfl d32_19 (by decide) (Nat.le_of_ble_eq_true rfl) (by decide) (by decide) (fun T5 h5 v5 S5 K5 q5 => ?_)
  obtain ⟨rfl, rfl⟩ := q5
  show own_F p e below s Z _ _ _ _ _ (T5.setTop (mkF m 22 #[.val (.ref aA), .val (.ref b1), .val (.int (0 : Int32))] [(.ref e1), (.int (0 : Int32)), (.ref b1)]))
  have fq7 := (X_e1.ext E1)
  refine own_aast S5 V2 (by decide) (Nat.le_of_ble_eq_true rfl) (Ins.of_exa fq7 (own_w hw 177 rfl)) d32_22 (Or.inr (by rw [g1]; exact S0.size)) (fun T6 h6 S6 W6 A6 => ?_)
  have V8 : own_AO Z h6 b1 [(.ref e1), .null, .null] := A6
  show own_F p e below s Z _ _ _ _ _ (T6.setTop (mkF m 23 #[.val (.ref aA), .val (.ref b1), .val (.int (0 : Int32))] []))
  refine own_F.of (fun _ => XS.iinc S6.here S6.hx rfl (S6.dec d32_23) rfl (l' := #[.val (.ref aA), .val (.ref b1), .val (.int (1 : Int32))]) rfl) ?_
  show own_F p e below s Z _ _ _ _ _ (T6.setTop (mkF m 26 #[.val (.ref aA), .val (.ref b1), .val (.int (1 : Int32))] []))
  refine own_F.of (fun _ => XS.goto S6.here S6.hx rfl (pc0 := 26) (pc' := 8) rfl (S6.dec d32_26) (by decide) (by decide)) ?_
  show own_F p e below s Z _ _ _ _ _ (T6.setTop (mkF m 8 #[.val (.ref aA), .val (.ref b1), .val (.int (1 : Int32))] []))
  refine own_F.of (fun _ => XS.iloadN S6.here S6.hx rfl (S6.dec d32_8) rfl) ?_
  show own_F p e below s Z _ _ _ _ _ (T6.setTop (mkF m 9 #[.val (.ref aA), .val (.ref b1), .val (.int (1 : Int32))] [(.int (1 : Int32))]))
  refine own_F.of (fun _ => XS.aloadN S6.here S6.hx rfl (S6.dec d32_9) rfl rfl) ?_
  show own_F p e below s Z _ _ _ _ _ (T6.setTop (mkF m 10 #[.val (.ref aA), .val (.ref b1), .val (.int (1 : Int32))] [(.ref aA), (.int (1 : Int32))]))
  have fq9 := (fq3.other W6 (Nat.ne_of_lt (by rw [g1]; exact (AA.exa).lt)))
  refine own_len S6 fq9.A d32_10 ?_
  show own_F p e below s Z _ _ _ _ _ (T6.setTop (mkF m 11 #[.val (.ref aA), .val (.ref b1), .val (.int (1 : Int32))] [(.int (3 : Int32)), (.int (1 : Int32))]))
  refine own_icmp S6 29 d32_11 (by decide) (by decide) (fun (hc11_10 : ¬ ((1 : Int32) < (3 : Int32))) => False.elim (absurd hc11_10 (by decide))) (fun (hc11_10 : (1 : Int32) < (3 : Int32)) => ?_)
  show own_F p e below s Z _ _ _ _ _ (T6.setTop (mkF m 14 #[.val (.ref aA), .val (.ref b1), .val (.int (1 : Int32))] []))
  refine own_F.of (fun _ => XS.aloadN S6.here S6.hx rfl (S6.dec d32_14) rfl rfl) ?_
  show own_F p e below s Z _ _ _ _ _ (T6.setTop (mkF m 15 #[.val (.ref aA), .val (.ref b1), .val (.int (1 : Int32))] [(.ref b1)]))
  refine own_F.of (fun _ => XS.iloadN S6.here S6.hx rfl (S6.dec d32_15) rfl) ?_
  show own_F p e below s Z _ _ _ _ _ (T6.setTop (mkF m 16 #[.val (.ref aA), .val (.ref b1), .val (.int (1 : Int32))] [(.int (1 : Int32)), (.ref b1)]))
  refine own_F.of (fun _ => XS.aloadN S6.here S6.hx rfl (S6.dec d32_16) rfl rfl) ?_
  show own_F p e below s Z _ _ _ _ _ (T6.setTop (mkF m 17 #[.val (.ref aA), .val (.ref b1), .val (.int (1 : Int32))] [(.ref aA), (.int (1 : Int32)), (.ref b1)]))
  refine own_F.of (fun _ => XS.iloadN S6.here S6.hx rfl (S6.dec d32_17) rfl) ?_
  show own_F p e below s Z _ _ _ _ _ (T6.setTop (mkF m 18 #[.val (.ref aA), .val (.ref b1), .val (.int (1 : Int32))] [(.int (1 : Int32)), (.ref aA), (.int (1 : Int32)), (.ref b1)]))
  refine own_aald S6 fq9.A rfl (by decide) rfl d32_18 ?_
  show own_F p e below s Z _ _ _ _ _ (T6.setTop (mkF m 19 #[.val (.ref aA), .val (.ref b1), .val (.int (1 : Int32))] [(.ref e2), (.int (1 : Int32)), (.ref b1)]))
  refine own_callS S6 (y := (⟨"java/util/Objects", "requireNonNull", "(Ljava/lang/Object;)Ljava/lang/Object;"⟩ : MethodName)) (own_w hw 215 rfl) (own_w hw 216 rfl) (own_w hw 217 rfl) (own_w hw 218 rfl) (by decide) (argsL := [(.ref e2)]) (rest := [(.int (1 : Int32)), (.ref b1)]) (own_rnn l Z a0 hw e2 h6 S6.old) all0 (by decide +kernel : parseMethodDescriptor "(Ljava/lang/Object;)Ljava/lang/Object;" = some ⟨[(.object "java/lang/Object")], some (.object "java/lang/Object")⟩) rfl rfl rfl d32_19 (by decide) (Nat.le_of_ble_eq_true rfl) (by decide) (by decide) (fun T11 h11 v11 S11 K11 q11 => ?_)
  obtain ⟨rfl, rfl⟩ := q11
  show own_F p e below s Z _ _ _ _ _ (T11.setTop (mkF m 22 #[.val (.ref aA), .val (.ref b1), .val (.int (1 : Int32))] [(.ref e2), (.int (1 : Int32)), (.ref b1)]))
  have fq13 := ((X_e2.ext E1).wr W6)
  refine own_aast S11 V8 (by decide) (Nat.le_of_ble_eq_true rfl) (Ins.of_exa fq13 (own_w hw 177 rfl)) d32_22 (Or.inr (by rw [g1]; exact S0.size)) (fun T12 h12 S12 W12 A12 => ?_)
  have V14 : own_AO Z h12 b1 [(.ref e1), (.ref e2), .null] := A12
  show own_F p e below s Z _ _ _ _ _ (T12.setTop (mkF m 23 #[.val (.ref aA), .val (.ref b1), .val (.int (1 : Int32))] []))
  refine own_F.of (fun _ => XS.iinc S12.here S12.hx rfl (S12.dec d32_23) rfl (l' := #[.val (.ref aA), .val (.ref b1), .val (.int (2 : Int32))]) rfl) ?_
  show own_F p e below s Z _ _ _ _ _ (T12.setTop (mkF m 26 #[.val (.ref aA), .val (.ref b1), .val (.int (2 : Int32))] []))
  refine own_F.of (fun _ => XS.goto S12.here S12.hx rfl (pc0 := 26) (pc' := 8) rfl (S12.dec d32_26) (by decide) (by decide)) ?_
  show own_F p e below s Z _ _ _ _ _ (T12.setTop (mkF m 8 #[.val (.ref aA), .val (.ref b1), .val (.int (2 : Int32))] []))
  refine own_F.of (fun _ => XS.iloadN S12.here S12.hx rfl (S12.dec d32_8) rfl) ?_
  show own_F p e below s Z _ _ _ _ _ (T12.setTop (mkF m 9 #[.val (.ref aA), .val (.ref b1), .val (.int (2 : Int32))] [(.int (2 : Int32))]))
  refine own_F.of (fun _ => XS.aloadN S12.here S12.hx rfl (S12.dec d32_9) rfl rfl) ?_
  show own_F p e below s Z _ _ _ _ _ (T12.setTop (mkF m 10 #[.val (.ref aA), .val (.ref b1), .val (.int (2 : Int32))] [(.ref aA), (.int (2 : Int32))]))
  have fq15 := (fq9.other W12 (Nat.ne_of_lt (by rw [g1]; exact (AA.exa).lt)))
  refine own_len S12 fq15.A d32_10 ?_
  show own_F p e below s Z _ _ _ _ _ (T12.setTop (mkF m 11 #[.val (.ref aA), .val (.ref b1), .val (.int (2 : Int32))] [(.int (3 : Int32)), (.int (2 : Int32))]))
  refine own_icmp S12 29 d32_11 (by decide) (by decide) (fun (hc11_16 : ¬ ((2 : Int32) < (3 : Int32))) => False.elim (absurd hc11_16 (by decide))) (fun (hc11_16 : (2 : Int32) < (3 : Int32)) => ?_)
  show own_F p e below s Z _ _ _ _ _ (T12.setTop (mkF m 14 #[.val (.ref aA), .val (.ref b1), .val (.int (2 : Int32))] []))
  refine own_F.of (fun _ => XS.aloadN S12.here S12.hx rfl (S12.dec d32_14) rfl rfl) ?_
  show own_F p e below s Z _ _ _ _ _ (T12.setTop (mkF m 15 #[.val (.ref aA), .val (.ref b1), .val (.int (2 : Int32))] [(.ref b1)]))
  refine own_F.of (fun _ => XS.iloadN S12.here S12.hx rfl (S12.dec d32_15) rfl) ?_
  show own_F p e below s Z _ _ _ _ _ (T12.setTop (mkF m 16 #[.val (.ref aA), .val (.ref b1), .val (.int (2 : Int32))] [(.int (2 : Int32)), (.ref b1)]))
  refine own_F.of (fun _ => XS.aloadN S12.here S12.hx rfl (S12.dec d32_16) rfl rfl) ?_
  show own_F p e below s Z _ _ _ _ _ (T12.setTop (mkF m 17 #[.val (.ref aA), .val (.ref b1), .val (.int (2 : Int32))] [(.ref aA), (.int (2 : Int32)), (.ref b1)]))
  refine own_F.of (fun _ => XS.iloadN S12.here S12.hx rfl (S12.dec d32_17) rfl) ?_
  show own_F p e below s Z _ _ _ _ _ (T12.setTop (mkF m 18 #[.val (.ref aA), .val (.ref b1), .val (.int (2 : Int32))] [(.int (2 : Int32)), (.ref aA), (.int (2 : Int32)), (.ref b1)]))
  refine own_aald S12 fq15.A rfl (by decide) rfl d32_18 ?_
  show own_F p e below s Z _ _ _ _ _ (T12.setTop (mkF m 19 #[.val (.ref aA), .val (.ref b1), .val (.int (2 : Int32))] [(.ref e3), (.int (2 : Int32)), (.ref b1)]))
  refine own_callS S12 (y := (⟨"java/util/Objects", "requireNonNull", "(Ljava/lang/Object;)Ljava/lang/Object;"⟩ : MethodName)) (own_w hw 215 rfl) (own_w hw 216 rfl) (own_w hw 217 rfl) (own_w hw 218 rfl) (by decide) (argsL := [(.ref e3)]) (rest := [(.int (2 : Int32)), (.ref b1)]) (own_rnn l Z a0 hw e3 h12 S12.old) all0 (by decide +kernel : parseMethodDescriptor "(Ljava/lang/Object;)Ljava/lang/Object;" = some ⟨[(.object "java/lang/Object")], some (.object "java/lang/Object")⟩) rfl rfl rfl d32_19 (by decide) (Nat.le_of_ble_eq_true rfl) (by decide) (by decide) (fun T17 h17 v17 S17 K17 q17 => ?_)
  obtain ⟨rfl, rfl⟩ := q17
  show own_F p e below s Z _ _ _ _ _ (T17.setTop (mkF m 22 #[.val (.ref aA), .val (.ref b1), .val (.int (2 : Int32))] [(.ref e3), (.int (2 : Int32)), (.ref b1)]))
  have fq19 := (((X_e3.ext E1).wr W6).wr W12)
  refine own_aast S17 V14 (by decide) (Nat.le_of_ble_eq_true rfl) (Ins.of_exa fq19 (own_w hw 177 rfl)) d32_22 (Or.inr (by rw [g1]; exact S0.size)) (fun T18 h18 S18 W18 A18 => ?_)
  have V20 : own_AO Z h18 b1 [(.ref e1), (.ref e2), (.ref e3)] := A18
  show own_F p e below s Z _ _ _ _ _ (T18.setTop (mkF m 23 #[.val (.ref aA), .val (.ref b1), .val (.int (2 : Int32))] []))
  refine own_F.of (fun _ => XS.iinc S18.here S18.hx rfl (S18.dec d32_23) rfl (l' := #[.val (.ref aA), .val (.ref b1), .val (.int (3 : Int32))]) rfl) ?_
  show own_F p e below s Z _ _ _ _ _ (T18.setTop (mkF m 26 #[.val (.ref aA), .val (.ref b1), .val (.int (3 : Int32))] []))
  refine own_F.of (fun _ => XS.goto S18.here S18.hx rfl (pc0 := 26) (pc' := 8) rfl (S18.dec d32_26) (by decide) (by decide)) ?_
  show own_F p e below s Z _ _ _ _ _ (T18.setTop (mkF m 8 #[.val (.ref aA), .val (.ref b1), .val (.int (3 : Int32))] []))
  refine own_F.of (fun _ => XS.iloadN S18.here S18.hx rfl (S18.dec d32_8) rfl) ?_
  show own_F p e below s Z _ _ _ _ _ (T18.setTop (mkF m 9 #[.val (.ref aA), .val (.ref b1), .val (.int (3 : Int32))] [(.int (3 : Int32))]))
  refine own_F.of (fun _ => XS.aloadN S18.here S18.hx rfl (S18.dec d32_9) rfl rfl) ?_
  show own_F p e below s Z _ _ _ _ _ (T18.setTop (mkF m 10 #[.val (.ref aA), .val (.ref b1), .val (.int (3 : Int32))] [(.ref aA), (.int (3 : Int32))]))
  have fq21 := (fq15.other W18 (Nat.ne_of_lt (by rw [g1]; exact (AA.exa).lt)))
  refine own_len S18 fq21.A d32_10 ?_
  show own_F p e below s Z _ _ _ _ _ (T18.setTop (mkF m 11 #[.val (.ref aA), .val (.ref b1), .val (.int (3 : Int32))] [(.int (3 : Int32)), (.int (3 : Int32))]))
  refine own_icmp S18 29 d32_11 (by decide) (by decide) (fun (hc11_22 : ¬ ((3 : Int32) < (3 : Int32))) => ?_) (fun (hc11_22 : (3 : Int32) < (3 : Int32)) => False.elim (absurd hc11_22 (by decide)))
  show own_F p e below s Z _ _ _ _ _ (T18.setTop (mkF m 29 #[.val (.ref aA), .val (.ref b1), .val (.int (3 : Int32))] []))
  refine own_new S18 (own_w hw 51 rfl) (own_w hw 219 rfl) (own_w hw 118 rfl) d32_29 (by decide) (by decide) (fun T23 h23 b23 g23 S23 E23 A23 D23 => ?_)
  have F23_elements : Fld Z h23 b23 "java/util/ImmutableCollections$ListN" "elements" "[Ljava/lang/Object;" .null := (D23 (Or.inr (own_w hw 121 rfl)) (ty := (.array (.object "java/lang/Object"))) (by decide))
  have F23_allowNulls : Fld Z h23 b23 "java/util/ImmutableCollections$ListN" "allowNulls" "Z" (.int (0 : Int32)) := (D23 (Or.inr (own_w hw 239 rfl)) (ty := .boolean) (by decide))
  show own_F p e below s Z _ _ _ _ _ (T23.setTop (mkF m 32 #[.val (.ref aA), .val (.ref b1), .val (.int (3 : Int32))] [(.ref b23)]))
  refine own_F.of (fun _ => XS.dup S23.here S23.hx rfl (S23.dec d32_32) rfl rfl) ?_
  show own_F p e below s Z _ _ _ _ _ (T23.setTop (mkF m 33 #[.val (.ref aA), .val (.ref b1), .val (.int (3 : Int32))] [(.ref b23), (.ref b23)]))
  refine own_F.of (fun _ => XS.aloadN S23.here S23.hx rfl (S23.dec d32_33) rfl rfl) ?_
  show own_F p e below s Z _ _ _ _ _ (T23.setTop (mkF m 34 #[.val (.ref aA), .val (.ref b1), .val (.int (3 : Int32))] [(.ref b1), (.ref b23), (.ref b23)]))
  refine own_F.of (fun _ => XS.iconst S23.here S23.hx rfl (S23.dec d32_34)) ?_
  show own_F p e below s Z _ _ _ _ _ (T23.setTop (mkF m 35 #[.val (.ref aA), .val (.ref b1), .val (.int (3 : Int32))] [(.int (0 : Int32)), (.ref b1), (.ref b23), (.ref b23)]))
  refine own_callN S23 (y := (⟨"java/util/ImmutableCollections$ListN", "<init>", "([Ljava/lang/Object;Z)V"⟩ : MethodName)) rfl (own_w hw 220 rfl) (own_w hw 221 rfl) (own_w hw 118 rfl) (own_w hw 223 rfl) (by decide) (argsL := [(.ref b1), (.int (0 : Int32))]) (rest := [(.ref b23)]) (own_LNI l Z a0 hw b23 b1 h23 S23.old (own_mayN S23 (Or.inr (by rw [g23]; exact S18.size))) A23 F23_elements F23_allowNulls) (allS (Or.inr (by rw [g23]; exact S18.size)) all0) (by decide +kernel : parseMethodDescriptor "([Ljava/lang/Object;Z)V" = some ⟨[(.array (.object "java/lang/Object")), .boolean], none⟩) rfl rfl rfl d32_35 (by decide) (Nat.le_of_ble_eq_true rfl) (by decide) (by decide) (fun T24 h24 v24 S24 K24 q24 => ?_)
  obtain ⟨rfl, Fe24, Fa24⟩ := q24
  show own_F p e below s Z _ _ _ _ _ (T24.setTop (mkF m 38 #[.val (.ref aA), .val (.ref b1), .val (.int (3 : Int32))] [(.ref b23)]))
  have fq25 := (A23.keep K24)
  have fq26 := ((V20.ext E23).keep K24 (ninS (ne_exa ((V20.exa.ext E23).keep K24) fq25 (by decide)) nin0))
  refine own_retA S24 rfl rfl d32_38 (by decide) (by decide) ?_
  exact ⟨_, rfl, _, fq25, Fe24, fq26, Fa24⟩
theorem d30_0 : decode jdk_29_method_69_code 0 = .ok (.iload_n 0, 1) := by decide +kernel
theorem d30_1 : decode jdk_29_method_69_code 1 = .ok (.iload_n 1, 1) := by decide +kernel
theorem d30_2 : decode jdk_29_method_69_code 2 = .ok (.if_icmp .gt 7, 3) := by decide +kernel
theorem d30_5 : decode jdk_29_method_69_code 5 = .ok (.iload_n 0, 1) := by decide +kernel
theorem d30_6 : decode jdk_29_method_69_code 6 = .ok (.goto 4, 3) := by decide +kernel
theorem d30_9 : decode jdk_29_method_69_code 9 = .ok (.iload_n 1, 1) := by decide +kernel
theorem d30_10 : decode jdk_29_method_69_code 10 = .ok (.ireturn, 1) := by decide +kernel
theorem pn30 : plainFor (⟨"java/lang/Math", "min", "(II)I"⟩ : MethodName) = true := Jvm.Free.JP.mathPlain rfl (by decide +kernel)
set_option maxRecDepth 65536 in
set_option maxHeartbeats 40000000 in
theorem own_min1 (l : Launch) (Z : State) (a0 : Array Value) (hw : ∀ d ∈ tables_1, d.before a0 Z = true)  (h0 : Heap) (hO : Ext Z.heap h0) :
    own_C l Z (⟨"java/lang/Math", "min", "(II)I"⟩ : MethodName) jdk_29_method_69_code 2 (some .int) [] ({ frames := 0, cells := 0, slots := 0, locals := 0 } : Room) [] #[(.int (10 : Int32)), (.int (1 : Int32))] h0 (fun v h => v = some (.int (1 : Int32)) ∧ h0 = h) := by
  refine own_C.of pn30 hO all0 ?_
  intro p e s m below meth c T0 S0
  refine own_F.cast (by first | (simp [entryFrame, mkF, argsToLocals, Value.category]; done) | rfl : entryFrame m #[(.int (10 : Int32)), (.int (1 : Int32))] 2 = mkF m 0 #[.val (.int (10 : Int32)), .val (.int (1 : Int32))] []) ?_
  show own_F p e below s Z _ _ _ _ _ (T0.setTop (mkF m 0 #[.val (.int (10 : Int32)), .val (.int (1 : Int32))] []))
  refine own_F.of (fun _ => XS.iloadN S0.here S0.hx rfl (S0.dec d30_0) rfl) ?_
  show own_F p e below s Z _ _ _ _ _ (T0.setTop (mkF m 1 #[.val (.int (10 : Int32)), .val (.int (1 : Int32))] [(.int (10 : Int32))]))
  refine own_F.of (fun _ => XS.iloadN S0.here S0.hx rfl (S0.dec d30_1) rfl) ?_
  show own_F p e below s Z _ _ _ _ _ (T0.setTop (mkF m 2 #[.val (.int (10 : Int32)), .val (.int (1 : Int32))] [(.int (1 : Int32)), (.int (10 : Int32))]))
  refine own_icmp S0 9 d30_2 (by decide) (by decide) (fun (hc2_1 : (1 : Int32) < (10 : Int32)) => ?_) (fun (hc2_1 : ¬ ((1 : Int32) < (10 : Int32))) => False.elim (absurd hc2_1 (by decide)))
  show own_F p e below s Z _ _ _ _ _ (T0.setTop (mkF m 9 #[.val (.int (10 : Int32)), .val (.int (1 : Int32))] []))
  refine own_F.of (fun _ => XS.iloadN S0.here S0.hx rfl (S0.dec d30_9) rfl) ?_
  show own_F p e below s Z _ _ _ _ _ (T0.setTop (mkF m 10 #[.val (.int (10 : Int32)), .val (.int (1 : Int32))] [(.int (1 : Int32))]))
  refine own_retI S0 d30_10 (by decide) (by decide) ?_
  exact ⟨rfl, rfl⟩
theorem d29_0 : decode jdk_65_method_120_code 0 = .ok (.aload_n 2, 1) := by decide +kernel
theorem d29_1 : decode jdk_65_method_120_code 1 = .ok (.ldc 110, 2) := by decide +kernel
theorem d29_3 : decode jdk_65_method_120_code 3 = .ok (.if_acmp .ne 10, 3) := by decide +kernel
theorem d29_6 : decode jdk_65_method_120_code 6 = .ok (.iload_n 1, 1) := by decide +kernel
theorem d29_7 : decode jdk_65_method_120_code 7 = .ok (.anewarray 2, 3) := by decide +kernel
theorem d29_10 : decode jdk_65_method_120_code 10 = .ok (.goto 14, 3) := by decide +kernel
theorem d29_13 : decode jdk_65_method_120_code 13 = .ok (.aload_n 2, 1) := by decide +kernel
theorem d29_14 : decode jdk_65_method_120_code 14 = .ok (.invokevirtual 90, 3) := by decide +kernel
theorem d29_17 : decode jdk_65_method_120_code 17 = .ok (.iload_n 1, 1) := by decide +kernel
theorem d29_18 : decode jdk_65_method_120_code 18 = .ok (.invokestatic 95, 3) := by decide +kernel
theorem d29_21 : decode jdk_65_method_120_code 21 = .ok (.checkcast 110, 3) := by decide +kernel
theorem d29_24 : decode jdk_65_method_120_code 24 = .ok (.astore_n 3, 1) := by decide +kernel
theorem d29_25 : decode jdk_65_method_120_code 25 = .ok (.aload_n 0, 1) := by decide +kernel
theorem d29_26 : decode jdk_65_method_120_code 26 = .ok (.iconst 0, 1) := by decide +kernel
theorem d29_27 : decode jdk_65_method_120_code 27 = .ok (.aload_n 3, 1) := by decide +kernel
theorem d29_28 : decode jdk_65_method_120_code 28 = .ok (.iconst 0, 1) := by decide +kernel
theorem d29_29 : decode jdk_65_method_120_code 29 = .ok (.aload_n 0, 1) := by decide +kernel
theorem d29_30 : decode jdk_65_method_120_code 30 = .ok (.arraylength, 1) := by decide +kernel
theorem d29_31 : decode jdk_65_method_120_code 31 = .ok (.iload_n 1, 1) := by decide +kernel
theorem d29_32 : decode jdk_65_method_120_code 32 = .ok (.invokestatic 304, 3) := by decide +kernel
theorem d29_35 : decode jdk_65_method_120_code 35 = .ok (.invokestatic 150, 3) := by decide +kernel
theorem d29_38 : decode jdk_65_method_120_code 38 = .ok (.aload_n 3, 1) := by decide +kernel
theorem d29_39 : decode jdk_65_method_120_code 39 = .ok (.areturn, 1) := by decide +kernel
theorem pn29 : plainFor (⟨"java/util/Arrays", "copyOf", "([Ljava/lang/Object;ILjava/lang/Class;)[Ljava/lang/Object;"⟩ : MethodName) = true := plainFor_of_name (by first | (simp [plainName, overriddenIn]; done) | decide +kernel)
set_option maxRecDepth 65536 in
set_option maxHeartbeats 40000000 in
theorem own_cpy3_1 (l : Launch) (Z : State) (a0 : Array Value) (hw : ∀ d ∈ tables_1, d.before a0 Z = true) (aE : Addr) (e1 : Addr) (mO : Addr) (h0 : Heap) (hO : Ext Z.heap h0) (AE : own_AO Z h0 aE [(.ref e1), .null, .null, .null, .null, .null, .null, .null, .null, .null]) (X_e1 : Exa Z h0 e1 "java/lang/Integer") (MO : Mir Z "[Ljava/lang/Object;" mO) :
    own_C l Z (⟨"java/util/Arrays", "copyOf", "([Ljava/lang/Object;ILjava/lang/Class;)[Ljava/lang/Object;"⟩ : MethodName) jdk_65_method_120_code 4 (some (.array (.object "java/lang/Object"))) [] ({ frames := 1, cells := 1, slots := 1, locals := 18 } : Room) [] #[(.ref aE), (.int (1 : Int32)), (.ref mO)] h0 (fun v h => ∃ b, v = some (.ref b) ∧ own_AO Z h b [(.ref e1)]) := by
  refine own_C.of pn29 hO all0 ?_
  intro p e s m below meth c T0 S0
  refine own_F.cast (by first | (simp [entryFrame, mkF, argsToLocals, Value.category]; done) | rfl : entryFrame m #[(.ref aE), (.int (1 : Int32)), (.ref mO)] 4 = mkF m 0 #[.val (.ref aE), .val (.int (1 : Int32)), .val (.ref mO), .unset] []) ?_
  show own_F p e below s Z _ _ _ _ _ (T0.setTop (mkF m 0 #[.val (.ref aE), .val (.int (1 : Int32)), .val (.ref mO), .unset] []))
  refine own_F.of (fun _ => XS.aloadN S0.here S0.hx rfl (S0.dec d29_0) rfl rfl) ?_
  show own_F p e below s Z _ _ _ _ _ (T0.setTop (mkF m 1 #[.val (.ref aE), .val (.int (1 : Int32)), .val (.ref mO), .unset] [(.ref mO)]))
  refine own_ldcM S0 (own_w hw 199 rfl) MO d29_1 (fun T1 S1 => ?_)
  show own_F p e below s Z _ _ _ _ _ (T1.setTop (mkF m 3 #[.val (.ref aE), .val (.int (1 : Int32)), .val (.ref mO), .unset] [(.ref mO), (.ref mO)]))
  refine own_acmp S1 rfl rfl 13 d29_3 (by decide) (by decide) (fun (hc3_2 : ¬ ((Value.ref mO) = (Value.ref mO))) => False.elim (hc3_2 rfl)) (fun (hc3_2 : (Value.ref mO) = (Value.ref mO)) => ?_)
  show own_F p e below s Z _ _ _ _ _ (T1.setTop (mkF m 6 #[.val (.ref aE), .val (.int (1 : Int32)), .val (.ref mO), .unset] []))
  refine own_F.of (fun _ => XS.iloadN S1.here S1.hx rfl (S1.dec d29_6) rfl) ?_
  show own_F p e below s Z _ _ _ _ _ (T1.setTop (mkF m 7 #[.val (.ref aE), .val (.int (1 : Int32)), .val (.ref mO), .unset] [(.int (1 : Int32))]))
  refine own_anew S1 (own_w hw 200 rfl) (own_w hw 176 rfl) d29_7 (by decide) (cap := 1) (by decide) (by decide) (by decide) (by decide) (fun T3 h3 b3 g3 S3 E3 A3 => ?_)
  have V4 : own_AO Z h3 b3 [.null] := A3
  show own_F p e below s Z _ _ _ _ _ (T3.setTop (mkF m 10 #[.val (.ref aE), .val (.int (1 : Int32)), .val (.ref mO), .unset] [(.ref b3)]))
  refine own_F.of (fun _ => XS.goto S3.here S3.hx rfl (pc0 := 10) (pc' := 24) rfl (S3.dec d29_10) (by decide) (by decide)) ?_
  show own_F p e below s Z _ _ _ _ _ (T3.setTop (mkF m 24 #[.val (.ref aE), .val (.int (1 : Int32)), .val (.ref mO), .unset] [(.ref b3)]))
  refine own_F.of (fun _ => XS.astoreN S3.here S3.hx rfl (S3.dec d29_24) rfl rfl (l' := #[.val (.ref aE), .val (.int (1 : Int32)), .val (.ref mO), .val (.ref b3)]) rfl) ?_
  show own_F p e below s Z _ _ _ _ _ (T3.setTop (mkF m 25 #[.val (.ref aE), .val (.int (1 : Int32)), .val (.ref mO), .val (.ref b3)] []))
  refine own_F.of (fun _ => XS.aloadN S3.here S3.hx rfl (S3.dec d29_25) rfl rfl) ?_
  show own_F p e below s Z _ _ _ _ _ (T3.setTop (mkF m 26 #[.val (.ref aE), .val (.int (1 : Int32)), .val (.ref mO), .val (.ref b3)] [(.ref aE)]))
  refine own_F.of (fun _ => XS.iconst S3.here S3.hx rfl (S3.dec d29_26)) ?_
  show own_F p e below s Z _ _ _ _ _ (T3.setTop (mkF m 27 #[.val (.ref aE), .val (.int (1 : Int32)), .val (.ref mO), .val (.ref b3)] [(.int (0 : Int32)), (.ref aE)]))
  refine own_F.of (fun _ => XS.aloadN S3.here S3.hx rfl (S3.dec d29_27) rfl rfl) ?_
  show own_F p e below s Z _ _ _ _ _ (T3.setTop (mkF m 28 #[.val (.ref aE), .val (.int (1 : Int32)), .val (.ref mO), .val (.ref b3)] [(.ref b3), (.int (0 : Int32)), (.ref aE)]))
  refine own_F.of (fun _ => XS.iconst S3.here S3.hx rfl (S3.dec d29_28)) ?_
  show own_F p e below s Z _ _ _ _ _ (T3.setTop (mkF m 29 #[.val (.ref aE), .val (.int (1 : Int32)), .val (.ref mO), .val (.ref b3)] [(.int (0 : Int32)), (.ref b3), (.int (0 : Int32)), (.ref aE)]))
  refine own_F.of (fun _ => XS.aloadN S3.here S3.hx rfl (S3.dec d29_29) rfl rfl) ?_
  show own_F p e below s Z _ _ _ _ _ (T3.setTop (mkF m 30 #[.val (.ref aE), .val (.int (1 : Int32)), .val (.ref mO), .val (.ref b3)] [(.ref aE), (.int (0 : Int32)), (.ref b3), (.int (0 : Int32)), (.ref aE)]))
  have fq5 := (AE.ext E3)
  refine own_len S3 fq5.A d29_30 ?_
  show own_F p e below s Z _ _ _ _ _ (T3.setTop (mkF m 31 #[.val (.ref aE), .val (.int (1 : Int32)), .val (.ref mO), .val (.ref b3)] [(.int (10 : Int32)), (.int (0 : Int32)), (.ref b3), (.int (0 : Int32)), (.ref aE)]))
  refine own_F.of (fun _ => XS.iloadN S3.here S3.hx rfl (S3.dec d29_31) rfl) ?_
  show own_F p e below s Z _ _ _ _ _ (T3.setTop (mkF m 32 #[.val (.ref aE), .val (.int (1 : Int32)), .val (.ref mO), .val (.ref b3)] [(.int (1 : Int32)), (.int (10 : Int32)), (.int (0 : Int32)), (.ref b3), (.int (0 : Int32)), (.ref aE)]))
  refine own_callS S3 (y := (⟨"java/lang/Math", "min", "(II)I"⟩ : MethodName)) (own_w hw 201 rfl) (own_w hw 202 rfl) (own_w hw 173 rfl) (own_w hw 203 rfl) (by decide) (argsL := [(.int (10 : Int32)), (.int (1 : Int32))]) (rest := [(.int (0 : Int32)), (.ref b3), (.int (0 : Int32)), (.ref aE)]) (own_min1 l Z a0 hw h3 S3.old) all0 (by decide +kernel : parseMethodDescriptor "(II)I" = some ⟨[.int, .int], some .int⟩) rfl rfl rfl d29_32 (by decide) (Nat.le_of_ble_eq_true rfl) (by decide) (by decide) (fun T6 h6 v6 S6 K6 q6 => ?_)
  obtain ⟨rfl, rfl⟩ := q6
  show own_F p e below s Z _ _ _ _ _ (T6.setTop (mkF m 35 #[.val (.ref aE), .val (.int (1 : Int32)), .val (.ref mO), .val (.ref b3)] [(.int (1 : Int32)), (.int (0 : Int32)), (.ref b3), (.int (0 : Int32)), (.ref aE)]))
  have fq8 := (X_e1.ext E3)
  refine own_copy S6 (own_w hw 204 rfl) (own_w hw 207 rfl) (own_w hw 205 rfl) (own_w hw 206 rfl) fq5 V4 (by decide) (Nat.le_of_ble_eq_true rfl) (Nat.le_of_ble_eq_true rfl) [(.ref e1)] rfl ⟨own_sto V4 (Ins.of_exa fq8 (own_w hw 177 rfl)), trivial⟩ (Or.inr (by rw [g3]; exact S1.size)) rfl d29_35 (by decide) (Nat.le_of_ble_eq_true rfl) (fun T7 h7 S7 K7 A7 => ?_)
  have V9 : own_AO Z h7 b3 [(.ref e1)] := A7
  show own_F p e below s Z _ _ _ _ _ (T7.setTop (mkF m 38 #[.val (.ref aE), .val (.int (1 : Int32)), .val (.ref mO), .val (.ref b3)] []))
  refine own_F.of (fun _ => XS.aloadN S7.here S7.hx rfl (S7.dec d29_38) rfl rfl) ?_
  show own_F p e below s Z _ _ _ _ _ (T7.setTop (mkF m 39 #[.val (.ref aE), .val (.int (1 : Int32)), .val (.ref mO), .val (.ref b3)] [(.ref b3)]))
  refine own_retA S7 rfl rfl d29_39 (by decide) (by decide) ?_
  exact ⟨_, rfl, V9⟩
theorem d28_0 : decode jdk_65_method_119_code 0 = .ok (.aload_n 0, 1) := by decide +kernel
theorem d28_1 : decode jdk_65_method_119_code 1 = .ok (.iload_n 1, 1) := by decide +kernel
theorem d28_2 : decode jdk_65_method_119_code 2 = .ok (.aload_n 0, 1) := by decide +kernel
theorem d28_3 : decode jdk_65_method_119_code 3 = .ok (.invokevirtual 86, 3) := by decide +kernel
theorem d28_6 : decode jdk_65_method_119_code 6 = .ok (.invokestatic 300, 3) := by decide +kernel
theorem d28_9 : decode jdk_65_method_119_code 9 = .ok (.areturn, 1) := by decide +kernel
theorem pn28 : plainFor (⟨"java/util/Arrays", "copyOf", "([Ljava/lang/Object;I)[Ljava/lang/Object;"⟩ : MethodName) = true := plainFor_of_name (by first | (simp [plainName, overriddenIn]; done) | decide +kernel)
set_option maxRecDepth 65536 in
set_option maxHeartbeats 40000000 in
theorem own_cpy1 (l : Launch) (Z : State) (a0 : Array Value) (hw : ∀ d ∈ tables_1, d.before a0 Z = true) (aE : Addr) (e1 : Addr) (mO : Addr) (h0 : Heap) (hO : Ext Z.heap h0) (AE : own_AO Z h0 aE [(.ref e1), .null, .null, .null, .null, .null, .null, .null, .null, .null]) (X_e1 : Exa Z h0 e1 "java/lang/Integer") (MO : Mir Z "[Ljava/lang/Object;" mO) :
    own_C l Z (⟨"java/util/Arrays", "copyOf", "([Ljava/lang/Object;I)[Ljava/lang/Object;"⟩ : MethodName) jdk_65_method_119_code 2 (some (.array (.object "java/lang/Object"))) [] ({ frames := 2, cells := 1, slots := 1, locals := 33 } : Room) [] #[(.ref aE), (.int (1 : Int32))] h0 (fun v h => ∃ b, v = some (.ref b) ∧ own_AO Z h b [(.ref e1)]) := by
  refine own_C.of pn28 hO all0 ?_
  intro p e s m below meth c T0 S0
  refine own_F.cast (by first | (simp [entryFrame, mkF, argsToLocals, Value.category]; done) | rfl : entryFrame m #[(.ref aE), (.int (1 : Int32))] 2 = mkF m 0 #[.val (.ref aE), .val (.int (1 : Int32))] []) ?_
  show own_F p e below s Z _ _ _ _ _ (T0.setTop (mkF m 0 #[.val (.ref aE), .val (.int (1 : Int32))] []))
  refine own_F.of (fun _ => XS.aloadN S0.here S0.hx rfl (S0.dec d28_0) rfl rfl) ?_
  show own_F p e below s Z _ _ _ _ _ (T0.setTop (mkF m 1 #[.val (.ref aE), .val (.int (1 : Int32))] [(.ref aE)]))
  refine own_F.of (fun _ => XS.iloadN S0.here S0.hx rfl (S0.dec d28_1) rfl) ?_
  show own_F p e below s Z _ _ _ _ _ (T0.setTop (mkF m 2 #[.val (.ref aE), .val (.int (1 : Int32))] [(.int (1 : Int32)), (.ref aE)]))
  refine own_F.of (fun _ => XS.aloadN S0.here S0.hx rfl (S0.dec d28_2) rfl rfl) ?_
  show own_F p e below s Z _ _ _ _ _ (T0.setTop (mkF m 3 #[.val (.ref aE), .val (.int (1 : Int32))] [(.ref aE), (.int (1 : Int32)), (.ref aE)]))
  refine own_gcls S0 (own_w hw 190 rfl) (own_w hw 191 rfl) (own_w hw 50 rfl) (own_w hw 193 rfl) (own_w hw 192 rfl) (own_w hw 194 rfl) AE.exa MO rfl d28_3 (by decide) (Nat.le_of_ble_eq_true rfl) (fun T1 S1 => ?_)
  show own_F p e below s Z _ _ _ _ _ (T1.setTop (mkF m 6 #[.val (.ref aE), .val (.int (1 : Int32))] [(.ref mO), (.int (1 : Int32)), (.ref aE)]))
  refine own_callS S1 (y := (⟨"java/util/Arrays", "copyOf", "([Ljava/lang/Object;ILjava/lang/Class;)[Ljava/lang/Object;"⟩ : MethodName)) (own_w hw 196 rfl) (own_w hw 197 rfl) (own_w hw 188 rfl) (own_w hw 198 rfl) (by decide) (argsL := [(.ref aE), (.int (1 : Int32)), (.ref mO)]) (rest := []) (own_cpy3_1 l Z a0 hw aE e1 mO h0 S1.old AE X_e1 MO) all0 (by decide +kernel : parseMethodDescriptor "([Ljava/lang/Object;ILjava/lang/Class;)[Ljava/lang/Object;" = some ⟨[(.array (.object "java/lang/Object")), .int, (.object "java/lang/Class")], some (.array (.object "java/lang/Object"))⟩) rfl rfl rfl d28_6 (by decide) (Nat.le_of_ble_eq_true rfl) (by decide) (by decide) (fun T2 h2 v2 S2 K2 q2 => ?_)
  obtain ⟨b2, rfl, F2⟩ := q2
  show own_F p e below s Z _ _ _ _ _ (T2.setTop (mkF m 9 #[.val (.ref aE), .val (.int (1 : Int32))] [(.ref b2)]))
  refine own_retA S2 rfl rfl d28_9 (by decide) (by decide) ?_
  exact ⟨_, rfl, F2⟩
theorem d27_0 : decode jdk_38_method_16_code 0 = .ok (.aload_n 0, 1) := by decide +kernel
theorem d27_1 : decode jdk_38_method_16_code 1 = .ok (.getfield 9, 3) := by decide +kernel
theorem d27_4 : decode jdk_38_method_16_code 4 = .ok (.aload_n 0, 1) := by decide +kernel
theorem d27_5 : decode jdk_38_method_16_code 5 = .ok (.getfield 48, 3) := by decide +kernel
theorem d27_8 : decode jdk_38_method_16_code 8 = .ok (.invokestatic 66, 3) := by decide +kernel
theorem d27_11 : decode jdk_38_method_16_code 11 = .ok (.areturn, 1) := by decide +kernel
theorem pn27 : plainFor (⟨"java/util/ArrayList", "toArray", "()[Ljava/lang/Object;"⟩ : MethodName) = true := plainFor_of_name (by first | (simp [plainName, overriddenIn]; done) | decide +kernel)
set_option maxRecDepth 65536 in
set_option maxHeartbeats 40000000 in
theorem own_toArr1 (l : Launch) (Z : State) (a0 : Array Value) (hw : ∀ d ∈ tables_1, d.before a0 Z = true) (a1 aE : Addr) (e1 : Addr) (mO : Addr) (h0 : Heap) (hO : Ext Z.heap h0) (F_elementData : Fld Z h0 a1 "java/util/ArrayList" "elementData" "[Ljava/lang/Object;" (.ref aE)) (F_size : Fld Z h0 a1 "java/util/ArrayList" "size" "I" (.int (1 : Int32))) (AE : own_AO Z h0 aE [(.ref e1), .null, .null, .null, .null, .null, .null, .null, .null, .null]) (X_e1 : Exa Z h0 e1 "java/lang/Integer") (MO : Mir Z "[Ljava/lang/Object;" mO) :
    own_C l Z (⟨"java/util/ArrayList", "toArray", "()[Ljava/lang/Object;"⟩ : MethodName) jdk_38_method_16_code 1 (some (.array (.object "java/lang/Object"))) [] ({ frames := 3, cells := 1, slots := 1, locals := 46 } : Room) [] #[(.ref a1)] h0 (fun v h => ∃ b, v = some (.ref b) ∧ own_AO Z h b [(.ref e1)]) := by
  refine own_C.of pn27 hO all0 ?_
  intro p e s m below meth c T0 S0
  refine own_F.cast (by first | (simp [entryFrame, mkF, argsToLocals, Value.category]; done) | rfl : entryFrame m #[(.ref a1)] 1 = mkF m 0 #[.val (.ref a1)] []) ?_
  show own_F p e below s Z _ _ _ _ _ (T0.setTop (mkF m 0 #[.val (.ref a1)] []))
  refine own_F.of (fun _ => XS.aloadN S0.here S0.hx rfl (S0.dec d27_0) rfl rfl) ?_
  show own_F p e below s Z _ _ _ _ _ (T0.setTop (mkF m 1 #[.val (.ref a1)] [(.ref a1)]))
  refine own_getF S0 (host := "") (Or.inl (own_w hw 24 rfl)) Via.refl F_elementData d27_1 (fun T1 S1 => ?_)
  show own_F p e below s Z _ _ _ _ _ (T1.setTop (mkF m 4 #[.val (.ref a1)] [(.ref aE)]))
  refine own_F.of (fun _ => XS.aloadN S1.here S1.hx rfl (S1.dec d27_4) rfl rfl) ?_
  show own_F p e below s Z _ _ _ _ _ (T1.setTop (mkF m 5 #[.val (.ref a1)] [(.ref a1), (.ref aE)]))
  refine own_getF S1 (host := "") (Or.inl (own_w hw 61 rfl)) Via.refl F_size d27_5 (fun T2 S2 => ?_)
  show own_F p e below s Z _ _ _ _ _ (T2.setTop (mkF m 8 #[.val (.ref a1)] [(.int (1 : Int32)), (.ref aE)]))
  refine own_callS S2 (y := (⟨"java/util/Arrays", "copyOf", "([Ljava/lang/Object;I)[Ljava/lang/Object;"⟩ : MethodName)) (own_w hw 186 rfl) (own_w hw 187 rfl) (own_w hw 188 rfl) (own_w hw 189 rfl) (by decide) (argsL := [(.ref aE), (.int (1 : Int32))]) (rest := []) (own_cpy1 l Z a0 hw aE e1 mO h0 S2.old AE X_e1 MO) all0 (by decide +kernel : parseMethodDescriptor "([Ljava/lang/Object;I)[Ljava/lang/Object;" = some ⟨[(.array (.object "java/lang/Object")), .int], some (.array (.object "java/lang/Object"))⟩) rfl rfl rfl d27_8 (by decide) (Nat.le_of_ble_eq_true rfl) (by decide) (by decide) (fun T3 h3 v3 S3 K3 q3 => ?_)
  obtain ⟨b3, rfl, F3⟩ := q3
  show own_F p e below s Z _ _ _ _ _ (T3.setTop (mkF m 11 #[.val (.ref a1)] [(.ref b3)]))
  refine own_retA S3 rfl rfl d27_11 (by decide) (by decide) ?_
  exact ⟨_, rfl, F3⟩
theorem d31_0 : decode jdk_40_method_47_code 0 = .ok (.aload_n 0, 1) := by decide +kernel
theorem d31_1 : decode jdk_40_method_47_code 1 = .ok (.arraylength, 1) := by decide +kernel
theorem d31_2 : decode jdk_40_method_47_code 2 = .ok (.tableswitch 57 0 2 #[26, 32, 43], 26) := by decide +kernel
theorem d31_28 : decode jdk_40_method_47_code 28 = .ok (.getstatic 90, 3) := by decide +kernel
theorem d31_31 : decode jdk_40_method_47_code 31 = .ok (.astore_n 1, 1) := by decide +kernel
theorem d31_32 : decode jdk_40_method_47_code 32 = .ok (.aload_n 1, 1) := by decide +kernel
theorem d31_33 : decode jdk_40_method_47_code 33 = .ok (.areturn, 1) := by decide +kernel
theorem d31_34 : decode jdk_40_method_47_code 34 = .ok (.new 96, 3) := by decide +kernel
theorem d31_37 : decode jdk_40_method_47_code 37 = .ok (.dup, 1) := by decide +kernel
theorem d31_38 : decode jdk_40_method_47_code 38 = .ok (.aload_n 0, 1) := by decide +kernel
theorem d31_39 : decode jdk_40_method_47_code 39 = .ok (.iconst 0, 1) := by decide +kernel
theorem d31_40 : decode jdk_40_method_47_code 40 = .ok (.aaload, 1) := by decide +kernel
theorem d31_41 : decode jdk_40_method_47_code 41 = .ok (.invokespecial 98, 3) := by decide +kernel
theorem d31_44 : decode jdk_40_method_47_code 44 = .ok (.areturn, 1) := by decide +kernel
theorem d31_45 : decode jdk_40_method_47_code 45 = .ok (.new 96, 3) := by decide +kernel
theorem d31_48 : decode jdk_40_method_47_code 48 = .ok (.dup, 1) := by decide +kernel
theorem d31_49 : decode jdk_40_method_47_code 49 = .ok (.aload_n 0, 1) := by decide +kernel
theorem d31_50 : decode jdk_40_method_47_code 50 = .ok (.iconst 0, 1) := by decide +kernel
theorem d31_51 : decode jdk_40_method_47_code 51 = .ok (.aaload, 1) := by decide +kernel
theorem d31_52 : decode jdk_40_method_47_code 52 = .ok (.aload_n 0, 1) := by decide +kernel
theorem d31_53 : decode jdk_40_method_47_code 53 = .ok (.iconst 1, 1) := by decide +kernel
theorem d31_54 : decode jdk_40_method_47_code 54 = .ok (.aaload, 1) := by decide +kernel
theorem d31_55 : decode jdk_40_method_47_code 55 = .ok (.invokespecial 100, 3) := by decide +kernel
theorem d31_58 : decode jdk_40_method_47_code 58 = .ok (.areturn, 1) := by decide +kernel
theorem d31_59 : decode jdk_40_method_47_code 59 = .ok (.aload_n 0, 1) := by decide +kernel
theorem d31_60 : decode jdk_40_method_47_code 60 = .ok (.invokestatic 109, 3) := by decide +kernel
theorem d31_63 : decode jdk_40_method_47_code 63 = .ok (.areturn, 1) := by decide +kernel
theorem pn31 : plainFor (⟨"java/util/List", "of", "([Ljava/lang/Object;)Ljava/util/List;"⟩ : MethodName) = true := plainFor_of_name (by first | (simp [plainName, overriddenIn]; done) | decide +kernel)
set_option maxRecDepth 65536 in
set_option maxHeartbeats 40000000 in
theorem own_of1 (l : Launch) (Z : State) (a0 : Array Value) (hw : ∀ d ∈ tables_1, d.before a0 Z = true) (aA : Addr) (e1 : Addr) (aM : Addr) (h0 : Heap) (hO : Ext Z.heap h0) (SM : Sta Z Z.heap "java/util/ImmutableCollections" "EMPTY" "Ljava/lang/Object;" (.ref aM)) (AA : own_AO Z h0 aA [(.ref e1)]) (X_e1 : Exa Z h0 e1 "java/lang/Integer") :
    own_C l Z (⟨"java/util/List", "of", "([Ljava/lang/Object;)Ljava/util/List;"⟩ : MethodName) jdk_40_method_47_code 2 (some (.object "java/util/List")) [] ({ frames := 5, cells := 1, slots := 2, locals := 62 } : Room) [] #[(.ref aA)] h0 (fun v h => ∃ b, v = some (.ref b) ∧ Exa Z h b "java/util/ImmutableCollections$List12" ∧ Fld Z h b "java/util/ImmutableCollections$List12" "e0" "Ljava/lang/Object;" (.ref e1) ∧ Fld Z h b "java/util/ImmutableCollections$List12" "e1" "Ljava/lang/Object;" (.ref aM)) := by
  refine own_C.of pn31 hO all0 ?_
  intro p e s m below meth c T0 S0
  refine own_F.cast (by first | (simp [entryFrame, mkF, argsToLocals, Value.category]; done) | rfl : entryFrame m #[(.ref aA)] 2 = mkF m 0 #[.val (.ref aA), .unset] []) ?_
  show own_F p e below s Z _ _ _ _ _ (T0.setTop (mkF m 0 #[.val (.ref aA), .unset] []))
  refine own_F.of (fun _ => XS.aloadN S0.here S0.hx rfl (S0.dec d31_0) rfl rfl) ?_
  show own_F p e below s Z _ _ _ _ _ (T0.setTop (mkF m 1 #[.val (.ref aA), .unset] [(.ref aA)]))
  refine own_len S0 AA.A d31_1 ?_
  show own_F p e below s Z _ _ _ _ _ (T0.setTop (mkF m 2 #[.val (.ref aA), .unset] [(.int (1 : Int32))]))
  refine own_tsw S0 1 32 34 d31_2 (by decide) (by decide) (by decide) (by decide) (by decide) ?_
  show own_F p e below s Z _ _ _ _ _ (T0.setTop (mkF m 34 #[.val (.ref aA), .unset] []))
  refine own_new S0 (own_w hw 270 rfl) (own_w hw 271 rfl) (own_w hw 272 rfl) d31_34 (by decide) (by decide) (fun T1 h1 b1 g1 S1 E1 A1 D1 => ?_)
  have F1_e0 : Fld Z h1 b1 "java/util/ImmutableCollections$List12" "e0" "Ljava/lang/Object;" .null := (D1 (Or.inr (own_w hw 283 rfl)) (ty := (.object "java/lang/Object")) (by decide))
  have F1_e1 : Fld Z h1 b1 "java/util/ImmutableCollections$List12" "e1" "Ljava/lang/Object;" .null := (D1 (Or.inr (own_w hw 285 rfl)) (ty := (.object "java/lang/Object")) (by decide))
  show own_F p e below s Z _ _ _ _ _ (T1.setTop (mkF m 37 #[.val (.ref aA), .unset] [(.ref b1)]))
  refine own_F.of (fun _ => XS.dup S1.here S1.hx rfl (S1.dec d31_37) rfl rfl) ?_
  show own_F p e below s Z _ _ _ _ _ (T1.setTop (mkF m 38 #[.val (.ref aA), .unset] [(.ref b1), (.ref b1)]))
  refine own_F.of (fun _ => XS.aloadN S1.here S1.hx rfl (S1.dec d31_38) rfl rfl) ?_
  show own_F p e below s Z _ _ _ _ _ (T1.setTop (mkF m 39 #[.val (.ref aA), .unset] [(.ref aA), (.ref b1), (.ref b1)]))
  refine own_F.of (fun _ => XS.iconst S1.here S1.hx rfl (S1.dec d31_39)) ?_
  show own_F p e below s Z _ _ _ _ _ (T1.setTop (mkF m 40 #[.val (.ref aA), .unset] [(.int (0 : Int32)), (.ref aA), (.ref b1), (.ref b1)]))
  have fq2 := (AA.ext E1)
  refine own_aald S1 fq2.A rfl (by decide) rfl d31_40 ?_
  show own_F p e below s Z _ _ _ _ _ (T1.setTop (mkF m 41 #[.val (.ref aA), .unset] [(.ref e1), (.ref b1), (.ref b1)]))
  refine own_callI S1 (y := (⟨"java/util/ImmutableCollections$List12", "<init>", "(Ljava/lang/Object;)V"⟩ : MethodName)) rfl (own_w hw 298 rfl) (own_w hw 299 rfl) (own_w hw 272 rfl) (own_w hw 300 rfl) (by decide) (argsL := [(.ref e1)]) (rest := [(.ref b1)]) (own_L12_1 l Z a0 hw b1 e1 aM h1 S1.old SM (own_mayN S1 (Or.inr (by rw [g1]; exact S0.size))) A1 F1_e0 F1_e1) (allS (Or.inr (by rw [g1]; exact S0.size)) all0) (by decide +kernel : parseMethodDescriptor "(Ljava/lang/Object;)V" = some ⟨[(.object "java/lang/Object")], none⟩) rfl rfl rfl d31_41 (by decide) (Nat.le_of_ble_eq_true rfl) (by decide) (by decide) (fun T3 h3 v3 S3 K3 q3 => ?_)
  obtain ⟨rfl, Fe3, Fa3⟩ := q3
  show own_F p e below s Z _ _ _ _ _ (T3.setTop (mkF m 44 #[.val (.ref aA), .unset] [(.ref b1)]))
  have fq4 := (A1.keep K3)
  refine own_retA S3 rfl rfl d31_44 (by decide) (by decide) ?_
  exact ⟨_, rfl, fq4, Fe3, Fa3⟩
set_option maxRecDepth 65536 in
set_option maxHeartbeats 40000000 in
theorem own_min2 (l : Launch) (Z : State) (a0 : Array Value) (hw : ∀ d ∈ tables_1, d.before a0 Z = true)  (h0 : Heap) (hO : Ext Z.heap h0) :
    own_C l Z (⟨"java/lang/Math", "min", "(II)I"⟩ : MethodName) jdk_29_method_69_code 2 (some .int) [] ({ frames := 0, cells := 0, slots := 0, locals := 0 } : Room) [] #[(.int (10 : Int32)), (.int (2 : Int32))] h0 (fun v h => v = some (.int (2 : Int32)) ∧ h0 = h) := by
  refine own_C.of pn30 hO all0 ?_
  intro p e s m below meth c T0 S0
  refine own_F.cast (by first | (simp [entryFrame, mkF, argsToLocals, Value.category]; done) | rfl : entryFrame m #[(.int (10 : Int32)), (.int (2 : Int32))] 2 = mkF m 0 #[.val (.int (10 : Int32)), .val (.int (2 : Int32))] []) ?_
  show own_F p e below s Z _ _ _ _ _ (T0.setTop (mkF m 0 #[.val (.int (10 : Int32)), .val (.int (2 : Int32))] []))
  refine own_F.of (fun _ => XS.iloadN S0.here S0.hx rfl (S0.dec d30_0) rfl) ?_
  show own_F p e below s Z _ _ _ _ _ (T0.setTop (mkF m 1 #[.val (.int (10 : Int32)), .val (.int (2 : Int32))] [(.int (10 : Int32))]))
  refine own_F.of (fun _ => XS.iloadN S0.here S0.hx rfl (S0.dec d30_1) rfl) ?_
  show own_F p e below s Z _ _ _ _ _ (T0.setTop (mkF m 2 #[.val (.int (10 : Int32)), .val (.int (2 : Int32))] [(.int (2 : Int32)), (.int (10 : Int32))]))
  refine own_icmp S0 9 d30_2 (by decide) (by decide) (fun (hc2_1 : (2 : Int32) < (10 : Int32)) => ?_) (fun (hc2_1 : ¬ ((2 : Int32) < (10 : Int32))) => False.elim (absurd hc2_1 (by decide)))
  show own_F p e below s Z _ _ _ _ _ (T0.setTop (mkF m 9 #[.val (.int (10 : Int32)), .val (.int (2 : Int32))] []))
  refine own_F.of (fun _ => XS.iloadN S0.here S0.hx rfl (S0.dec d30_9) rfl) ?_
  show own_F p e below s Z _ _ _ _ _ (T0.setTop (mkF m 10 #[.val (.int (10 : Int32)), .val (.int (2 : Int32))] [(.int (2 : Int32))]))
  refine own_retI S0 d30_10 (by decide) (by decide) ?_
  exact ⟨rfl, rfl⟩
set_option maxRecDepth 65536 in
set_option maxHeartbeats 40000000 in
theorem own_cpy3_2 (l : Launch) (Z : State) (a0 : Array Value) (hw : ∀ d ∈ tables_1, d.before a0 Z = true) (aE : Addr) (e1 e2 : Addr) (mO : Addr) (h0 : Heap) (hO : Ext Z.heap h0) (AE : own_AO Z h0 aE [(.ref e1), (.ref e2), .null, .null, .null, .null, .null, .null, .null, .null]) (X_e1 : Exa Z h0 e1 "java/lang/Integer") (X_e2 : Exa Z h0 e2 "java/lang/Integer") (MO : Mir Z "[Ljava/lang/Object;" mO) :
    own_C l Z (⟨"java/util/Arrays", "copyOf", "([Ljava/lang/Object;ILjava/lang/Class;)[Ljava/lang/Object;"⟩ : MethodName) jdk_65_method_120_code 4 (some (.array (.object "java/lang/Object"))) [] ({ frames := 1, cells := 1, slots := 2, locals := 18 } : Room) [] #[(.ref aE), (.int (2 : Int32)), (.ref mO)] h0 (fun v h => ∃ b, v = some (.ref b) ∧ own_AO Z h b [(.ref e1), (.ref e2)]) := by
  refine own_C.of pn29 hO all0 ?_
  intro p e s m below meth c T0 S0
  refine own_F.cast (by first | (simp [entryFrame, mkF, argsToLocals, Value.category]; done) | rfl : entryFrame m #[(.ref aE), (.int (2 : Int32)), (.ref mO)] 4 = mkF m 0 #[.val (.ref aE), .val (.int (2 : Int32)), .val (.ref mO), .unset] []) ?_
  show own_F p e below s Z _ _ _ _ _ (T0.setTop (mkF m 0 #[.val (.ref aE), .val (.int (2 : Int32)), .val (.ref mO), .unset] []))
  refine own_F.of (fun _ => XS.aloadN S0.here S0.hx rfl (S0.dec d29_0) rfl rfl) ?_
  show own_F p e below s Z _ _ _ _ _ (T0.setTop (mkF m 1 #[.val (.ref aE), .val (.int (2 : Int32)), .val (.ref mO), .unset] [(.ref mO)]))
  refine own_ldcM S0 (own_w hw 199 rfl) MO d29_1 (fun T1 S1 => ?_)
  show own_F p e below s Z _ _ _ _ _ (T1.setTop (mkF m 3 #[.val (.ref aE), .val (.int (2 : Int32)), .val (.ref mO), .unset] [(.ref mO), (.ref mO)]))
  refine own_acmp S1 rfl rfl 13 d29_3 (by decide) (by decide) (fun (hc3_2 : ¬ ((Value.ref mO) = (Value.ref mO))) => False.elim (hc3_2 rfl)) (fun (hc3_2 : (Value.ref mO) = (Value.ref mO)) => ?_)
  show own_F p e below s Z _ _ _ _ _ (T1.setTop (mkF m 6 #[.val (.ref aE), .val (.int (2 : Int32)), .val (.ref mO), .unset] []))
  refine own_F.of (fun _ => XS.iloadN S1.here S1.hx rfl (S1.dec d29_6) rfl) ?_
  show own_F p e below s Z _ _ _ _ _ (T1.setTop (mkF m 7 #[.val (.ref aE), .val (.int (2 : Int32)), .val (.ref mO), .unset] [(.int (2 : Int32))]))
  refine own_anew S1 (own_w hw 200 rfl) (own_w hw 176 rfl) d29_7 (by decide) (cap := 2) (by decide) (by decide) (by decide) (by decide) (fun T3 h3 b3 g3 S3 E3 A3 => ?_)
  have V4 : own_AO Z h3 b3 [.null, .null] := A3
  show own_F p e below s Z _ _ _ _ _ (T3.setTop (mkF m 10 #[.val (.ref aE), .val (.int (2 : Int32)), .val (.ref mO), .unset] [(.ref b3)]))
  refine own_F.of (fun _ => XS.goto S3.here S3.hx rfl (pc0 := 10) (pc' := 24) rfl (S3.dec d29_10) (by decide) (by decide)) ?_
  show own_F p e below s Z _ _ _ _ _ (T3.setTop (mkF m 24 #[.val (.ref aE), .val (.int (2 : Int32)), .val (.ref mO), .unset] [(.ref b3)]))
  refine own_F.of (fun _ => XS.astoreN S3.here S3.hx rfl (S3.dec d29_24) rfl rfl (l' := #[.val (.ref aE), .val (.int (2 : Int32)), .val (.ref mO), .val (.ref b3)]) rfl) ?_
  show own_F p e below s Z _ _ _ _ _ (T3.setTop (mkF m 25 #[.val (.ref aE), .val (.int (2 : Int32)), .val (.ref mO), .val (.ref b3)] []))
  refine own_F.of (fun _ => XS.aloadN S3.here S3.hx rfl (S3.dec d29_25) rfl rfl) ?_
  show own_F p e below s Z _ _ _ _ _ (T3.setTop (mkF m 26 #[.val (.ref aE), .val (.int (2 : Int32)), .val (.ref mO), .val (.ref b3)] [(.ref aE)]))
  refine own_F.of (fun _ => XS.iconst S3.here S3.hx rfl (S3.dec d29_26)) ?_
  show own_F p e below s Z _ _ _ _ _ (T3.setTop (mkF m 27 #[.val (.ref aE), .val (.int (2 : Int32)), .val (.ref mO), .val (.ref b3)] [(.int (0 : Int32)), (.ref aE)]))
  refine own_F.of (fun _ => XS.aloadN S3.here S3.hx rfl (S3.dec d29_27) rfl rfl) ?_
  show own_F p e below s Z _ _ _ _ _ (T3.setTop (mkF m 28 #[.val (.ref aE), .val (.int (2 : Int32)), .val (.ref mO), .val (.ref b3)] [(.ref b3), (.int (0 : Int32)), (.ref aE)]))
  refine own_F.of (fun _ => XS.iconst S3.here S3.hx rfl (S3.dec d29_28)) ?_
  show own_F p e below s Z _ _ _ _ _ (T3.setTop (mkF m 29 #[.val (.ref aE), .val (.int (2 : Int32)), .val (.ref mO), .val (.ref b3)] [(.int (0 : Int32)), (.ref b3), (.int (0 : Int32)), (.ref aE)]))
  refine own_F.of (fun _ => XS.aloadN S3.here S3.hx rfl (S3.dec d29_29) rfl rfl) ?_
  show own_F p e below s Z _ _ _ _ _ (T3.setTop (mkF m 30 #[.val (.ref aE), .val (.int (2 : Int32)), .val (.ref mO), .val (.ref b3)] [(.ref aE), (.int (0 : Int32)), (.ref b3), (.int (0 : Int32)), (.ref aE)]))
  have fq5 := (AE.ext E3)
  refine own_len S3 fq5.A d29_30 ?_
  show own_F p e below s Z _ _ _ _ _ (T3.setTop (mkF m 31 #[.val (.ref aE), .val (.int (2 : Int32)), .val (.ref mO), .val (.ref b3)] [(.int (10 : Int32)), (.int (0 : Int32)), (.ref b3), (.int (0 : Int32)), (.ref aE)]))
  refine own_F.of (fun _ => XS.iloadN S3.here S3.hx rfl (S3.dec d29_31) rfl) ?_
  show own_F p e below s Z _ _ _ _ _ (T3.setTop (mkF m 32 #[.val (.ref aE), .val (.int (2 : Int32)), .val (.ref mO), .val (.ref b3)] [(.int (2 : Int32)), (.int (10 : Int32)), (.int (0 : Int32)), (.ref b3), (.int (0 : Int32)), (.ref aE)]))
  refine own_callS S3 (y := (⟨"java/lang/Math", "min", "(II)I"⟩ : MethodName)) (own_w hw 201 rfl) (own_w hw 202 rfl) (own_w hw 173 rfl) (own_w hw 203 rfl) (by decide) (argsL := [(.int (10 : Int32)), (.int (2 : Int32))]) (rest := [(.int (0 : Int32)), (.ref b3), (.int (0 : Int32)), (.ref aE)]) (own_min2 l Z a0 hw h3 S3.old) all0 (by decide +kernel : parseMethodDescriptor "(II)I" = some ⟨[.int, .int], some .int⟩) rfl rfl rfl d29_32 (by decide) (Nat.le_of_ble_eq_true rfl) (by decide) (by decide) (fun T6 h6 v6 S6 K6 q6 => ?_)
  obtain ⟨rfl, rfl⟩ := q6
  show own_F p e below s Z _ _ _ _ _ (T6.setTop (mkF m 35 #[.val (.ref aE), .val (.int (2 : Int32)), .val (.ref mO), .val (.ref b3)] [(.int (2 : Int32)), (.int (0 : Int32)), (.ref b3), (.int (0 : Int32)), (.ref aE)]))
  have fq8 := (X_e2.ext E3)
  have fq9 := (X_e1.ext E3)
  refine own_copy S6 (own_w hw 204 rfl) (own_w hw 207 rfl) (own_w hw 205 rfl) (own_w hw 206 rfl) fq5 V4 (by decide) (Nat.le_of_ble_eq_true rfl) (Nat.le_of_ble_eq_true rfl) [(.ref e1), (.ref e2)] rfl ⟨own_sto V4 (Ins.of_exa fq9 (own_w hw 177 rfl)), ⟨own_sto V4 (Ins.of_exa fq8 (own_w hw 177 rfl)), trivial⟩⟩ (Or.inr (by rw [g3]; exact S1.size)) rfl d29_35 (by decide) (Nat.le_of_ble_eq_true rfl) (fun T7 h7 S7 K7 A7 => ?_)
  have V10 : own_AO Z h7 b3 [(.ref e1), (.ref e2)] := A7
  show own_F p e below s Z _ _ _ _ _ (T7.setTop (mkF m 38 #[.val (.ref aE), .val (.int (2 : Int32)), .val (.ref mO), .val (.ref b3)] []))
  refine own_F.of (fun _ => XS.aloadN S7.here S7.hx rfl (S7.dec d29_38) rfl rfl) ?_
  show own_F p e below s Z _ _ _ _ _ (T7.setTop (mkF m 39 #[.val (.ref aE), .val (.int (2 : Int32)), .val (.ref mO), .val (.ref b3)] [(.ref b3)]))
  refine own_retA S7 rfl rfl d29_39 (by decide) (by decide) ?_
  exact ⟨_, rfl, V10⟩
set_option maxRecDepth 65536 in
set_option maxHeartbeats 40000000 in
theorem own_cpy2 (l : Launch) (Z : State) (a0 : Array Value) (hw : ∀ d ∈ tables_1, d.before a0 Z = true) (aE : Addr) (e1 e2 : Addr) (mO : Addr) (h0 : Heap) (hO : Ext Z.heap h0) (AE : own_AO Z h0 aE [(.ref e1), (.ref e2), .null, .null, .null, .null, .null, .null, .null, .null]) (X_e1 : Exa Z h0 e1 "java/lang/Integer") (X_e2 : Exa Z h0 e2 "java/lang/Integer") (MO : Mir Z "[Ljava/lang/Object;" mO) :
    own_C l Z (⟨"java/util/Arrays", "copyOf", "([Ljava/lang/Object;I)[Ljava/lang/Object;"⟩ : MethodName) jdk_65_method_119_code 2 (some (.array (.object "java/lang/Object"))) [] ({ frames := 2, cells := 1, slots := 2, locals := 33 } : Room) [] #[(.ref aE), (.int (2 : Int32))] h0 (fun v h => ∃ b, v = some (.ref b) ∧ own_AO Z h b [(.ref e1), (.ref e2)]) := by
  refine own_C.of pn28 hO all0 ?_
  intro p e s m below meth c T0 S0
  refine own_F.cast (by first | (simp [entryFrame, mkF, argsToLocals, Value.category]; done) | rfl : entryFrame m #[(.ref aE), (.int (2 : Int32))] 2 = mkF m 0 #[.val (.ref aE), .val (.int (2 : Int32))] []) ?_
  show own_F p e below s Z _ _ _ _ _ (T0.setTop (mkF m 0 #[.val (.ref aE), .val (.int (2 : Int32))] []))
  refine own_F.of (fun _ => XS.aloadN S0.here S0.hx rfl (S0.dec d28_0) rfl rfl) ?_
  show own_F p e below s Z _ _ _ _ _ (T0.setTop (mkF m 1 #[.val (.ref aE), .val (.int (2 : Int32))] [(.ref aE)]))
  refine own_F.of (fun _ => XS.iloadN S0.here S0.hx rfl (S0.dec d28_1) rfl) ?_
  show own_F p e below s Z _ _ _ _ _ (T0.setTop (mkF m 2 #[.val (.ref aE), .val (.int (2 : Int32))] [(.int (2 : Int32)), (.ref aE)]))
  refine own_F.of (fun _ => XS.aloadN S0.here S0.hx rfl (S0.dec d28_2) rfl rfl) ?_
  show own_F p e below s Z _ _ _ _ _ (T0.setTop (mkF m 3 #[.val (.ref aE), .val (.int (2 : Int32))] [(.ref aE), (.int (2 : Int32)), (.ref aE)]))
  refine own_gcls S0 (own_w hw 190 rfl) (own_w hw 191 rfl) (own_w hw 50 rfl) (own_w hw 193 rfl) (own_w hw 192 rfl) (own_w hw 194 rfl) AE.exa MO rfl d28_3 (by decide) (Nat.le_of_ble_eq_true rfl) (fun T1 S1 => ?_)
  show own_F p e below s Z _ _ _ _ _ (T1.setTop (mkF m 6 #[.val (.ref aE), .val (.int (2 : Int32))] [(.ref mO), (.int (2 : Int32)), (.ref aE)]))
  refine own_callS S1 (y := (⟨"java/util/Arrays", "copyOf", "([Ljava/lang/Object;ILjava/lang/Class;)[Ljava/lang/Object;"⟩ : MethodName)) (own_w hw 196 rfl) (own_w hw 197 rfl) (own_w hw 188 rfl) (own_w hw 198 rfl) (by decide) (argsL := [(.ref aE), (.int (2 : Int32)), (.ref mO)]) (rest := []) (own_cpy3_2 l Z a0 hw aE e1 e2 mO h0 S1.old AE X_e1 X_e2 MO) all0 (by decide +kernel : parseMethodDescriptor "([Ljava/lang/Object;ILjava/lang/Class;)[Ljava/lang/Object;" = some ⟨[(.array (.object "java/lang/Object")), .int, (.object "java/lang/Class")], some (.array (.object "java/lang/Object"))⟩) rfl rfl rfl d28_6 (by decide) (Nat.le_of_ble_eq_true rfl) (by decide) (by decide) (fun T2 h2 v2 S2 K2 q2 => ?_)
  obtain ⟨b2, rfl, F2⟩ := q2
  show own_F p e below s Z _ _ _ _ _ (T2.setTop (mkF m 9 #[.val (.ref aE), .val (.int (2 : Int32))] [(.ref b2)]))
  refine own_retA S2 rfl rfl d28_9 (by decide) (by decide) ?_
  exact ⟨_, rfl, F2⟩
set_option maxRecDepth 65536 in
set_option maxHeartbeats 40000000 in
theorem own_toArr2 (l : Launch) (Z : State) (a0 : Array Value) (hw : ∀ d ∈ tables_1, d.before a0 Z = true) (a1 aE : Addr) (e1 e2 : Addr) (mO : Addr) (h0 : Heap) (hO : Ext Z.heap h0) (F_elementData : Fld Z h0 a1 "java/util/ArrayList" "elementData" "[Ljava/lang/Object;" (.ref aE)) (F_size : Fld Z h0 a1 "java/util/ArrayList" "size" "I" (.int (2 : Int32))) (AE : own_AO Z h0 aE [(.ref e1), (.ref e2), .null, .null, .null, .null, .null, .null, .null, .null]) (X_e1 : Exa Z h0 e1 "java/lang/Integer") (X_e2 : Exa Z h0 e2 "java/lang/Integer") (MO : Mir Z "[Ljava/lang/Object;" mO) :
    own_C l Z (⟨"java/util/ArrayList", "toArray", "()[Ljava/lang/Object;"⟩ : MethodName) jdk_38_method_16_code 1 (some (.array (.object "java/lang/Object"))) [] ({ frames := 3, cells := 1, slots := 2, locals := 46 } : Room) [] #[(.ref a1)] h0 (fun v h => ∃ b, v = some (.ref b) ∧ own_AO Z h b [(.ref e1), (.ref e2)]) := by
  refine own_C.of pn27 hO all0 ?_
  intro p e s m below meth c T0 S0
  refine own_F.cast (by first | (simp [entryFrame, mkF, argsToLocals, Value.category]; done) | rfl : entryFrame m #[(.ref a1)] 1 = mkF m 0 #[.val (.ref a1)] []) ?_
  show own_F p e below s Z _ _ _ _ _ (T0.setTop (mkF m 0 #[.val (.ref a1)] []))
  refine own_F.of (fun _ => XS.aloadN S0.here S0.hx rfl (S0.dec d27_0) rfl rfl) ?_
  show own_F p e below s Z _ _ _ _ _ (T0.setTop (mkF m 1 #[.val (.ref a1)] [(.ref a1)]))
  refine own_getF S0 (host := "") (Or.inl (own_w hw 24 rfl)) Via.refl F_elementData d27_1 (fun T1 S1 => ?_)
  show own_F p e below s Z _ _ _ _ _ (T1.setTop (mkF m 4 #[.val (.ref a1)] [(.ref aE)]))
  refine own_F.of (fun _ => XS.aloadN S1.here S1.hx rfl (S1.dec d27_4) rfl rfl) ?_
  show own_F p e below s Z _ _ _ _ _ (T1.setTop (mkF m 5 #[.val (.ref a1)] [(.ref a1), (.ref aE)]))
  refine own_getF S1 (host := "") (Or.inl (own_w hw 61 rfl)) Via.refl F_size d27_5 (fun T2 S2 => ?_)
  show own_F p e below s Z _ _ _ _ _ (T2.setTop (mkF m 8 #[.val (.ref a1)] [(.int (2 : Int32)), (.ref aE)]))
  refine own_callS S2 (y := (⟨"java/util/Arrays", "copyOf", "([Ljava/lang/Object;I)[Ljava/lang/Object;"⟩ : MethodName)) (own_w hw 186 rfl) (own_w hw 187 rfl) (own_w hw 188 rfl) (own_w hw 189 rfl) (by decide) (argsL := [(.ref aE), (.int (2 : Int32))]) (rest := []) (own_cpy2 l Z a0 hw aE e1 e2 mO h0 S2.old AE X_e1 X_e2 MO) all0 (by decide +kernel : parseMethodDescriptor "([Ljava/lang/Object;I)[Ljava/lang/Object;" = some ⟨[(.array (.object "java/lang/Object")), .int], some (.array (.object "java/lang/Object"))⟩) rfl rfl rfl d27_8 (by decide) (Nat.le_of_ble_eq_true rfl) (by decide) (by decide) (fun T3 h3 v3 S3 K3 q3 => ?_)
  obtain ⟨b3, rfl, F3⟩ := q3
  show own_F p e below s Z _ _ _ _ _ (T3.setTop (mkF m 11 #[.val (.ref a1)] [(.ref b3)]))
  refine own_retA S3 rfl rfl d27_11 (by decide) (by decide) ?_
  exact ⟨_, rfl, F3⟩
set_option maxRecDepth 65536 in
set_option maxHeartbeats 40000000 in
theorem own_of2 (l : Launch) (Z : State) (a0 : Array Value) (hw : ∀ d ∈ tables_1, d.before a0 Z = true) (aA : Addr) (e1 e2 : Addr) (aM : Addr) (h0 : Heap) (hO : Ext Z.heap h0) (SM : Sta Z Z.heap "java/util/ImmutableCollections" "EMPTY" "Ljava/lang/Object;" (.ref aM)) (AA : own_AO Z h0 aA [(.ref e1), (.ref e2)]) (X_e1 : Exa Z h0 e1 "java/lang/Integer") (X_e2 : Exa Z h0 e2 "java/lang/Integer") :
    own_C l Z (⟨"java/util/List", "of", "([Ljava/lang/Object;)Ljava/util/List;"⟩ : MethodName) jdk_40_method_47_code 2 (some (.object "java/util/List")) [] ({ frames := 5, cells := 1, slots := 2, locals := 63 } : Room) [] #[(.ref aA)] h0 (fun v h => ∃ b, v = some (.ref b) ∧ Exa Z h b "java/util/ImmutableCollections$List12" ∧ Fld Z h b "java/util/ImmutableCollections$List12" "e0" "Ljava/lang/Object;" (.ref e1) ∧ Fld Z h b "java/util/ImmutableCollections$List12" "e1" "Ljava/lang/Object;" (.ref e2)) := by
  refine own_C.of pn31 hO all0 ?_
  intro p e s m below meth c T0 S0
  refine own_F.cast (by first | (simp [entryFrame, mkF, argsToLocals, Value.category]; done) | rfl : entryFrame m #[(.ref aA)] 2 = mkF m 0 #[.val (.ref aA), .unset] []) ?_
  show own_F p e below s Z _ _ _ _ _ (T0.setTop (mkF m 0 #[.val (.ref aA), .unset] []))
  refine own_F.of (fun _ => XS.aloadN S0.here S0.hx rfl (S0.dec d31_0) rfl rfl) ?_
  show own_F p e below s Z _ _ _ _ _ (T0.setTop (mkF m 1 #[.val (.ref aA), .unset] [(.ref aA)]))
  refine own_len S0 AA.A d31_1 ?_
  show own_F p e below s Z _ _ _ _ _ (T0.setTop (mkF m 2 #[.val (.ref aA), .unset] [(.int (2 : Int32))]))
  refine own_tsw S0 2 43 45 d31_2 (by decide) (by decide) (by decide) (by decide) (by decide) ?_
  show own_F p e below s Z _ _ _ _ _ (T0.setTop (mkF m 45 #[.val (.ref aA), .unset] []))
  refine own_new S0 (own_w hw 270 rfl) (own_w hw 271 rfl) (own_w hw 272 rfl) d31_45 (by decide) (by decide) (fun T1 h1 b1 g1 S1 E1 A1 D1 => ?_)
  have F1_e0 : Fld Z h1 b1 "java/util/ImmutableCollections$List12" "e0" "Ljava/lang/Object;" .null := (D1 (Or.inr (own_w hw 283 rfl)) (ty := (.object "java/lang/Object")) (by decide))
  have F1_e1 : Fld Z h1 b1 "java/util/ImmutableCollections$List12" "e1" "Ljava/lang/Object;" .null := (D1 (Or.inr (own_w hw 285 rfl)) (ty := (.object "java/lang/Object")) (by decide))
  show own_F p e below s Z _ _ _ _ _ (T1.setTop (mkF m 48 #[.val (.ref aA), .unset] [(.ref b1)]))
  refine own_F.of (fun _ => XS.dup S1.here S1.hx rfl (S1.dec d31_48) rfl rfl) ?_
  show own_F p e below s Z _ _ _ _ _ (T1.setTop (mkF m 49 #[.val (.ref aA), .unset] [(.ref b1), (.ref b1)]))
  refine own_F.of (fun _ => XS.aloadN S1.here S1.hx rfl (S1.dec d31_49) rfl rfl) ?_
  show own_F p e below s Z _ _ _ _ _ (T1.setTop (mkF m 50 #[.val (.ref aA), .unset] [(.ref aA), (.ref b1), (.ref b1)]))
  refine own_F.of (fun _ => XS.iconst S1.here S1.hx rfl (S1.dec d31_50)) ?_
  show own_F p e below s Z _ _ _ _ _ (T1.setTop (mkF m 51 #[.val (.ref aA), .unset] [(.int (0 : Int32)), (.ref aA), (.ref b1), (.ref b1)]))
  have fq2 := (AA.ext E1)
  refine own_aald S1 fq2.A rfl (by decide) rfl d31_51 ?_
  show own_F p e below s Z _ _ _ _ _ (T1.setTop (mkF m 52 #[.val (.ref aA), .unset] [(.ref e1), (.ref b1), (.ref b1)]))
  refine own_F.of (fun _ => XS.aloadN S1.here S1.hx rfl (S1.dec d31_52) rfl rfl) ?_
  show own_F p e below s Z _ _ _ _ _ (T1.setTop (mkF m 53 #[.val (.ref aA), .unset] [(.ref aA), (.ref e1), (.ref b1), (.ref b1)]))
  refine own_F.of (fun _ => XS.iconst S1.here S1.hx rfl (S1.dec d31_53)) ?_
  show own_F p e below s Z _ _ _ _ _ (T1.setTop (mkF m 54 #[.val (.ref aA), .unset] [(.int (1 : Int32)), (.ref aA), (.ref e1), (.ref b1), (.ref b1)]))
  refine own_aald S1 fq2.A rfl (by decide) rfl d31_54 ?_
  show own_F p e below s Z _ _ _ _ _ (T1.setTop (mkF m 55 #[.val (.ref aA), .unset] [(.ref e2), (.ref e1), (.ref b1), (.ref b1)]))
  refine own_callI S1 (y := (⟨"java/util/ImmutableCollections$List12", "<init>", "(Ljava/lang/Object;Ljava/lang/Object;)V"⟩ : MethodName)) rfl (own_w hw 273 rfl) (own_w hw 274 rfl) (own_w hw 272 rfl) (own_w hw 276 rfl) (by decide) (argsL := [(.ref e1), (.ref e2)]) (rest := [(.ref b1)]) (own_L12_2 l Z a0 hw b1 e1 e2 aM h1 S1.old SM (own_mayN S1 (Or.inr (by rw [g1]; exact S0.size))) A1 F1_e0 F1_e1) (allS (Or.inr (by rw [g1]; exact S0.size)) all0) (by decide +kernel : parseMethodDescriptor "(Ljava/lang/Object;Ljava/lang/Object;)V" = some ⟨[(.object "java/lang/Object"), (.object "java/lang/Object")], none⟩) rfl rfl rfl d31_55 (by decide) (Nat.le_of_ble_eq_true rfl) (by decide) (by decide) (fun T3 h3 v3 S3 K3 q3 => ?_)
  obtain ⟨rfl, Fe3, Fa3⟩ := q3
  show own_F p e below s Z _ _ _ _ _ (T3.setTop (mkF m 58 #[.val (.ref aA), .unset] [(.ref b1)]))
  have fq4 := (A1.keep K3)
  refine own_retA S3 rfl rfl d31_58 (by decide) (by decide) ?_
  exact ⟨_, rfl, fq4, Fe3, Fa3⟩
set_option maxRecDepth 65536 in
set_option maxHeartbeats 40000000 in
theorem own_min3 (l : Launch) (Z : State) (a0 : Array Value) (hw : ∀ d ∈ tables_1, d.before a0 Z = true)  (h0 : Heap) (hO : Ext Z.heap h0) :
    own_C l Z (⟨"java/lang/Math", "min", "(II)I"⟩ : MethodName) jdk_29_method_69_code 2 (some .int) [] ({ frames := 0, cells := 0, slots := 0, locals := 0 } : Room) [] #[(.int (10 : Int32)), (.int (3 : Int32))] h0 (fun v h => v = some (.int (3 : Int32)) ∧ h0 = h) := by
  refine own_C.of pn30 hO all0 ?_
  intro p e s m below meth c T0 S0
  refine own_F.cast (by first | (simp [entryFrame, mkF, argsToLocals, Value.category]; done) | rfl : entryFrame m #[(.int (10 : Int32)), (.int (3 : Int32))] 2 = mkF m 0 #[.val (.int (10 : Int32)), .val (.int (3 : Int32))] []) ?_
  show own_F p e below s Z _ _ _ _ _ (T0.setTop (mkF m 0 #[.val (.int (10 : Int32)), .val (.int (3 : Int32))] []))
  refine own_F.of (fun _ => XS.iloadN S0.here S0.hx rfl (S0.dec d30_0) rfl) ?_
  show own_F p e below s Z _ _ _ _ _ (T0.setTop (mkF m 1 #[.val (.int (10 : Int32)), .val (.int (3 : Int32))] [(.int (10 : Int32))]))
  refine own_F.of (fun _ => XS.iloadN S0.here S0.hx rfl (S0.dec d30_1) rfl) ?_
  show own_F p e below s Z _ _ _ _ _ (T0.setTop (mkF m 2 #[.val (.int (10 : Int32)), .val (.int (3 : Int32))] [(.int (3 : Int32)), (.int (10 : Int32))]))
  refine own_icmp S0 9 d30_2 (by decide) (by decide) (fun (hc2_1 : (3 : Int32) < (10 : Int32)) => ?_) (fun (hc2_1 : ¬ ((3 : Int32) < (10 : Int32))) => False.elim (absurd hc2_1 (by decide)))
  show own_F p e below s Z _ _ _ _ _ (T0.setTop (mkF m 9 #[.val (.int (10 : Int32)), .val (.int (3 : Int32))] []))
  refine own_F.of (fun _ => XS.iloadN S0.here S0.hx rfl (S0.dec d30_9) rfl) ?_
  show own_F p e below s Z _ _ _ _ _ (T0.setTop (mkF m 10 #[.val (.int (10 : Int32)), .val (.int (3 : Int32))] [(.int (3 : Int32))]))
  refine own_retI S0 d30_10 (by decide) (by decide) ?_
  exact ⟨rfl, rfl⟩
set_option maxRecDepth 65536 in
set_option maxHeartbeats 40000000 in
theorem own_cpy3_3 (l : Launch) (Z : State) (a0 : Array Value) (hw : ∀ d ∈ tables_1, d.before a0 Z = true) (aE : Addr) (e1 e2 e3 : Addr) (mO : Addr) (h0 : Heap) (hO : Ext Z.heap h0) (AE : own_AO Z h0 aE [(.ref e1), (.ref e2), (.ref e3), .null, .null, .null, .null, .null, .null, .null]) (X_e1 : Exa Z h0 e1 "java/lang/Integer") (X_e2 : Exa Z h0 e2 "java/lang/Integer") (X_e3 : Exa Z h0 e3 "java/lang/Integer") (MO : Mir Z "[Ljava/lang/Object;" mO) :
    own_C l Z (⟨"java/util/Arrays", "copyOf", "([Ljava/lang/Object;ILjava/lang/Class;)[Ljava/lang/Object;"⟩ : MethodName) jdk_65_method_120_code 4 (some (.array (.object "java/lang/Object"))) [] ({ frames := 1, cells := 1, slots := 3, locals := 18 } : Room) [] #[(.ref aE), (.int (3 : Int32)), (.ref mO)] h0 (fun v h => ∃ b, v = some (.ref b) ∧ own_AO Z h b [(.ref e1), (.ref e2), (.ref e3)]) := by
  refine own_C.of pn29 hO all0 ?_
  intro p e s m below meth c T0 S0
  refine own_F.cast (by first | (simp [entryFrame, mkF, argsToLocals, Value.category]; done) | rfl : entryFrame m #[(.ref aE), (.int (3 : Int32)), (.ref mO)] 4 = mkF m 0 #[.val (.ref aE), .val (.int (3 : Int32)), .val (.ref mO), .unset] []) ?_
  show own_F p e below s Z _ _ _ _ _ (T0.setTop (mkF m 0 #[.val (.ref aE), .val (.int (3 : Int32)), .val (.ref mO), .unset] []))
  refine own_F.of (fun _ => XS.aloadN S0.here S0.hx rfl (S0.dec d29_0) rfl rfl) ?_
  show own_F p e below s Z _ _ _ _ _ (T0.setTop (mkF m 1 #[.val (.ref aE), .val (.int (3 : Int32)), .val (.ref mO), .unset] [(.ref mO)]))
  refine own_ldcM S0 (own_w hw 199 rfl) MO d29_1 (fun T1 S1 => ?_)
  show own_F p e below s Z _ _ _ _ _ (T1.setTop (mkF m 3 #[.val (.ref aE), .val (.int (3 : Int32)), .val (.ref mO), .unset] [(.ref mO), (.ref mO)]))
  refine own_acmp S1 rfl rfl 13 d29_3 (by decide) (by decide) (fun (hc3_2 : ¬ ((Value.ref mO) = (Value.ref mO))) => False.elim (hc3_2 rfl)) (fun (hc3_2 : (Value.ref mO) = (Value.ref mO)) => ?_)
  show own_F p e below s Z _ _ _ _ _ (T1.setTop (mkF m 6 #[.val (.ref aE), .val (.int (3 : Int32)), .val (.ref mO), .unset] []))
  refine own_F.of (fun _ => XS.iloadN S1.here S1.hx rfl (S1.dec d29_6) rfl) ?_
  show own_F p e below s Z _ _ _ _ _ (T1.setTop (mkF m 7 #[.val (.ref aE), .val (.int (3 : Int32)), .val (.ref mO), .unset] [(.int (3 : Int32))]))
  refine own_anew S1 (own_w hw 200 rfl) (own_w hw 176 rfl) d29_7 (by decide) (cap := 3) (by decide) (by decide) (by decide) (by decide) (fun T3 h3 b3 g3 S3 E3 A3 => ?_)
  have V4 : own_AO Z h3 b3 [.null, .null, .null] := A3
  show own_F p e below s Z _ _ _ _ _ (T3.setTop (mkF m 10 #[.val (.ref aE), .val (.int (3 : Int32)), .val (.ref mO), .unset] [(.ref b3)]))
  refine own_F.of (fun _ => XS.goto S3.here S3.hx rfl (pc0 := 10) (pc' := 24) rfl (S3.dec d29_10) (by decide) (by decide)) ?_
  show own_F p e below s Z _ _ _ _ _ (T3.setTop (mkF m 24 #[.val (.ref aE), .val (.int (3 : Int32)), .val (.ref mO), .unset] [(.ref b3)]))
  refine own_F.of (fun _ => XS.astoreN S3.here S3.hx rfl (S3.dec d29_24) rfl rfl (l' := #[.val (.ref aE), .val (.int (3 : Int32)), .val (.ref mO), .val (.ref b3)]) rfl) ?_
  show own_F p e below s Z _ _ _ _ _ (T3.setTop (mkF m 25 #[.val (.ref aE), .val (.int (3 : Int32)), .val (.ref mO), .val (.ref b3)] []))
  refine own_F.of (fun _ => XS.aloadN S3.here S3.hx rfl (S3.dec d29_25) rfl rfl) ?_
  show own_F p e below s Z _ _ _ _ _ (T3.setTop (mkF m 26 #[.val (.ref aE), .val (.int (3 : Int32)), .val (.ref mO), .val (.ref b3)] [(.ref aE)]))
  refine own_F.of (fun _ => XS.iconst S3.here S3.hx rfl (S3.dec d29_26)) ?_
  show own_F p e below s Z _ _ _ _ _ (T3.setTop (mkF m 27 #[.val (.ref aE), .val (.int (3 : Int32)), .val (.ref mO), .val (.ref b3)] [(.int (0 : Int32)), (.ref aE)]))
  refine own_F.of (fun _ => XS.aloadN S3.here S3.hx rfl (S3.dec d29_27) rfl rfl) ?_
  show own_F p e below s Z _ _ _ _ _ (T3.setTop (mkF m 28 #[.val (.ref aE), .val (.int (3 : Int32)), .val (.ref mO), .val (.ref b3)] [(.ref b3), (.int (0 : Int32)), (.ref aE)]))
  refine own_F.of (fun _ => XS.iconst S3.here S3.hx rfl (S3.dec d29_28)) ?_
  show own_F p e below s Z _ _ _ _ _ (T3.setTop (mkF m 29 #[.val (.ref aE), .val (.int (3 : Int32)), .val (.ref mO), .val (.ref b3)] [(.int (0 : Int32)), (.ref b3), (.int (0 : Int32)), (.ref aE)]))
  refine own_F.of (fun _ => XS.aloadN S3.here S3.hx rfl (S3.dec d29_29) rfl rfl) ?_
  show own_F p e below s Z _ _ _ _ _ (T3.setTop (mkF m 30 #[.val (.ref aE), .val (.int (3 : Int32)), .val (.ref mO), .val (.ref b3)] [(.ref aE), (.int (0 : Int32)), (.ref b3), (.int (0 : Int32)), (.ref aE)]))
  have fq5 := (AE.ext E3)
  refine own_len S3 fq5.A d29_30 ?_
  show own_F p e below s Z _ _ _ _ _ (T3.setTop (mkF m 31 #[.val (.ref aE), .val (.int (3 : Int32)), .val (.ref mO), .val (.ref b3)] [(.int (10 : Int32)), (.int (0 : Int32)), (.ref b3), (.int (0 : Int32)), (.ref aE)]))
  refine own_F.of (fun _ => XS.iloadN S3.here S3.hx rfl (S3.dec d29_31) rfl) ?_
  show own_F p e below s Z _ _ _ _ _ (T3.setTop (mkF m 32 #[.val (.ref aE), .val (.int (3 : Int32)), .val (.ref mO), .val (.ref b3)] [(.int (3 : Int32)), (.int (10 : Int32)), (.int (0 : Int32)), (.ref b3), (.int (0 : Int32)), (.ref aE)]))
  refine own_callS S3 (y := (⟨"java/lang/Math", "min", "(II)I"⟩ : MethodName)) (own_w hw 201 rfl) (own_w hw 202 rfl) (own_w hw 173 rfl) (own_w hw 203 rfl) (by decide) (argsL := [(.int (10 : Int32)), (.int (3 : Int32))]) (rest := [(.int (0 : Int32)), (.ref b3), (.int (0 : Int32)), (.ref aE)]) (own_min3 l Z a0 hw h3 S3.old) all0 (by decide +kernel : parseMethodDescriptor "(II)I" = some ⟨[.int, .int], some .int⟩) rfl rfl rfl d29_32 (by decide) (Nat.le_of_ble_eq_true rfl) (by decide) (by decide) (fun T6 h6 v6 S6 K6 q6 => ?_)
  obtain ⟨rfl, rfl⟩ := q6
  show own_F p e below s Z _ _ _ _ _ (T6.setTop (mkF m 35 #[.val (.ref aE), .val (.int (3 : Int32)), .val (.ref mO), .val (.ref b3)] [(.int (3 : Int32)), (.int (0 : Int32)), (.ref b3), (.int (0 : Int32)), (.ref aE)]))
  have fq8 := (X_e3.ext E3)
  have fq9 := (X_e2.ext E3)
  have fq10 := (X_e1.ext E3)
  refine own_copy S6 (own_w hw 204 rfl) (own_w hw 207 rfl) (own_w hw 205 rfl) (own_w hw 206 rfl) fq5 V4 (by decide) (Nat.le_of_ble_eq_true rfl) (Nat.le_of_ble_eq_true rfl) [(.ref e1), (.ref e2), (.ref e3)] rfl ⟨own_sto V4 (Ins.of_exa fq10 (own_w hw 177 rfl)), ⟨own_sto V4 (Ins.of_exa fq9 (own_w hw 177 rfl)), ⟨own_sto V4 (Ins.of_exa fq8 (own_w hw 177 rfl)), trivial⟩⟩⟩ (Or.inr (by rw [g3]; exact S1.size)) rfl d29_35 (by decide) (Nat.le_of_ble_eq_true rfl) (fun T7 h7 S7 K7 A7 => ?_)
  have V11 : own_AO Z h7 b3 [(.ref e1), (.ref e2), (.ref e3)] := A7
  show own_F p e below s Z _ _ _ _ _ (T7.setTop (mkF m 38 #[.val (.ref aE), .val (.int (3 : Int32)), .val (.ref mO), .val (.ref b3)] []))
  refine own_F.of (fun _ => XS.aloadN S7.here S7.hx rfl (S7.dec d29_38) rfl rfl) ?_
  show own_F p e below s Z _ _ _ _ _ (T7.setTop (mkF m 39 #[.val (.ref aE), .val (.int (3 : Int32)), .val (.ref mO), .val (.ref b3)] [(.ref b3)]))
  refine own_retA S7 rfl rfl d29_39 (by decide) (by decide) ?_
  exact ⟨_, rfl, V11⟩
set_option maxRecDepth 65536 in
set_option maxHeartbeats 40000000 in
theorem own_cpy3 (l : Launch) (Z : State) (a0 : Array Value) (hw : ∀ d ∈ tables_1, d.before a0 Z = true) (aE : Addr) (e1 e2 e3 : Addr) (mO : Addr) (h0 : Heap) (hO : Ext Z.heap h0) (AE : own_AO Z h0 aE [(.ref e1), (.ref e2), (.ref e3), .null, .null, .null, .null, .null, .null, .null]) (X_e1 : Exa Z h0 e1 "java/lang/Integer") (X_e2 : Exa Z h0 e2 "java/lang/Integer") (X_e3 : Exa Z h0 e3 "java/lang/Integer") (MO : Mir Z "[Ljava/lang/Object;" mO) :
    own_C l Z (⟨"java/util/Arrays", "copyOf", "([Ljava/lang/Object;I)[Ljava/lang/Object;"⟩ : MethodName) jdk_65_method_119_code 2 (some (.array (.object "java/lang/Object"))) [] ({ frames := 2, cells := 1, slots := 3, locals := 33 } : Room) [] #[(.ref aE), (.int (3 : Int32))] h0 (fun v h => ∃ b, v = some (.ref b) ∧ own_AO Z h b [(.ref e1), (.ref e2), (.ref e3)]) := by
  refine own_C.of pn28 hO all0 ?_
  intro p e s m below meth c T0 S0
  refine own_F.cast (by first | (simp [entryFrame, mkF, argsToLocals, Value.category]; done) | rfl : entryFrame m #[(.ref aE), (.int (3 : Int32))] 2 = mkF m 0 #[.val (.ref aE), .val (.int (3 : Int32))] []) ?_
  show own_F p e below s Z _ _ _ _ _ (T0.setTop (mkF m 0 #[.val (.ref aE), .val (.int (3 : Int32))] []))
  refine own_F.of (fun _ => XS.aloadN S0.here S0.hx rfl (S0.dec d28_0) rfl rfl) ?_
  show own_F p e below s Z _ _ _ _ _ (T0.setTop (mkF m 1 #[.val (.ref aE), .val (.int (3 : Int32))] [(.ref aE)]))
  refine own_F.of (fun _ => XS.iloadN S0.here S0.hx rfl (S0.dec d28_1) rfl) ?_
  show own_F p e below s Z _ _ _ _ _ (T0.setTop (mkF m 2 #[.val (.ref aE), .val (.int (3 : Int32))] [(.int (3 : Int32)), (.ref aE)]))
  refine own_F.of (fun _ => XS.aloadN S0.here S0.hx rfl (S0.dec d28_2) rfl rfl) ?_
  show own_F p e below s Z _ _ _ _ _ (T0.setTop (mkF m 3 #[.val (.ref aE), .val (.int (3 : Int32))] [(.ref aE), (.int (3 : Int32)), (.ref aE)]))
  refine own_gcls S0 (own_w hw 190 rfl) (own_w hw 191 rfl) (own_w hw 50 rfl) (own_w hw 193 rfl) (own_w hw 192 rfl) (own_w hw 194 rfl) AE.exa MO rfl d28_3 (by decide) (Nat.le_of_ble_eq_true rfl) (fun T1 S1 => ?_)
  show own_F p e below s Z _ _ _ _ _ (T1.setTop (mkF m 6 #[.val (.ref aE), .val (.int (3 : Int32))] [(.ref mO), (.int (3 : Int32)), (.ref aE)]))
  refine own_callS S1 (y := (⟨"java/util/Arrays", "copyOf", "([Ljava/lang/Object;ILjava/lang/Class;)[Ljava/lang/Object;"⟩ : MethodName)) (own_w hw 196 rfl) (own_w hw 197 rfl) (own_w hw 188 rfl) (own_w hw 198 rfl) (by decide) (argsL := [(.ref aE), (.int (3 : Int32)), (.ref mO)]) (rest := []) (own_cpy3_3 l Z a0 hw aE e1 e2 e3 mO h0 S1.old AE X_e1 X_e2 X_e3 MO) all0 (by decide +kernel : parseMethodDescriptor "([Ljava/lang/Object;ILjava/lang/Class;)[Ljava/lang/Object;" = some ⟨[(.array (.object "java/lang/Object")), .int, (.object "java/lang/Class")], some (.array (.object "java/lang/Object"))⟩) rfl rfl rfl d28_6 (by decide) (Nat.le_of_ble_eq_true rfl) (by decide) (by decide) (fun T2 h2 v2 S2 K2 q2 => ?_)
  obtain ⟨b2, rfl, F2⟩ := q2
  show own_F p e below s Z _ _ _ _ _ (T2.setTop (mkF m 9 #[.val (.ref aE), .val (.int (3 : Int32))] [(.ref b2)]))
  refine own_retA S2 rfl rfl d28_9 (by decide) (by decide) ?_
  exact ⟨_, rfl, F2⟩
set_option maxRecDepth 65536 in
set_option maxHeartbeats 40000000 in
theorem own_toArr3 (l : Launch) (Z : State) (a0 : Array Value) (hw : ∀ d ∈ tables_1, d.before a0 Z = true) (a1 aE : Addr) (e1 e2 e3 : Addr) (mO : Addr) (h0 : Heap) (hO : Ext Z.heap h0) (F_elementData : Fld Z h0 a1 "java/util/ArrayList" "elementData" "[Ljava/lang/Object;" (.ref aE)) (F_size : Fld Z h0 a1 "java/util/ArrayList" "size" "I" (.int (3 : Int32))) (AE : own_AO Z h0 aE [(.ref e1), (.ref e2), (.ref e3), .null, .null, .null, .null, .null, .null, .null]) (X_e1 : Exa Z h0 e1 "java/lang/Integer") (X_e2 : Exa Z h0 e2 "java/lang/Integer") (X_e3 : Exa Z h0 e3 "java/lang/Integer") (MO : Mir Z "[Ljava/lang/Object;" mO) :
    own_C l Z (⟨"java/util/ArrayList", "toArray", "()[Ljava/lang/Object;"⟩ : MethodName) jdk_38_method_16_code 1 (some (.array (.object "java/lang/Object"))) [] ({ frames := 3, cells := 1, slots := 3, locals := 46 } : Room) [] #[(.ref a1)] h0 (fun v h => ∃ b, v = some (.ref b) ∧ own_AO Z h b [(.ref e1), (.ref e2), (.ref e3)]) := by
  refine own_C.of pn27 hO all0 ?_
  intro p e s m below meth c T0 S0
  refine own_F.cast (by first | (simp [entryFrame, mkF, argsToLocals, Value.category]; done) | rfl : entryFrame m #[(.ref a1)] 1 = mkF m 0 #[.val (.ref a1)] []) ?_
  show own_F p e below s Z _ _ _ _ _ (T0.setTop (mkF m 0 #[.val (.ref a1)] []))
  refine own_F.of (fun _ => XS.aloadN S0.here S0.hx rfl (S0.dec d27_0) rfl rfl) ?_
  show own_F p e below s Z _ _ _ _ _ (T0.setTop (mkF m 1 #[.val (.ref a1)] [(.ref a1)]))
  refine own_getF S0 (host := "") (Or.inl (own_w hw 24 rfl)) Via.refl F_elementData d27_1 (fun T1 S1 => ?_)
  show own_F p e below s Z _ _ _ _ _ (T1.setTop (mkF m 4 #[.val (.ref a1)] [(.ref aE)]))
  refine own_F.of (fun _ => XS.aloadN S1.here S1.hx rfl (S1.dec d27_4) rfl rfl) ?_
  show own_F p e below s Z _ _ _ _ _ (T1.setTop (mkF m 5 #[.val (.ref a1)] [(.ref a1), (.ref aE)]))
  refine own_getF S1 (host := "") (Or.inl (own_w hw 61 rfl)) Via.refl F_size d27_5 (fun T2 S2 => ?_)
  show own_F p e below s Z _ _ _ _ _ (T2.setTop (mkF m 8 #[.val (.ref a1)] [(.int (3 : Int32)), (.ref aE)]))
  refine own_callS S2 (y := (⟨"java/util/Arrays", "copyOf", "([Ljava/lang/Object;I)[Ljava/lang/Object;"⟩ : MethodName)) (own_w hw 186 rfl) (own_w hw 187 rfl) (own_w hw 188 rfl) (own_w hw 189 rfl) (by decide) (argsL := [(.ref aE), (.int (3 : Int32))]) (rest := []) (own_cpy3 l Z a0 hw aE e1 e2 e3 mO h0 S2.old AE X_e1 X_e2 X_e3 MO) all0 (by decide +kernel : parseMethodDescriptor "([Ljava/lang/Object;I)[Ljava/lang/Object;" = some ⟨[(.array (.object "java/lang/Object")), .int], some (.array (.object "java/lang/Object"))⟩) rfl rfl rfl d27_8 (by decide) (Nat.le_of_ble_eq_true rfl) (by decide) (by decide) (fun T3 h3 v3 S3 K3 q3 => ?_)
  obtain ⟨b3, rfl, F3⟩ := q3
  show own_F p e below s Z _ _ _ _ _ (T3.setTop (mkF m 11 #[.val (.ref a1)] [(.ref b3)]))
  refine own_retA S3 rfl rfl d27_11 (by decide) (by decide) ?_
  exact ⟨_, rfl, F3⟩
set_option maxRecDepth 65536 in
set_option maxHeartbeats 40000000 in
theorem own_of3 (l : Launch) (Z : State) (a0 : Array Value) (hw : ∀ d ∈ tables_1, d.before a0 Z = true) (aA : Addr) (e1 e2 e3 : Addr) (aM : Addr) (h0 : Heap) (hO : Ext Z.heap h0) (SM : Sta Z Z.heap "java/util/ImmutableCollections" "EMPTY" "Ljava/lang/Object;" (.ref aM)) (AA : own_AO Z h0 aA [(.ref e1), (.ref e2), (.ref e3)]) (X_e1 : Exa Z h0 e1 "java/lang/Integer") (X_e2 : Exa Z h0 e2 "java/lang/Integer") (X_e3 : Exa Z h0 e3 "java/lang/Integer") :
    own_C l Z (⟨"java/util/List", "of", "([Ljava/lang/Object;)Ljava/util/List;"⟩ : MethodName) jdk_40_method_47_code 2 (some (.object "java/util/List")) [] ({ frames := 6, cells := 2, slots := 5, locals := 77 } : Room) [] #[(.ref aA)] h0 (fun v h => ∃ b, v = some (.ref b) ∧ ∃ ar, Exa Z h b "java/util/ImmutableCollections$ListN" ∧ Fld Z h b "java/util/ImmutableCollections$ListN" "elements" "[Ljava/lang/Object;" (.ref ar) ∧ own_AO Z h ar [(.ref e1), (.ref e2), (.ref e3)] ∧ Fld Z h b "java/util/ImmutableCollections$ListN" "allowNulls" "Z" (.int 0)) := by
  refine own_C.of pn31 hO all0 ?_
  intro p e s m below meth c T0 S0
  refine own_F.cast (by first | (simp [entryFrame, mkF, argsToLocals, Value.category]; done) | rfl : entryFrame m #[(.ref aA)] 2 = mkF m 0 #[.val (.ref aA), .unset] []) ?_
  show own_F p e below s Z _ _ _ _ _ (T0.setTop (mkF m 0 #[.val (.ref aA), .unset] []))
  refine own_F.of (fun _ => XS.aloadN S0.here S0.hx rfl (S0.dec d31_0) rfl rfl) ?_
  show own_F p e below s Z _ _ _ _ _ (T0.setTop (mkF m 1 #[.val (.ref aA), .unset] [(.ref aA)]))
  refine own_len S0 AA.A d31_1 ?_
  show own_F p e below s Z _ _ _ _ _ (T0.setTop (mkF m 2 #[.val (.ref aA), .unset] [(.int (3 : Int32))]))
  refine own_tswO S0 3 59 d31_2 (by decide) (by decide) (by decide) (by decide) ?_
  show own_F p e below s Z _ _ _ _ _ (T0.setTop (mkF m 59 #[.val (.ref aA), .unset] []))
  refine own_F.of (fun _ => XS.aloadN S0.here S0.hx rfl (S0.dec d31_59) rfl rfl) ?_
  show own_F p e below s Z _ _ _ _ _ (T0.setTop (mkF m 60 #[.val (.ref aA), .unset] [(.ref aA)]))
  refine own_callS S0 (y := (⟨"java/util/ImmutableCollections", "listFromArray", "([Ljava/lang/Object;)Ljava/util/List;"⟩ : MethodName)) (own_w hw 211 rfl) (own_w hw 212 rfl) (own_w hw 44 rfl) (own_w hw 213 rfl) (by decide) (argsL := [(.ref aA)]) (rest := []) (own_lfa l Z a0 hw aA e1 e2 e3 h0 S0.old AA X_e1 X_e2 X_e3) all0 (by decide +kernel : parseMethodDescriptor "([Ljava/lang/Object;)Ljava/util/List;" = some ⟨[(.array (.object "java/lang/Object"))], some (.object "java/util/List")⟩) rfl rfl rfl d31_60 (by decide) (Nat.le_of_ble_eq_true rfl) (by decide) (by decide) (fun T1 h1 v1 S1 K1 q1 => ?_)
  obtain ⟨b1, rfl, F1⟩ := q1
  show own_F p e below s Z _ _ _ _ _ (T1.setTop (mkF m 63 #[.val (.ref aA), .unset] [(.ref b1)]))
  refine own_retA S1 rfl rfl d31_63 (by decide) (by decide) ?_
  exact ⟨_, rfl, F1⟩
theorem d9_0 : decode jdk_38_method_9_code 0 = .ok (.aload_n 0, 1) := by decide +kernel
theorem d9_1 : decode jdk_38_method_9_code 1 = .ok (.getfield 48, 3) := by decide +kernel
theorem d9_4 : decode jdk_38_method_9_code 4 = .ok (.ifCond .ne 7, 3) := by decide +kernel
theorem d9_7 : decode jdk_38_method_9_code 7 = .ok (.iconst 1, 1) := by decide +kernel
theorem d9_8 : decode jdk_38_method_9_code 8 = .ok (.goto 4, 3) := by decide +kernel
theorem d9_11 : decode jdk_38_method_9_code 11 = .ok (.iconst 0, 1) := by decide +kernel
theorem d9_12 : decode jdk_38_method_9_code 12 = .ok (.ireturn, 1) := by decide +kernel
theorem pn9 : plainFor (⟨"java/util/ArrayList", "isEmpty", "()Z"⟩ : MethodName) = true := plainFor_of_name (by first | (simp [plainName, overriddenIn]; done) | decide +kernel)
set_option maxRecDepth 65536 in
set_option maxHeartbeats 40000000 in
theorem own_isE0 (l : Launch) (Z : State) (a0 : Array Value) (hw : ∀ d ∈ tables_1, d.before a0 Z = true) (a1 : Addr) (h0 : Heap) (hO : Ext Z.heap h0) (F_size : Fld Z h0 a1 "java/util/ArrayList" "size" "I" (.int (0 : Int32))) :
    own_C l Z (⟨"java/util/ArrayList", "isEmpty", "()Z"⟩ : MethodName) jdk_38_method_9_code 1 (some .boolean) [] ({ frames := 0, cells := 0, slots := 0, locals := 0 } : Room) [] #[(.ref a1)] h0 (fun v h => v = some (.int 1) ∧ h0 = h) := by
  refine own_C.of pn9 hO all0 ?_
  intro p e s m below meth c T0 S0
  refine own_F.cast (by first | (simp [entryFrame, mkF, argsToLocals, Value.category]; done) | rfl : entryFrame m #[(.ref a1)] 1 = mkF m 0 #[.val (.ref a1)] []) ?_
  show own_F p e below s Z _ _ _ _ _ (T0.setTop (mkF m 0 #[.val (.ref a1)] []))
  refine own_F.of (fun _ => XS.aloadN S0.here S0.hx rfl (S0.dec d9_0) rfl rfl) ?_
  show own_F p e below s Z _ _ _ _ _ (T0.setTop (mkF m 1 #[.val (.ref a1)] [(.ref a1)]))
  refine own_getF S0 (host := "") (Or.inl (own_w hw 61 rfl)) Via.refl F_size d9_1 (fun T1 S1 => ?_)
  show own_F p e below s Z _ _ _ _ _ (T1.setTop (mkF m 4 #[.val (.ref a1)] [(.int (0 : Int32))]))
  refine own_if S1 11 d9_4 (by decide) (by decide) (fun (hc4_2 : ¬ ((0 : Int32) = (0 : Int32))) => False.elim (absurd hc4_2 (by decide))) (fun (hc4_2 : (0 : Int32) = (0 : Int32)) => ?_)
  show own_F p e below s Z _ _ _ _ _ (T1.setTop (mkF m 7 #[.val (.ref a1)] []))
  refine own_F.of (fun _ => XS.iconst S1.here S1.hx rfl (S1.dec d9_7)) ?_
  show own_F p e below s Z _ _ _ _ _ (T1.setTop (mkF m 8 #[.val (.ref a1)] [(.int (1 : Int32))]))
  refine own_F.of (fun _ => XS.goto S1.here S1.hx rfl (pc0 := 8) (pc' := 12) rfl (S1.dec d9_8) (by decide) (by decide)) ?_
  show own_F p e below s Z _ _ _ _ _ (T1.setTop (mkF m 12 #[.val (.ref a1)] [(.int (1 : Int32))]))
  refine own_retZ S1 (by simp) d9_12 (by decide) (by decide) ?_
  exact ⟨rfl, rfl⟩
theorem d10_0 : decode jdk_40_method_36_code 0 = .ok (.getstatic 90, 3) := by decide +kernel
theorem d10_3 : decode jdk_40_method_36_code 3 = .ok (.areturn, 1) := by decide +kernel
theorem pn10 : plainFor (⟨"java/util/List", "of", "()Ljava/util/List;"⟩ : MethodName) = true := plainFor_of_name (by first | (simp [plainName, overriddenIn]; done) | decide +kernel)
set_option maxRecDepth 65536 in
set_option maxHeartbeats 40000000 in
theorem own_of0 (l : Launch) (Z : State) (a0 : Array Value) (hw : ∀ d ∈ tables_1, d.before a0 Z = true) (aL : Addr) (h0 : Heap) (hO : Ext Z.heap h0) (SL : Sta Z Z.heap "java/util/ImmutableCollections" "EMPTY_LIST" "Ljava/util/ImmutableCollections$ListN;" (.ref aL)) :
    own_C l Z (⟨"java/util/List", "of", "()Ljava/util/List;"⟩ : MethodName) jdk_40_method_36_code 0 (some (.object "java/util/List")) [] ({ frames := 0, cells := 0, slots := 0, locals := 0 } : Room) [] #[] h0 (fun v h => v = some (.ref aL) ∧ h0 = h) := by
  refine own_C.of pn10 hO all0 ?_
  intro p e s m below meth c T0 S0
  refine own_F.cast (by first | (simp [entryFrame, mkF, argsToLocals, Value.category]; done) | rfl : entryFrame m #[] 0 = mkF m 0 #[] []) ?_
  show own_F p e below s Z _ _ _ _ _ (T0.setTop (mkF m 0 #[] []))
  refine own_getS S0 (host := "") (Or.inl (own_w hw 66 rfl)) Via.refl (SL.ext S0.old) d10_0 (fun T1 S1 => ?_)
  show own_F p e below s Z _ _ _ _ _ (T1.setTop (mkF m 3 #[] [(.ref aL)]))
  refine own_retA S1 rfl rfl d10_3 (by decide) (by decide) ?_
  exact ⟨rfl, rfl⟩
theorem d8_0 : decode jdk_56_method_3_code 0 = .ok (.aload_n 0, 1) := by decide +kernel
theorem d8_1 : decode jdk_56_method_3_code 1 = .ok (.instanceof 10, 3) := by decide +kernel
theorem d8_4 : decode jdk_56_method_3_code 4 = .ok (.ifCond .ne 22, 3) := by decide +kernel
theorem d8_7 : decode jdk_56_method_3_code 7 = .ok (.aload_n 0, 1) := by decide +kernel
theorem d8_8 : decode jdk_56_method_3_code 8 = .ok (.instanceof 12, 3) := by decide +kernel
theorem d8_11 : decode jdk_56_method_3_code 11 = .ok (.ifCond .eq 20, 3) := by decide +kernel
theorem d8_14 : decode jdk_56_method_3_code 14 = .ok (.aload_n 0, 1) := by decide +kernel
theorem d8_15 : decode jdk_56_method_3_code 15 = .ok (.checkcast 12, 3) := by decide +kernel
theorem d8_18 : decode jdk_56_method_3_code 18 = .ok (.astore_n 1, 1) := by decide +kernel
theorem d8_19 : decode jdk_56_method_3_code 19 = .ok (.aload_n 1, 1) := by decide +kernel
theorem d8_20 : decode jdk_56_method_3_code 20 = .ok (.getfield 14, 3) := by decide +kernel
theorem d8_23 : decode jdk_56_method_3_code 23 = .ok (.ifCond .ne 8, 3) := by decide +kernel
theorem d8_26 : decode jdk_56_method_3_code 26 = .ok (.aload_n 0, 1) := by decide +kernel
theorem d8_27 : decode jdk_56_method_3_code 27 = .ok (.checkcast 18, 3) := by decide +kernel
theorem d8_30 : decode jdk_56_method_3_code 30 = .ok (.areturn, 1) := by decide +kernel
theorem d8_31 : decode jdk_56_method_3_code 31 = .ok (.aload_n 0, 1) := by decide +kernel
theorem d8_32 : decode jdk_56_method_3_code 32 = .ok (.invokeinterface 20 1, 5) := by decide +kernel
theorem d8_37 : decode jdk_56_method_3_code 37 = .ok (.ifCond .eq 7, 3) := by decide +kernel
theorem d8_40 : decode jdk_56_method_3_code 40 = .ok (.invokestatic 26, 3) := by decide +kernel
theorem d8_43 : decode jdk_56_method_3_code 43 = .ok (.areturn, 1) := by decide +kernel
theorem d8_44 : decode jdk_56_method_3_code 44 = .ok (.aload_n 0, 1) := by decide +kernel
theorem d8_45 : decode jdk_56_method_3_code 45 = .ok (.invokeinterface 30 1, 5) := by decide +kernel
theorem d8_50 : decode jdk_56_method_3_code 50 = .ok (.invokestatic 34, 3) := by decide +kernel
theorem d8_53 : decode jdk_56_method_3_code 53 = .ok (.areturn, 1) := by decide +kernel
theorem pn8 : plainFor (⟨"java/util/ImmutableCollections", "listCopy", "(Ljava/util/Collection;)Ljava/util/List;"⟩ : MethodName) = true := plainFor_of_name (by first | (simp [plainName, overriddenIn]; done) | decide +kernel)
set_option maxRecDepth 65536 in
set_option maxHeartbeats 40000000 in
theorem own_lc0 (l : Launch) (Z : State) (a0 : Array Value) (hw : ∀ d ∈ tables_1, d.before a0 Z = true) (a1 : Addr) (aL : Addr) (h0 : Heap) (hO : Ext Z.heap h0) (SL : Sta Z Z.heap "java/util/ImmutableCollections" "EMPTY_LIST" "Ljava/util/ImmutableCollections$ListN;" (.ref aL)) (E_a1 : Exa Z h0 a1 "java/util/ArrayList") (F_size : Fld Z h0 a1 "java/util/ArrayList" "size" "I" (.int (0 : Int32))) :
    own_C l Z (⟨"java/util/ImmutableCollections", "listCopy", "(Ljava/util/Collection;)Ljava/util/List;"⟩ : MethodName) jdk_56_method_3_code 2 (some (.object "java/util/List")) [] ({ frames := 1, cells := 0, slots := 0, locals := 12 } : Room) [] #[(.ref a1)] h0 (fun v h => v = some (.ref aL) ∧ h0 = h) := by
  refine own_C.of pn8 hO all0 ?_
  intro p e s m below meth c T0 S0
  refine own_F.cast (by first | (simp [entryFrame, mkF, argsToLocals, Value.category]; done) | rfl : entryFrame m #[(.ref a1)] 2 = mkF m 0 #[.val (.ref a1), .unset] []) ?_
  show own_F p e below s Z _ _ _ _ _ (T0.setTop (mkF m 0 #[.val (.ref a1), .unset] []))
  refine own_F.of (fun _ => XS.aloadN S0.here S0.hx rfl (S0.dec d8_0) rfl rfl) ?_
  show own_F p e below s Z _ _ _ _ _ (T0.setTop (mkF m 1 #[.val (.ref a1), .unset] [(.ref a1)]))
  refine own_instN S0 (own_w hw 46 rfl) E_a1 (own_NSno (own_w hw 47 rfl) (own_w hw 271 rfl) (NS.step (own_w hw 47 rfl) (NS.step (own_w hw 48 rfl) (NS.step (own_w hw 49 rfl) (own_NSroot (own_w hw 50 rfl) (own_w hw 271 rfl) (by decide)) (by decide)) (by decide)) (by decide)) (by decide)) d8_1 (fun T1 S1 => ?_)
  show own_F p e below s Z _ _ _ _ _ (T1.setTop (mkF m 4 #[.val (.ref a1), .unset] [(.int (0 : Int32))]))
  refine own_if S1 26 d8_4 (by decide) (by decide) (fun (hc4_2 : ¬ ((0 : Int32) = (0 : Int32))) => False.elim (absurd hc4_2 (by decide))) (fun (hc4_2 : (0 : Int32) = (0 : Int32)) => ?_)
  show own_F p e below s Z _ _ _ _ _ (T1.setTop (mkF m 7 #[.val (.ref a1), .unset] []))
  refine own_F.of (fun _ => XS.aloadN S1.here S1.hx rfl (S1.dec d8_7) rfl rfl) ?_
  show own_F p e below s Z _ _ _ _ _ (T1.setTop (mkF m 8 #[.val (.ref a1), .unset] [(.ref a1)]))
  refine own_instN S1 (own_w hw 51 rfl) E_a1 (own_NSno (own_w hw 47 rfl) (own_w hw 219 rfl) (NS.step (own_w hw 47 rfl) (NS.step (own_w hw 48 rfl) (NS.step (own_w hw 49 rfl) (own_NSroot (own_w hw 50 rfl) (own_w hw 219 rfl) (by decide)) (by decide)) (by decide)) (by decide)) (by decide)) d8_8 (fun T3 S3 => ?_)
  show own_F p e below s Z _ _ _ _ _ (T3.setTop (mkF m 11 #[.val (.ref a1), .unset] [(.int (0 : Int32))]))
  refine own_if S3 31 d8_11 (by decide) (by decide) (fun (hc11_4 : (0 : Int32) = (0 : Int32)) => ?_) (fun (hc11_4 : ¬ ((0 : Int32) = (0 : Int32))) => False.elim (absurd hc11_4 (by decide)))
  show own_F p e below s Z _ _ _ _ _ (T3.setTop (mkF m 31 #[.val (.ref a1), .unset] []))
  refine own_F.of (fun _ => XS.aloadN S3.here S3.hx rfl (S3.dec d8_31) rfl rfl) ?_
  show own_F p e below s Z _ _ _ _ _ (T3.setTop (mkF m 32 #[.val (.ref a1), .unset] [(.ref a1)]))
  refine own_callX S3 (y := (⟨"java/util/Collection", "isEmpty", "()Z"⟩ : MethodName)) (y' := (⟨"java/util/ArrayList", "isEmpty", "()Z"⟩ : MethodName)) (own_w hw 52 rfl) (own_w hw 53 rfl) (own_w hw 54 rfl) (own_w hw 55 rfl) (own_w hw 56 rfl) (own_w hw 57 rfl) (own_w hw 58 rfl) (own_w hw 59 rfl) (own_w hw 60 rfl) (own_w hw 2 rfl) (by decide) E_a1 (argsL := []) (rest := []) (own_isE0 l Z a0 hw a1 h0 S3.old F_size) all0 (by decide +kernel : parseMethodDescriptor "()Z" = some ⟨[], some .boolean⟩) rfl rfl rfl d8_32 (by decide) (Nat.le_of_ble_eq_true rfl) (by decide) (by decide) (fun T5 h5 v5 S5 K5 q5 => ?_)
  obtain ⟨rfl, rfl⟩ := q5
  show own_F p e below s Z _ _ _ _ _ (T5.setTop (mkF m 37 #[.val (.ref a1), .unset] [(.int (1 : Int32))]))
  refine own_if S5 44 d8_37 (by decide) (by decide) (fun (hc37_6 : (1 : Int32) = (0 : Int32)) => False.elim (absurd hc37_6 (by decide))) (fun (hc37_6 : ¬ ((1 : Int32) = (0 : Int32))) => ?_)
  show own_F p e below s Z _ _ _ _ _ (T5.setTop (mkF m 40 #[.val (.ref a1), .unset] []))
  refine own_callS S5 (y := (⟨"java/util/List", "of", "()Ljava/util/List;"⟩ : MethodName)) (own_w hw 63 rfl) (own_w hw 64 rfl) (own_w hw 40 rfl) (own_w hw 65 rfl) (by decide) (argsL := []) (rest := []) (own_of0 l Z a0 hw aL h0 S5.old SL) all0 (by decide +kernel : parseMethodDescriptor "()Ljava/util/List;" = some ⟨[], some (.object "java/util/List")⟩) rfl rfl rfl d8_40 (by decide) (Nat.le_of_ble_eq_true rfl) (by decide) (by decide) (fun T7 h7 v7 S7 K7 q7 => ?_)
  obtain ⟨rfl, rfl⟩ := q7
  show own_F p e below s Z _ _ _ _ _ (T7.setTop (mkF m 43 #[.val (.ref a1), .unset] [(.ref aL)]))
  refine own_retA S7 rfl rfl d8_43 (by decide) (by decide) ?_
  exact ⟨rfl, rfl⟩
theorem d7_0 : decode jdk_40_method_48_code 0 = .ok (.aload_n 0, 1) := by decide +kernel
theorem d7_1 : decode jdk_40_method_48_code 1 = .ok (.invokestatic 112, 3) := by decide +kernel
theorem d7_4 : decode jdk_40_method_48_code 4 = .ok (.areturn, 1) := by decide +kernel
theorem pn7 : plainFor (⟨"java/util/List", "copyOf", "(Ljava/util/Collection;)Ljava/util/List;"⟩ : MethodName) = true := plainFor_of_name (by first | (simp [plainName, overriddenIn]; done) | decide +kernel)
set_option maxRecDepth 65536 in
set_option maxHeartbeats 40000000 in
theorem own_co0 (l : Launch) (Z : State) (a0 : Array Value) (hw : ∀ d ∈ tables_1, d.before a0 Z = true) (a1 : Addr) (aL : Addr) (h0 : Heap) (hO : Ext Z.heap h0) (SL : Sta Z Z.heap "java/util/ImmutableCollections" "EMPTY_LIST" "Ljava/util/ImmutableCollections$ListN;" (.ref aL)) (E_a1 : Exa Z h0 a1 "java/util/ArrayList") (F_size : Fld Z h0 a1 "java/util/ArrayList" "size" "I" (.int (0 : Int32))) :
    own_C l Z (⟨"java/util/List", "copyOf", "(Ljava/util/Collection;)Ljava/util/List;"⟩ : MethodName) jdk_40_method_48_code 1 (some (.object "java/util/List")) [] ({ frames := 2, cells := 0, slots := 0, locals := 25 } : Room) [] #[(.ref a1)] h0 (fun v h => v = some (.ref aL) ∧ h0 = h) := by
  refine own_C.of pn7 hO all0 ?_
  intro p e s m below meth c T0 S0
  refine own_F.cast (by first | (simp [entryFrame, mkF, argsToLocals, Value.category]; done) | rfl : entryFrame m #[(.ref a1)] 1 = mkF m 0 #[.val (.ref a1)] []) ?_
  show own_F p e below s Z _ _ _ _ _ (T0.setTop (mkF m 0 #[.val (.ref a1)] []))
  refine own_F.of (fun _ => XS.aloadN S0.here S0.hx rfl (S0.dec d7_0) rfl rfl) ?_
  show own_F p e below s Z _ _ _ _ _ (T0.setTop (mkF m 1 #[.val (.ref a1)] [(.ref a1)]))
  refine own_callS S0 (y := (⟨"java/util/ImmutableCollections", "listCopy", "(Ljava/util/Collection;)Ljava/util/List;"⟩ : MethodName)) (own_w hw 42 rfl) (own_w hw 43 rfl) (own_w hw 44 rfl) (own_w hw 45 rfl) (by decide) (argsL := [(.ref a1)]) (rest := []) (own_lc0 l Z a0 hw a1 aL h0 S0.old SL E_a1 F_size) all0 (by decide +kernel : parseMethodDescriptor "(Ljava/util/Collection;)Ljava/util/List;" = some ⟨[(.object "java/util/Collection")], some (.object "java/util/List")⟩) rfl rfl rfl d7_1 (by decide) (Nat.le_of_ble_eq_true rfl) (by decide) (by decide) (fun T1 h1 v1 S1 K1 q1 => ?_)
  obtain ⟨rfl, rfl⟩ := q1
  show own_F p e below s Z _ _ _ _ _ (T1.setTop (mkF m 4 #[.val (.ref a1)] [(.ref aL)]))
  refine own_retA S1 rfl rfl d7_4 (by decide) (by decide) ?_
  exact ⟨rfl, rfl⟩
set_option maxRecDepth 65536 in
set_option maxHeartbeats 40000000 in
theorem own_isE1 (l : Launch) (Z : State) (a0 : Array Value) (hw : ∀ d ∈ tables_1, d.before a0 Z = true) (a1 : Addr) (h0 : Heap) (hO : Ext Z.heap h0) (F_size : Fld Z h0 a1 "java/util/ArrayList" "size" "I" (.int (1 : Int32))) :
    own_C l Z (⟨"java/util/ArrayList", "isEmpty", "()Z"⟩ : MethodName) jdk_38_method_9_code 1 (some .boolean) [] ({ frames := 0, cells := 0, slots := 0, locals := 0 } : Room) [] #[(.ref a1)] h0 (fun v h => v = some (.int 0) ∧ h0 = h) := by
  refine own_C.of pn9 hO all0 ?_
  intro p e s m below meth c T0 S0
  refine own_F.cast (by first | (simp [entryFrame, mkF, argsToLocals, Value.category]; done) | rfl : entryFrame m #[(.ref a1)] 1 = mkF m 0 #[.val (.ref a1)] []) ?_
  show own_F p e below s Z _ _ _ _ _ (T0.setTop (mkF m 0 #[.val (.ref a1)] []))
  refine own_F.of (fun _ => XS.aloadN S0.here S0.hx rfl (S0.dec d9_0) rfl rfl) ?_
  show own_F p e below s Z _ _ _ _ _ (T0.setTop (mkF m 1 #[.val (.ref a1)] [(.ref a1)]))
  refine own_getF S0 (host := "") (Or.inl (own_w hw 61 rfl)) Via.refl F_size d9_1 (fun T1 S1 => ?_)
  show own_F p e below s Z _ _ _ _ _ (T1.setTop (mkF m 4 #[.val (.ref a1)] [(.int (1 : Int32))]))
  refine own_if S1 11 d9_4 (by decide) (by decide) (fun (hc4_2 : ¬ ((1 : Int32) = (0 : Int32))) => ?_) (fun (hc4_2 : (1 : Int32) = (0 : Int32)) => False.elim (absurd hc4_2 (by decide)))
  show own_F p e below s Z _ _ _ _ _ (T1.setTop (mkF m 11 #[.val (.ref a1)] []))
  refine own_F.of (fun _ => XS.iconst S1.here S1.hx rfl (S1.dec d9_11)) ?_
  show own_F p e below s Z _ _ _ _ _ (T1.setTop (mkF m 12 #[.val (.ref a1)] [(.int (0 : Int32))]))
  refine own_retZ S1 (by simp) d9_12 (by decide) (by decide) ?_
  exact ⟨rfl, rfl⟩
set_option maxRecDepth 65536 in
set_option maxHeartbeats 40000000 in
theorem own_lc1 (l : Launch) (Z : State) (a0 : Array Value) (hw : ∀ d ∈ tables_1, d.before a0 Z = true) (a1 aE : Addr) (e1 : Addr) (aM : Addr) (mO : Addr) (h0 : Heap) (hO : Ext Z.heap h0) (SM : Sta Z Z.heap "java/util/ImmutableCollections" "EMPTY" "Ljava/lang/Object;" (.ref aM)) (MO : Mir Z "[Ljava/lang/Object;" mO) (E_a1 : Exa Z h0 a1 "java/util/ArrayList") (F_size : Fld Z h0 a1 "java/util/ArrayList" "size" "I" (.int (1 : Int32))) (F_elementData : Fld Z h0 a1 "java/util/ArrayList" "elementData" "[Ljava/lang/Object;" (.ref aE)) (AE : own_AO Z h0 aE [(.ref e1), .null, .null, .null, .null, .null, .null, .null, .null, .null]) (X_e1 : Exa Z h0 e1 "java/lang/Integer") :
    own_C l Z (⟨"java/util/ImmutableCollections", "listCopy", "(Ljava/util/Collection;)Ljava/util/List;"⟩ : MethodName) jdk_56_method_3_code 2 (some (.object "java/util/List")) [] ({ frames := 6, cells := 2, slots := 3, locals := 75 } : Room) [] #[(.ref a1)] h0 (fun v h => ∃ b, v = some (.ref b) ∧ Exa Z h b "java/util/ImmutableCollections$List12" ∧ Fld Z h b "java/util/ImmutableCollections$List12" "e0" "Ljava/lang/Object;" (.ref e1) ∧ Fld Z h b "java/util/ImmutableCollections$List12" "e1" "Ljava/lang/Object;" (.ref aM)) := by
  refine own_C.of pn8 hO all0 ?_
  intro p e s m below meth c T0 S0
  refine own_F.cast (by first | (simp [entryFrame, mkF, argsToLocals, Value.category]; done) | rfl : entryFrame m #[(.ref a1)] 2 = mkF m 0 #[.val (.ref a1), .unset] []) ?_
  show own_F p e below s Z _ _ _ _ _ (T0.setTop (mkF m 0 #[.val (.ref a1), .unset] []))
  refine own_F.of (fun _ => XS.aloadN S0.here S0.hx rfl (S0.dec d8_0) rfl rfl) ?_
  show own_F p e below s Z _ _ _ _ _ (T0.setTop (mkF m 1 #[.val (.ref a1), .unset] [(.ref a1)]))
  refine own_instN S0 (own_w hw 46 rfl) E_a1 (own_NSno (own_w hw 47 rfl) (own_w hw 271 rfl) (NS.step (own_w hw 47 rfl) (NS.step (own_w hw 48 rfl) (NS.step (own_w hw 49 rfl) (own_NSroot (own_w hw 50 rfl) (own_w hw 271 rfl) (by decide)) (by decide)) (by decide)) (by decide)) (by decide)) d8_1 (fun T1 S1 => ?_)
  show own_F p e below s Z _ _ _ _ _ (T1.setTop (mkF m 4 #[.val (.ref a1), .unset] [(.int (0 : Int32))]))
  refine own_if S1 26 d8_4 (by decide) (by decide) (fun (hc4_2 : ¬ ((0 : Int32) = (0 : Int32))) => False.elim (absurd hc4_2 (by decide))) (fun (hc4_2 : (0 : Int32) = (0 : Int32)) => ?_)
  show own_F p e below s Z _ _ _ _ _ (T1.setTop (mkF m 7 #[.val (.ref a1), .unset] []))
  refine own_F.of (fun _ => XS.aloadN S1.here S1.hx rfl (S1.dec d8_7) rfl rfl) ?_
  show own_F p e below s Z _ _ _ _ _ (T1.setTop (mkF m 8 #[.val (.ref a1), .unset] [(.ref a1)]))
  refine own_instN S1 (own_w hw 51 rfl) E_a1 (own_NSno (own_w hw 47 rfl) (own_w hw 219 rfl) (NS.step (own_w hw 47 rfl) (NS.step (own_w hw 48 rfl) (NS.step (own_w hw 49 rfl) (own_NSroot (own_w hw 50 rfl) (own_w hw 219 rfl) (by decide)) (by decide)) (by decide)) (by decide)) (by decide)) d8_8 (fun T3 S3 => ?_)
  show own_F p e below s Z _ _ _ _ _ (T3.setTop (mkF m 11 #[.val (.ref a1), .unset] [(.int (0 : Int32))]))
  refine own_if S3 31 d8_11 (by decide) (by decide) (fun (hc11_4 : (0 : Int32) = (0 : Int32)) => ?_) (fun (hc11_4 : ¬ ((0 : Int32) = (0 : Int32))) => False.elim (absurd hc11_4 (by decide)))
  show own_F p e below s Z _ _ _ _ _ (T3.setTop (mkF m 31 #[.val (.ref a1), .unset] []))
  refine own_F.of (fun _ => XS.aloadN S3.here S3.hx rfl (S3.dec d8_31) rfl rfl) ?_
  show own_F p e below s Z _ _ _ _ _ (T3.setTop (mkF m 32 #[.val (.ref a1), .unset] [(.ref a1)]))
  refine own_callX S3 (y := (⟨"java/util/Collection", "isEmpty", "()Z"⟩ : MethodName)) (y' := (⟨"java/util/ArrayList", "isEmpty", "()Z"⟩ : MethodName)) (own_w hw 52 rfl) (own_w hw 53 rfl) (own_w hw 54 rfl) (own_w hw 55 rfl) (own_w hw 56 rfl) (own_w hw 57 rfl) (own_w hw 58 rfl) (own_w hw 59 rfl) (own_w hw 60 rfl) (own_w hw 2 rfl) (by decide) E_a1 (argsL := []) (rest := []) (own_isE1 l Z a0 hw a1 h0 S3.old F_size) all0 (by decide +kernel : parseMethodDescriptor "()Z" = some ⟨[], some .boolean⟩) rfl rfl rfl d8_32 (by decide) (Nat.le_of_ble_eq_true rfl) (by decide) (by decide) (fun T5 h5 v5 S5 K5 q5 => ?_)
  obtain ⟨rfl, rfl⟩ := q5
  show own_F p e below s Z _ _ _ _ _ (T5.setTop (mkF m 37 #[.val (.ref a1), .unset] [(.int (0 : Int32))]))
  refine own_if S5 44 d8_37 (by decide) (by decide) (fun (hc37_6 : (0 : Int32) = (0 : Int32)) => ?_) (fun (hc37_6 : ¬ ((0 : Int32) = (0 : Int32))) => False.elim (absurd hc37_6 (by decide)))
  show own_F p e below s Z _ _ _ _ _ (T5.setTop (mkF m 44 #[.val (.ref a1), .unset] []))
  refine own_F.of (fun _ => XS.aloadN S5.here S5.hx rfl (S5.dec d8_44) rfl rfl) ?_
  show own_F p e below s Z _ _ _ _ _ (T5.setTop (mkF m 45 #[.val (.ref a1), .unset] [(.ref a1)]))
  refine own_callX S5 (y := (⟨"java/util/Collection", "toArray", "()[Ljava/lang/Object;"⟩ : MethodName)) (y' := (⟨"java/util/ArrayList", "toArray", "()[Ljava/lang/Object;"⟩ : MethodName)) (own_w hw 178 rfl) (own_w hw 179 rfl) (own_w hw 180 rfl) (own_w hw 181 rfl) (own_w hw 182 rfl) (own_w hw 183 rfl) (own_w hw 184 rfl) (own_w hw 59 rfl) (own_w hw 185 rfl) (own_w hw 2 rfl) (by decide) E_a1 (argsL := []) (rest := []) (own_toArr1 l Z a0 hw a1 aE e1 mO h0 S5.old F_elementData F_size AE X_e1 MO) all0 (by decide +kernel : parseMethodDescriptor "()[Ljava/lang/Object;" = some ⟨[], some (.array (.object "java/lang/Object"))⟩) rfl rfl rfl d8_45 (by decide) (Nat.le_of_ble_eq_true rfl) (by decide) (by decide) (fun T7 h7 v7 S7 K7 q7 => ?_)
  obtain ⟨b7, rfl, F7⟩ := q7
  have V8 : own_AO Z h7 b7 [(.ref e1)] := F7
  show own_F p e below s Z _ _ _ _ _ (T7.setTop (mkF m 50 #[.val (.ref a1), .unset] [(.ref b7)]))
  have fq9 := (X_e1.keep K7)
  refine own_callS S7 (y := (⟨"java/util/List", "of", "([Ljava/lang/Object;)Ljava/util/List;"⟩ : MethodName)) (own_w hw 208 rfl) (own_w hw 209 rfl) (own_w hw 40 rfl) (own_w hw 210 rfl) (by decide) (argsL := [(.ref b7)]) (rest := []) (own_of1 l Z a0 hw b7 e1 aM h7 S7.old SM V8 fq9) all0 (by decide +kernel : parseMethodDescriptor "([Ljava/lang/Object;)Ljava/util/List;" = some ⟨[(.array (.object "java/lang/Object"))], some (.object "java/util/List")⟩) rfl rfl rfl d8_50 (by decide) (Nat.le_of_ble_eq_true rfl) (by decide) (by decide) (fun T10 h10 v10 S10 K10 q10 => ?_)
  obtain ⟨b10, rfl, F10⟩ := q10
  show own_F p e below s Z _ _ _ _ _ (T10.setTop (mkF m 53 #[.val (.ref a1), .unset] [(.ref b10)]))
  refine own_retA S10 rfl rfl d8_53 (by decide) (by decide) ?_
  exact ⟨_, rfl, F10⟩
set_option maxRecDepth 65536 in
set_option maxHeartbeats 40000000 in
theorem own_co1 (l : Launch) (Z : State) (a0 : Array Value) (hw : ∀ d ∈ tables_1, d.before a0 Z = true) (a1 aE : Addr) (e1 : Addr) (aM : Addr) (mO : Addr) (h0 : Heap) (hO : Ext Z.heap h0) (SM : Sta Z Z.heap "java/util/ImmutableCollections" "EMPTY" "Ljava/lang/Object;" (.ref aM)) (MO : Mir Z "[Ljava/lang/Object;" mO) (E_a1 : Exa Z h0 a1 "java/util/ArrayList") (F_size : Fld Z h0 a1 "java/util/ArrayList" "size" "I" (.int (1 : Int32))) (F_elementData : Fld Z h0 a1 "java/util/ArrayList" "elementData" "[Ljava/lang/Object;" (.ref aE)) (AE : own_AO Z h0 aE [(.ref e1), .null, .null, .null, .null, .null, .null, .null, .null, .null]) (X_e1 : Exa Z h0 e1 "java/lang/Integer") :
    own_C l Z (⟨"java/util/List", "copyOf", "(Ljava/util/Collection;)Ljava/util/List;"⟩ : MethodName) jdk_40_method_48_code 1 (some (.object "java/util/List")) [] ({ frames := 7, cells := 2, slots := 3, locals := 88 } : Room) [] #[(.ref a1)] h0 (fun v h => ∃ b, v = some (.ref b) ∧ Exa Z h b "java/util/ImmutableCollections$List12" ∧ Fld Z h b "java/util/ImmutableCollections$List12" "e0" "Ljava/lang/Object;" (.ref e1) ∧ Fld Z h b "java/util/ImmutableCollections$List12" "e1" "Ljava/lang/Object;" (.ref aM)) := by
  refine own_C.of pn7 hO all0 ?_
  intro p e s m below meth c T0 S0
  refine own_F.cast (by first | (simp [entryFrame, mkF, argsToLocals, Value.category]; done) | rfl : entryFrame m #[(.ref a1)] 1 = mkF m 0 #[.val (.ref a1)] []) ?_
  show own_F p e below s Z _ _ _ _ _ (T0.setTop (mkF m 0 #[.val (.ref a1)] []))
  refine own_F.of (fun _ => XS.aloadN S0.here S0.hx rfl (S0.dec d7_0) rfl rfl) ?_
  show own_F p e below s Z _ _ _ _ _ (T0.setTop (mkF m 1 #[.val (.ref a1)] [(.ref a1)]))
  refine own_callS S0 (y := (⟨"java/util/ImmutableCollections", "listCopy", "(Ljava/util/Collection;)Ljava/util/List;"⟩ : MethodName)) (own_w hw 42 rfl) (own_w hw 43 rfl) (own_w hw 44 rfl) (own_w hw 45 rfl) (by decide) (argsL := [(.ref a1)]) (rest := []) (own_lc1 l Z a0 hw a1 aE e1 aM mO h0 S0.old SM MO E_a1 F_size F_elementData AE X_e1) all0 (by decide +kernel : parseMethodDescriptor "(Ljava/util/Collection;)Ljava/util/List;" = some ⟨[(.object "java/util/Collection")], some (.object "java/util/List")⟩) rfl rfl rfl d7_1 (by decide) (Nat.le_of_ble_eq_true rfl) (by decide) (by decide) (fun T1 h1 v1 S1 K1 q1 => ?_)
  obtain ⟨b1, rfl, F1⟩ := q1
  show own_F p e below s Z _ _ _ _ _ (T1.setTop (mkF m 4 #[.val (.ref a1)] [(.ref b1)]))
  refine own_retA S1 rfl rfl d7_4 (by decide) (by decide) ?_
  exact ⟨_, rfl, F1⟩
set_option maxRecDepth 65536 in
set_option maxHeartbeats 40000000 in
theorem own_isE2 (l : Launch) (Z : State) (a0 : Array Value) (hw : ∀ d ∈ tables_1, d.before a0 Z = true) (a1 : Addr) (h0 : Heap) (hO : Ext Z.heap h0) (F_size : Fld Z h0 a1 "java/util/ArrayList" "size" "I" (.int (2 : Int32))) :
    own_C l Z (⟨"java/util/ArrayList", "isEmpty", "()Z"⟩ : MethodName) jdk_38_method_9_code 1 (some .boolean) [] ({ frames := 0, cells := 0, slots := 0, locals := 0 } : Room) [] #[(.ref a1)] h0 (fun v h => v = some (.int 0) ∧ h0 = h) := by
  refine own_C.of pn9 hO all0 ?_
  intro p e s m below meth c T0 S0
  refine own_F.cast (by first | (simp [entryFrame, mkF, argsToLocals, Value.category]; done) | rfl : entryFrame m #[(.ref a1)] 1 = mkF m 0 #[.val (.ref a1)] []) ?_
  show own_F p e below s Z _ _ _ _ _ (T0.setTop (mkF m 0 #[.val (.ref a1)] []))
  refine own_F.of (fun _ => XS.aloadN S0.here S0.hx rfl (S0.dec d9_0) rfl rfl) ?_
  show own_F p e below s Z _ _ _ _ _ (T0.setTop (mkF m 1 #[.val (.ref a1)] [(.ref a1)]))
  refine own_getF S0 (host := "") (Or.inl (own_w hw 61 rfl)) Via.refl F_size d9_1 (fun T1 S1 => ?_)
  show own_F p e below s Z _ _ _ _ _ (T1.setTop (mkF m 4 #[.val (.ref a1)] [(.int (2 : Int32))]))
  refine own_if S1 11 d9_4 (by decide) (by decide) (fun (hc4_2 : ¬ ((2 : Int32) = (0 : Int32))) => ?_) (fun (hc4_2 : (2 : Int32) = (0 : Int32)) => False.elim (absurd hc4_2 (by decide)))
  show own_F p e below s Z _ _ _ _ _ (T1.setTop (mkF m 11 #[.val (.ref a1)] []))
  refine own_F.of (fun _ => XS.iconst S1.here S1.hx rfl (S1.dec d9_11)) ?_
  show own_F p e below s Z _ _ _ _ _ (T1.setTop (mkF m 12 #[.val (.ref a1)] [(.int (0 : Int32))]))
  refine own_retZ S1 (by simp) d9_12 (by decide) (by decide) ?_
  exact ⟨rfl, rfl⟩
set_option maxRecDepth 65536 in
set_option maxHeartbeats 40000000 in
theorem own_lc2 (l : Launch) (Z : State) (a0 : Array Value) (hw : ∀ d ∈ tables_1, d.before a0 Z = true) (a1 aE : Addr) (e1 e2 : Addr) (aM : Addr) (mO : Addr) (h0 : Heap) (hO : Ext Z.heap h0) (SM : Sta Z Z.heap "java/util/ImmutableCollections" "EMPTY" "Ljava/lang/Object;" (.ref aM)) (MO : Mir Z "[Ljava/lang/Object;" mO) (E_a1 : Exa Z h0 a1 "java/util/ArrayList") (F_size : Fld Z h0 a1 "java/util/ArrayList" "size" "I" (.int (2 : Int32))) (F_elementData : Fld Z h0 a1 "java/util/ArrayList" "elementData" "[Ljava/lang/Object;" (.ref aE)) (AE : own_AO Z h0 aE [(.ref e1), (.ref e2), .null, .null, .null, .null, .null, .null, .null, .null]) (X_e1 : Exa Z h0 e1 "java/lang/Integer") (X_e2 : Exa Z h0 e2 "java/lang/Integer") :
    own_C l Z (⟨"java/util/ImmutableCollections", "listCopy", "(Ljava/util/Collection;)Ljava/util/List;"⟩ : MethodName) jdk_56_method_3_code 2 (some (.object "java/util/List")) [] ({ frames := 6, cells := 2, slots := 4, locals := 76 } : Room) [] #[(.ref a1)] h0 (fun v h => ∃ b, v = some (.ref b) ∧ Exa Z h b "java/util/ImmutableCollections$List12" ∧ Fld Z h b "java/util/ImmutableCollections$List12" "e0" "Ljava/lang/Object;" (.ref e1) ∧ Fld Z h b "java/util/ImmutableCollections$List12" "e1" "Ljava/lang/Object;" (.ref e2)) := by
  refine own_C.of pn8 hO all0 ?_
  intro p e s m below meth c T0 S0
  refine own_F.cast (by first | (simp [entryFrame, mkF, argsToLocals, Value.category]; done) | rfl : entryFrame m #[(.ref a1)] 2 = mkF m 0 #[.val (.ref a1), .unset] []) ?_
  show own_F p e below s Z _ _ _ _ _ (T0.setTop (mkF m 0 #[.val (.ref a1), .unset] []))
  refine own_F.of (fun _ => XS.aloadN S0.here S0.hx rfl (S0.dec d8_0) rfl rfl) ?_
  show own_F p e below s Z _ _ _ _ _ (T0.setTop (mkF m 1 #[.val (.ref a1), .unset] [(.ref a1)]))
  refine own_instN S0 (own_w hw 46 rfl) E_a1 (own_NSno (own_w hw 47 rfl) (own_w hw 271 rfl) (NS.step (own_w hw 47 rfl) (NS.step (own_w hw 48 rfl) (NS.step (own_w hw 49 rfl) (own_NSroot (own_w hw 50 rfl) (own_w hw 271 rfl) (by decide)) (by decide)) (by decide)) (by decide)) (by decide)) d8_1 (fun T1 S1 => ?_)
  show own_F p e below s Z _ _ _ _ _ (T1.setTop (mkF m 4 #[.val (.ref a1), .unset] [(.int (0 : Int32))]))
  refine own_if S1 26 d8_4 (by decide) (by decide) (fun (hc4_2 : ¬ ((0 : Int32) = (0 : Int32))) => False.elim (absurd hc4_2 (by decide))) (fun (hc4_2 : (0 : Int32) = (0 : Int32)) => ?_)
  show own_F p e below s Z _ _ _ _ _ (T1.setTop (mkF m 7 #[.val (.ref a1), .unset] []))
  refine own_F.of (fun _ => XS.aloadN S1.here S1.hx rfl (S1.dec d8_7) rfl rfl) ?_
  show own_F p e below s Z _ _ _ _ _ (T1.setTop (mkF m 8 #[.val (.ref a1), .unset] [(.ref a1)]))
  refine own_instN S1 (own_w hw 51 rfl) E_a1 (own_NSno (own_w hw 47 rfl) (own_w hw 219 rfl) (NS.step (own_w hw 47 rfl) (NS.step (own_w hw 48 rfl) (NS.step (own_w hw 49 rfl) (own_NSroot (own_w hw 50 rfl) (own_w hw 219 rfl) (by decide)) (by decide)) (by decide)) (by decide)) (by decide)) d8_8 (fun T3 S3 => ?_)
  show own_F p e below s Z _ _ _ _ _ (T3.setTop (mkF m 11 #[.val (.ref a1), .unset] [(.int (0 : Int32))]))
  refine own_if S3 31 d8_11 (by decide) (by decide) (fun (hc11_4 : (0 : Int32) = (0 : Int32)) => ?_) (fun (hc11_4 : ¬ ((0 : Int32) = (0 : Int32))) => False.elim (absurd hc11_4 (by decide)))
  show own_F p e below s Z _ _ _ _ _ (T3.setTop (mkF m 31 #[.val (.ref a1), .unset] []))
  refine own_F.of (fun _ => XS.aloadN S3.here S3.hx rfl (S3.dec d8_31) rfl rfl) ?_
  show own_F p e below s Z _ _ _ _ _ (T3.setTop (mkF m 32 #[.val (.ref a1), .unset] [(.ref a1)]))
  refine own_callX S3 (y := (⟨"java/util/Collection", "isEmpty", "()Z"⟩ : MethodName)) (y' := (⟨"java/util/ArrayList", "isEmpty", "()Z"⟩ : MethodName)) (own_w hw 52 rfl) (own_w hw 53 rfl) (own_w hw 54 rfl) (own_w hw 55 rfl) (own_w hw 56 rfl) (own_w hw 57 rfl) (own_w hw 58 rfl) (own_w hw 59 rfl) (own_w hw 60 rfl) (own_w hw 2 rfl) (by decide) E_a1 (argsL := []) (rest := []) (own_isE2 l Z a0 hw a1 h0 S3.old F_size) all0 (by decide +kernel : parseMethodDescriptor "()Z" = some ⟨[], some .boolean⟩) rfl rfl rfl d8_32 (by decide) (Nat.le_of_ble_eq_true rfl) (by decide) (by decide) (fun T5 h5 v5 S5 K5 q5 => ?_)
  obtain ⟨rfl, rfl⟩ := q5
  show own_F p e below s Z _ _ _ _ _ (T5.setTop (mkF m 37 #[.val (.ref a1), .unset] [(.int (0 : Int32))]))
  refine own_if S5 44 d8_37 (by decide) (by decide) (fun (hc37_6 : (0 : Int32) = (0 : Int32)) => ?_) (fun (hc37_6 : ¬ ((0 : Int32) = (0 : Int32))) => False.elim (absurd hc37_6 (by decide)))
  show own_F p e below s Z _ _ _ _ _ (T5.setTop (mkF m 44 #[.val (.ref a1), .unset] []))
  refine own_F.of (fun _ => XS.aloadN S5.here S5.hx rfl (S5.dec d8_44) rfl rfl) ?_
  show own_F p e below s Z _ _ _ _ _ (T5.setTop (mkF m 45 #[.val (.ref a1), .unset] [(.ref a1)]))
  refine own_callX S5 (y := (⟨"java/util/Collection", "toArray", "()[Ljava/lang/Object;"⟩ : MethodName)) (y' := (⟨"java/util/ArrayList", "toArray", "()[Ljava/lang/Object;"⟩ : MethodName)) (own_w hw 178 rfl) (own_w hw 179 rfl) (own_w hw 180 rfl) (own_w hw 181 rfl) (own_w hw 182 rfl) (own_w hw 183 rfl) (own_w hw 184 rfl) (own_w hw 59 rfl) (own_w hw 185 rfl) (own_w hw 2 rfl) (by decide) E_a1 (argsL := []) (rest := []) (own_toArr2 l Z a0 hw a1 aE e1 e2 mO h0 S5.old F_elementData F_size AE X_e1 X_e2 MO) all0 (by decide +kernel : parseMethodDescriptor "()[Ljava/lang/Object;" = some ⟨[], some (.array (.object "java/lang/Object"))⟩) rfl rfl rfl d8_45 (by decide) (Nat.le_of_ble_eq_true rfl) (by decide) (by decide) (fun T7 h7 v7 S7 K7 q7 => ?_)
  obtain ⟨b7, rfl, F7⟩ := q7
  have V8 : own_AO Z h7 b7 [(.ref e1), (.ref e2)] := F7
  show own_F p e below s Z _ _ _ _ _ (T7.setTop (mkF m 50 #[.val (.ref a1), .unset] [(.ref b7)]))
  have fq9 := (X_e1.keep K7)
  have fq10 := (X_e2.keep K7)
  refine own_callS S7 (y := (⟨"java/util/List", "of", "([Ljava/lang/Object;)Ljava/util/List;"⟩ : MethodName)) (own_w hw 208 rfl) (own_w hw 209 rfl) (own_w hw 40 rfl) (own_w hw 210 rfl) (by decide) (argsL := [(.ref b7)]) (rest := []) (own_of2 l Z a0 hw b7 e1 e2 aM h7 S7.old SM V8 fq9 fq10) all0 (by decide +kernel : parseMethodDescriptor "([Ljava/lang/Object;)Ljava/util/List;" = some ⟨[(.array (.object "java/lang/Object"))], some (.object "java/util/List")⟩) rfl rfl rfl d8_50 (by decide) (Nat.le_of_ble_eq_true rfl) (by decide) (by decide) (fun T11 h11 v11 S11 K11 q11 => ?_)
  obtain ⟨b11, rfl, F11⟩ := q11
  show own_F p e below s Z _ _ _ _ _ (T11.setTop (mkF m 53 #[.val (.ref a1), .unset] [(.ref b11)]))
  refine own_retA S11 rfl rfl d8_53 (by decide) (by decide) ?_
  exact ⟨_, rfl, F11⟩
set_option maxRecDepth 65536 in
set_option maxHeartbeats 40000000 in
theorem own_co2 (l : Launch) (Z : State) (a0 : Array Value) (hw : ∀ d ∈ tables_1, d.before a0 Z = true) (a1 aE : Addr) (e1 e2 : Addr) (aM : Addr) (mO : Addr) (h0 : Heap) (hO : Ext Z.heap h0) (SM : Sta Z Z.heap "java/util/ImmutableCollections" "EMPTY" "Ljava/lang/Object;" (.ref aM)) (MO : Mir Z "[Ljava/lang/Object;" mO) (E_a1 : Exa Z h0 a1 "java/util/ArrayList") (F_size : Fld Z h0 a1 "java/util/ArrayList" "size" "I" (.int (2 : Int32))) (F_elementData : Fld Z h0 a1 "java/util/ArrayList" "elementData" "[Ljava/lang/Object;" (.ref aE)) (AE : own_AO Z h0 aE [(.ref e1), (.ref e2), .null, .null, .null, .null, .null, .null, .null, .null]) (X_e1 : Exa Z h0 e1 "java/lang/Integer") (X_e2 : Exa Z h0 e2 "java/lang/Integer") :
    own_C l Z (⟨"java/util/List", "copyOf", "(Ljava/util/Collection;)Ljava/util/List;"⟩ : MethodName) jdk_40_method_48_code 1 (some (.object "java/util/List")) [] ({ frames := 7, cells := 2, slots := 4, locals := 89 } : Room) [] #[(.ref a1)] h0 (fun v h => ∃ b, v = some (.ref b) ∧ Exa Z h b "java/util/ImmutableCollections$List12" ∧ Fld Z h b "java/util/ImmutableCollections$List12" "e0" "Ljava/lang/Object;" (.ref e1) ∧ Fld Z h b "java/util/ImmutableCollections$List12" "e1" "Ljava/lang/Object;" (.ref e2)) := by
  refine own_C.of pn7 hO all0 ?_
  intro p e s m below meth c T0 S0
  refine own_F.cast (by first | (simp [entryFrame, mkF, argsToLocals, Value.category]; done) | rfl : entryFrame m #[(.ref a1)] 1 = mkF m 0 #[.val (.ref a1)] []) ?_
  show own_F p e below s Z _ _ _ _ _ (T0.setTop (mkF m 0 #[.val (.ref a1)] []))
  refine own_F.of (fun _ => XS.aloadN S0.here S0.hx rfl (S0.dec d7_0) rfl rfl) ?_
  show own_F p e below s Z _ _ _ _ _ (T0.setTop (mkF m 1 #[.val (.ref a1)] [(.ref a1)]))
  refine own_callS S0 (y := (⟨"java/util/ImmutableCollections", "listCopy", "(Ljava/util/Collection;)Ljava/util/List;"⟩ : MethodName)) (own_w hw 42 rfl) (own_w hw 43 rfl) (own_w hw 44 rfl) (own_w hw 45 rfl) (by decide) (argsL := [(.ref a1)]) (rest := []) (own_lc2 l Z a0 hw a1 aE e1 e2 aM mO h0 S0.old SM MO E_a1 F_size F_elementData AE X_e1 X_e2) all0 (by decide +kernel : parseMethodDescriptor "(Ljava/util/Collection;)Ljava/util/List;" = some ⟨[(.object "java/util/Collection")], some (.object "java/util/List")⟩) rfl rfl rfl d7_1 (by decide) (Nat.le_of_ble_eq_true rfl) (by decide) (by decide) (fun T1 h1 v1 S1 K1 q1 => ?_)
  obtain ⟨b1, rfl, F1⟩ := q1
  show own_F p e below s Z _ _ _ _ _ (T1.setTop (mkF m 4 #[.val (.ref a1)] [(.ref b1)]))
  refine own_retA S1 rfl rfl d7_4 (by decide) (by decide) ?_
  exact ⟨_, rfl, F1⟩
set_option maxRecDepth 65536 in
set_option maxHeartbeats 40000000 in
theorem own_isE3 (l : Launch) (Z : State) (a0 : Array Value) (hw : ∀ d ∈ tables_1, d.before a0 Z = true) (a1 : Addr) (h0 : Heap) (hO : Ext Z.heap h0) (F_size : Fld Z h0 a1 "java/util/ArrayList" "size" "I" (.int (3 : Int32))) :
    own_C l Z (⟨"java/util/ArrayList", "isEmpty", "()Z"⟩ : MethodName) jdk_38_method_9_code 1 (some .boolean) [] ({ frames := 0, cells := 0, slots := 0, locals := 0 } : Room) [] #[(.ref a1)] h0 (fun v h => v = some (.int 0) ∧ h0 = h) := by
  refine own_C.of pn9 hO all0 ?_
  intro p e s m below meth c T0 S0
  refine own_F.cast (by first | (simp [entryFrame, mkF, argsToLocals, Value.category]; done) | rfl : entryFrame m #[(.ref a1)] 1 = mkF m 0 #[.val (.ref a1)] []) ?_
  show own_F p e below s Z _ _ _ _ _ (T0.setTop (mkF m 0 #[.val (.ref a1)] []))
  refine own_F.of (fun _ => XS.aloadN S0.here S0.hx rfl (S0.dec d9_0) rfl rfl) ?_
  show own_F p e below s Z _ _ _ _ _ (T0.setTop (mkF m 1 #[.val (.ref a1)] [(.ref a1)]))
  refine own_getF S0 (host := "") (Or.inl (own_w hw 61 rfl)) Via.refl F_size d9_1 (fun T1 S1 => ?_)
  show own_F p e below s Z _ _ _ _ _ (T1.setTop (mkF m 4 #[.val (.ref a1)] [(.int (3 : Int32))]))
  refine own_if S1 11 d9_4 (by decide) (by decide) (fun (hc4_2 : ¬ ((3 : Int32) = (0 : Int32))) => ?_) (fun (hc4_2 : (3 : Int32) = (0 : Int32)) => False.elim (absurd hc4_2 (by decide)))
  show own_F p e below s Z _ _ _ _ _ (T1.setTop (mkF m 11 #[.val (.ref a1)] []))
  refine own_F.of (fun _ => XS.iconst S1.here S1.hx rfl (S1.dec d9_11)) ?_
  show own_F p e below s Z _ _ _ _ _ (T1.setTop (mkF m 12 #[.val (.ref a1)] [(.int (0 : Int32))]))
  refine own_retZ S1 (by simp) d9_12 (by decide) (by decide) ?_
  exact ⟨rfl, rfl⟩
set_option maxRecDepth 65536 in
set_option maxHeartbeats 40000000 in
theorem own_lc3 (l : Launch) (Z : State) (a0 : Array Value) (hw : ∀ d ∈ tables_1, d.before a0 Z = true) (a1 aE : Addr) (e1 e2 e3 : Addr) (aM : Addr) (mO : Addr) (h0 : Heap) (hO : Ext Z.heap h0) (SM : Sta Z Z.heap "java/util/ImmutableCollections" "EMPTY" "Ljava/lang/Object;" (.ref aM)) (MO : Mir Z "[Ljava/lang/Object;" mO) (E_a1 : Exa Z h0 a1 "java/util/ArrayList") (F_size : Fld Z h0 a1 "java/util/ArrayList" "size" "I" (.int (3 : Int32))) (F_elementData : Fld Z h0 a1 "java/util/ArrayList" "elementData" "[Ljava/lang/Object;" (.ref aE)) (AE : own_AO Z h0 aE [(.ref e1), (.ref e2), (.ref e3), .null, .null, .null, .null, .null, .null, .null]) (X_e1 : Exa Z h0 e1 "java/lang/Integer") (X_e2 : Exa Z h0 e2 "java/lang/Integer") (X_e3 : Exa Z h0 e3 "java/lang/Integer") :
    own_C l Z (⟨"java/util/ImmutableCollections", "listCopy", "(Ljava/util/Collection;)Ljava/util/List;"⟩ : MethodName) jdk_56_method_3_code 2 (some (.object "java/util/List")) [] ({ frames := 7, cells := 3, slots := 8, locals := 90 } : Room) [] #[(.ref a1)] h0 (fun v h => ∃ b, v = some (.ref b) ∧ ∃ ar, Exa Z h b "java/util/ImmutableCollections$ListN" ∧ Fld Z h b "java/util/ImmutableCollections$ListN" "elements" "[Ljava/lang/Object;" (.ref ar) ∧ own_AO Z h ar [(.ref e1), (.ref e2), (.ref e3)] ∧ Fld Z h b "java/util/ImmutableCollections$ListN" "allowNulls" "Z" (.int 0)) := by
  refine own_C.of pn8 hO all0 ?_
  intro p e s m below meth c T0 S0
  refine own_F.cast (by first | (simp [entryFrame, mkF, argsToLocals, Value.category]; done) | rfl : entryFrame m #[(.ref a1)] 2 = mkF m 0 #[.val (.ref a1), .unset] []) ?_
  show own_F p e below s Z _ _ _ _ _ (T0.setTop (mkF m 0 #[.val (.ref a1), .unset] []))
  refine own_F.of (fun _ => XS.aloadN S0.here S0.hx rfl (S0.dec d8_0) rfl rfl) ?_
  show own_F p e below s Z _ _ _ _ _ (T0.setTop (mkF m 1 #[.val (.ref a1), .unset] [(.ref a1)]))
  refine own_instN S0 (own_w hw 46 rfl) E_a1 (own_NSno (own_w hw 47 rfl) (own_w hw 271 rfl) (NS.step (own_w hw 47 rfl) (NS.step (own_w hw 48 rfl) (NS.step (own_w hw 49 rfl) (own_NSroot (own_w hw 50 rfl) (own_w hw 271 rfl) (by decide)) (by decide)) (by decide)) (by decide)) (by decide)) d8_1 (fun T1 S1 => ?_)
  show own_F p e below s Z _ _ _ _ _ (T1.setTop (mkF m 4 #[.val (.ref a1), .unset] [(.int (0 : Int32))]))
  refine own_if S1 26 d8_4 (by decide) (by decide) (fun (hc4_2 : ¬ ((0 : Int32) = (0 : Int32))) => False.elim (absurd hc4_2 (by decide))) (fun (hc4_2 : (0 : Int32) = (0 : Int32)) => ?_)
  show own_F p e below s Z _ _ _ _ _ (T1.setTop (mkF m 7 #[.val (.ref a1), .unset] []))
  refine own_F.of (fun _ => XS.aloadN S1.here S1.hx rfl (S1.dec d8_7) rfl rfl) ?_
  show own_F p e below s Z _ _ _ _ _ (T1.setTop (mkF m 8 #[.val (.ref a1), .unset] [(.ref a1)]))
  refine own_instN S1 (own_w hw 51 rfl) E_a1 (own_NSno (own_w hw 47 rfl) (own_w hw 219 rfl) (NS.step (own_w hw 47 rfl) (NS.step (own_w hw 48 rfl) (NS.step (own_w hw 49 rfl) (own_NSroot (own_w hw 50 rfl) (own_w hw 219 rfl) (by decide)) (by decide)) (by decide)) (by decide)) (by decide)) d8_8 (fun T3 S3 => ?_)
  show own_F p e below s Z _ _ _ _ _ (T3.setTop (mkF m 11 #[.val (.ref a1), .unset] [(.int (0 : Int32))]))
  refine own_if S3 31 d8_11 (by decide) (by decide) (fun (hc11_4 : (0 : Int32) = (0 : Int32)) => ?_) (fun (hc11_4 : ¬ ((0 : Int32) = (0 : Int32))) => False.elim (absurd hc11_4 (by decide)))
  show own_F p e below s Z _ _ _ _ _ (T3.setTop (mkF m 31 #[.val (.ref a1), .unset] []))
  refine own_F.of (fun _ => XS.aloadN S3.here S3.hx rfl (S3.dec d8_31) rfl rfl) ?_
  show own_F p e below s Z _ _ _ _ _ (T3.setTop (mkF m 32 #[.val (.ref a1), .unset] [(.ref a1)]))
  refine own_callX S3 (y := (⟨"java/util/Collection", "isEmpty", "()Z"⟩ : MethodName)) (y' := (⟨"java/util/ArrayList", "isEmpty", "()Z"⟩ : MethodName)) (own_w hw 52 rfl) (own_w hw 53 rfl) (own_w hw 54 rfl) (own_w hw 55 rfl) (own_w hw 56 rfl) (own_w hw 57 rfl) (own_w hw 58 rfl) (own_w hw 59 rfl) (own_w hw 60 rfl) (own_w hw 2 rfl) (by decide) E_a1 (argsL := []) (rest := []) (own_isE3 l Z a0 hw a1 h0 S3.old F_size) all0 (by decide +kernel : parseMethodDescriptor "()Z" = some ⟨[], some .boolean⟩) rfl rfl rfl d8_32 (by decide) (Nat.le_of_ble_eq_true rfl) (by decide) (by decide) (fun T5 h5 v5 S5 K5 q5 => ?_)
  obtain ⟨rfl, rfl⟩ := q5
  show own_F p e below s Z _ _ _ _ _ (T5.setTop (mkF m 37 #[.val (.ref a1), .unset] [(.int (0 : Int32))]))
  refine own_if S5 44 d8_37 (by decide) (by decide) (fun (hc37_6 : (0 : Int32) = (0 : Int32)) => ?_) (fun (hc37_6 : ¬ ((0 : Int32) = (0 : Int32))) => False.elim (absurd hc37_6 (by decide)))
  show own_F p e below s Z _ _ _ _ _ (T5.setTop (mkF m 44 #[.val (.ref a1), .unset] []))
  refine own_F.of (fun _ => XS.aloadN S5.here S5.hx rfl (S5.dec d8_44) rfl rfl) ?_
  show own_F p e below s Z _ _ _ _ _ (T5.setTop (mkF m 45 #[.val (.ref a1), .unset] [(.ref a1)]))
  refine own_callX S5 (y := (⟨"java/util/Collection", "toArray", "()[Ljava/lang/Object;"⟩ : MethodName)) (y' := (⟨"java/util/ArrayList", "toArray", "()[Ljava/lang/Object;"⟩ : MethodName)) (own_w hw 178 rfl) (own_w hw 179 rfl) (own_w hw 180 rfl) (own_w hw 181 rfl) (own_w hw 182 rfl) (own_w hw 183 rfl) (own_w hw 184 rfl) (own_w hw 59 rfl) (own_w hw 185 rfl) (own_w hw 2 rfl) (by decide) E_a1 (argsL := []) (rest := []) (own_toArr3 l Z a0 hw a1 aE e1 e2 e3 mO h0 S5.old F_elementData F_size AE X_e1 X_e2 X_e3 MO) all0 (by decide +kernel : parseMethodDescriptor "()[Ljava/lang/Object;" = some ⟨[], some (.array (.object "java/lang/Object"))⟩) rfl rfl rfl d8_45 (by decide) (Nat.le_of_ble_eq_true rfl) (by decide) (by decide) (fun T7 h7 v7 S7 K7 q7 => ?_)
  obtain ⟨b7, rfl, F7⟩ := q7
  have V8 : own_AO Z h7 b7 [(.ref e1), (.ref e2), (.ref e3)] := F7
  show own_F p e below s Z _ _ _ _ _ (T7.setTop (mkF m 50 #[.val (.ref a1), .unset] [(.ref b7)]))
  have fq9 := (X_e1.keep K7)
  have fq10 := (X_e2.keep K7)
  have fq11 := (X_e3.keep K7)
  refine own_callS S7 (y := (⟨"java/util/List", "of", "([Ljava/lang/Object;)Ljava/util/List;"⟩ : MethodName)) (own_w hw 208 rfl) (own_w hw 209 rfl) (own_w hw 40 rfl) (own_w hw 210 rfl) (by decide) (argsL := [(.ref b7)]) (rest := []) (own_of3 l Z a0 hw b7 e1 e2 e3 aM h7 S7.old SM V8 fq9 fq10 fq11) all0 (by decide +kernel : parseMethodDescriptor "([Ljava/lang/Object;)Ljava/util/List;" = some ⟨[(.array (.object "java/lang/Object"))], some (.object "java/util/List")⟩) rfl rfl rfl d8_50 (by decide) (Nat.le_of_ble_eq_true rfl) (by decide) (by decide) (fun T12 h12 v12 S12 K12 q12 => ?_)
  obtain ⟨b12, rfl, F12⟩ := q12
  show own_F p e below s Z _ _ _ _ _ (T12.setTop (mkF m 53 #[.val (.ref a1), .unset] [(.ref b12)]))
  refine own_retA S12 rfl rfl d8_53 (by decide) (by decide) ?_
  exact ⟨_, rfl, F12⟩
set_option maxRecDepth 65536 in
set_option maxHeartbeats 40000000 in
theorem own_co3 (l : Launch) (Z : State) (a0 : Array Value) (hw : ∀ d ∈ tables_1, d.before a0 Z = true) (a1 aE : Addr) (e1 e2 e3 : Addr) (aM : Addr) (mO : Addr) (h0 : Heap) (hO : Ext Z.heap h0) (SM : Sta Z Z.heap "java/util/ImmutableCollections" "EMPTY" "Ljava/lang/Object;" (.ref aM)) (MO : Mir Z "[Ljava/lang/Object;" mO) (E_a1 : Exa Z h0 a1 "java/util/ArrayList") (F_size : Fld Z h0 a1 "java/util/ArrayList" "size" "I" (.int (3 : Int32))) (F_elementData : Fld Z h0 a1 "java/util/ArrayList" "elementData" "[Ljava/lang/Object;" (.ref aE)) (AE : own_AO Z h0 aE [(.ref e1), (.ref e2), (.ref e3), .null, .null, .null, .null, .null, .null, .null]) (X_e1 : Exa Z h0 e1 "java/lang/Integer") (X_e2 : Exa Z h0 e2 "java/lang/Integer") (X_e3 : Exa Z h0 e3 "java/lang/Integer") :
    own_C l Z (⟨"java/util/List", "copyOf", "(Ljava/util/Collection;)Ljava/util/List;"⟩ : MethodName) jdk_40_method_48_code 1 (some (.object "java/util/List")) [] ({ frames := 8, cells := 3, slots := 8, locals := 103 } : Room) [] #[(.ref a1)] h0 (fun v h => ∃ b, v = some (.ref b) ∧ ∃ ar, Exa Z h b "java/util/ImmutableCollections$ListN" ∧ Fld Z h b "java/util/ImmutableCollections$ListN" "elements" "[Ljava/lang/Object;" (.ref ar) ∧ own_AO Z h ar [(.ref e1), (.ref e2), (.ref e3)] ∧ Fld Z h b "java/util/ImmutableCollections$ListN" "allowNulls" "Z" (.int 0)) := by
  refine own_C.of pn7 hO all0 ?_
  intro p e s m below meth c T0 S0
  refine own_F.cast (by first | (simp [entryFrame, mkF, argsToLocals, Value.category]; done) | rfl : entryFrame m #[(.ref a1)] 1 = mkF m 0 #[.val (.ref a1)] []) ?_
  show own_F p e below s Z _ _ _ _ _ (T0.setTop (mkF m 0 #[.val (.ref a1)] []))
  refine own_F.of (fun _ => XS.aloadN S0.here S0.hx rfl (S0.dec d7_0) rfl rfl) ?_
  show own_F p e below s Z _ _ _ _ _ (T0.setTop (mkF m 1 #[.val (.ref a1)] [(.ref a1)]))
  refine own_callS S0 (y := (⟨"java/util/ImmutableCollections", "listCopy", "(Ljava/util/Collection;)Ljava/util/List;"⟩ : MethodName)) (own_w hw 42 rfl) (own_w hw 43 rfl) (own_w hw 44 rfl) (own_w hw 45 rfl) (by decide) (argsL := [(.ref a1)]) (rest := []) (own_lc3 l Z a0 hw a1 aE e1 e2 e3 aM mO h0 S0.old SM MO E_a1 F_size F_elementData AE X_e1 X_e2 X_e3) all0 (by decide +kernel : parseMethodDescriptor "(Ljava/util/Collection;)Ljava/util/List;" = some ⟨[(.object "java/util/Collection")], some (.object "java/util/List")⟩) rfl rfl rfl d7_1 (by decide) (Nat.le_of_ble_eq_true rfl) (by decide) (by decide) (fun T1 h1 v1 S1 K1 q1 => ?_)
  obtain ⟨b1, rfl, F1⟩ := q1
  show own_F p e below s Z _ _ _ _ _ (T1.setTop (mkF m 4 #[.val (.ref a1)] [(.ref b1)]))
  refine own_retA S1 rfl rfl d7_4 (by decide) (by decide) ?_
  exact ⟨_, rfl, F1⟩
theorem d17_0 : decode jdk_45_method_3_code 0 = .ok (.aload_n 0, 1) := by decide +kernel
theorem d17_1 : decode jdk_45_method_3_code 1 = .ok (.getfield 7, 3) := by decide +kernel
theorem d17_4 : decode jdk_45_method_3_code 4 = .ok (.arraylength, 1) := by decide +kernel
theorem d17_5 : decode jdk_45_method_3_code 5 = .ok (.ireturn, 1) := by decide +kernel
theorem pn17 : plainFor (⟨"java/util/ImmutableCollections$ListN", "size", "()I"⟩ : MethodName) = true := plainFor_of_name (by first | (simp [plainName, overriddenIn]; done) | decide +kernel)
set_option maxRecDepth 65536 in
set_option maxHeartbeats 40000000 in
theorem own_szN0 (l : Launch) (Z : State) (a0 : Array Value) (hw : ∀ d ∈ tables_1, d.before a0 Z = true) (a1 ar : Addr)  (h0 : Heap) (hO : Ext Z.heap h0) (F_e : Fld Z h0 a1 "java/util/ImmutableCollections$ListN" "elements" "[Ljava/lang/Object;" (.ref ar)) (AR : own_A Z h0 ar (.object "java/lang/Object") []) :
    own_C l Z (⟨"java/util/ImmutableCollections$ListN", "size", "()I"⟩ : MethodName) jdk_45_method_3_code 1 (some .int) [] ({ frames := 0, cells := 0, slots := 0, locals := 0 } : Room) [] #[(.ref a1)] h0 (fun v h => v = some (.int (0 : Int32)) ∧ h0 = h) := by
  refine own_C.of pn17 hO all0 ?_
  intro p e s m below meth c T0 S0
  refine own_F.cast (by first | (simp [entryFrame, mkF, argsToLocals, Value.category]; done) | rfl : entryFrame m #[(.ref a1)] 1 = mkF m 0 #[.val (.ref a1)] []) ?_
  show own_F p e below s Z _ _ _ _ _ (T0.setTop (mkF m 0 #[.val (.ref a1)] []))
  refine own_F.of (fun _ => XS.aloadN S0.here S0.hx rfl (S0.dec d17_0) rfl rfl) ?_
  show own_F p e below s Z _ _ _ _ _ (T0.setTop (mkF m 1 #[.val (.ref a1)] [(.ref a1)]))
  refine own_getF S0 (host := "") (Or.inl (own_w hw 120 rfl)) Via.refl F_e d17_1 (fun T1 S1 => ?_)
  show own_F p e below s Z _ _ _ _ _ (T1.setTop (mkF m 4 #[.val (.ref a1)] [(.ref ar)]))
  refine own_len S1 AR d17_4 ?_
  show own_F p e below s Z _ _ _ _ _ (T1.setTop (mkF m 5 #[.val (.ref a1)] [(.int (0 : Int32))]))
  refine own_retI S1 d17_5 (by decide) (by decide) ?_
  exact ⟨rfl, rfl⟩
set_option maxRecDepth 65536 in
set_option maxHeartbeats 40000000 in
theorem own_szN3 (l : Launch) (Z : State) (a0 : Array Value) (hw : ∀ d ∈ tables_1, d.before a0 Z = true) (a1 ar : Addr) (e1 e2 e3 : Addr) (h0 : Heap) (hO : Ext Z.heap h0) (F_e : Fld Z h0 a1 "java/util/ImmutableCollections$ListN" "elements" "[Ljava/lang/Object;" (.ref ar)) (AR : own_A Z h0 ar (.object "java/lang/Object") [(.ref e1), (.ref e2), (.ref e3)]) :
    own_C l Z (⟨"java/util/ImmutableCollections$ListN", "size", "()I"⟩ : MethodName) jdk_45_method_3_code 1 (some .int) [] ({ frames := 0, cells := 0, slots := 0, locals := 0 } : Room) [] #[(.ref a1)] h0 (fun v h => v = some (.int (3 : Int32)) ∧ h0 = h) := by
  refine own_C.of pn17 hO all0 ?_
  intro p e s m below meth c T0 S0
  refine own_F.cast (by first | (simp [entryFrame, mkF, argsToLocals, Value.category]; done) | rfl : entryFrame m #[(.ref a1)] 1 = mkF m 0 #[.val (.ref a1)] []) ?_
  show own_F p e below s Z _ _ _ _ _ (T0.setTop (mkF m 0 #[.val (.ref a1)] []))
  refine own_F.of (fun _ => XS.aloadN S0.here S0.hx rfl (S0.dec d17_0) rfl rfl) ?_
  show own_F p e below s Z _ _ _ _ _ (T0.setTop (mkF m 1 #[.val (.ref a1)] [(.ref a1)]))
  refine own_getF S0 (host := "") (Or.inl (own_w hw 120 rfl)) Via.refl F_e d17_1 (fun T1 S1 => ?_)
  show own_F p e below s Z _ _ _ _ _ (T1.setTop (mkF m 4 #[.val (.ref a1)] [(.ref ar)]))
  refine own_len S1 AR d17_4 ?_
  show own_F p e below s Z _ _ _ _ _ (T1.setTop (mkF m 5 #[.val (.ref a1)] [(.int (3 : Int32))]))
  refine own_retI S1 d17_5 (by decide) (by decide) ?_
  exact ⟨rfl, rfl⟩
theorem d42_0 : decode jdk_44_method_3_code 0 = .ok (.aload_n 0, 1) := by decide +kernel
theorem d42_1 : decode jdk_44_method_3_code 1 = .ok (.getfield 24, 3) := by decide +kernel
theorem d42_4 : decode jdk_44_method_3_code 4 = .ok (.getstatic 19, 3) := by decide +kernel
theorem d42_7 : decode jdk_44_method_3_code 7 = .ok (.if_acmp .eq 7, 3) := by decide +kernel
theorem d42_10 : decode jdk_44_method_3_code 10 = .ok (.iconst 2, 1) := by decide +kernel
theorem d42_11 : decode jdk_44_method_3_code 11 = .ok (.goto 4, 3) := by decide +kernel
theorem d42_14 : decode jdk_44_method_3_code 14 = .ok (.iconst 1, 1) := by decide +kernel
theorem d42_15 : decode jdk_44_method_3_code 15 = .ok (.ireturn, 1) := by decide +kernel
theorem pn42 : plainFor (⟨"java/util/ImmutableCollections$List12", "size", "()I"⟩ : MethodName) = true := plainFor_of_name (by first | (simp [plainName, overriddenIn]; done) | decide +kernel)
set_option maxRecDepth 65536 in
set_option maxHeartbeats 40000000 in
theorem own_szT1 (l : Launch) (Z : State) (a0 : Array Value) (hw : ∀ d ∈ tables_1, d.before a0 Z = true) (a1 x1 : Addr) (aM : Addr) (h0 : Heap) (hO : Ext Z.heap h0) (SM : Sta Z Z.heap "java/util/ImmutableCollections" "EMPTY" "Ljava/lang/Object;" (.ref aM)) (F_e1 : Fld Z h0 a1 "java/util/ImmutableCollections$List12" "e1" "Ljava/lang/Object;" (.ref x1)) (hx : x1 = aM) :
    own_C l Z (⟨"java/util/ImmutableCollections$List12", "size", "()I"⟩ : MethodName) jdk_44_method_3_code 1 (some .int) [] ({ frames := 0, cells := 0, slots := 0, locals := 0 } : Room) [] #[(.ref a1)] h0 (fun v h => v = some (.int (1 : Int32)) ∧ h0 = h) := by
  refine own_C.of pn42 hO all0 ?_
  intro p e s m below meth c T0 S0
  refine own_F.cast (by first | (simp [entryFrame, mkF, argsToLocals, Value.category]; done) | rfl : entryFrame m #[(.ref a1)] 1 = mkF m 0 #[.val (.ref a1)] []) ?_
  show own_F p e below s Z _ _ _ _ _ (T0.setTop (mkF m 0 #[.val (.ref a1)] []))
  refine own_F.of (fun _ => XS.aloadN S0.here S0.hx rfl (S0.dec d42_0) rfl rfl) ?_
  show own_F p e below s Z _ _ _ _ _ (T0.setTop (mkF m 1 #[.val (.ref a1)] [(.ref a1)]))
  refine own_getF S0 (host := "") (Or.inl (own_w hw 284 rfl)) Via.refl F_e1 d42_1 (fun T1 S1 => ?_)
  show own_F p e below s Z _ _ _ _ _ (T1.setTop (mkF m 4 #[.val (.ref a1)] [(.ref x1)]))
  refine own_getS S1 (Or.inr (own_w hw 292 rfl)) Via.refl (SM.ext S1.old) d42_4 (fun T2 S2 => ?_)
  show own_F p e below s Z _ _ _ _ _ (T2.setTop (mkF m 7 #[.val (.ref a1)] [(.ref aM), (.ref x1)]))
  refine own_acmp S2 rfl rfl 14 d42_7 (by decide) (by decide) (fun (hc7_3 : (Value.ref x1) = (Value.ref aM)) => ?_) (fun (hc7_3 : ¬ ((Value.ref x1) = (Value.ref aM))) => False.elim (hc7_3 (by rw [hx])))
  show own_F p e below s Z _ _ _ _ _ (T2.setTop (mkF m 14 #[.val (.ref a1)] []))
  refine own_F.of (fun _ => XS.iconst S2.here S2.hx rfl (S2.dec d42_14)) ?_
  show own_F p e below s Z _ _ _ _ _ (T2.setTop (mkF m 15 #[.val (.ref a1)] [(.int (1 : Int32))]))
  refine own_retI S2 d42_15 (by decide) (by decide) ?_
  exact ⟨rfl, rfl⟩
set_option maxRecDepth 65536 in
set_option maxHeartbeats 40000000 in
theorem own_szT2 (l : Launch) (Z : State) (a0 : Array Value) (hw : ∀ d ∈ tables_1, d.before a0 Z = true) (a1 x1 : Addr) (aM : Addr) (h0 : Heap) (hO : Ext Z.heap h0) (SM : Sta Z Z.heap "java/util/ImmutableCollections" "EMPTY" "Ljava/lang/Object;" (.ref aM)) (F_e1 : Fld Z h0 a1 "java/util/ImmutableCollections$List12" "e1" "Ljava/lang/Object;" (.ref x1)) (hx : ¬ x1 = aM) :
    own_C l Z (⟨"java/util/ImmutableCollections$List12", "size", "()I"⟩ : MethodName) jdk_44_method_3_code 1 (some .int) [] ({ frames := 0, cells := 0, slots := 0, locals := 0 } : Room) [] #[(.ref a1)] h0 (fun v h => v = some (.int (2 : Int32)) ∧ h0 = h) := by
  refine own_C.of pn42 hO all0 ?_
  intro p e s m below meth c T0 S0
  refine own_F.cast (by first | (simp [entryFrame, mkF, argsToLocals, Value.category]; done) | rfl : entryFrame m #[(.ref a1)] 1 = mkF m 0 #[.val (.ref a1)] []) ?_
  show own_F p e below s Z _ _ _ _ _ (T0.setTop (mkF m 0 #[.val (.ref a1)] []))
  refine own_F.of (fun _ => XS.aloadN S0.here S0.hx rfl (S0.dec d42_0) rfl rfl) ?_
  show own_F p e below s Z _ _ _ _ _ (T0.setTop (mkF m 1 #[.val (.ref a1)] [(.ref a1)]))
  refine own_getF S0 (host := "") (Or.inl (own_w hw 284 rfl)) Via.refl F_e1 d42_1 (fun T1 S1 => ?_)
  show own_F p e below s Z _ _ _ _ _ (T1.setTop (mkF m 4 #[.val (.ref a1)] [(.ref x1)]))
  refine own_getS S1 (Or.inr (own_w hw 292 rfl)) Via.refl (SM.ext S1.old) d42_4 (fun T2 S2 => ?_)
  show own_F p e below s Z _ _ _ _ _ (T2.setTop (mkF m 7 #[.val (.ref a1)] [(.ref aM), (.ref x1)]))
  refine own_acmp S2 rfl rfl 14 d42_7 (by decide) (by decide) (fun (hc7_3 : (Value.ref x1) = (Value.ref aM)) => False.elim (hx (Value.ref.inj hc7_3))) (fun (hc7_3 : ¬ ((Value.ref x1) = (Value.ref aM))) => ?_)
  show own_F p e below s Z _ _ _ _ _ (T2.setTop (mkF m 10 #[.val (.ref a1)] []))
  refine own_F.of (fun _ => XS.iconst S2.here S2.hx rfl (S2.dec d42_10)) ?_
  show own_F p e below s Z _ _ _ _ _ (T2.setTop (mkF m 11 #[.val (.ref a1)] [(.int (2 : Int32))]))
  refine own_F.of (fun _ => XS.goto S2.here S2.hx rfl (pc0 := 11) (pc' := 15) rfl (S2.dec d42_11) (by decide) (by decide)) ?_
  show own_F p e below s Z _ _ _ _ _ (T2.setTop (mkF m 15 #[.val (.ref a1)] [(.int (2 : Int32))]))
  refine own_retI S2 d42_15 (by decide) (by decide) ?_
  exact ⟨rfl, rfl⟩
theorem d43_0 : decode jdk_44_method_5_code 0 = .ok (.iload_n 1, 1) := by decide +kernel
theorem d43_1 : decode jdk_44_method_5_code 1 = .ok (.ifCond .ne 8, 3) := by decide +kernel
theorem d43_4 : decode jdk_44_method_5_code 4 = .ok (.aload_n 0, 1) := by decide +kernel
theorem d43_5 : decode jdk_44_method_5_code 5 = .ok (.getfield 13, 3) := by decide +kernel
theorem d43_8 : decode jdk_44_method_5_code 8 = .ok (.areturn, 1) := by decide +kernel
theorem d43_9 : decode jdk_44_method_5_code 9 = .ok (.iload_n 1, 1) := by decide +kernel
theorem d43_10 : decode jdk_44_method_5_code 10 = .ok (.iconst 1, 1) := by decide +kernel
theorem d43_11 : decode jdk_44_method_5_code 11 = .ok (.if_icmp .ne 18, 3) := by decide +kernel
theorem d43_14 : decode jdk_44_method_5_code 14 = .ok (.aload_n 0, 1) := by decide +kernel
theorem d43_15 : decode jdk_44_method_5_code 15 = .ok (.getfield 24, 3) := by decide +kernel
theorem d43_18 : decode jdk_44_method_5_code 18 = .ok (.getstatic 19, 3) := by decide +kernel
theorem d43_21 : decode jdk_44_method_5_code 21 = .ok (.if_acmp .eq 8, 3) := by decide +kernel
theorem d43_24 : decode jdk_44_method_5_code 24 = .ok (.aload_n 0, 1) := by decide +kernel
theorem d43_25 : decode jdk_44_method_5_code 25 = .ok (.getfield 24, 3) := by decide +kernel
theorem d43_28 : decode jdk_44_method_5_code 28 = .ok (.areturn, 1) := by decide +kernel
theorem d43_29 : decode jdk_44_method_5_code 29 = .ok (.aload_n 0, 1) := by decide +kernel
theorem d43_30 : decode jdk_44_method_5_code 30 = .ok (.iload_n 1, 1) := by decide +kernel
theorem d43_31 : decode jdk_44_method_5_code 31 = .ok (.invokevirtual 27, 3) := by decide +kernel
theorem d43_34 : decode jdk_44_method_5_code 34 = .ok (.athrow, 1) := by decide +kernel
theorem pn43 : plainFor (⟨"java/util/ImmutableCollections$List12", "get", "(I)Ljava/lang/Object;"⟩ : MethodName) = true := plainFor_of_name (by first | (simp [plainName, overriddenIn]; done) | decide +kernel)
set_option maxRecDepth 65536 in
set_option maxHeartbeats 40000000 in
theorem own_gtT_0 (l : Launch) (Z : State) (a0 : Array Value) (hw : ∀ d ∈ tables_1, d.before a0 Z = true) (a1 x0 x1 : Addr) (h0 : Heap) (hO : Ext Z.heap h0) (F_e0 : Fld Z h0 a1 "java/util/ImmutableCollections$List12" "e0" "Ljava/lang/Object;" (.ref x0)) (F_e1 : Fld Z h0 a1 "java/util/ImmutableCollections$List12" "e1" "Ljava/lang/Object;" (.ref x1)) :
    own_C l Z (⟨"java/util/ImmutableCollections$List12", "get", "(I)Ljava/lang/Object;"⟩ : MethodName) jdk_44_method_5_code 2 (some (.object "java/lang/Object")) [] ({ frames := 0, cells := 0, slots := 0, locals := 0 } : Room) [] #[(.ref a1), (.int (0 : Int32))] h0 (fun v h => v = some (.ref x0) ∧ h0 = h) := by
  refine own_C.of pn43 hO all0 ?_
  intro p e s m below meth c T0 S0
  refine own_F.cast (by first | (simp [entryFrame, mkF, argsToLocals, Value.category]; done) | rfl : entryFrame m #[(.ref a1), (.int (0 : Int32))] 2 = mkF m 0 #[.val (.ref a1), .val (.int (0 : Int32))] []) ?_
  show own_F p e below s Z _ _ _ _ _ (T0.setTop (mkF m 0 #[.val (.ref a1), .val (.int (0 : Int32))] []))
  refine own_F.of (fun _ => XS.iloadN S0.here S0.hx rfl (S0.dec d43_0) rfl) ?_
  show own_F p e below s Z _ _ _ _ _ (T0.setTop (mkF m 1 #[.val (.ref a1), .val (.int (0 : Int32))] [(.int (0 : Int32))]))
  refine own_if S0 9 d43_1 (by decide) (by decide) (fun (hc1_1 : ¬ ((0 : Int32) = (0 : Int32))) => False.elim (absurd hc1_1 (by decide))) (fun (hc1_1 : (0 : Int32) = (0 : Int32)) => ?_)
  show own_F p e below s Z _ _ _ _ _ (T0.setTop (mkF m 4 #[.val (.ref a1), .val (.int (0 : Int32))] []))
  refine own_F.of (fun _ => XS.aloadN S0.here S0.hx rfl (S0.dec d43_4) rfl rfl) ?_
  show own_F p e below s Z _ _ _ _ _ (T0.setTop (mkF m 5 #[.val (.ref a1), .val (.int (0 : Int32))] [(.ref a1)]))
  refine own_getF S0 (host := "") (Or.inl (own_w hw 282 rfl)) Via.refl F_e0 d43_5 (fun T2 S2 => ?_)
  show own_F p e below s Z _ _ _ _ _ (T2.setTop (mkF m 8 #[.val (.ref a1), .val (.int (0 : Int32))] [(.ref x0)]))
  refine own_retA S2 rfl rfl d43_8 (by decide) (by decide) ?_
  exact ⟨rfl, rfl⟩
set_option maxRecDepth 65536 in
set_option maxHeartbeats 40000000 in
theorem own_gtT_1 (l : Launch) (Z : State) (a0 : Array Value) (hw : ∀ d ∈ tables_1, d.before a0 Z = true) (a1 x0 x1 : Addr) (aM : Addr) (h0 : Heap) (hO : Ext Z.heap h0) (SM : Sta Z Z.heap "java/util/ImmutableCollections" "EMPTY" "Ljava/lang/Object;" (.ref aM)) (F_e0 : Fld Z h0 a1 "java/util/ImmutableCollections$List12" "e0" "Ljava/lang/Object;" (.ref x0)) (F_e1 : Fld Z h0 a1 "java/util/ImmutableCollections$List12" "e1" "Ljava/lang/Object;" (.ref x1)) (hx : ¬ x1 = aM) :
    own_C l Z (⟨"java/util/ImmutableCollections$List12", "get", "(I)Ljava/lang/Object;"⟩ : MethodName) jdk_44_method_5_code 2 (some (.object "java/lang/Object")) [] ({ frames := 0, cells := 0, slots := 0, locals := 0 } : Room) [] #[(.ref a1), (.int (1 : Int32))] h0 (fun v h => v = some (.ref x1) ∧ h0 = h) := by
  refine own_C.of pn43 hO all0 ?_
  intro p e s m below meth c T0 S0
  refine own_F.cast (by first | (simp [entryFrame, mkF, argsToLocals, Value.category]; done) | rfl : entryFrame m #[(.ref a1), (.int (1 : Int32))] 2 = mkF m 0 #[.val (.ref a1), .val (.int (1 : Int32))] []) ?_
  show own_F p e below s Z _ _ _ _ _ (T0.setTop (mkF m 0 #[.val (.ref a1), .val (.int (1 : Int32))] []))
  refine own_F.of (fun _ => XS.iloadN S0.here S0.hx rfl (S0.dec d43_0) rfl) ?_
  show own_F p e below s Z _ _ _ _ _ (T0.setTop (mkF m 1 #[.val (.ref a1), .val (.int (1 : Int32))] [(.int (1 : Int32))]))
  refine own_if S0 9 d43_1 (by decide) (by decide) (fun (hc1_1 : ¬ ((1 : Int32) = (0 : Int32))) => ?_) (fun (hc1_1 : (1 : Int32) = (0 : Int32)) => False.elim (absurd hc1_1 (by decide)))
  show own_F p e below s Z _ _ _ _ _ (T0.setTop (mkF m 9 #[.val (.ref a1), .val (.int (1 : Int32))] []))
  refine own_F.of (fun _ => XS.iloadN S0.here S0.hx rfl (S0.dec d43_9) rfl) ?_
  show own_F p e below s Z _ _ _ _ _ (T0.setTop (mkF m 10 #[.val (.ref a1), .val (.int (1 : Int32))] [(.int (1 : Int32))]))
  refine own_F.of (fun _ => XS.iconst S0.here S0.hx rfl (S0.dec d43_10)) ?_
  show own_F p e below s Z _ _ _ _ _ (T0.setTop (mkF m 11 #[.val (.ref a1), .val (.int (1 : Int32))] [(.int (1 : Int32)), (.int (1 : Int32))]))
  refine own_icmp S0 29 d43_11 (by decide) (by decide) (fun (hc11_2 : ¬ ((1 : Int32) = (1 : Int32))) => False.elim (absurd hc11_2 (by decide))) (fun (hc11_2 : (1 : Int32) = (1 : Int32)) => ?_)
  show own_F p e below s Z _ _ _ _ _ (T0.setTop (mkF m 14 #[.val (.ref a1), .val (.int (1 : Int32))] []))
  refine own_F.of (fun _ => XS.aloadN S0.here S0.hx rfl (S0.dec d43_14) rfl rfl) ?_
  show own_F p e below s Z _ _ _ _ _ (T0.setTop (mkF m 15 #[.val (.ref a1), .val (.int (1 : Int32))] [(.ref a1)]))
  refine own_getF S0 (host := "") (Or.inl (own_w hw 284 rfl)) Via.refl F_e1 d43_15 (fun T3 S3 => ?_)
  show own_F p e below s Z _ _ _ _ _ (T3.setTop (mkF m 18 #[.val (.ref a1), .val (.int (1 : Int32))] [(.ref x1)]))
  refine own_getS S3 (Or.inr (own_w hw 292 rfl)) Via.refl (SM.ext S3.old) d43_18 (fun T4 S4 => ?_)
  show own_F p e below s Z _ _ _ _ _ (T4.setTop (mkF m 21 #[.val (.ref a1), .val (.int (1 : Int32))] [(.ref aM), (.ref x1)]))
  refine own_acmp S4 rfl rfl 29 d43_21 (by decide) (by decide) (fun (hc21_5 : (Value.ref x1) = (Value.ref aM)) => False.elim (hx (Value.ref.inj hc21_5))) (fun (hc21_5 : ¬ ((Value.ref x1) = (Value.ref aM))) => ?_)
  show own_F p e below s Z _ _ _ _ _ (T4.setTop (mkF m 24 #[.val (.ref a1), .val (.int (1 : Int32))] []))
  refine own_F.of (fun _ => XS.aloadN S4.here S4.hx rfl (S4.dec d43_24) rfl rfl) ?_
  show own_F p e below s Z _ _ _ _ _ (T4.setTop (mkF m 25 #[.val (.ref a1), .val (.int (1 : Int32))] [(.ref a1)]))
  refine own_getF S4 (host := "") (Or.inl (own_w hw 284 rfl)) Via.refl F_e1 d43_25 (fun T6 S6 => ?_)
  show own_F p e below s Z _ _ _ _ _ (T6.setTop (mkF m 28 #[.val (.ref a1), .val (.int (1 : Int32))] [(.ref x1)]))
  refine own_retA S6 rfl rfl d43_28 (by decide) (by decide) ?_
  exact ⟨rfl, rfl⟩
theorem d37_0 : decode jdk_45_method_4_code 0 = .ok (.aload_n 0, 1) := by decide +kernel
theorem d37_1 : decode jdk_45_method_4_code 1 = .ok (.getfield 7, 3) := by decide +kernel
theorem d37_4 : decode jdk_45_method_4_code 4 = .ok (.iload_n 1, 1) := by decide +kernel
theorem d37_5 : decode jdk_45_method_4_code 5 = .ok (.aaload, 1) := by decide +kernel
theorem d37_6 : decode jdk_45_method_4_code 6 = .ok (.areturn, 1) := by decide +kernel
theorem pn37 : plainFor (⟨"java/util/ImmutableCollections$ListN", "get", "(I)Ljava/lang/Object;"⟩ : MethodName) = true := plainFor_of_name (by first | (simp [plainName, overriddenIn]; done) | decide +kernel)
set_option maxRecDepth 65536 in
set_option maxHeartbeats 40000000 in
theorem own_gtN_0 (l : Launch) (Z : State) (a0 : Array Value) (hw : ∀ d ∈ tables_1, d.before a0 Z = true) (a1 ar : Addr) (e1 e2 e3 : Addr) (h0 : Heap) (hO : Ext Z.heap h0) (F_e : Fld Z h0 a1 "java/util/ImmutableCollections$ListN" "elements" "[Ljava/lang/Object;" (.ref ar)) (AR : own_AO Z h0 ar [(.ref e1), (.ref e2), (.ref e3)]) :
    own_C l Z (⟨"java/util/ImmutableCollections$ListN", "get", "(I)Ljava/lang/Object;"⟩ : MethodName) jdk_45_method_4_code 2 (some (.object "java/lang/Object")) [] ({ frames := 0, cells := 0, slots := 0, locals := 0 } : Room) [] #[(.ref a1), (.int (0 : Int32))] h0 (fun v h => v = some (.ref e1) ∧ h0 = h) := by
  refine own_C.of pn37 hO all0 ?_
  intro p e s m below meth c T0 S0
  refine own_F.cast (by first | (simp [entryFrame, mkF, argsToLocals, Value.category]; done) | rfl : entryFrame m #[(.ref a1), (.int (0 : Int32))] 2 = mkF m 0 #[.val (.ref a1), .val (.int (0 : Int32))] []) ?_
  show own_F p e below s Z _ _ _ _ _ (T0.setTop (mkF m 0 #[.val (.ref a1), .val (.int (0 : Int32))] []))
  refine own_F.of (fun _ => XS.aloadN S0.here S0.hx rfl (S0.dec d37_0) rfl rfl) ?_
  show own_F p e below s Z _ _ _ _ _ (T0.setTop (mkF m 1 #[.val (.ref a1), .val (.int (0 : Int32))] [(.ref a1)]))
  refine own_getF S0 (host := "") (Or.inl (own_w hw 120 rfl)) Via.refl F_e d37_1 (fun T1 S1 => ?_)
  show own_F p e below s Z _ _ _ _ _ (T1.setTop (mkF m 4 #[.val (.ref a1), .val (.int (0 : Int32))] [(.ref ar)]))
  refine own_F.of (fun _ => XS.iloadN S1.here S1.hx rfl (S1.dec d37_4) rfl) ?_
  show own_F p e below s Z _ _ _ _ _ (T1.setTop (mkF m 5 #[.val (.ref a1), .val (.int (0 : Int32))] [(.int (0 : Int32)), (.ref ar)]))
  refine own_aald S1 AR.A rfl (by decide) rfl d37_5 ?_
  show own_F p e below s Z _ _ _ _ _ (T1.setTop (mkF m 6 #[.val (.ref a1), .val (.int (0 : Int32))] [(.ref e1)]))
  refine own_retA S1 rfl rfl d37_6 (by decide) (by decide) ?_
  exact ⟨rfl, rfl⟩
set_option maxRecDepth 65536 in
set_option maxHeartbeats 40000000 in
theorem own_gtN_1 (l : Launch) (Z : State) (a0 : Array Value) (hw : ∀ d ∈ tables_1, d.before a0 Z = true) (a1 ar : Addr) (e1 e2 e3 : Addr) (h0 : Heap) (hO : Ext Z.heap h0) (F_e : Fld Z h0 a1 "java/util/ImmutableCollections$ListN" "elements" "[Ljava/lang/Object;" (.ref ar)) (AR : own_AO Z h0 ar [(.ref e1), (.ref e2), (.ref e3)]) :
    own_C l Z (⟨"java/util/ImmutableCollections$ListN", "get", "(I)Ljava/lang/Object;"⟩ : MethodName) jdk_45_method_4_code 2 (some (.object "java/lang/Object")) [] ({ frames := 0, cells := 0, slots := 0, locals := 0 } : Room) [] #[(.ref a1), (.int (1 : Int32))] h0 (fun v h => v = some (.ref e2) ∧ h0 = h) := by
  refine own_C.of pn37 hO all0 ?_
  intro p e s m below meth c T0 S0
  refine own_F.cast (by first | (simp [entryFrame, mkF, argsToLocals, Value.category]; done) | rfl : entryFrame m #[(.ref a1), (.int (1 : Int32))] 2 = mkF m 0 #[.val (.ref a1), .val (.int (1 : Int32))] []) ?_
  show own_F p e below s Z _ _ _ _ _ (T0.setTop (mkF m 0 #[.val (.ref a1), .val (.int (1 : Int32))] []))
  refine own_F.of (fun _ => XS.aloadN S0.here S0.hx rfl (S0.dec d37_0) rfl rfl) ?_
  show own_F p e below s Z _ _ _ _ _ (T0.setTop (mkF m 1 #[.val (.ref a1), .val (.int (1 : Int32))] [(.ref a1)]))
  refine own_getF S0 (host := "") (Or.inl (own_w hw 120 rfl)) Via.refl F_e d37_1 (fun T1 S1 => ?_)
  show own_F p e below s Z _ _ _ _ _ (T1.setTop (mkF m 4 #[.val (.ref a1), .val (.int (1 : Int32))] [(.ref ar)]))
  refine own_F.of (fun _ => XS.iloadN S1.here S1.hx rfl (S1.dec d37_4) rfl) ?_
  show own_F p e below s Z _ _ _ _ _ (T1.setTop (mkF m 5 #[.val (.ref a1), .val (.int (1 : Int32))] [(.int (1 : Int32)), (.ref ar)]))
  refine own_aald S1 AR.A rfl (by decide) rfl d37_5 ?_
  show own_F p e below s Z _ _ _ _ _ (T1.setTop (mkF m 6 #[.val (.ref a1), .val (.int (1 : Int32))] [(.ref e2)]))
  refine own_retA S1 rfl rfl d37_6 (by decide) (by decide) ?_
  exact ⟨rfl, rfl⟩
set_option maxRecDepth 65536 in
set_option maxHeartbeats 40000000 in
theorem own_gtN_2 (l : Launch) (Z : State) (a0 : Array Value) (hw : ∀ d ∈ tables_1, d.before a0 Z = true) (a1 ar : Addr) (e1 e2 e3 : Addr) (h0 : Heap) (hO : Ext Z.heap h0) (F_e : Fld Z h0 a1 "java/util/ImmutableCollections$ListN" "elements" "[Ljava/lang/Object;" (.ref ar)) (AR : own_AO Z h0 ar [(.ref e1), (.ref e2), (.ref e3)]) :
    own_C l Z (⟨"java/util/ImmutableCollections$ListN", "get", "(I)Ljava/lang/Object;"⟩ : MethodName) jdk_45_method_4_code 2 (some (.object "java/lang/Object")) [] ({ frames := 0, cells := 0, slots := 0, locals := 0 } : Room) [] #[(.ref a1), (.int (2 : Int32))] h0 (fun v h => v = some (.ref e3) ∧ h0 = h) := by
  refine own_C.of pn37 hO all0 ?_
  intro p e s m below meth c T0 S0
  refine own_F.cast (by first | (simp [entryFrame, mkF, argsToLocals, Value.category]; done) | rfl : entryFrame m #[(.ref a1), (.int (2 : Int32))] 2 = mkF m 0 #[.val (.ref a1), .val (.int (2 : Int32))] []) ?_
  show own_F p e below s Z _ _ _ _ _ (T0.setTop (mkF m 0 #[.val (.ref a1), .val (.int (2 : Int32))] []))
  refine own_F.of (fun _ => XS.aloadN S0.here S0.hx rfl (S0.dec d37_0) rfl rfl) ?_
  show own_F p e below s Z _ _ _ _ _ (T0.setTop (mkF m 1 #[.val (.ref a1), .val (.int (2 : Int32))] [(.ref a1)]))
  refine own_getF S0 (host := "") (Or.inl (own_w hw 120 rfl)) Via.refl F_e d37_1 (fun T1 S1 => ?_)
  show own_F p e below s Z _ _ _ _ _ (T1.setTop (mkF m 4 #[.val (.ref a1), .val (.int (2 : Int32))] [(.ref ar)]))
  refine own_F.of (fun _ => XS.iloadN S1.here S1.hx rfl (S1.dec d37_4) rfl) ?_
  show own_F p e below s Z _ _ _ _ _ (T1.setTop (mkF m 5 #[.val (.ref a1), .val (.int (2 : Int32))] [(.int (2 : Int32)), (.ref ar)]))
  refine own_aald S1 AR.A rfl (by decide) rfl d37_5 ?_
  show own_F p e below s Z _ _ _ _ _ (T1.setTop (mkF m 6 #[.val (.ref a1), .val (.int (2 : Int32))] [(.ref e3)]))
  refine own_retA S1 rfl rfl d37_6 (by decide) (by decide) ?_
  exact ⟨rfl, rfl⟩
theorem d38_0 : decode jdk_33_method_27_code 0 = .ok (.aload_n 0, 1) := by decide +kernel
theorem d38_1 : decode jdk_33_method_27_code 1 = .ok (.getfield 205, 3) := by decide +kernel
theorem d38_4 : decode jdk_33_method_27_code 4 = .ok (.ireturn, 1) := by decide +kernel
theorem pn38 : plainFor (⟨"java/lang/Integer", "intValue", "()I"⟩ : MethodName) = true := plainFor_of_name (by first | (simp [plainName, overriddenIn]; done) | decide +kernel)
set_option maxRecDepth 65536 in
set_option maxHeartbeats 40000000 in
theorem own_intV (l : Launch) (Z : State) (a0 : Array Value) (hw : ∀ d ∈ tables_1, d.before a0 Z = true) (a1 : Addr) (x : Int32) (h0 : Heap) (hO : Ext Z.heap h0) (F_v : Fld Z h0 a1 "java/lang/Integer" "value" "I" (.int x)) :
    own_C l Z (⟨"java/lang/Integer", "intValue", "()I"⟩ : MethodName) jdk_33_method_27_code 1 (some .int) [] ({ frames := 0, cells := 0, slots := 0, locals := 0 } : Room) [] #[(.ref a1)] h0 (fun v h => v = some (.int x) ∧ h0 = h) := by
  refine own_C.of pn38 hO all0 ?_
  intro p e s m below meth c T0 S0
  refine own_F.cast (by first | (simp [entryFrame, mkF, argsToLocals, Value.category]; done) | rfl : entryFrame m #[(.ref a1)] 1 = mkF m 0 #[.val (.ref a1)] []) ?_
  show own_F p e below s Z _ _ _ _ _ (T0.setTop (mkF m 0 #[.val (.ref a1)] []))
  refine own_F.of (fun _ => XS.aloadN S0.here S0.hx rfl (S0.dec d38_0) rfl rfl) ?_
  show own_F p e below s Z _ _ _ _ _ (T0.setTop (mkF m 1 #[.val (.ref a1)] [(.ref a1)]))
  refine own_getF S0 (host := "") (Or.inl (own_w hw 255 rfl)) Via.refl F_v d38_1 (fun T1 S1 => ?_)
  show own_F p e below s Z _ _ _ _ _ (T1.setTop (mkF m 4 #[.val (.ref a1)] [(.int x)]))
  refine own_retI S1 d38_4 (by decide) (by decide) ?_
  exact ⟨rfl, rfl⟩
theorem d6_0 : decode jdk_30_method_1_code 0 = .ok (.aload_n 0, 1) := by decide +kernel
theorem d6_1 : decode jdk_30_method_1_code 1 = .ok (.invokespecial 1, 3) := by decide +kernel
theorem d6_4 : decode jdk_30_method_1_code 4 = .ok (.return_, 1) := by decide +kernel
theorem pn6 : plainFor (⟨"java/lang/Record", "<init>", "()V"⟩ : MethodName) = true := plainFor_of_name (by first | (simp [plainName, overriddenIn]; done) | decide +kernel)
set_option maxRecDepth 65536 in
set_option maxHeartbeats 40000000 in
theorem own_Rec (l : Launch) (Z : State) (a0 : Array Value) (hw : ∀ d ∈ tables_1, d.before a0 Z = true) (a1 : Addr) (h0 : Heap) (hO : Ext Z.heap h0) :
    own_C l Z (⟨"java/lang/Record", "<init>", "()V"⟩ : MethodName) jdk_30_method_1_code 1 none [] ({ frames := 1, cells := 0, slots := 0, locals := 12 } : Room) [] #[(.ref a1)] h0 (fun v h => v = none ∧ h0 = h) := by
  refine own_C.of pn6 hO all0 ?_
  intro p e s m below meth c T0 S0
  refine own_F.cast (by first | (simp [entryFrame, mkF, argsToLocals, Value.category]; done) | rfl : entryFrame m #[(.ref a1)] 1 = mkF m 0 #[.val (.ref a1)] []) ?_
  show own_F p e below s Z _ _ _ _ _ (T0.setTop (mkF m 0 #[.val (.ref a1)] []))
  refine own_F.of (fun _ => XS.aloadN S0.here S0.hx rfl (S0.dec d6_0) rfl rfl) ?_
  show own_F p e below s Z _ _ _ _ _ (T0.setTop (mkF m 1 #[.val (.ref a1)] [(.ref a1)]))
  refine own_initO S0 (own_w hw 37 rfl) (own_w hw 19 rfl) (own_w hw 20 rfl) rfl d6_1 (by decide) (Nat.le_of_ble_eq_true rfl) (fun T1 S1 => ?_)
  show own_F p e below s Z _ _ _ _ _ (T1.setTop (mkF m 4 #[.val (.ref a1)] []))
  refine own_retV S1 d6_4 (by decide) (by decide) ?_
  exact ⟨rfl, rfl⟩
theorem d5_0 : decode prog_22_method_1_code 0 = .ok (.aload_n 0, 1) := by decide +kernel
theorem d5_1 : decode prog_22_method_1_code 1 = .ok (.invokespecial 1, 3) := by decide +kernel
theorem d5_4 : decode prog_22_method_1_code 4 = .ok (.aload_n 1, 1) := by decide +kernel
theorem d5_5 : decode prog_22_method_1_code 5 = .ok (.invokestatic 7, 3) := by decide +kernel
theorem d5_8 : decode prog_22_method_1_code 8 = .ok (.astore_n 1, 1) := by decide +kernel
theorem d5_9 : decode prog_22_method_1_code 9 = .ok (.aload_n 0, 1) := by decide +kernel
theorem d5_10 : decode prog_22_method_1_code 10 = .ok (.aload_n 1, 1) := by decide +kernel
theorem d5_11 : decode prog_22_method_1_code 11 = .ok (.putfield 13, 3) := by decide +kernel
theorem d5_14 : decode prog_22_method_1_code 14 = .ok (.aload_n 0, 1) := by decide +kernel
theorem d5_15 : decode prog_22_method_1_code 15 = .ok (.aload_n 2, 1) := by decide +kernel
theorem d5_16 : decode prog_22_method_1_code 16 = .ok (.putfield 19, 3) := by decide +kernel
theorem d5_19 : decode prog_22_method_1_code 19 = .ok (.return_, 1) := by decide +kernel
theorem pn5 : plainFor (⟨"com/example/tidemark/tidemark/Page", "<init>", "(Ljava/util/List;Ljava/lang/Object;)V"⟩ : MethodName) = true := plainFor_of_name (by first | (simp [plainName, overriddenIn]; done) | decide +kernel)
set_option maxRecDepth 65536 in
set_option maxHeartbeats 40000000 in
theorem own_Page0 (l : Launch) (Z : State) (a0 : Array Value) (hw : ∀ d ∈ tables_1, d.before a0 Z = true) (a1 l2 : Addr) (v3 : Value) (aL : Addr) (h0 : Heap) (hO : Ext Z.heap h0) (hv : v3.isRef = true) (SL : Sta Z Z.heap "java/util/ImmutableCollections" "EMPTY_LIST" "Ljava/util/ImmutableCollections$ListN;" (.ref aL)) (ga : Z.heap.size ≤ a1) (E_a1 : Exa Z h0 a1 "com/example/tidemark/tidemark/Page") (F_items : Fld Z h0 a1 "com/example/tidemark/tidemark/Page" "items" "Ljava/util/List;" .null) (F_nextKey : Fld Z h0 a1 "com/example/tidemark/tidemark/Page" "nextKey" "Ljava/lang/Object;" .null) (E_l : Exa Z h0 l2 "java/util/ArrayList") (F_size : Fld Z h0 l2 "java/util/ArrayList" "size" "I" (.int (0 : Int32))) :
    own_C l Z (⟨"com/example/tidemark/tidemark/Page", "<init>", "(Ljava/util/List;Ljava/lang/Object;)V"⟩ : MethodName) prog_22_method_1_code 3 none [] ({ frames := 3, cells := 0, slots := 0, locals := 37 } : Room) [a1] #[(.ref a1), (.ref l2), v3] h0 (fun v h => v = none ∧ Fld Z h a1 "com/example/tidemark/tidemark/Page" "items" "Ljava/util/List;" (.ref aL) ∧ Fld Z h a1 "com/example/tidemark/tidemark/Page" "nextKey" "Ljava/lang/Object;" v3) := by
  refine own_C.of pn5 hO (allS ga all0) ?_
  intro p e s m below meth c T0 S0
  refine own_F.cast (by rcases XT.refc hv with rfl | ⟨_, rfl⟩ <;> first | (simp [entryFrame, mkF, argsToLocals, Value.category]; done) | rfl : entryFrame m #[(.ref a1), (.ref l2), v3] 3 = mkF m 0 #[.val (.ref a1), .val (.ref l2), .val v3] []) ?_
  show own_F p e below s Z _ _ _ _ _ (T0.setTop (mkF m 0 #[.val (.ref a1), .val (.ref l2), .val v3] []))
  refine own_F.of (fun _ => XS.aloadN S0.here S0.hx rfl (S0.dec d5_0) rfl rfl) ?_
  show own_F p e below s Z _ _ _ _ _ (T0.setTop (mkF m 1 #[.val (.ref a1), .val (.ref l2), .val v3] [(.ref a1)]))
  refine own_callI S0 (y := (⟨"java/lang/Record", "<init>", "()V"⟩ : MethodName)) rfl (own_w hw 32 rfl) (own_w hw 33 rfl) (own_w hw 35 rfl) (own_w hw 36 rfl) (by decide) (argsL := []) (rest := []) (own_Rec l Z a0 hw a1 h0 S0.old) all0 (by decide +kernel : parseMethodDescriptor "()V" = some ⟨[], none⟩) rfl rfl rfl d5_1 (by decide) (Nat.le_of_ble_eq_true rfl) (by decide) (by decide) (fun T1 h1 v1 S1 K1 q1 => ?_)
  obtain ⟨rfl, rfl⟩ := q1
  show own_F p e below s Z _ _ _ _ _ (T1.setTop (mkF m 4 #[.val (.ref a1), .val (.ref l2), .val v3] []))
  refine own_F.of (fun _ => XS.aloadN S1.here S1.hx rfl (S1.dec d5_4) rfl rfl) ?_
  show own_F p e below s Z _ _ _ _ _ (T1.setTop (mkF m 5 #[.val (.ref a1), .val (.ref l2), .val v3] [(.ref l2)]))
  refine own_callS S1 (y := (⟨"java/util/List", "copyOf", "(Ljava/util/Collection;)Ljava/util/List;"⟩ : MethodName)) (own_w hw 38 rfl) (own_w hw 39 rfl) (own_w hw 40 rfl) (own_w hw 41 rfl) (by decide) (argsL := [(.ref l2)]) (rest := []) (own_co0 l Z a0 hw l2 aL h0 S1.old SL E_l F_size) all0 (by decide +kernel : parseMethodDescriptor "(Ljava/util/Collection;)Ljava/util/List;" = some ⟨[(.object "java/util/Collection")], some (.object "java/util/List")⟩) rfl rfl rfl d5_5 (by decide) (Nat.le_of_ble_eq_true rfl) (by decide) (by decide) (fun T2 h2 v2 S2 K2 q2 => ?_)
  obtain ⟨rfl, rfl⟩ := q2
  show own_F p e below s Z _ _ _ _ _ (T2.setTop (mkF m 8 #[.val (.ref a1), .val (.ref l2), .val v3] [(.ref aL)]))
  refine own_F.of (fun _ => XS.astoreN S2.here S2.hx rfl (S2.dec d5_8) rfl rfl (l' := #[.val (.ref a1), .val (.ref aL), .val v3]) rfl) ?_
  show own_F p e below s Z _ _ _ _ _ (T2.setTop (mkF m 9 #[.val (.ref a1), .val (.ref aL), .val v3] []))
  refine own_F.of (fun _ => XS.aloadN S2.here S2.hx rfl (S2.dec d5_9) rfl rfl) ?_
  show own_F p e below s Z _ _ _ _ _ (T2.setTop (mkF m 10 #[.val (.ref a1), .val (.ref aL), .val v3] [(.ref a1)]))
  refine own_F.of (fun _ => XS.aloadN S2.here S2.hx rfl (S2.dec d5_10) rfl rfl) ?_
  show own_F p e below s Z _ _ _ _ _ (T2.setTop (mkF m 11 #[.val (.ref a1), .val (.ref aL), .val v3] [(.ref aL), (.ref a1)]))
  refine own_putF S2 (host := "") (Or.inl (own_w hw 67 rfl)) Via.refl F_items E_a1 (Or.inr ⟨(own_w hw 68 rfl), rfl, rfl⟩) (own_w hw 27 rfl) (ty := (.object "java/util/List")) (by decide) rfl rfl d5_11 (Or.inl (List.mem_of_getElem? (i := 0) rfl)) (fun T3 h3 S3 W3 => ?_)
  have Fw3 := F_items.same W3
  show own_F p e below s Z _ _ _ _ _ (T3.setTop (mkF m 14 #[.val (.ref a1), .val (.ref aL), .val v3] []))
  refine own_F.of (fun _ => XS.aloadN S3.here S3.hx rfl (S3.dec d5_14) rfl rfl) ?_
  show own_F p e below s Z _ _ _ _ _ (T3.setTop (mkF m 15 #[.val (.ref a1), .val (.ref aL), .val v3] [(.ref a1)]))
  refine own_F.of (fun _ => XS.aloadN S3.here S3.hx rfl (S3.dec d5_15) rfl hv) ?_
  show own_F p e below s Z _ _ _ _ _ (T3.setTop (mkF m 16 #[.val (.ref a1), .val (.ref aL), .val v3] [v3, (.ref a1)]))
  have fq4 := (F_nextKey.other W3 (Or.inr (slot_ne (C := "com/example/tidemark/tidemark/Page") (Or.inr (own_w hw 70 rfl)) (Or.inr (own_w hw 68 rfl)) (by decide) (t := (.object "java/lang/Object")) (t' := (.object "java/util/List")) (by decide) (by decide))))
  have fq5 := (E_a1.wr W3)
  refine own_putF S3 (host := "") (Or.inl (own_w hw 69 rfl)) Via.refl fq4 fq5 (Or.inr ⟨(own_w hw 70 rfl), rfl, rfl⟩) (own_w hw 27 rfl) (ty := (.object "java/lang/Object")) (by decide) (own_narR (by decide) hv) (own_fitR (by decide) hv) d5_16 (Or.inl (List.mem_of_getElem? (i := 0) rfl)) (fun T6 h6 S6 W6 => ?_)
  have Fw6 := fq4.same W6
  show own_F p e below s Z _ _ _ _ _ (T6.setTop (mkF m 19 #[.val (.ref a1), .val (.ref aL), .val v3] []))
  have fq7 := (Fw3.other W6 (Or.inr (slot_ne (C := "com/example/tidemark/tidemark/Page") (Or.inr (own_w hw 68 rfl)) (Or.inr (own_w hw 70 rfl)) (by decide) (t := (.object "java/util/List")) (t' := (.object "java/lang/Object")) (by decide) (by decide))))
  refine own_retV S6 d5_19 (by decide) (by decide) ?_
  exact ⟨rfl, fq7, Fw6⟩
set_option maxRecDepth 65536 in
set_option maxHeartbeats 40000000 in
theorem own_Page1 (l : Launch) (Z : State) (a0 : Array Value) (hw : ∀ d ∈ tables_1, d.before a0 Z = true) (a1 l2 : Addr) (v3 : Value) (aE : Addr) (e1 : Addr) (aM : Addr) (mO : Addr) (h0 : Heap) (hO : Ext Z.heap h0) (hv : v3.isRef = true) (SM : Sta Z Z.heap "java/util/ImmutableCollections" "EMPTY" "Ljava/lang/Object;" (.ref aM)) (MO : Mir Z "[Ljava/lang/Object;" mO) (ga : Z.heap.size ≤ a1) (E_a1 : Exa Z h0 a1 "com/example/tidemark/tidemark/Page") (F_items : Fld Z h0 a1 "com/example/tidemark/tidemark/Page" "items" "Ljava/util/List;" .null) (F_nextKey : Fld Z h0 a1 "com/example/tidemark/tidemark/Page" "nextKey" "Ljava/lang/Object;" .null) (E_l : Exa Z h0 l2 "java/util/ArrayList") (F_size : Fld Z h0 l2 "java/util/ArrayList" "size" "I" (.int (1 : Int32))) (F_elementData : Fld Z h0 l2 "java/util/ArrayList" "elementData" "[Ljava/lang/Object;" (.ref aE)) (AE : own_AO Z h0 aE [(.ref e1), .null, .null, .null, .null, .null, .null, .null, .null, .null]) (X_e1 : Exa Z h0 e1 "java/lang/Integer") :
    own_C l Z (⟨"com/example/tidemark/tidemark/Page", "<init>", "(Ljava/util/List;Ljava/lang/Object;)V"⟩ : MethodName) prog_22_method_1_code 3 none [] ({ frames := 8, cells := 2, slots := 3, locals := 100 } : Room) [a1] #[(.ref a1), (.ref l2), v3] h0 (fun v h => v = none ∧ ∃ b, Fld Z h a1 "com/example/tidemark/tidemark/Page" "items" "Ljava/util/List;" (.ref b) ∧ Fld Z h a1 "com/example/tidemark/tidemark/Page" "nextKey" "Ljava/lang/Object;" v3 ∧ Exa Z h b "java/util/ImmutableCollections$List12" ∧ Fld Z h b "java/util/ImmutableCollections$List12" "e0" "Ljava/lang/Object;" (.ref e1) ∧ Fld Z h b "java/util/ImmutableCollections$List12" "e1" "Ljava/lang/Object;" (.ref aM)) := by
  refine own_C.of pn5 hO (allS ga all0) ?_
  intro p e s m below meth c T0 S0
  refine own_F.cast (by rcases XT.refc hv with rfl | ⟨_, rfl⟩ <;> first | (simp [entryFrame, mkF, argsToLocals, Value.category]; done) | rfl : entryFrame m #[(.ref a1), (.ref l2), v3] 3 = mkF m 0 #[.val (.ref a1), .val (.ref l2), .val v3] []) ?_
  show own_F p e below s Z _ _ _ _ _ (T0.setTop (mkF m 0 #[.val (.ref a1), .val (.ref l2), .val v3] []))
  refine own_F.of (fun _ => XS.aloadN S0.here S0.hx rfl (S0.dec d5_0) rfl rfl) ?_
  show own_F p e below s Z _ _ _ _ _ (T0.setTop (mkF m 1 #[.val (.ref a1), .val (.ref l2), .val v3] [(.ref a1)]))
  refine own_callI S0 (y := (⟨"java/lang/Record", "<init>", "()V"⟩ : MethodName)) rfl (own_w hw 32 rfl) (own_w hw 33 rfl) (own_w hw 35 rfl) (own_w hw 36 rfl) (by decide) (argsL := []) (rest := []) (own_Rec l Z a0 hw a1 h0 S0.old) all0 (by decide +kernel : parseMethodDescriptor "()V" = some ⟨[], none⟩) rfl rfl rfl d5_1 (by decide) (Nat.le_of_ble_eq_true rfl) (by decide) (by decide) (fun T1 h1 v1 S1 K1 q1 => ?_)
  obtain ⟨rfl, rfl⟩ := q1
  show own_F p e below s Z _ _ _ _ _ (T1.setTop (mkF m 4 #[.val (.ref a1), .val (.ref l2), .val v3] []))
  refine own_F.of (fun _ => XS.aloadN S1.here S1.hx rfl (S1.dec d5_4) rfl rfl) ?_
  show own_F p e below s Z _ _ _ _ _ (T1.setTop (mkF m 5 #[.val (.ref a1), .val (.ref l2), .val v3] [(.ref l2)]))
  refine own_callS S1 (y := (⟨"java/util/List", "copyOf", "(Ljava/util/Collection;)Ljava/util/List;"⟩ : MethodName)) (own_w hw 38 rfl) (own_w hw 39 rfl) (own_w hw 40 rfl) (own_w hw 41 rfl) (by decide) (argsL := [(.ref l2)]) (rest := []) (own_co1 l Z a0 hw l2 aE e1 aM mO h0 S1.old SM MO E_l F_size F_elementData AE X_e1) all0 (by decide +kernel : parseMethodDescriptor "(Ljava/util/Collection;)Ljava/util/List;" = some ⟨[(.object "java/util/Collection")], some (.object "java/util/List")⟩) rfl rfl rfl d5_5 (by decide) (Nat.le_of_ble_eq_true rfl) (by decide) (by decide) (fun T2 h2 v2 S2 K2 q2 => ?_)
  obtain ⟨b2, rfl, X2, P2, R2⟩ := q2
  show own_F p e below s Z _ _ _ _ _ (T2.setTop (mkF m 8 #[.val (.ref a1), .val (.ref l2), .val v3] [(.ref b2)]))
  refine own_F.of (fun _ => XS.astoreN S2.here S2.hx rfl (S2.dec d5_8) rfl rfl (l' := #[.val (.ref a1), .val (.ref b2), .val v3]) rfl) ?_
  show own_F p e below s Z _ _ _ _ _ (T2.setTop (mkF m 9 #[.val (.ref a1), .val (.ref b2), .val v3] []))
  refine own_F.of (fun _ => XS.aloadN S2.here S2.hx rfl (S2.dec d5_9) rfl rfl) ?_
  show own_F p e below s Z _ _ _ _ _ (T2.setTop (mkF m 10 #[.val (.ref a1), .val (.ref b2), .val v3] [(.ref a1)]))
  refine own_F.of (fun _ => XS.aloadN S2.here S2.hx rfl (S2.dec d5_10) rfl rfl) ?_
  show own_F p e below s Z _ _ _ _ _ (T2.setTop (mkF m 11 #[.val (.ref a1), .val (.ref b2), .val v3] [(.ref b2), (.ref a1)]))
  have fq3 := (F_items.keep K2 nin0)
  have fq4 := (E_a1.keep K2)
  refine own_putF S2 (host := "") (Or.inl (own_w hw 67 rfl)) Via.refl fq3 fq4 (Or.inr ⟨(own_w hw 68 rfl), rfl, rfl⟩) (own_w hw 27 rfl) (ty := (.object "java/util/List")) (by decide) rfl rfl d5_11 (Or.inl (List.mem_of_getElem? (i := 0) rfl)) (fun T5 h5 S5 W5 => ?_)
  have Fw5 := fq3.same W5
  show own_F p e below s Z _ _ _ _ _ (T5.setTop (mkF m 14 #[.val (.ref a1), .val (.ref b2), .val v3] []))
  refine own_F.of (fun _ => XS.aloadN S5.here S5.hx rfl (S5.dec d5_14) rfl rfl) ?_
  show own_F p e below s Z _ _ _ _ _ (T5.setTop (mkF m 15 #[.val (.ref a1), .val (.ref b2), .val v3] [(.ref a1)]))
  refine own_F.of (fun _ => XS.aloadN S5.here S5.hx rfl (S5.dec d5_15) rfl hv) ?_
  show own_F p e below s Z _ _ _ _ _ (T5.setTop (mkF m 16 #[.val (.ref a1), .val (.ref b2), .val v3] [v3, (.ref a1)]))
  have fq6 := ((F_nextKey.keep K2 nin0).other W5 (Or.inr (slot_ne (C := "com/example/tidemark/tidemark/Page") (Or.inr (own_w hw 70 rfl)) (Or.inr (own_w hw 68 rfl)) (by decide) (t := (.object "java/lang/Object")) (t' := (.object "java/util/List")) (by decide) (by decide))))
  have fq7 := (fq4.wr W5)
  refine own_putF S5 (host := "") (Or.inl (own_w hw 69 rfl)) Via.refl fq6 fq7 (Or.inr ⟨(own_w hw 70 rfl), rfl, rfl⟩) (own_w hw 27 rfl) (ty := (.object "java/lang/Object")) (by decide) (own_narR (by decide) hv) (own_fitR (by decide) hv) d5_16 (Or.inl (List.mem_of_getElem? (i := 0) rfl)) (fun T8 h8 S8 W8 => ?_)
  have Fw8 := fq6.same W8
  show own_F p e below s Z _ _ _ _ _ (T8.setTop (mkF m 19 #[.val (.ref a1), .val (.ref b2), .val v3] []))
  have fq9 := (Fw5.other W8 (Or.inr (slot_ne (C := "com/example/tidemark/tidemark/Page") (Or.inr (own_w hw 68 rfl)) (Or.inr (own_w hw 70 rfl)) (by decide) (t := (.object "java/util/List")) (t' := (.object "java/lang/Object")) (by decide) (by decide))))
  have fq10 := ((X2.wr W5).wr W8)
  have fq11 := ((P2.other W5 (Or.inl (ne_exa fq10 (fq7.wr W8) (by decide)))).other W8 (Or.inl (ne_exa fq10 (fq7.wr W8) (by decide))))
  have fq12 := ((R2.other W5 (Or.inl (ne_exa fq10 (fq7.wr W8) (by decide)))).other W8 (Or.inl (ne_exa fq10 (fq7.wr W8) (by decide))))
  refine own_retV S8 d5_19 (by decide) (by decide) ?_
  exact ⟨rfl, _, fq9, Fw8, fq10, fq11, fq12⟩
set_option maxRecDepth 65536 in
set_option maxHeartbeats 40000000 in
theorem own_Page2 (l : Launch) (Z : State) (a0 : Array Value) (hw : ∀ d ∈ tables_1, d.before a0 Z = true) (a1 l2 : Addr) (v3 : Value) (aE : Addr) (e1 e2 : Addr) (aM : Addr) (mO : Addr) (h0 : Heap) (hO : Ext Z.heap h0) (hv : v3.isRef = true) (SM : Sta Z Z.heap "java/util/ImmutableCollections" "EMPTY" "Ljava/lang/Object;" (.ref aM)) (MO : Mir Z "[Ljava/lang/Object;" mO) (ga : Z.heap.size ≤ a1) (E_a1 : Exa Z h0 a1 "com/example/tidemark/tidemark/Page") (F_items : Fld Z h0 a1 "com/example/tidemark/tidemark/Page" "items" "Ljava/util/List;" .null) (F_nextKey : Fld Z h0 a1 "com/example/tidemark/tidemark/Page" "nextKey" "Ljava/lang/Object;" .null) (E_l : Exa Z h0 l2 "java/util/ArrayList") (F_size : Fld Z h0 l2 "java/util/ArrayList" "size" "I" (.int (2 : Int32))) (F_elementData : Fld Z h0 l2 "java/util/ArrayList" "elementData" "[Ljava/lang/Object;" (.ref aE)) (AE : own_AO Z h0 aE [(.ref e1), (.ref e2), .null, .null, .null, .null, .null, .null, .null, .null]) (X_e1 : Exa Z h0 e1 "java/lang/Integer") (X_e2 : Exa Z h0 e2 "java/lang/Integer") :
    own_C l Z (⟨"com/example/tidemark/tidemark/Page", "<init>", "(Ljava/util/List;Ljava/lang/Object;)V"⟩ : MethodName) prog_22_method_1_code 3 none [] ({ frames := 8, cells := 2, slots := 4, locals := 101 } : Room) [a1] #[(.ref a1), (.ref l2), v3] h0 (fun v h => v = none ∧ ∃ b, Fld Z h a1 "com/example/tidemark/tidemark/Page" "items" "Ljava/util/List;" (.ref b) ∧ Fld Z h a1 "com/example/tidemark/tidemark/Page" "nextKey" "Ljava/lang/Object;" v3 ∧ Exa Z h b "java/util/ImmutableCollections$List12" ∧ Fld Z h b "java/util/ImmutableCollections$List12" "e0" "Ljava/lang/Object;" (.ref e1) ∧ Fld Z h b "java/util/ImmutableCollections$List12" "e1" "Ljava/lang/Object;" (.ref e2)) := by
  refine own_C.of pn5 hO (allS ga all0) ?_
  intro p e s m below meth c T0 S0
  refine own_F.cast (by rcases XT.refc hv with rfl | ⟨_, rfl⟩ <;> first | (simp [entryFrame, mkF, argsToLocals, Value.category]; done) | rfl : entryFrame m #[(.ref a1), (.ref l2), v3] 3 = mkF m 0 #[.val (.ref a1), .val (.ref l2), .val v3] []) ?_
  show own_F p e below s Z _ _ _ _ _ (T0.setTop (mkF m 0 #[.val (.ref a1), .val (.ref l2), .val v3] []))
  refine own_F.of (fun _ => XS.aloadN S0.here S0.hx rfl (S0.dec d5_0) rfl rfl) ?_
  show own_F p e below s Z _ _ _ _ _ (T0.setTop (mkF m 1 #[.val (.ref a1), .val (.ref l2), .val v3] [(.ref a1)]))
  refine own_callI S0 (y := (⟨"java/lang/Record", "<init>", "()V"⟩ : MethodName)) rfl (own_w hw 32 rfl) (own_w hw 33 rfl) (own_w hw 35 rfl) (own_w hw 36 rfl) (by decide) (argsL := []) (rest := []) (own_Rec l Z a0 hw a1 h0 S0.old) all0 (by decide +kernel : parseMethodDescriptor "()V" = some ⟨[], none⟩) rfl rfl rfl d5_1 (by decide) (Nat.le_of_ble_eq_true rfl) (by decide) (by decide) (fun T1 h1 v1 S1 K1 q1 => ?_)
  obtain ⟨rfl, rfl⟩ := q1
  show own_F p e below s Z _ _ _ _ _ (T1.setTop (mkF m 4 #[.val (.ref a1), .val (.ref l2), .val v3] []))
  refine own_F.of (fun _ => XS.aloadN S1.here S1.hx rfl (S1.dec d5_4) rfl rfl) ?_
  show own_F p e below s Z _ _ _ _ _ (T1.setTop (mkF m 5 #[.val (.ref a1), .val (.ref l2), .val v3] [(.ref l2)]))
  refine own_callS S1 (y := (⟨"java/util/List", "copyOf", "(Ljava/util/Collection;)Ljava/util/List;"⟩ : MethodName)) (own_w hw 38 rfl) (own_w hw 39 rfl) (own_w hw 40 rfl) (own_w hw 41 rfl) (by decide) (argsL := [(.ref l2)]) (rest := []) (own_co2 l Z a0 hw l2 aE e1 e2 aM mO h0 S1.old SM MO E_l F_size F_elementData AE X_e1 X_e2) all0 (by decide +kernel : parseMethodDescriptor "(Ljava/util/Collection;)Ljava/util/List;" = some ⟨[(.object "java/util/Collection")], some (.object "java/util/List")⟩) rfl rfl rfl d5_5 (by decide) (Nat.le_of_ble_eq_true rfl) (by decide) (by decide) (fun T2 h2 v2 S2 K2 q2 => ?_)
  obtain ⟨b2, rfl, X2, P2, R2⟩ := q2
  show own_F p e below s Z _ _ _ _ _ (T2.setTop (mkF m 8 #[.val (.ref a1), .val (.ref l2), .val v3] [(.ref b2)]))
  refine own_F.of (fun _ => XS.astoreN S2.here S2.hx rfl (S2.dec d5_8) rfl rfl (l' := #[.val (.ref a1), .val (.ref b2), .val v3]) rfl) ?_
  show own_F p e below s Z _ _ _ _ _ (T2.setTop (mkF m 9 #[.val (.ref a1), .val (.ref b2), .val v3] []))
  refine own_F.of (fun _ => XS.aloadN S2.here S2.hx rfl (S2.dec d5_9) rfl rfl) ?_
  show own_F p e below s Z _ _ _ _ _ (T2.setTop (mkF m 10 #[.val (.ref a1), .val (.ref b2), .val v3] [(.ref a1)]))
  refine own_F.of (fun _ => XS.aloadN S2.here S2.hx rfl (S2.dec d5_10) rfl rfl) ?_
  show own_F p e below s Z _ _ _ _ _ (T2.setTop (mkF m 11 #[.val (.ref a1), .val (.ref b2), .val v3] [(.ref b2), (.ref a1)]))
  have fq3 := (F_items.keep K2 nin0)
  have fq4 := (E_a1.keep K2)
  refine own_putF S2 (host := "") (Or.inl (own_w hw 67 rfl)) Via.refl fq3 fq4 (Or.inr ⟨(own_w hw 68 rfl), rfl, rfl⟩) (own_w hw 27 rfl) (ty := (.object "java/util/List")) (by decide) rfl rfl d5_11 (Or.inl (List.mem_of_getElem? (i := 0) rfl)) (fun T5 h5 S5 W5 => ?_)
  have Fw5 := fq3.same W5
  show own_F p e below s Z _ _ _ _ _ (T5.setTop (mkF m 14 #[.val (.ref a1), .val (.ref b2), .val v3] []))
  refine own_F.of (fun _ => XS.aloadN S5.here S5.hx rfl (S5.dec d5_14) rfl rfl) ?_
  show own_F p e below s Z _ _ _ _ _ (T5.setTop (mkF m 15 #[.val (.ref a1), .val (.ref b2), .val v3] [(.ref a1)]))
  refine own_F.of (fun _ => XS.aloadN S5.here S5.hx rfl (S5.dec d5_15) rfl hv) ?_
  show own_F p e below s Z _ _ _ _ _ (T5.setTop (mkF m 16 #[.val (.ref a1), .val (.ref b2), .val v3] [v3, (.ref a1)]))
  have fq6 := ((F_nextKey.keep K2 nin0).other W5 (Or.inr (slot_ne (C := "com/example/tidemark/tidemark/Page") (Or.inr (own_w hw 70 rfl)) (Or.inr (own_w hw 68 rfl)) (by decide) (t := (.object "java/lang/Object")) (t' := (.object "java/util/List")) (by decide) (by decide))))
  have fq7 := (fq4.wr W5)
  refine own_putF S5 (host := "") (Or.inl (own_w hw 69 rfl)) Via.refl fq6 fq7 (Or.inr ⟨(own_w hw 70 rfl), rfl, rfl⟩) (own_w hw 27 rfl) (ty := (.object "java/lang/Object")) (by decide) (own_narR (by decide) hv) (own_fitR (by decide) hv) d5_16 (Or.inl (List.mem_of_getElem? (i := 0) rfl)) (fun T8 h8 S8 W8 => ?_)
  have Fw8 := fq6.same W8
  show own_F p e below s Z _ _ _ _ _ (T8.setTop (mkF m 19 #[.val (.ref a1), .val (.ref b2), .val v3] []))
  have fq9 := (Fw5.other W8 (Or.inr (slot_ne (C := "com/example/tidemark/tidemark/Page") (Or.inr (own_w hw 68 rfl)) (Or.inr (own_w hw 70 rfl)) (by decide) (t := (.object "java/util/List")) (t' := (.object "java/lang/Object")) (by decide) (by decide))))
  have fq10 := ((X2.wr W5).wr W8)
  have fq11 := ((P2.other W5 (Or.inl (ne_exa fq10 (fq7.wr W8) (by decide)))).other W8 (Or.inl (ne_exa fq10 (fq7.wr W8) (by decide))))
  have fq12 := ((R2.other W5 (Or.inl (ne_exa fq10 (fq7.wr W8) (by decide)))).other W8 (Or.inl (ne_exa fq10 (fq7.wr W8) (by decide))))
  refine own_retV S8 d5_19 (by decide) (by decide) ?_
  exact ⟨rfl, _, fq9, Fw8, fq10, fq11, fq12⟩
set_option maxRecDepth 65536 in
set_option maxHeartbeats 40000000 in
theorem own_Page3 (l : Launch) (Z : State) (a0 : Array Value) (hw : ∀ d ∈ tables_1, d.before a0 Z = true) (a1 l2 : Addr) (v3 : Value) (aE : Addr) (e1 e2 e3 : Addr) (aM : Addr) (mO : Addr) (h0 : Heap) (hO : Ext Z.heap h0) (hv : v3.isRef = true) (SM : Sta Z Z.heap "java/util/ImmutableCollections" "EMPTY" "Ljava/lang/Object;" (.ref aM)) (MO : Mir Z "[Ljava/lang/Object;" mO) (ga : Z.heap.size ≤ a1) (E_a1 : Exa Z h0 a1 "com/example/tidemark/tidemark/Page") (F_items : Fld Z h0 a1 "com/example/tidemark/tidemark/Page" "items" "Ljava/util/List;" .null) (F_nextKey : Fld Z h0 a1 "com/example/tidemark/tidemark/Page" "nextKey" "Ljava/lang/Object;" .null) (E_l : Exa Z h0 l2 "java/util/ArrayList") (F_size : Fld Z h0 l2 "java/util/ArrayList" "size" "I" (.int (3 : Int32))) (F_elementData : Fld Z h0 l2 "java/util/ArrayList" "elementData" "[Ljava/lang/Object;" (.ref aE)) (AE : own_AO Z h0 aE [(.ref e1), (.ref e2), (.ref e3), .null, .null, .null, .null, .null, .null, .null]) (X_e1 : Exa Z h0 e1 "java/lang/Integer") (X_e2 : Exa Z h0 e2 "java/lang/Integer") (X_e3 : Exa Z h0 e3 "java/lang/Integer") :
    own_C l Z (⟨"com/example/tidemark/tidemark/Page", "<init>", "(Ljava/util/List;Ljava/lang/Object;)V"⟩ : MethodName) prog_22_method_1_code 3 none [] ({ frames := 9, cells := 3, slots := 8, locals := 115 } : Room) [a1] #[(.ref a1), (.ref l2), v3] h0 (fun v h => v = none ∧ ∃ b, Fld Z h a1 "com/example/tidemark/tidemark/Page" "items" "Ljava/util/List;" (.ref b) ∧ Fld Z h a1 "com/example/tidemark/tidemark/Page" "nextKey" "Ljava/lang/Object;" v3 ∧ ∃ ar, Exa Z h b "java/util/ImmutableCollections$ListN" ∧ Fld Z h b "java/util/ImmutableCollections$ListN" "elements" "[Ljava/lang/Object;" (.ref ar) ∧ own_AO Z h ar [(.ref e1), (.ref e2), (.ref e3)] ∧ Fld Z h b "java/util/ImmutableCollections$ListN" "allowNulls" "Z" (.int 0)) := by
  refine own_C.of pn5 hO (allS ga all0) ?_
  intro p e s m below meth c T0 S0
  refine own_F.cast (by rcases XT.refc hv with rfl | ⟨_, rfl⟩ <;> first | (simp [entryFrame, mkF, argsToLocals, Value.category]; done) | rfl : entryFrame m #[(.ref a1), (.ref l2), v3] 3 = mkF m 0 #[.val (.ref a1), .val (.ref l2), .val v3] []) ?_
  show own_F p e below s Z _ _ _ _ _ (T0.setTop (mkF m 0 #[.val (.ref a1), .val (.ref l2), .val v3] []))
  refine own_F.of (fun _ => XS.aloadN S0.here S0.hx rfl (S0.dec d5_0) rfl rfl) ?_
  show own_F p e below s Z _ _ _ _ _ (T0.setTop (mkF m 1 #[.val (.ref a1), .val (.ref l2), .val v3] [(.ref a1)]))
  refine own_callI S0 (y := (⟨"java/lang/Record", "<init>", "()V"⟩ : MethodName)) rfl (own_w hw 32 rfl) (own_w hw 33 rfl) (own_w hw 35 rfl) (own_w hw 36 rfl) (by decide) (argsL := []) (rest := []) (own_Rec l Z a0 hw a1 h0 S0.old) all0 (by decide +kernel : parseMethodDescriptor "()V" = some ⟨[], none⟩) rfl rfl rfl d5_1 (by decide) (Nat.le_of_ble_eq_true rfl) (by decide) (by decide) (fun T1 h1 v1 S1 K1 q1 => ?_)
  obtain ⟨rfl, rfl⟩ := q1
  show own_F p e below s Z _ _ _ _ _ (T1.setTop (mkF m 4 #[.val (.ref a1), .val (.ref l2), .val v3] []))
  refine own_F.of (fun _ => XS.aloadN S1.here S1.hx rfl (S1.dec d5_4) rfl rfl) ?_
  show own_F p e below s Z _ _ _ _ _ (T1.setTop (mkF m 5 #[.val (.ref a1), .val (.ref l2), .val v3] [(.ref l2)]))
  refine own_callS S1 (y := (⟨"java/util/List", "copyOf", "(Ljava/util/Collection;)Ljava/util/List;"⟩ : MethodName)) (own_w hw 38 rfl) (own_w hw 39 rfl) (own_w hw 40 rfl) (own_w hw 41 rfl) (by decide) (argsL := [(.ref l2)]) (rest := []) (own_co3 l Z a0 hw l2 aE e1 e2 e3 aM mO h0 S1.old SM MO E_l F_size F_elementData AE X_e1 X_e2 X_e3) all0 (by decide +kernel : parseMethodDescriptor "(Ljava/util/Collection;)Ljava/util/List;" = some ⟨[(.object "java/util/Collection")], some (.object "java/util/List")⟩) rfl rfl rfl d5_5 (by decide) (Nat.le_of_ble_eq_true rfl) (by decide) (by decide) (fun T2 h2 v2 S2 K2 q2 => ?_)
  obtain ⟨b2, rfl, ar2, X2, P2, R2, U2⟩ := q2
  show own_F p e below s Z _ _ _ _ _ (T2.setTop (mkF m 8 #[.val (.ref a1), .val (.ref l2), .val v3] [(.ref b2)]))
  refine own_F.of (fun _ => XS.astoreN S2.here S2.hx rfl (S2.dec d5_8) rfl rfl (l' := #[.val (.ref a1), .val (.ref b2), .val v3]) rfl) ?_
  show own_F p e below s Z _ _ _ _ _ (T2.setTop (mkF m 9 #[.val (.ref a1), .val (.ref b2), .val v3] []))
  refine own_F.of (fun _ => XS.aloadN S2.here S2.hx rfl (S2.dec d5_9) rfl rfl) ?_
  show own_F p e below s Z _ _ _ _ _ (T2.setTop (mkF m 10 #[.val (.ref a1), .val (.ref b2), .val v3] [(.ref a1)]))
  refine own_F.of (fun _ => XS.aloadN S2.here S2.hx rfl (S2.dec d5_10) rfl rfl) ?_
  show own_F p e below s Z _ _ _ _ _ (T2.setTop (mkF m 11 #[.val (.ref a1), .val (.ref b2), .val v3] [(.ref b2), (.ref a1)]))
  have fq3 := (F_items.keep K2 nin0)
  have fq4 := (E_a1.keep K2)
  refine own_putF S2 (host := "") (Or.inl (own_w hw 67 rfl)) Via.refl fq3 fq4 (Or.inr ⟨(own_w hw 68 rfl), rfl, rfl⟩) (own_w hw 27 rfl) (ty := (.object "java/util/List")) (by decide) rfl rfl d5_11 (Or.inl (List.mem_of_getElem? (i := 0) rfl)) (fun T5 h5 S5 W5 => ?_)
  have Fw5 := fq3.same W5
  show own_F p e below s Z _ _ _ _ _ (T5.setTop (mkF m 14 #[.val (.ref a1), .val (.ref b2), .val v3] []))
  refine own_F.of (fun _ => XS.aloadN S5.here S5.hx rfl (S5.dec d5_14) rfl rfl) ?_
  show own_F p e below s Z _ _ _ _ _ (T5.setTop (mkF m 15 #[.val (.ref a1), .val (.ref b2), .val v3] [(.ref a1)]))
  refine own_F.of (fun _ => XS.aloadN S5.here S5.hx rfl (S5.dec d5_15) rfl hv) ?_
  show own_F p e below s Z _ _ _ _ _ (T5.setTop (mkF m 16 #[.val (.ref a1), .val (.ref b2), .val v3] [v3, (.ref a1)]))
  have fq6 := ((F_nextKey.keep K2 nin0).other W5 (Or.inr (slot_ne (C := "com/example/tidemark/tidemark/Page") (Or.inr (own_w hw 70 rfl)) (Or.inr (own_w hw 68 rfl)) (by decide) (t := (.object "java/lang/Object")) (t' := (.object "java/util/List")) (by decide) (by decide))))
  have fq7 := (fq4.wr W5)
  refine own_putF S5 (host := "") (Or.inl (own_w hw 69 rfl)) Via.refl fq6 fq7 (Or.inr ⟨(own_w hw 70 rfl), rfl, rfl⟩) (own_w hw 27 rfl) (ty := (.object "java/lang/Object")) (by decide) (own_narR (by decide) hv) (own_fitR (by decide) hv) d5_16 (Or.inl (List.mem_of_getElem? (i := 0) rfl)) (fun T8 h8 S8 W8 => ?_)
  have Fw8 := fq6.same W8
  show own_F p e below s Z _ _ _ _ _ (T8.setTop (mkF m 19 #[.val (.ref a1), .val (.ref b2), .val v3] []))
  have fq9 := (Fw5.other W8 (Or.inr (slot_ne (C := "com/example/tidemark/tidemark/Page") (Or.inr (own_w hw 68 rfl)) (Or.inr (own_w hw 70 rfl)) (by decide) (t := (.object "java/util/List")) (t' := (.object "java/lang/Object")) (by decide) (by decide))))
  have fq10 := ((X2.wr W5).wr W8)
  have fq11 := ((P2.other W5 (Or.inl (ne_exa fq10 (fq7.wr W8) (by decide)))).other W8 (Or.inl (ne_exa fq10 (fq7.wr W8) (by decide))))
  have fq12 := ((R2.other W5 (ne_exa (R2.exa.wr W5) fq7 (by decide))).other W8 (ne_exa (R2.exa.wr W5) fq7 (by decide)))
  have fq13 := ((U2.other W5 (Or.inl (ne_exa fq10 (fq7.wr W8) (by decide)))).other W8 (Or.inl (ne_exa fq10 (fq7.wr W8) (by decide))))
  refine own_retV S8 d5_19 (by decide) (by decide) ?_
  exact ⟨rfl, _, fq9, Fw8, _, fq10, fq11, fq12, fq13⟩
theorem d12_0 : decode prog_22_method_6_code 0 = .ok (.aload_n 0, 1) := by decide +kernel
theorem d12_1 : decode prog_22_method_6_code 1 = .ok (.getfield 13, 3) := by decide +kernel
theorem d12_4 : decode prog_22_method_6_code 4 = .ok (.areturn, 1) := by decide +kernel
theorem pn12 : plainFor (⟨"com/example/tidemark/tidemark/Page", "items", "()Ljava/util/List;"⟩ : MethodName) = true := plainFor_of_name (by first | (simp [plainName, overriddenIn]; done) | decide +kernel)
set_option maxRecDepth 65536 in
set_option maxHeartbeats 40000000 in
theorem own_pgI (l : Launch) (Z : State) (a0 : Array Value) (hw : ∀ d ∈ tables_1, d.before a0 Z = true) (a1 : Addr) (x : Value) (h0 : Heap) (hO : Ext Z.heap h0) (hx : x.isRef = true) (F_x : Fld Z h0 a1 "com/example/tidemark/tidemark/Page" "items" "Ljava/util/List;" x) :
    own_C l Z (⟨"com/example/tidemark/tidemark/Page", "items", "()Ljava/util/List;"⟩ : MethodName) prog_22_method_6_code 1 (some (.object "java/util/List")) [] ({ frames := 0, cells := 0, slots := 0, locals := 0 } : Room) [] #[(.ref a1)] h0 (fun v h => v = some x ∧ h0 = h) := by
  refine own_C.of pn12 hO all0 ?_
  intro p e s m below meth c T0 S0
  refine own_F.cast (by first | (simp [entryFrame, mkF, argsToLocals, Value.category]; done) | rfl : entryFrame m #[(.ref a1)] 1 = mkF m 0 #[.val (.ref a1)] []) ?_
  show own_F p e below s Z _ _ _ _ _ (T0.setTop (mkF m 0 #[.val (.ref a1)] []))
  refine own_F.of (fun _ => XS.aloadN S0.here S0.hx rfl (S0.dec d12_0) rfl rfl) ?_
  show own_F p e below s Z _ _ _ _ _ (T0.setTop (mkF m 1 #[.val (.ref a1)] [(.ref a1)]))
  refine own_getF S0 (host := "") (Or.inl (own_w hw 67 rfl)) Via.refl F_x d12_1 (fun T1 S1 => ?_)
  show own_F p e below s Z _ _ _ _ _ (T1.setTop (mkF m 4 #[.val (.ref a1)] [x]))
  refine own_retA S1 rfl hx d12_4 (by decide) (by decide) ?_
  exact ⟨rfl, rfl⟩
theorem d13_0 : decode prog_22_method_7_code 0 = .ok (.aload_n 0, 1) := by decide +kernel
theorem d13_1 : decode prog_22_method_7_code 1 = .ok (.getfield 19, 3) := by decide +kernel
theorem d13_4 : decode prog_22_method_7_code 4 = .ok (.areturn, 1) := by decide +kernel
theorem pn13 : plainFor (⟨"com/example/tidemark/tidemark/Page", "nextKey", "()Ljava/lang/Object;"⟩ : MethodName) = true := plainFor_of_name (by first | (simp [plainName, overriddenIn]; done) | decide +kernel)
set_option maxRecDepth 65536 in
set_option maxHeartbeats 40000000 in
theorem own_pgK (l : Launch) (Z : State) (a0 : Array Value) (hw : ∀ d ∈ tables_1, d.before a0 Z = true) (a1 : Addr) (x : Value) (h0 : Heap) (hO : Ext Z.heap h0) (hx : x.isRef = true) (F_x : Fld Z h0 a1 "com/example/tidemark/tidemark/Page" "nextKey" "Ljava/lang/Object;" x) :
    own_C l Z (⟨"com/example/tidemark/tidemark/Page", "nextKey", "()Ljava/lang/Object;"⟩ : MethodName) prog_22_method_7_code 1 (some (.object "java/lang/Object")) [] ({ frames := 0, cells := 0, slots := 0, locals := 0 } : Room) [] #[(.ref a1)] h0 (fun v h => v = some x ∧ h0 = h) := by
  refine own_C.of pn13 hO all0 ?_
  intro p e s m below meth c T0 S0
  refine own_F.cast (by first | (simp [entryFrame, mkF, argsToLocals, Value.category]; done) | rfl : entryFrame m #[(.ref a1)] 1 = mkF m 0 #[.val (.ref a1)] []) ?_
  show own_F p e below s Z _ _ _ _ _ (T0.setTop (mkF m 0 #[.val (.ref a1)] []))
  refine own_F.of (fun _ => XS.aloadN S0.here S0.hx rfl (S0.dec d13_0) rfl rfl) ?_
  show own_F p e below s Z _ _ _ _ _ (T0.setTop (mkF m 1 #[.val (.ref a1)] [(.ref a1)]))
  refine own_getF S0 (host := "") (Or.inl (own_w hw 69 rfl)) Via.refl F_x d13_1 (fun T1 S1 => ?_)
  show own_F p e below s Z _ _ _ _ _ (T1.setTop (mkF m 4 #[.val (.ref a1)] [x]))
  refine own_retA S1 rfl hx d13_4 (by decide) (by decide) ?_
  exact ⟨rfl, rfl⟩
theorem d16_0 : decode prog_23_method_3_code 0 = .ok (.aload_n 0, 1) := by decide +kernel
theorem d16_1 : decode prog_23_method_3_code 1 = .ok (.getfield 7, 3) := by decide +kernel
theorem d16_4 : decode prog_23_method_3_code 4 = .ok (.areturn, 1) := by decide +kernel
theorem pn16 : plainFor (⟨"com/example/tidemark/tidemark/PagedList", "items", "()Ljava/util/List;"⟩ : MethodName) = true := plainFor_of_name (by first | (simp [plainName, overriddenIn]; done) | decide +kernel)
set_option maxRecDepth 65536 in
set_option maxHeartbeats 40000000 in
theorem own_plI (l : Launch) (Z : State) (a0 : Array Value) (hw : ∀ d ∈ tables_1, d.before a0 Z = true) (a1 : Addr) (x : Value) (h0 : Heap) (hO : Ext Z.heap h0) (hx : x.isRef = true) (F_x : Fld Z h0 a1 "com/example/tidemark/tidemark/PagedList" "items" "Ljava/util/List;" x) :
    own_C l Z (⟨"com/example/tidemark/tidemark/PagedList", "items", "()Ljava/util/List;"⟩ : MethodName) prog_23_method_3_code 1 (some (.object "java/util/List")) [] ({ frames := 0, cells := 0, slots := 0, locals := 0 } : Room) [] #[(.ref a1)] h0 (fun v h => v = some x ∧ h0 = h) := by
  refine own_C.of pn16 hO all0 ?_
  intro p e s m below meth c T0 S0
  refine own_F.cast (by first | (simp [entryFrame, mkF, argsToLocals, Value.category]; done) | rfl : entryFrame m #[(.ref a1)] 1 = mkF m 0 #[.val (.ref a1)] []) ?_
  show own_F p e below s Z _ _ _ _ _ (T0.setTop (mkF m 0 #[.val (.ref a1)] []))
  refine own_F.of (fun _ => XS.aloadN S0.here S0.hx rfl (S0.dec d16_0) rfl rfl) ?_
  show own_F p e below s Z _ _ _ _ _ (T0.setTop (mkF m 1 #[.val (.ref a1)] [(.ref a1)]))
  refine own_getF S0 (host := "") (Or.inl (own_w hw 97 rfl)) Via.refl F_x d16_1 (fun T1 S1 => ?_)
  show own_F p e below s Z _ _ _ _ _ (T1.setTop (mkF m 4 #[.val (.ref a1)] [x]))
  refine own_retA S1 rfl hx d16_4 (by decide) (by decide) ?_
  exact ⟨rfl, rfl⟩
theorem d18_0 : decode prog_23_method_4_code 0 = .ok (.aload_n 0, 1) := by decide +kernel
theorem d18_1 : decode prog_23_method_4_code 1 = .ok (.getfield 13, 3) := by decide +kernel
theorem d18_4 : decode prog_23_method_4_code 4 = .ok (.areturn, 1) := by decide +kernel
theorem pn18 : plainFor (⟨"com/example/tidemark/tidemark/PagedList", "footer", "()Lcom/example/tidemark/tidemark/PagedList$Footer;"⟩ : MethodName) = true := plainFor_of_name (by first | (simp [plainName, overriddenIn]; done) | decide +kernel)
set_option maxRecDepth 65536 in
set_option maxHeartbeats 40000000 in
theorem own_plF (l : Launch) (Z : State) (a0 : Array Value) (hw : ∀ d ∈ tables_1, d.before a0 Z = true) (a1 : Addr) (x : Value) (h0 : Heap) (hO : Ext Z.heap h0) (hx : x.isRef = true) (F_x : Fld Z h0 a1 "com/example/tidemark/tidemark/PagedList" "footer" "Lcom/example/tidemark/tidemark/PagedList$Footer;" x) :
    own_C l Z (⟨"com/example/tidemark/tidemark/PagedList", "footer", "()Lcom/example/tidemark/tidemark/PagedList$Footer;"⟩ : MethodName) prog_23_method_4_code 1 (some (.object "com/example/tidemark/tidemark/PagedList$Footer")) [] ({ frames := 0, cells := 0, slots := 0, locals := 0 } : Room) [] #[(.ref a1)] h0 (fun v h => v = some x ∧ h0 = h) := by
  refine own_C.of pn18 hO all0 ?_
  intro p e s m below meth c T0 S0
  refine own_F.cast (by first | (simp [entryFrame, mkF, argsToLocals, Value.category]; done) | rfl : entryFrame m #[(.ref a1)] 1 = mkF m 0 #[.val (.ref a1)] []) ?_
  show own_F p e below s Z _ _ _ _ _ (T0.setTop (mkF m 0 #[.val (.ref a1)] []))
  refine own_F.of (fun _ => XS.aloadN S0.here S0.hx rfl (S0.dec d18_0) rfl rfl) ?_
  show own_F p e below s Z _ _ _ _ _ (T0.setTop (mkF m 1 #[.val (.ref a1)] [(.ref a1)]))
  refine own_getF S0 (host := "") (Or.inl (own_w hw 99 rfl)) Via.refl F_x d18_1 (fun T1 S1 => ?_)
  show own_F p e below s Z _ _ _ _ _ (T1.setTop (mkF m 4 #[.val (.ref a1)] [x]))
  refine own_retA S1 rfl hx d18_4 (by decide) (by decide) ?_
  exact ⟨rfl, rfl⟩
theorem d20_0 : decode prog_23_method_7_code 0 = .ok (.aload_n 0, 1) := by decide +kernel
theorem d20_1 : decode prog_23_method_7_code 1 = .ok (.getfield 21, 3) := by decide +kernel
theorem d20_4 : decode prog_23_method_7_code 4 = .ok (.areturn, 1) := by decide +kernel
theorem pn20 : plainFor (⟨"com/example/tidemark/tidemark/PagedList", "nextKey", "()Ljava/lang/Object;"⟩ : MethodName) = true := plainFor_of_name (by first | (simp [plainName, overriddenIn]; done) | decide +kernel)
set_option maxRecDepth 65536 in
set_option maxHeartbeats 40000000 in
theorem own_plK (l : Launch) (Z : State) (a0 : Array Value) (hw : ∀ d ∈ tables_1, d.before a0 Z = true) (a1 : Addr) (x : Value) (h0 : Heap) (hO : Ext Z.heap h0) (hx : x.isRef = true) (F_x : Fld Z h0 a1 "com/example/tidemark/tidemark/PagedList" "nextKey" "Ljava/lang/Object;" x) :
    own_C l Z (⟨"com/example/tidemark/tidemark/PagedList", "nextKey", "()Ljava/lang/Object;"⟩ : MethodName) prog_23_method_7_code 1 (some (.object "java/lang/Object")) [] ({ frames := 0, cells := 0, slots := 0, locals := 0 } : Room) [] #[(.ref a1)] h0 (fun v h => v = some x ∧ h0 = h) := by
  refine own_C.of pn20 hO all0 ?_
  intro p e s m below meth c T0 S0
  refine own_F.cast (by first | (simp [entryFrame, mkF, argsToLocals, Value.category]; done) | rfl : entryFrame m #[(.ref a1)] 1 = mkF m 0 #[.val (.ref a1)] []) ?_
  show own_F p e below s Z _ _ _ _ _ (T0.setTop (mkF m 0 #[.val (.ref a1)] []))
  refine own_F.of (fun _ => XS.aloadN S0.here S0.hx rfl (S0.dec d20_0) rfl rfl) ?_
  show own_F p e below s Z _ _ _ _ _ (T0.setTop (mkF m 1 #[.val (.ref a1)] [(.ref a1)]))
  refine own_getF S0 (host := "") (Or.inl (own_w hw 103 rfl)) Via.refl F_x d20_1 (fun T1 S1 => ?_)
  show own_F p e below s Z _ _ _ _ _ (T1.setTop (mkF m 4 #[.val (.ref a1)] [x]))
  refine own_retA S1 rfl hx d20_4 (by decide) (by decide) ?_
  exact ⟨rfl, rfl⟩
theorem d14_0 : decode prog_23_method_12_code 0 = .ok (.aload_n 0, 1) := by decide +kernel
theorem d14_1 : decode prog_23_method_12_code 1 = .ok (.ifnonnull 9, 3) := by decide +kernel
theorem d14_4 : decode prog_23_method_12_code 4 = .ok (.getstatic 88, 3) := by decide +kernel
theorem d14_7 : decode prog_23_method_12_code 7 = .ok (.goto 6, 3) := by decide +kernel
theorem d14_10 : decode prog_23_method_12_code 10 = .ok (.getstatic 46, 3) := by decide +kernel
theorem d14_13 : decode prog_23_method_12_code 13 = .ok (.areturn, 1) := by decide +kernel
theorem pn14 : plainFor (⟨"com/example/tidemark/tidemark/PagedList", "restingFooter", "(Ljava/lang/Object;)Lcom/example/tidemark/tidemark/PagedList$Footer;"⟩ : MethodName) = true := plainFor_of_name (by first | (simp [plainName, overriddenIn]; done) | decide +kernel)
set_option maxRecDepth 65536 in
set_option maxHeartbeats 40000000 in
theorem own_restN (l : Launch) (Z : State) (a0 : Array Value) (hw : ∀ d ∈ tables_1, d.before a0 Z = true) (a_END : Addr) (a_IDLE : Addr) (a_FAILED : Addr) (h0 : Heap) (hO : Ext Z.heap h0) (S_END : Sta Z Z.heap "com/example/tidemark/tidemark/PagedList$Footer" "END" "Lcom/example/tidemark/tidemark/PagedList$Footer;" (.ref a_END)) (S_IDLE : Sta Z Z.heap "com/example/tidemark/tidemark/PagedList$Footer" "IDLE" "Lcom/example/tidemark/tidemark/PagedList$Footer;" (.ref a_IDLE)) (S_FAILED : Sta Z Z.heap "com/example/tidemark/tidemark/PagedList$Footer" "FAILED" "Lcom/example/tidemark/tidemark/PagedList$Footer;" (.ref a_FAILED)) :
    own_C l Z (⟨"com/example/tidemark/tidemark/PagedList", "restingFooter", "(Ljava/lang/Object;)Lcom/example/tidemark/tidemark/PagedList$Footer;"⟩ : MethodName) prog_23_method_12_code 1 (some (.object "com/example/tidemark/tidemark/PagedList$Footer")) [] ({ frames := 0, cells := 0, slots := 0, locals := 0 } : Room) [] #[.null] h0 (fun v h => v = some (.ref a_END) ∧ h0 = h) := by
  refine own_C.of pn14 hO all0 ?_
  intro p e s m below meth c T0 S0
  refine own_F.cast (by first | (simp [entryFrame, mkF, argsToLocals, Value.category]; done) | rfl : entryFrame m #[.null] 1 = mkF m 0 #[.val .null] []) ?_
  show own_F p e below s Z _ _ _ _ _ (T0.setTop (mkF m 0 #[.val .null] []))
  refine own_F.of (fun _ => XS.aloadN S0.here S0.hx rfl (S0.dec d14_0) rfl rfl) ?_
  show own_F p e below s Z _ _ _ _ _ (T0.setTop (mkF m 1 #[.val .null] [.null]))
  refine own_F.of (fun _ => XS.ifnonnullNo S0.here S0.hx rfl (S0.dec d14_1) rfl) ?_
  show own_F p e below s Z _ _ _ _ _ (T0.setTop (mkF m 4 #[.val .null] []))
  refine own_getS S0 (host := "") (Or.inl (own_w hw 90 rfl)) Via.refl (S_END.ext S0.old) d14_4 (fun T1 S1 => ?_)
  show own_F p e below s Z _ _ _ _ _ (T1.setTop (mkF m 7 #[.val .null] [(.ref a_END)]))
  refine own_F.of (fun _ => XS.goto S1.here S1.hx rfl (pc0 := 7) (pc' := 13) rfl (S1.dec d14_7) (by decide) (by decide)) ?_
  show own_F p e below s Z _ _ _ _ _ (T1.setTop (mkF m 13 #[.val .null] [(.ref a_END)]))
  refine own_retA S1 rfl rfl d14_13 (by decide) (by decide) ?_
  exact ⟨rfl, rfl⟩
set_option maxRecDepth 65536 in
set_option maxHeartbeats 40000000 in
theorem own_restR (l : Launch) (Z : State) (a0 : Array Value) (hw : ∀ d ∈ tables_1, d.before a0 Z = true) (ek : Addr) (a_END : Addr) (a_IDLE : Addr) (a_FAILED : Addr) (h0 : Heap) (hO : Ext Z.heap h0) (S_END : Sta Z Z.heap "com/example/tidemark/tidemark/PagedList$Footer" "END" "Lcom/example/tidemark/tidemark/PagedList$Footer;" (.ref a_END)) (S_IDLE : Sta Z Z.heap "com/example/tidemark/tidemark/PagedList$Footer" "IDLE" "Lcom/example/tidemark/tidemark/PagedList$Footer;" (.ref a_IDLE)) (S_FAILED : Sta Z Z.heap "com/example/tidemark/tidemark/PagedList$Footer" "FAILED" "Lcom/example/tidemark/tidemark/PagedList$Footer;" (.ref a_FAILED)) :
    own_C l Z (⟨"com/example/tidemark/tidemark/PagedList", "restingFooter", "(Ljava/lang/Object;)Lcom/example/tidemark/tidemark/PagedList$Footer;"⟩ : MethodName) prog_23_method_12_code 1 (some (.object "com/example/tidemark/tidemark/PagedList$Footer")) [] ({ frames := 0, cells := 0, slots := 0, locals := 0 } : Room) [] #[(.ref ek)] h0 (fun v h => v = some (.ref a_IDLE) ∧ h0 = h) := by
  refine own_C.of pn14 hO all0 ?_
  intro p e s m below meth c T0 S0
  refine own_F.cast (by first | (simp [entryFrame, mkF, argsToLocals, Value.category]; done) | rfl : entryFrame m #[(.ref ek)] 1 = mkF m 0 #[.val (.ref ek)] []) ?_
  show own_F p e below s Z _ _ _ _ _ (T0.setTop (mkF m 0 #[.val (.ref ek)] []))
  refine own_F.of (fun _ => XS.aloadN S0.here S0.hx rfl (S0.dec d14_0) rfl rfl) ?_
  show own_F p e below s Z _ _ _ _ _ (T0.setTop (mkF m 1 #[.val (.ref ek)] [(.ref ek)]))
  refine own_F.of (fun _ => XS.ifnonnullYes S0.here S0.hx rfl (pc0 := 1) (pc' := 10) rfl (S0.dec d14_1) rfl (by decide) (by decide)) ?_
  show own_F p e below s Z _ _ _ _ _ (T0.setTop (mkF m 10 #[.val (.ref ek)] []))
  refine own_getS S0 (host := "") (Or.inl (own_w hw 133 rfl)) Via.refl (S_IDLE.ext S0.old) d14_10 (fun T1 S1 => ?_)
  show own_F p e below s Z _ _ _ _ _ (T1.setTop (mkF m 13 #[.val (.ref ek)] [(.ref a_IDLE)]))
  refine own_retA S1 rfl rfl d14_13 (by decide) (by decide) ?_
  exact ⟨rfl, rfl⟩
theorem d15_0 : decode prog_23_method_1_code 0 = .ok (.aload_n 0, 1) := by decide +kernel
theorem d15_1 : decode prog_23_method_1_code 1 = .ok (.invokespecial 1, 3) := by decide +kernel
theorem d15_4 : decode prog_23_method_1_code 4 = .ok (.aload_n 0, 1) := by decide +kernel
theorem d15_5 : decode prog_23_method_1_code 5 = .ok (.aload_n 1, 1) := by decide +kernel
theorem d15_6 : decode prog_23_method_1_code 6 = .ok (.putfield 7, 3) := by decide +kernel
theorem d15_9 : decode prog_23_method_1_code 9 = .ok (.aload_n 0, 1) := by decide +kernel
theorem d15_10 : decode prog_23_method_1_code 10 = .ok (.aload_n 2, 1) := by decide +kernel
theorem d15_11 : decode prog_23_method_1_code 11 = .ok (.putfield 13, 3) := by decide +kernel
theorem d15_14 : decode prog_23_method_1_code 14 = .ok (.aload_n 0, 1) := by decide +kernel
theorem d15_15 : decode prog_23_method_1_code 15 = .ok (.aload_n 3, 1) := by decide +kernel
theorem d15_16 : decode prog_23_method_1_code 16 = .ok (.putfield 17, 3) := by decide +kernel
theorem d15_19 : decode prog_23_method_1_code 19 = .ok (.aload_n 0, 1) := by decide +kernel
theorem d15_20 : decode prog_23_method_1_code 20 = .ok (.aload 4, 2) := by decide +kernel
theorem d15_22 : decode prog_23_method_1_code 22 = .ok (.putfield 21, 3) := by decide +kernel
theorem d15_25 : decode prog_23_method_1_code 25 = .ok (.return_, 1) := by decide +kernel
theorem pn15 : plainFor (⟨"com/example/tidemark/tidemark/PagedList", "<init>", "(Ljava/util/List;Lcom/example/tidemark/tidemark/PagedList$Footer;Ljava/lang/Throwable;Ljava/lang/Object;)V"⟩ : MethodName) = true := plainFor_of_name (by first | (simp [plainName, overriddenIn]; done) | decide +kernel)
set_option maxRecDepth 65536 in
set_option maxHeartbeats 40000000 in
theorem own_PLI (l : Launch) (Z : State) (a0 : Array Value) (hw : ∀ d ∈ tables_1, d.before a0 Z = true) (a1 l2 ft3 : Addr) (v4 : Value) (h0 : Heap) (hO : Ext Z.heap h0) (hv : v4.isRef = true) (ga : Z.heap.size ≤ a1) (E_a1 : Exa Z h0 a1 "com/example/tidemark/tidemark/PagedList") (F_items : Fld Z h0 a1 "com/example/tidemark/tidemark/PagedList" "items" "Ljava/util/List;" .null) (F_footer : Fld Z h0 a1 "com/example/tidemark/tidemark/PagedList" "footer" "Lcom/example/tidemark/tidemark/PagedList$Footer;" .null) (F_footerError : Fld Z h0 a1 "com/example/tidemark/tidemark/PagedList" "footerError" "Ljava/lang/Throwable;" .null) (F_nextKey : Fld Z h0 a1 "com/example/tidemark/tidemark/PagedList" "nextKey" "Ljava/lang/Object;" .null) :
    own_C l Z (⟨"com/example/tidemark/tidemark/PagedList", "<init>", "(Ljava/util/List;Lcom/example/tidemark/tidemark/PagedList$Footer;Ljava/lang/Throwable;Ljava/lang/Object;)V"⟩ : MethodName) prog_23_method_1_code 5 none [] ({ frames := 1, cells := 0, slots := 0, locals := 12 } : Room) [a1] #[(.ref a1), (.ref l2), (.ref ft3), .null, v4] h0 (fun v h => v = none ∧ Fld Z h a1 "com/example/tidemark/tidemark/PagedList" "items" "Ljava/util/List;" (.ref l2) ∧ Fld Z h a1 "com/example/tidemark/tidemark/PagedList" "footer" "Lcom/example/tidemark/tidemark/PagedList$Footer;" (.ref ft3) ∧ Fld Z h a1 "com/example/tidemark/tidemark/PagedList" "nextKey" "Ljava/lang/Object;" v4) := by
  refine own_C.of pn15 hO (allS ga all0) ?_
  intro p e s m below meth c T0 S0
  refine own_F.cast (by rcases XT.refc hv with rfl | ⟨_, rfl⟩ <;> first | (simp [entryFrame, mkF, argsToLocals, Value.category]; done) | rfl : entryFrame m #[(.ref a1), (.ref l2), (.ref ft3), .null, v4] 5 = mkF m 0 #[.val (.ref a1), .val (.ref l2), .val (.ref ft3), .val .null, .val v4] []) ?_
  show own_F p e below s Z _ _ _ _ _ (T0.setTop (mkF m 0 #[.val (.ref a1), .val (.ref l2), .val (.ref ft3), .val .null, .val v4] []))
  refine own_F.of (fun _ => XS.aloadN S0.here S0.hx rfl (S0.dec d15_0) rfl rfl) ?_
  show own_F p e below s Z _ _ _ _ _ (T0.setTop (mkF m 1 #[.val (.ref a1), .val (.ref l2), .val (.ref ft3), .val .null, .val v4] [(.ref a1)]))
  refine own_initO S0 (own_w hw 96 rfl) (own_w hw 19 rfl) (own_w hw 20 rfl) rfl d15_1 (by decide) (Nat.le_of_ble_eq_true rfl) (fun T1 S1 => ?_)
  show own_F p e below s Z _ _ _ _ _ (T1.setTop (mkF m 4 #[.val (.ref a1), .val (.ref l2), .val (.ref ft3), .val .null, .val v4] []))
  refine own_F.of (fun _ => XS.aloadN S1.here S1.hx rfl (S1.dec d15_4) rfl rfl) ?_
  show own_F p e below s Z _ _ _ _ _ (T1.setTop (mkF m 5 #[.val (.ref a1), .val (.ref l2), .val (.ref ft3), .val .null, .val v4] [(.ref a1)]))
  refine own_F.of (fun _ => XS.aloadN S1.here S1.hx rfl (S1.dec d15_5) rfl rfl) ?_
  show own_F p e below s Z _ _ _ _ _ (T1.setTop (mkF m 6 #[.val (.ref a1), .val (.ref l2), .val (.ref ft3), .val .null, .val v4] [(.ref l2), (.ref a1)]))
  refine own_putF S1 (host := "") (Or.inl (own_w hw 97 rfl)) Via.refl F_items E_a1 (Or.inr ⟨(own_w hw 98 rfl), rfl, rfl⟩) (own_w hw 76 rfl) (ty := (.object "java/util/List")) (by decide) rfl rfl d15_6 (Or.inl (List.mem_of_getElem? (i := 0) rfl)) (fun T2 h2 S2 W2 => ?_)
  have Fw2 := F_items.same W2
  show own_F p e below s Z _ _ _ _ _ (T2.setTop (mkF m 9 #[.val (.ref a1), .val (.ref l2), .val (.ref ft3), .val .null, .val v4] []))
  refine own_F.of (fun _ => XS.aloadN S2.here S2.hx rfl (S2.dec d15_9) rfl rfl) ?_
  show own_F p e below s Z _ _ _ _ _ (T2.setTop (mkF m 10 #[.val (.ref a1), .val (.ref l2), .val (.ref ft3), .val .null, .val v4] [(.ref a1)]))
  refine own_F.of (fun _ => XS.aloadN S2.here S2.hx rfl (S2.dec d15_10) rfl rfl) ?_
  show own_F p e below s Z _ _ _ _ _ (T2.setTop (mkF m 11 #[.val (.ref a1), .val (.ref l2), .val (.ref ft3), .val .null, .val v4] [(.ref ft3), (.ref a1)]))
  have fq3 := (F_footer.other W2 (Or.inr (slot_ne (C := "com/example/tidemark/tidemark/PagedList") (Or.inr (own_w hw 100 rfl)) (Or.inr (own_w hw 98 rfl)) (by decide) (t := (.object "com/example/tidemark/tidemark/PagedList$Footer")) (t' := (.object "java/util/List")) (by decide) (by decide))))
  have fq4 := (E_a1.wr W2)
  refine own_putF S2 (host := "") (Or.inl (own_w hw 99 rfl)) Via.refl fq3 fq4 (Or.inr ⟨(own_w hw 100 rfl), rfl, rfl⟩) (own_w hw 76 rfl) (ty := (.object "com/example/tidemark/tidemark/PagedList$Footer")) (by decide) rfl rfl d15_11 (Or.inl (List.mem_of_getElem? (i := 0) rfl)) (fun T5 h5 S5 W5 => ?_)
  have Fw5 := fq3.same W5
  show own_F p e below s Z _ _ _ _ _ (T5.setTop (mkF m 14 #[.val (.ref a1), .val (.ref l2), .val (.ref ft3), .val .null, .val v4] []))
  refine own_F.of (fun _ => XS.aloadN S5.here S5.hx rfl (S5.dec d15_14) rfl rfl) ?_
  show own_F p e below s Z _ _ _ _ _ (T5.setTop (mkF m 15 #[.val (.ref a1), .val (.ref l2), .val (.ref ft3), .val .null, .val v4] [(.ref a1)]))
  refine own_F.of (fun _ => XS.aloadN S5.here S5.hx rfl (S5.dec d15_15) rfl rfl) ?_
  show own_F p e below s Z _ _ _ _ _ (T5.setTop (mkF m 16 #[.val (.ref a1), .val (.ref l2), .val (.ref ft3), .val .null, .val v4] [.null, (.ref a1)]))
  have fq6 := ((F_footerError.other W2 (Or.inr (slot_ne (C := "com/example/tidemark/tidemark/PagedList") (Or.inr (own_w hw 102 rfl)) (Or.inr (own_w hw 98 rfl)) (by decide) (t := (.object "java/lang/Throwable")) (t' := (.object "java/util/List")) (by decide) (by decide)))).other W5 (Or.inr (slot_ne (C := "com/example/tidemark/tidemark/PagedList") (Or.inr (own_w hw 102 rfl)) (Or.inr (own_w hw 100 rfl)) (by decide) (t := (.object "java/lang/Throwable")) (t' := (.object "com/example/tidemark/tidemark/PagedList$Footer")) (by decide) (by decide))))
  have fq7 := (fq4.wr W5)
  refine own_putF S5 (host := "") (Or.inl (own_w hw 101 rfl)) Via.refl fq6 fq7 (Or.inr ⟨(own_w hw 102 rfl), rfl, rfl⟩) (own_w hw 76 rfl) (ty := (.object "java/lang/Throwable")) (by decide) rfl rfl d15_16 (Or.inl (List.mem_of_getElem? (i := 0) rfl)) (fun T8 h8 S8 W8 => ?_)
  have Fw8 := fq6.same W8
  show own_F p e below s Z _ _ _ _ _ (T8.setTop (mkF m 19 #[.val (.ref a1), .val (.ref l2), .val (.ref ft3), .val .null, .val v4] []))
  refine own_F.of (fun _ => XS.aloadN S8.here S8.hx rfl (S8.dec d15_19) rfl rfl) ?_
  show own_F p e below s Z _ _ _ _ _ (T8.setTop (mkF m 20 #[.val (.ref a1), .val (.ref l2), .val (.ref ft3), .val .null, .val v4] [(.ref a1)]))
  refine own_F.of (fun _ => XS.aload S8.here S8.hx rfl (S8.dec d15_20) rfl hv) ?_
  show own_F p e below s Z _ _ _ _ _ (T8.setTop (mkF m 22 #[.val (.ref a1), .val (.ref l2), .val (.ref ft3), .val .null, .val v4] [v4, (.ref a1)]))
  have fq9 := (((F_nextKey.other W2 (Or.inr (slot_ne (C := "com/example/tidemark/tidemark/PagedList") (Or.inr (own_w hw 104 rfl)) (Or.inr (own_w hw 98 rfl)) (by decide) (t := (.object "java/lang/Object")) (t' := (.object "java/util/List")) (by decide) (by decide)))).other W5 (Or.inr (slot_ne (C := "com/example/tidemark/tidemark/PagedList") (Or.inr (own_w hw 104 rfl)) (Or.inr (own_w hw 100 rfl)) (by decide) (t := (.object "java/lang/Object")) (t' := (.object "com/example/tidemark/tidemark/PagedList$Footer")) (by decide) (by decide)))).other W8 (Or.inr (slot_ne (C := "com/example/tidemark/tidemark/PagedList") (Or.inr (own_w hw 104 rfl)) (Or.inr (own_w hw 102 rfl)) (by decide) (t := (.object "java/lang/Object")) (t' := (.object "java/lang/Throwable")) (by decide) (by decide))))
  have fq10 := (fq7.wr W8)
  refine own_putF S8 (host := "") (Or.inl (own_w hw 103 rfl)) Via.refl fq9 fq10 (Or.inr ⟨(own_w hw 104 rfl), rfl, rfl⟩) (own_w hw 76 rfl) (ty := (.object "java/lang/Object")) (by decide) (own_narR (by decide) hv) (own_fitR (by decide) hv) d15_22 (Or.inl (List.mem_of_getElem? (i := 0) rfl)) (fun T11 h11 S11 W11 => ?_)
  have Fw11 := fq9.same W11
  show own_F p e below s Z _ _ _ _ _ (T11.setTop (mkF m 25 #[.val (.ref a1), .val (.ref l2), .val (.ref ft3), .val .null, .val v4] []))
  have fq12 := (((Fw2.other W5 (Or.inr (slot_ne (C := "com/example/tidemark/tidemark/PagedList") (Or.inr (own_w hw 98 rfl)) (Or.inr (own_w hw 100 rfl)) (by decide) (t := (.object "java/util/List")) (t' := (.object "com/example/tidemark/tidemark/PagedList$Footer")) (by decide) (by decide)))).other W8 (Or.inr (slot_ne (C := "com/example/tidemark/tidemark/PagedList") (Or.inr (own_w hw 98 rfl)) (Or.inr (own_w hw 102 rfl)) (by decide) (t := (.object "java/util/List")) (t' := (.object "java/lang/Throwable")) (by decide) (by decide)))).other W11 (Or.inr (slot_ne (C := "com/example/tidemark/tidemark/PagedList") (Or.inr (own_w hw 98 rfl)) (Or.inr (own_w hw 104 rfl)) (by decide) (t := (.object "java/util/List")) (t' := (.object "java/lang/Object")) (by decide) (by decide))))
  have fq13 := ((Fw5.other W8 (Or.inr (slot_ne (C := "com/example/tidemark/tidemark/PagedList") (Or.inr (own_w hw 100 rfl)) (Or.inr (own_w hw 102 rfl)) (by decide) (t := (.object "com/example/tidemark/tidemark/PagedList$Footer")) (t' := (.object "java/lang/Throwable")) (by decide) (by decide)))).other W11 (Or.inr (slot_ne (C := "com/example/tidemark/tidemark/PagedList") (Or.inr (own_w hw 100 rfl)) (Or.inr (own_w hw 104 rfl)) (by decide) (t := (.object "com/example/tidemark/tidemark/PagedList$Footer")) (t' := (.object "java/lang/Object")) (by decide) (by decide))))
  refine own_retV S11 d15_25 (by decide) (by decide) ?_
  exact ⟨rfl, fq12, fq13, Fw11⟩
theorem d11_0 : decode prog_23_method_2_code 0 = .ok (.new 8, 3) := by decide +kernel
theorem d11_3 : decode prog_23_method_2_code 3 = .ok (.dup, 1) := by decide +kernel
theorem d11_4 : decode prog_23_method_2_code 4 = .ok (.aload_n 0, 1) := by decide +kernel
theorem d11_5 : decode prog_23_method_2_code 5 = .ok (.invokevirtual 25, 3) := by decide +kernel
theorem d11_8 : decode prog_23_method_2_code 8 = .ok (.aload_n 0, 1) := by decide +kernel
theorem d11_9 : decode prog_23_method_2_code 9 = .ok (.invokevirtual 30, 3) := by decide +kernel
theorem d11_12 : decode prog_23_method_2_code 12 = .ok (.invokestatic 33, 3) := by decide +kernel
theorem d11_15 : decode prog_23_method_2_code 15 = .ok (.aconst_null, 1) := by decide +kernel
theorem d11_16 : decode prog_23_method_2_code 16 = .ok (.aload_n 0, 1) := by decide +kernel
theorem d11_17 : decode prog_23_method_2_code 17 = .ok (.invokevirtual 30, 3) := by decide +kernel
theorem d11_20 : decode prog_23_method_2_code 20 = .ok (.invokespecial 37, 3) := by decide +kernel
theorem d11_23 : decode prog_23_method_2_code 23 = .ok (.areturn, 1) := by decide +kernel
theorem pn11 : plainFor (⟨"com/example/tidemark/tidemark/PagedList", "first", "(Lcom/example/tidemark/tidemark/Page;)Lcom/example/tidemark/tidemark/PagedList;"⟩ : MethodName) = true := plainFor_of_name (by first | (simp [plainName, overriddenIn]; done) | decide +kernel)
set_option maxRecDepth 65536 in
set_option maxHeartbeats 40000000 in
theorem own_firstN (l : Launch) (Z : State) (a0 : Array Value) (hw : ∀ d ∈ tables_1, d.before a0 Z = true) (a1 l2 : Addr) (a_END : Addr) (a_IDLE : Addr) (a_FAILED : Addr) (h0 : Heap) (hO : Ext Z.heap h0) (S_END : Sta Z Z.heap "com/example/tidemark/tidemark/PagedList$Footer" "END" "Lcom/example/tidemark/tidemark/PagedList$Footer;" (.ref a_END)) (S_IDLE : Sta Z Z.heap "com/example/tidemark/tidemark/PagedList$Footer" "IDLE" "Lcom/example/tidemark/tidemark/PagedList$Footer;" (.ref a_IDLE)) (S_FAILED : Sta Z Z.heap "com/example/tidemark/tidemark/PagedList$Footer" "FAILED" "Lcom/example/tidemark/tidemark/PagedList$Footer;" (.ref a_FAILED)) (E_a1 : Exa Z h0 a1 "com/example/tidemark/tidemark/Page") (F_items : Fld Z h0 a1 "com/example/tidemark/tidemark/Page" "items" "Ljava/util/List;" (.ref l2)) (F_nextKey : Fld Z h0 a1 "com/example/tidemark/tidemark/Page" "nextKey" "Ljava/lang/Object;" .null) :
    own_C l Z (⟨"com/example/tidemark/tidemark/PagedList", "first", "(Lcom/example/tidemark/tidemark/Page;)Lcom/example/tidemark/tidemark/PagedList;"⟩ : MethodName) prog_23_method_2_code 1 (some (.object "com/example/tidemark/tidemark/PagedList")) [] ({ frames := 2, cells := 1, slots := 4, locals := 29 } : Room) [] #[(.ref a1)] h0 (fun v h => ∃ r, v = some (.ref r) ∧ Exa Z h r "com/example/tidemark/tidemark/PagedList" ∧ Fld Z h r "com/example/tidemark/tidemark/PagedList" "items" "Ljava/util/List;" (.ref l2) ∧ Fld Z h r "com/example/tidemark/tidemark/PagedList" "footer" "Lcom/example/tidemark/tidemark/PagedList$Footer;" (.ref a_END) ∧ Fld Z h r "com/example/tidemark/tidemark/PagedList" "nextKey" "Ljava/lang/Object;" .null) := by
  refine own_C.of pn11 hO all0 ?_
  intro p e s m below meth c T0 S0
  refine own_F.cast (by first | (simp [entryFrame, mkF, argsToLocals, Value.category]; done) | rfl : entryFrame m #[(.ref a1)] 1 = mkF m 0 #[.val (.ref a1)] []) ?_
  show own_F p e below s Z _ _ _ _ _ (T0.setTop (mkF m 0 #[.val (.ref a1)] []))
  refine own_new S0 (own_w hw 75 rfl) (own_w hw 76 rfl) (own_w hw 73 rfl) d11_0 (by decide) (by decide) (fun T1 h1 b1 g1 S1 E1 A1 D1 => ?_)
  have F1_items : Fld Z h1 b1 "com/example/tidemark/tidemark/PagedList" "items" "Ljava/util/List;" .null := (D1 (Or.inr (own_w hw 98 rfl)) (ty := (.object "java/util/List")) (by decide))
  have F1_footer : Fld Z h1 b1 "com/example/tidemark/tidemark/PagedList" "footer" "Lcom/example/tidemark/tidemark/PagedList$Footer;" .null := (D1 (Or.inr (own_w hw 100 rfl)) (ty := (.object "com/example/tidemark/tidemark/PagedList$Footer")) (by decide))
  have F1_footerError : Fld Z h1 b1 "com/example/tidemark/tidemark/PagedList" "footerError" "Ljava/lang/Throwable;" .null := (D1 (Or.inr (own_w hw 102 rfl)) (ty := (.object "java/lang/Throwable")) (by decide))
  have F1_nextKey : Fld Z h1 b1 "com/example/tidemark/tidemark/PagedList" "nextKey" "Ljava/lang/Object;" .null := (D1 (Or.inr (own_w hw 104 rfl)) (ty := (.object "java/lang/Object")) (by decide))
  show own_F p e below s Z _ _ _ _ _ (T1.setTop (mkF m 3 #[.val (.ref a1)] [(.ref b1)]))
  refine own_F.of (fun _ => XS.dup S1.here S1.hx rfl (S1.dec d11_3) rfl rfl) ?_
  show own_F p e below s Z _ _ _ _ _ (T1.setTop (mkF m 4 #[.val (.ref a1)] [(.ref b1), (.ref b1)]))
  refine own_F.of (fun _ => XS.aloadN S1.here S1.hx rfl (S1.dec d11_4) rfl rfl) ?_
  show own_F p e below s Z _ _ _ _ _ (T1.setTop (mkF m 5 #[.val (.ref a1)] [(.ref a1), (.ref b1), (.ref b1)]))
  have fq2 := (F_items.ext E1)
  have fq4 := (E_a1.ext E1)
  refine own_callV S1 (y := (⟨"com/example/tidemark/tidemark/Page", "items", "()Ljava/util/List;"⟩ : MethodName)) (y' := (⟨"com/example/tidemark/tidemark/Page", "items", "()Ljava/util/List;"⟩ : MethodName)) (own_w hw 77 rfl) (own_w hw 78 rfl) (own_nf S1 (own_w hw 80 rfl)) (own_w hw 80 rfl) (own_w hw 79 rfl) (own_w hw 81 rfl) (own_w hw 28 rfl) (by decide) fq4 (argsL := []) (rest := [(.ref b1), (.ref b1)]) (own_pgI l Z a0 hw a1 (.ref l2) h1 S1.old rfl fq2) all0 (by decide +kernel : parseMethodDescriptor "()Ljava/util/List;" = some ⟨[], some (.object "java/util/List")⟩) rfl rfl rfl d11_5 (by decide) (Nat.le_of_ble_eq_true rfl) (by decide) (by decide) (fun T3 h3 v3 S3 K3 q3 => ?_)
  obtain ⟨rfl, rfl⟩ := q3
  show own_F p e below s Z _ _ _ _ _ (T3.setTop (mkF m 8 #[.val (.ref a1)] [(.ref l2), (.ref b1), (.ref b1)]))
  refine own_F.of (fun _ => XS.aloadN S3.here S3.hx rfl (S3.dec d11_8) rfl rfl) ?_
  show own_F p e below s Z _ _ _ _ _ (T3.setTop (mkF m 9 #[.val (.ref a1)] [(.ref a1), (.ref l2), (.ref b1), (.ref b1)]))
  have fq5 := (F_nextKey.ext E1)
  refine own_callV S3 (y := (⟨"com/example/tidemark/tidemark/Page", "nextKey", "()Ljava/lang/Object;"⟩ : MethodName)) (y' := (⟨"com/example/tidemark/tidemark/Page", "nextKey", "()Ljava/lang/Object;"⟩ : MethodName)) (own_w hw 82 rfl) (own_w hw 83 rfl) (own_nf S3 (own_w hw 85 rfl)) (own_w hw 85 rfl) (own_w hw 84 rfl) (own_w hw 86 rfl) (own_w hw 28 rfl) (by decide) fq4 (argsL := []) (rest := [(.ref l2), (.ref b1), (.ref b1)]) (own_pgK l Z a0 hw a1 .null h1 S3.old rfl fq5) all0 (by decide +kernel : parseMethodDescriptor "()Ljava/lang/Object;" = some ⟨[], some (.object "java/lang/Object")⟩) rfl rfl rfl d11_9 (by decide) (Nat.le_of_ble_eq_true rfl) (by decide) (by decide) (fun T6 h6 v6 S6 K6 q6 => ?_)
  obtain ⟨rfl, rfl⟩ := q6
  show own_F p e below s Z _ _ _ _ _ (T6.setTop (mkF m 12 #[.val (.ref a1)] [.null, (.ref l2), (.ref b1), (.ref b1)]))
  refine own_callS S6 (y := (⟨"com/example/tidemark/tidemark/PagedList", "restingFooter", "(Ljava/lang/Object;)Lcom/example/tidemark/tidemark/PagedList$Footer;"⟩ : MethodName)) (own_w hw 87 rfl) (own_w hw 88 rfl) (own_w hw 73 rfl) (own_w hw 89 rfl) (by decide) (argsL := [.null]) (rest := [(.ref l2), (.ref b1), (.ref b1)]) (own_restN l Z a0 hw a_END a_IDLE a_FAILED h1 S6.old S_END S_IDLE S_FAILED) all0 (by decide +kernel : parseMethodDescriptor "(Ljava/lang/Object;)Lcom/example/tidemark/tidemark/PagedList$Footer;" = some ⟨[(.object "java/lang/Object")], some (.object "com/example/tidemark/tidemark/PagedList$Footer")⟩) rfl rfl rfl d11_12 (by decide) (Nat.le_of_ble_eq_true rfl) (by decide) (by decide) (fun T7 h7 v7 S7 K7 q7 => ?_)
  obtain ⟨rfl, rfl⟩ := q7
  show own_F p e below s Z _ _ _ _ _ (T7.setTop (mkF m 15 #[.val (.ref a1)] [(.ref a_END), (.ref l2), (.ref b1), (.ref b1)]))
  refine own_F.of (fun _ => XS.aconstNull S7.here S7.hx rfl (S7.dec d11_15)) ?_
  show own_F p e below s Z _ _ _ _ _ (T7.setTop (mkF m 16 #[.val (.ref a1)] [.null, (.ref a_END), (.ref l2), (.ref b1), (.ref b1)]))
  refine own_F.of (fun _ => XS.aloadN S7.here S7.hx rfl (S7.dec d11_16) rfl rfl) ?_
  show own_F p e below s Z _ _ _ _ _ (T7.setTop (mkF m 17 #[.val (.ref a1)] [(.ref a1), .null, (.ref a_END), (.ref l2), (.ref b1), (.ref b1)]))
  refine own_callV S7 (y := (⟨"com/example/tidemark/tidemark/Page", "nextKey", "()Ljava/lang/Object;"⟩ : MethodName)) (y' := (⟨"com/example/tidemark/tidemark/Page", "nextKey", "()Ljava/lang/Object;"⟩ : MethodName)) (own_w hw 82 rfl) (own_w hw 83 rfl) (own_nf S7 (own_w hw 85 rfl)) (own_w hw 85 rfl) (own_w hw 84 rfl) (own_w hw 86 rfl) (own_w hw 28 rfl) (by decide) fq4 (argsL := []) (rest := [.null, (.ref a_END), (.ref l2), (.ref b1), (.ref b1)]) (own_pgK l Z a0 hw a1 .null h1 S7.old rfl fq5) all0 (by decide +kernel : parseMethodDescriptor "()Ljava/lang/Object;" = some ⟨[], some (.object "java/lang/Object")⟩) rfl rfl rfl d11_17 (by decide) (Nat.le_of_ble_eq_true rfl) (by decide) (by decide) (fun T8 h8 v8 S8 K8 q8 => ?_)
  obtain ⟨rfl, rfl⟩ := q8
  show own_F p e below s Z _ _ _ _ _ (T8.setTop (mkF m 20 #[.val (.ref a1)] [.null, .null, (.ref a_END), (.ref l2), (.ref b1), (.ref b1)]))
  refine own_callI S8 (y := (⟨"com/example/tidemark/tidemark/PagedList", "<init>", "(Ljava/util/List;Lcom/example/tidemark/tidemark/PagedList$Footer;Ljava/lang/Throwable;Ljava/lang/Object;)V"⟩ : MethodName)) rfl (own_w hw 93 rfl) (own_w hw 94 rfl) (own_w hw 73 rfl) (own_w hw 95 rfl) (by decide) (argsL := [(.ref l2), (.ref a_END), .null, .null]) (rest := [(.ref b1)]) (own_PLI l Z a0 hw b1 l2 a_END .null h1 S8.old rfl (own_mayN S8 (Or.inr (by rw [g1]; exact S0.size))) A1 F1_items F1_footer F1_footerError F1_nextKey) (allS (Or.inr (by rw [g1]; exact S0.size)) all0) (by decide +kernel : parseMethodDescriptor "(Ljava/util/List;Lcom/example/tidemark/tidemark/PagedList$Footer;Ljava/lang/Throwable;Ljava/lang/Object;)V" = some ⟨[(.object "java/util/List"), (.object "com/example/tidemark/tidemark/PagedList$Footer"), (.object "java/lang/Throwable"), (.object "java/lang/Object")], none⟩) rfl rfl rfl d11_20 (by decide) (Nat.le_of_ble_eq_true rfl) (by decide) (by decide) (fun T9 h9 v9 S9 K9 q9 => ?_)
  obtain ⟨rfl, Fi9, Ff9, Fk9⟩ := q9
  show own_F p e below s Z _ _ _ _ _ (T9.setTop (mkF m 23 #[.val (.ref a1)] [(.ref b1)]))
  have fq10 := (A1.keep K9)
  refine own_retA S9 rfl rfl d11_23 (by decide) (by decide) ?_
  exact ⟨_, rfl, fq10, Fi9, Ff9, Fk9⟩
set_option maxRecDepth 65536 in
set_option maxHeartbeats 40000000 in
theorem own_firstR (l : Launch) (Z : State) (a0 : Array Value) (hw : ∀ d ∈ tables_1, d.before a0 Z = true) (a1 l2 : Addr) (ek : Addr) (a_END : Addr) (a_IDLE : Addr) (a_FAILED : Addr) (h0 : Heap) (hO : Ext Z.heap h0) (S_END : Sta Z Z.heap "com/example/tidemark/tidemark/PagedList$Footer" "END" "Lcom/example/tidemark/tidemark/PagedList$Footer;" (.ref a_END)) (S_IDLE : Sta Z Z.heap "com/example/tidemark/tidemark/PagedList$Footer" "IDLE" "Lcom/example/tidemark/tidemark/PagedList$Footer;" (.ref a_IDLE)) (S_FAILED : Sta Z Z.heap "com/example/tidemark/tidemark/PagedList$Footer" "FAILED" "Lcom/example/tidemark/tidemark/PagedList$Footer;" (.ref a_FAILED)) (E_a1 : Exa Z h0 a1 "com/example/tidemark/tidemark/Page") (F_items : Fld Z h0 a1 "com/example/tidemark/tidemark/Page" "items" "Ljava/util/List;" (.ref l2)) (F_nextKey : Fld Z h0 a1 "com/example/tidemark/tidemark/Page" "nextKey" "Ljava/lang/Object;" (.ref ek)) :
    own_C l Z (⟨"com/example/tidemark/tidemark/PagedList", "first", "(Lcom/example/tidemark/tidemark/Page;)Lcom/example/tidemark/tidemark/PagedList;"⟩ : MethodName) prog_23_method_2_code 1 (some (.object "com/example/tidemark/tidemark/PagedList")) [] ({ frames := 2, cells := 1, slots := 4, locals := 29 } : Room) [] #[(.ref a1)] h0 (fun v h => ∃ r, v = some (.ref r) ∧ Exa Z h r "com/example/tidemark/tidemark/PagedList" ∧ Fld Z h r "com/example/tidemark/tidemark/PagedList" "items" "Ljava/util/List;" (.ref l2) ∧ Fld Z h r "com/example/tidemark/tidemark/PagedList" "footer" "Lcom/example/tidemark/tidemark/PagedList$Footer;" (.ref a_IDLE) ∧ Fld Z h r "com/example/tidemark/tidemark/PagedList" "nextKey" "Ljava/lang/Object;" (.ref ek)) := by
  refine own_C.of pn11 hO all0 ?_
  intro p e s m below meth c T0 S0
  refine own_F.cast (by first | (simp [entryFrame, mkF, argsToLocals, Value.category]; done) | rfl : entryFrame m #[(.ref a1)] 1 = mkF m 0 #[.val (.ref a1)] []) ?_
  show own_F p e below s Z _ _ _ _ _ (T0.setTop (mkF m 0 #[.val (.ref a1)] []))
  refine own_new S0 (own_w hw 75 rfl) (own_w hw 76 rfl) (own_w hw 73 rfl) d11_0 (by decide) (by decide) (fun T1 h1 b1 g1 S1 E1 A1 D1 => ?_)
  have F1_items : Fld Z h1 b1 "com/example/tidemark/tidemark/PagedList" "items" "Ljava/util/List;" .null := (D1 (Or.inr (own_w hw 98 rfl)) (ty := (.object "java/util/List")) (by decide))
  have F1_footer : Fld Z h1 b1 "com/example/tidemark/tidemark/PagedList" "footer" "Lcom/example/tidemark/tidemark/PagedList$Footer;" .null := (D1 (Or.inr (own_w hw 100 rfl)) (ty := (.object "com/example/tidemark/tidemark/PagedList$Footer")) (by decide))
  have F1_footerError : Fld Z h1 b1 "com/example/tidemark/tidemark/PagedList" "footerError" "Ljava/lang/Throwable;" .null := (D1 (Or.inr (own_w hw 102 rfl)) (ty := (.object "java/lang/Throwable")) (by decide))
  have F1_nextKey : Fld Z h1 b1 "com/example/tidemark/tidemark/PagedList" "nextKey" "Ljava/lang/Object;" .null := (D1 (Or.inr (own_w hw 104 rfl)) (ty := (.object "java/lang/Object")) (by decide))
  show own_F p e below s Z _ _ _ _ _ (T1.setTop (mkF m 3 #[.val (.ref a1)] [(.ref b1)]))
  refine own_F.of (fun _ => XS.dup S1.here S1.hx rfl (S1.dec d11_3) rfl rfl) ?_
  show own_F p e below s Z _ _ _ _ _ (T1.setTop (mkF m 4 #[.val (.ref a1)] [(.ref b1), (.ref b1)]))
  refine own_F.of (fun _ => XS.aloadN S1.here S1.hx rfl (S1.dec d11_4) rfl rfl) ?_
  show own_F p e below s Z _ _ _ _ _ (T1.setTop (mkF m 5 #[.val (.ref a1)] [(.ref a1), (.ref b1), (.ref b1)]))
  have fq2 := (F_items.ext E1)
  have fq4 := (E_a1.ext E1)
  refine own_callV S1 (y := (⟨"com/example/tidemark/tidemark/Page", "items", "()Ljava/util/List;"⟩ : MethodName)) (y' := (⟨"com/example/tidemark/tidemark/Page", "items", "()Ljava/util/List;"⟩ : MethodName)) (own_w hw 77 rfl) (own_w hw 78 rfl) (own_nf S1 (own_w hw 80 rfl)) (own_w hw 80 rfl) (own_w hw 79 rfl) (own_w hw 81 rfl) (own_w hw 28 rfl) (by decide) fq4 (argsL := []) (rest := [(.ref b1), (.ref b1)]) (own_pgI l Z a0 hw a1 (.ref l2) h1 S1.old rfl fq2) all0 (by decide +kernel : parseMethodDescriptor "()Ljava/util/List;" = some ⟨[], some (.object "java/util/List")⟩) rfl rfl rfl d11_5 (by decide) (Nat.le_of_ble_eq_true rfl) (by decide) (by decide) (fun T3 h3 v3 S3 K3 q3 => ?_)
  obtain ⟨rfl, rfl⟩ := q3
  show own_F p e below s Z _ _ _ _ _ (T3.setTop (mkF m 8 #[.val (.ref a1)] [(.ref l2), (.ref b1), (.ref b1)]))
  refine own_F.of (fun _ => XS.aloadN S3.here S3.hx rfl (S3.dec d11_8) rfl rfl) ?_
  show own_F p e below s Z _ _ _ _ _ (T3.setTop (mkF m 9 #[.val (.ref a1)] [(.ref a1), (.ref l2), (.ref b1), (.ref b1)]))
  have fq5 := (F_nextKey.ext E1)
  refine own_callV S3 (y := (⟨"com/example/tidemark/tidemark/Page", "nextKey", "()Ljava/lang/Object;"⟩ : MethodName)) (y' := (⟨"com/example/tidemark/tidemark/Page", "nextKey", "()Ljava/lang/Object;"⟩ : MethodName)) (own_w hw 82 rfl) (own_w hw 83 rfl) (own_nf S3 (own_w hw 85 rfl)) (own_w hw 85 rfl) (own_w hw 84 rfl) (own_w hw 86 rfl) (own_w hw 28 rfl) (by decide) fq4 (argsL := []) (rest := [(.ref l2), (.ref b1), (.ref b1)]) (own_pgK l Z a0 hw a1 (.ref ek) h1 S3.old rfl fq5) all0 (by decide +kernel : parseMethodDescriptor "()Ljava/lang/Object;" = some ⟨[], some (.object "java/lang/Object")⟩) rfl rfl rfl d11_9 (by decide) (Nat.le_of_ble_eq_true rfl) (by decide) (by decide) (fun T6 h6 v6 S6 K6 q6 => ?_)
  obtain ⟨rfl, rfl⟩ := q6
  show own_F p e below s Z _ _ _ _ _ (T6.setTop (mkF m 12 #[.val (.ref a1)] [(.ref ek), (.ref l2), (.ref b1), (.ref b1)]))
  refine own_callS S6 (y := (⟨"com/example/tidemark/tidemark/PagedList", "restingFooter", "(Ljava/lang/Object;)Lcom/example/tidemark/tidemark/PagedList$Footer;"⟩ : MethodName)) (own_w hw 87 rfl) (own_w hw 88 rfl) (own_w hw 73 rfl) (own_w hw 89 rfl) (by decide) (argsL := [(.ref ek)]) (rest := [(.ref l2), (.ref b1), (.ref b1)]) (own_restR l Z a0 hw ek a_END a_IDLE a_FAILED h1 S6.old S_END S_IDLE S_FAILED) all0 (by decide +kernel : parseMethodDescriptor "(Ljava/lang/Object;)Lcom/example/tidemark/tidemark/PagedList$Footer;" = some ⟨[(.object "java/lang/Object")], some (.object "com/example/tidemark/tidemark/PagedList$Footer")⟩) rfl rfl rfl d11_12 (by decide) (Nat.le_of_ble_eq_true rfl) (by decide) (by decide) (fun T7 h7 v7 S7 K7 q7 => ?_)
  obtain ⟨rfl, rfl⟩ := q7
  show own_F p e below s Z _ _ _ _ _ (T7.setTop (mkF m 15 #[.val (.ref a1)] [(.ref a_IDLE), (.ref l2), (.ref b1), (.ref b1)]))
  refine own_F.of (fun _ => XS.aconstNull S7.here S7.hx rfl (S7.dec d11_15)) ?_
  show own_F p e below s Z _ _ _ _ _ (T7.setTop (mkF m 16 #[.val (.ref a1)] [.null, (.ref a_IDLE), (.ref l2), (.ref b1), (.ref b1)]))
  refine own_F.of (fun _ => XS.aloadN S7.here S7.hx rfl (S7.dec d11_16) rfl rfl) ?_
  show own_F p e below s Z _ _ _ _ _ (T7.setTop (mkF m 17 #[.val (.ref a1)] [(.ref a1), .null, (.ref a_IDLE), (.ref l2), (.ref b1), (.ref b1)]))
  refine own_callV S7 (y := (⟨"com/example/tidemark/tidemark/Page", "nextKey", "()Ljava/lang/Object;"⟩ : MethodName)) (y' := (⟨"com/example/tidemark/tidemark/Page", "nextKey", "()Ljava/lang/Object;"⟩ : MethodName)) (own_w hw 82 rfl) (own_w hw 83 rfl) (own_nf S7 (own_w hw 85 rfl)) (own_w hw 85 rfl) (own_w hw 84 rfl) (own_w hw 86 rfl) (own_w hw 28 rfl) (by decide) fq4 (argsL := []) (rest := [.null, (.ref a_IDLE), (.ref l2), (.ref b1), (.ref b1)]) (own_pgK l Z a0 hw a1 (.ref ek) h1 S7.old rfl fq5) all0 (by decide +kernel : parseMethodDescriptor "()Ljava/lang/Object;" = some ⟨[], some (.object "java/lang/Object")⟩) rfl rfl rfl d11_17 (by decide) (Nat.le_of_ble_eq_true rfl) (by decide) (by decide) (fun T8 h8 v8 S8 K8 q8 => ?_)
  obtain ⟨rfl, rfl⟩ := q8
  show own_F p e below s Z _ _ _ _ _ (T8.setTop (mkF m 20 #[.val (.ref a1)] [(.ref ek), .null, (.ref a_IDLE), (.ref l2), (.ref b1), (.ref b1)]))
  refine own_callI S8 (y := (⟨"com/example/tidemark/tidemark/PagedList", "<init>", "(Ljava/util/List;Lcom/example/tidemark/tidemark/PagedList$Footer;Ljava/lang/Throwable;Ljava/lang/Object;)V"⟩ : MethodName)) rfl (own_w hw 93 rfl) (own_w hw 94 rfl) (own_w hw 73 rfl) (own_w hw 95 rfl) (by decide) (argsL := [(.ref l2), (.ref a_IDLE), .null, (.ref ek)]) (rest := [(.ref b1)]) (own_PLI l Z a0 hw b1 l2 a_IDLE (.ref ek) h1 S8.old rfl (own_mayN S8 (Or.inr (by rw [g1]; exact S0.size))) A1 F1_items F1_footer F1_footerError F1_nextKey) (allS (Or.inr (by rw [g1]; exact S0.size)) all0) (by decide +kernel : parseMethodDescriptor "(Ljava/util/List;Lcom/example/tidemark/tidemark/PagedList$Footer;Ljava/lang/Throwable;Ljava/lang/Object;)V" = some ⟨[(.object "java/util/List"), (.object "com/example/tidemark/tidemark/PagedList$Footer"), (.object "java/lang/Throwable"), (.object "java/lang/Object")], none⟩) rfl rfl rfl d11_20 (by decide) (Nat.le_of_ble_eq_true rfl) (by decide) (by decide) (fun T9 h9 v9 S9 K9 q9 => ?_)
  obtain ⟨rfl, Fi9, Ff9, Fk9⟩ := q9
  show own_F p e below s Z _ _ _ _ _ (T9.setTop (mkF m 23 #[.val (.ref a1)] [(.ref b1)]))
  have fq10 := (A1.keep K9)
  refine own_retA S9 rfl rfl d11_23 (by decide) (by decide) ?_
  exact ⟨_, rfl, fq10, Fi9, Ff9, Fk9⟩
theorem d19_0 : decode prog_23_method_6_code 0 = .ok (.aload_n 0, 1) := by decide +kernel
theorem d19_1 : decode prog_23_method_6_code 1 = .ok (.getfield 13, 3) := by decide +kernel
theorem d19_4 : decode prog_23_method_6_code 4 = .ok (.getstatic 46, 3) := by decide +kernel
theorem d19_7 : decode prog_23_method_6_code 7 = .ok (.if_acmp .eq 13, 3) := by decide +kernel
theorem d19_10 : decode prog_23_method_6_code 10 = .ok (.aload_n 0, 1) := by decide +kernel
theorem d19_11 : decode prog_23_method_6_code 11 = .ok (.getfield 13, 3) := by decide +kernel
theorem d19_14 : decode prog_23_method_6_code 14 = .ok (.getstatic 51, 3) := by decide +kernel
theorem d19_17 : decode prog_23_method_6_code 17 = .ok (.if_acmp .ne 7, 3) := by decide +kernel
theorem d19_20 : decode prog_23_method_6_code 20 = .ok (.iconst 1, 1) := by decide +kernel
theorem d19_21 : decode prog_23_method_6_code 21 = .ok (.goto 4, 3) := by decide +kernel
theorem d19_24 : decode prog_23_method_6_code 24 = .ok (.iconst 0, 1) := by decide +kernel
theorem d19_25 : decode prog_23_method_6_code 25 = .ok (.ireturn, 1) := by decide +kernel
theorem pn19 : plainFor (⟨"com/example/tidemark/tidemark/PagedList", "canLoadMore", "()Z"⟩ : MethodName) = true := plainFor_of_name (by first | (simp [plainName, overriddenIn]; done) | decide +kernel)
set_option maxRecDepth 65536 in
set_option maxHeartbeats 40000000 in
theorem own_canN (l : Launch) (Z : State) (a0 : Array Value) (hw : ∀ d ∈ tables_1, d.before a0 Z = true) (a1 : Addr) (a_END : Addr) (a_IDLE : Addr) (a_FAILED : Addr) (h0 : Heap) (hO : Ext Z.heap h0) (S_END : Sta Z Z.heap "com/example/tidemark/tidemark/PagedList$Footer" "END" "Lcom/example/tidemark/tidemark/PagedList$Footer;" (.ref a_END)) (S_IDLE : Sta Z Z.heap "com/example/tidemark/tidemark/PagedList$Footer" "IDLE" "Lcom/example/tidemark/tidemark/PagedList$Footer;" (.ref a_IDLE)) (S_FAILED : Sta Z Z.heap "com/example/tidemark/tidemark/PagedList$Footer" "FAILED" "Lcom/example/tidemark/tidemark/PagedList$Footer;" (.ref a_FAILED)) (n1 : a_END ≠ a_IDLE) (n2 : a_END ≠ a_FAILED) (F_f : Fld Z h0 a1 "com/example/tidemark/tidemark/PagedList" "footer" "Lcom/example/tidemark/tidemark/PagedList$Footer;" (.ref a_END)) :
    own_C l Z (⟨"com/example/tidemark/tidemark/PagedList", "canLoadMore", "()Z"⟩ : MethodName) prog_23_method_6_code 1 (some .boolean) [] ({ frames := 0, cells := 0, slots := 0, locals := 0 } : Room) [] #[(.ref a1)] h0 (fun v h => v = some (.int 0) ∧ h0 = h) := by
  refine own_C.of pn19 hO all0 ?_
  intro p e s m below meth c T0 S0
  refine own_F.cast (by first | (simp [entryFrame, mkF, argsToLocals, Value.category]; done) | rfl : entryFrame m #[(.ref a1)] 1 = mkF m 0 #[.val (.ref a1)] []) ?_
  show own_F p e below s Z _ _ _ _ _ (T0.setTop (mkF m 0 #[.val (.ref a1)] []))
  refine own_F.of (fun _ => XS.aloadN S0.here S0.hx rfl (S0.dec d19_0) rfl rfl) ?_
  show own_F p e below s Z _ _ _ _ _ (T0.setTop (mkF m 1 #[.val (.ref a1)] [(.ref a1)]))
  refine own_getF S0 (host := "") (Or.inl (own_w hw 99 rfl)) Via.refl F_f d19_1 (fun T1 S1 => ?_)
  show own_F p e below s Z _ _ _ _ _ (T1.setTop (mkF m 4 #[.val (.ref a1)] [(.ref a_END)]))
  refine own_getS S1 (host := "") (Or.inl (own_w hw 133 rfl)) Via.refl (S_IDLE.ext S1.old) d19_4 (fun T2 S2 => ?_)
  show own_F p e below s Z _ _ _ _ _ (T2.setTop (mkF m 7 #[.val (.ref a1)] [(.ref a_IDLE), (.ref a_END)]))
  refine own_acmp S2 rfl rfl 20 d19_7 (by decide) (by decide) (fun (hc7_3 : (Value.ref a_END) = (Value.ref a_IDLE)) => False.elim (n1 (Value.ref.inj hc7_3))) (fun (hc7_3 : ¬ ((Value.ref a_END) = (Value.ref a_IDLE))) => ?_)
  show own_F p e below s Z _ _ _ _ _ (T2.setTop (mkF m 10 #[.val (.ref a1)] []))
  refine own_F.of (fun _ => XS.aloadN S2.here S2.hx rfl (S2.dec d19_10) rfl rfl) ?_
  show own_F p e below s Z _ _ _ _ _ (T2.setTop (mkF m 11 #[.val (.ref a1)] [(.ref a1)]))
  refine own_getF S2 (host := "") (Or.inl (own_w hw 99 rfl)) Via.refl F_f d19_11 (fun T4 S4 => ?_)
  show own_F p e below s Z _ _ _ _ _ (T4.setTop (mkF m 14 #[.val (.ref a1)] [(.ref a_END)]))
  refine own_getS S4 (host := "") (Or.inl (own_w hw 135 rfl)) Via.refl (S_FAILED.ext S4.old) d19_14 (fun T5 S5 => ?_)
  show own_F p e below s Z _ _ _ _ _ (T5.setTop (mkF m 17 #[.val (.ref a1)] [(.ref a_FAILED), (.ref a_END)]))
  refine own_acmp S5 rfl rfl 24 d19_17 (by decide) (by decide) (fun (hc17_6 : ¬ ((Value.ref a_END) = (Value.ref a_FAILED))) => ?_) (fun (hc17_6 : (Value.ref a_END) = (Value.ref a_FAILED)) => False.elim (n2 (Value.ref.inj hc17_6)))
  show own_F p e below s Z _ _ _ _ _ (T5.setTop (mkF m 24 #[.val (.ref a1)] []))
  refine own_F.of (fun _ => XS.iconst S5.here S5.hx rfl (S5.dec d19_24)) ?_
  show own_F p e below s Z _ _ _ _ _ (T5.setTop (mkF m 25 #[.val (.ref a1)] [(.int (0 : Int32))]))
  refine own_retZ S5 (by simp) d19_25 (by decide) (by decide) ?_
  exact ⟨rfl, rfl⟩
set_option maxRecDepth 65536 in
set_option maxHeartbeats 40000000 in
theorem own_canR (l : Launch) (Z : State) (a0 : Array Value) (hw : ∀ d ∈ tables_1, d.before a0 Z = true) (a1 : Addr) (a_END : Addr) (a_IDLE : Addr) (a_FAILED : Addr) (h0 : Heap) (hO : Ext Z.heap h0) (S_END : Sta Z Z.heap "com/example/tidemark/tidemark/PagedList$Footer" "END" "Lcom/example/tidemark/tidemark/PagedList$Footer;" (.ref a_END)) (S_IDLE : Sta Z Z.heap "com/example/tidemark/tidemark/PagedList$Footer" "IDLE" "Lcom/example/tidemark/tidemark/PagedList$Footer;" (.ref a_IDLE)) (S_FAILED : Sta Z Z.heap "com/example/tidemark/tidemark/PagedList$Footer" "FAILED" "Lcom/example/tidemark/tidemark/PagedList$Footer;" (.ref a_FAILED)) (F_f : Fld Z h0 a1 "com/example/tidemark/tidemark/PagedList" "footer" "Lcom/example/tidemark/tidemark/PagedList$Footer;" (.ref a_IDLE)) :
    own_C l Z (⟨"com/example/tidemark/tidemark/PagedList", "canLoadMore", "()Z"⟩ : MethodName) prog_23_method_6_code 1 (some .boolean) [] ({ frames := 0, cells := 0, slots := 0, locals := 0 } : Room) [] #[(.ref a1)] h0 (fun v h => v = some (.int 1) ∧ h0 = h) := by
  refine own_C.of pn19 hO all0 ?_
  intro p e s m below meth c T0 S0
  refine own_F.cast (by first | (simp [entryFrame, mkF, argsToLocals, Value.category]; done) | rfl : entryFrame m #[(.ref a1)] 1 = mkF m 0 #[.val (.ref a1)] []) ?_
  show own_F p e below s Z _ _ _ _ _ (T0.setTop (mkF m 0 #[.val (.ref a1)] []))
  refine own_F.of (fun _ => XS.aloadN S0.here S0.hx rfl (S0.dec d19_0) rfl rfl) ?_
  show own_F p e below s Z _ _ _ _ _ (T0.setTop (mkF m 1 #[.val (.ref a1)] [(.ref a1)]))
  refine own_getF S0 (host := "") (Or.inl (own_w hw 99 rfl)) Via.refl F_f d19_1 (fun T1 S1 => ?_)
  show own_F p e below s Z _ _ _ _ _ (T1.setTop (mkF m 4 #[.val (.ref a1)] [(.ref a_IDLE)]))
  refine own_getS S1 (host := "") (Or.inl (own_w hw 133 rfl)) Via.refl (S_IDLE.ext S1.old) d19_4 (fun T2 S2 => ?_)
  show own_F p e below s Z _ _ _ _ _ (T2.setTop (mkF m 7 #[.val (.ref a1)] [(.ref a_IDLE), (.ref a_IDLE)]))
  refine own_acmp S2 rfl rfl 20 d19_7 (by decide) (by decide) (fun (hc7_3 : (Value.ref a_IDLE) = (Value.ref a_IDLE)) => ?_) (fun (hc7_3 : ¬ ((Value.ref a_IDLE) = (Value.ref a_IDLE))) => False.elim (hc7_3 rfl))
  show own_F p e below s Z _ _ _ _ _ (T2.setTop (mkF m 20 #[.val (.ref a1)] []))
  refine own_F.of (fun _ => XS.iconst S2.here S2.hx rfl (S2.dec d19_20)) ?_
  show own_F p e below s Z _ _ _ _ _ (T2.setTop (mkF m 21 #[.val (.ref a1)] [(.int (1 : Int32))]))
  refine own_F.of (fun _ => XS.goto S2.here S2.hx rfl (pc0 := 21) (pc' := 25) rfl (S2.dec d19_21) (by decide) (by decide)) ?_
  show own_F p e below s Z _ _ _ _ _ (T2.setTop (mkF m 25 #[.val (.ref a1)] [(.int (1 : Int32))]))
  refine own_retZ S2 (by simp) d19_25 (by decide) (by decide) ?_
  exact ⟨rfl, rfl⟩
theorem pn0 : plainFor x = true := plainFor_of_name (by first | (simp [plainName, overriddenIn]; done) | decide +kernel)
set_option maxRecDepth 65536 in
set_option maxHeartbeats 40000000 in
theorem own_law (l : Launch) (Z : State) (a0 : Array Value) (hw : ∀ d ∈ tables_1, d.before a0 Z = true) (p0 p1 p2 p3 p4 : Int32) (aCI : Addr) (clCI : Cell) (aD aL aLe aM mO : Addr) (a_END : Addr) (a_IDLE : Addr) (a_FAILED : Addr) (h0 : Heap) (hO : Ext Z.heap h0) (SHi : Sta Z Z.heap "java/lang/Integer$IntegerCache" "high" "I" (.int 127)) (SCaI : Sta Z Z.heap "java/lang/Integer$IntegerCache" "cache" "[Ljava/lang/Integer;" (.ref aCI)) (BXI : Bxs Z aCI clCI "java/lang/Integer" "I" 256 (fun j => .int (j - 128))) (SD : Sta Z Z.heap "java/util/ArrayList" "DEFAULTCAPACITY_EMPTY_ELEMENTDATA" "[Ljava/lang/Object;" (.ref aD)) (AD : own_A Z Z.heap aD (.object "java/lang/Object") []) (SL : Sta Z Z.heap "java/util/ImmutableCollections" "EMPTY_LIST" "Ljava/util/ImmutableCollections$ListN;" (.ref aL)) (SM : Sta Z Z.heap "java/util/ImmutableCollections" "EMPTY" "Ljava/lang/Object;" (.ref aM)) (MO : Mir Z "[Ljava/lang/Object;" mO) (XL : Exa Z Z.heap aL "java/util/ImmutableCollections$ListN") (FL : Fld Z Z.heap aL "java/util/ImmutableCollections$ListN" "elements" "[Ljava/lang/Object;" (.ref aLe)) (AL0 : own_A Z Z.heap aLe (.object "java/lang/Object") []) (XM : Exa Z Z.heap aM "java/lang/Object") (S_END : Sta Z Z.heap "com/example/tidemark/tidemark/PagedList$Footer" "END" "Lcom/example/tidemark/tidemark/PagedList$Footer;" (.ref a_END)) (X_END : Exa Z Z.heap a_END "com/example/tidemark/tidemark/PagedList$Footer") (F_END_ordinal : Fld Z Z.heap a_END "java/lang/Enum" "ordinal" "I" (.int (3 : Int32))) (S_IDLE : Sta Z Z.heap "com/example/tidemark/tidemark/PagedList$Footer" "IDLE" "Lcom/example/tidemark/tidemark/PagedList$Footer;" (.ref a_IDLE)) (X_IDLE : Exa Z Z.heap a_IDLE "com/example/tidemark/tidemark/PagedList$Footer") (F_IDLE_ordinal : Fld Z Z.heap a_IDLE "java/lang/Enum" "ordinal" "I" (.int (0 : Int32))) (S_FAILED : Sta Z Z.heap "com/example/tidemark/tidemark/PagedList$Footer" "FAILED" "Lcom/example/tidemark/tidemark/PagedList$Footer;" (.ref a_FAILED)) (X_FAILED : Exa Z Z.heap a_FAILED "com/example/tidemark/tidemark/PagedList$Footer") (F_FAILED_ordinal : Fld Z Z.heap a_FAILED "java/lang/Enum" "ordinal" "I" (.int (2 : Int32))) :
    own_C l Z x code maxLocals ret tables_1 room_1 [] #[(.int p0), (.int p1), (.int p2), (.int p3), (.int p4)] h0 (fun v _ => v = some (.int 1)) := by
  refine own_C.of pn0 hO all0 ?_
  intro p e s m below meth c T0 S0
  refine own_F.cast (by first | (simp [entryFrame, mkF, argsToLocals, Value.category, maxLocals]; done) | rfl : entryFrame m #[(.int p0), (.int p1), (.int p2), (.int p3), (.int p4)] maxLocals = mkF m 0 #[.val (.int p0), .val (.int p1), .val (.int p2), .val (.int p3), .val (.int p4), .unset, .unset, .unset, .unset, .unset, .unset, .unset, .unset] []) ?_
  show own_F p e below s Z _ _ _ _ _ (T0.setTop (mkF m 0 #[.val (.int p0), .val (.int p1), .val (.int p2), .val (.int p3), .val (.int p4), .unset, .unset, .unset, .unset, .unset, .unset, .unset, .unset] []))
  refine own_F.of (fun _ => XS.iloadN S0.here S0.hx rfl (S0.dec at_0) rfl) ?_
  show own_F p e below s Z _ _ _ _ _ (T0.setTop (mkF m 1 #[.val (.int p0), .val (.int p1), .val (.int p2), .val (.int p3), .val (.int p4), .unset, .unset, .unset, .unset, .unset, .unset, .unset, .unset] [(.int p0)]))
  refine own_F.of (fun _ => XS.iconst S0.here S0.hx rfl (S0.dec at_1)) ?_
  show own_F p e below s Z _ _ _ _ _ (T0.setTop (mkF m 2 #[.val (.int p0), .val (.int p1), .val (.int p2), .val (.int p3), .val (.int p4), .unset, .unset, .unset, .unset, .unset, .unset, .unset, .unset] [(.int (3 : Int32)), (.int p0)]))
  refine own_F.of (fun _ => XS.iand S0.here S0.hx rfl (S0.dec at_2) rfl) ?_
  show own_F p e below s Z _ _ _ _ _ (T0.setTop (mkF m 3 #[.val (.int p0), .val (.int p1), .val (.int p2), .val (.int p3), .val (.int p4), .unset, .unset, .unset, .unset, .unset, .unset, .unset, .unset] [(.int (p0 &&& (3 : Int32)))]))
  refine own_F.of (fun _ => XS.istore S0.here S0.hx rfl (S0.dec at_3) rfl (l' := #[.val (.int p0), .val (.int p1), .val (.int p2), .val (.int p3), .val (.int p4), .val (.int (p0 &&& (3 : Int32))), .unset, .unset, .unset, .unset, .unset, .unset, .unset]) rfl) ?_
  show own_F p e below s Z _ _ _ _ _ (T0.setTop (mkF m 5 #[.val (.int p0), .val (.int p1), .val (.int p2), .val (.int p3), .val (.int p4), .val (.int (p0 &&& (3 : Int32))), .unset, .unset, .unset, .unset, .unset, .unset, .unset] []))
  rcases own_and3 p0 with hn | hn | hn | hn
  · rw [hn]
    show own_F p e below s Z _ _ _ _ _ (T0.setTop (mkF m 5 #[.val (.int p0), .val (.int p1), .val (.int p2), .val (.int p3), .val (.int p4), .val (.int (0 : Int32)), .unset, .unset, .unset, .unset, .unset, .unset, .unset] []))
    refine own_F.of (fun _ => XS.iloadN S0.here S0.hx rfl (S0.dec at_5) rfl) ?_
    show own_F p e below s Z _ _ _ _ _ (T0.setTop (mkF m 6 #[.val (.int p0), .val (.int p1), .val (.int p2), .val (.int p3), .val (.int p4), .val (.int (0 : Int32)), .unset, .unset, .unset, .unset, .unset, .unset, .unset] [(.int p0)]))
    refine own_F.of (fun _ => XS.iconst S0.here S0.hx rfl (S0.dec at_6)) ?_
    show own_F p e below s Z _ _ _ _ _ (T0.setTop (mkF m 7 #[.val (.int p0), .val (.int p1), .val (.int p2), .val (.int p3), .val (.int p4), .val (.int (0 : Int32)), .unset, .unset, .unset, .unset, .unset, .unset, .unset] [(.int (4 : Int32)), (.int p0)]))
    refine own_F.of (fun _ => XS.iand S0.here S0.hx rfl (S0.dec at_7) rfl) ?_
    show own_F p e below s Z _ _ _ _ _ (T0.setTop (mkF m 8 #[.val (.int p0), .val (.int p1), .val (.int p2), .val (.int p3), .val (.int p4), .val (.int (0 : Int32)), .unset, .unset, .unset, .unset, .unset, .unset, .unset] [(.int (p0 &&& (4 : Int32)))]))
    refine own_if S0 15 at_8 (by decide) (by decide) (fun (hc8_1 : (p0 &&& (4 : Int32)) = (0 : Int32)) => ?_) (fun (hc8_1 : ¬ ((p0 &&& (4 : Int32)) = (0 : Int32))) => ?_)
    · show own_F p e below s Z _ _ _ _ _ (T0.setTop (mkF m 15 #[.val (.int p0), .val (.int p1), .val (.int p2), .val (.int p3), .val (.int p4), .val (.int (0 : Int32)), .unset, .unset, .unset, .unset, .unset, .unset, .unset] []))
      refine own_F.of (fun _ => XS.iconst S0.here S0.hx rfl (S0.dec at_15)) ?_
      show own_F p e below s Z _ _ _ _ _ (T0.setTop (mkF m 16 #[.val (.int p0), .val (.int p1), .val (.int p2), .val (.int p3), .val (.int p4), .val (.int (0 : Int32)), .unset, .unset, .unset, .unset, .unset, .unset, .unset] [(.int (0 : Int32))]))
      refine own_F.of (fun _ => XS.istore S0.here S0.hx rfl (S0.dec at_16) rfl (l' := #[.val (.int p0), .val (.int p1), .val (.int p2), .val (.int p3), .val (.int p4), .val (.int (0 : Int32)), .val (.int (0 : Int32)), .unset, .unset, .unset, .unset, .unset, .unset]) rfl) ?_
      show own_F p e below s Z _ _ _ _ _ (T0.setTop (mkF m 18 #[.val (.int p0), .val (.int p1), .val (.int p2), .val (.int p3), .val (.int p4), .val (.int (0 : Int32)), .val (.int (0 : Int32)), .unset, .unset, .unset, .unset, .unset, .unset] []))
      refine own_new S0 (own_w hw 0 rfl) (own_w hw 1 rfl) (own_w hw 2 rfl) at_18 (by decide) (by decide) (fun T2 h2 b2 g2 S2 E2 A2 D2 => ?_)
      have F2_modCount : Fld Z h2 b2 "java/util/AbstractList" "modCount" "I" (.int (0 : Int32)) := (D2 (Or.inl (own_w hw 22 rfl)) (ty := .int) (by decide))
      have F2_elementData : Fld Z h2 b2 "java/util/ArrayList" "elementData" "[Ljava/lang/Object;" .null := (D2 (Or.inl (own_w hw 25 rfl)) (ty := (.array (.object "java/lang/Object"))) (by decide))
      have F2_size : Fld Z h2 b2 "java/util/ArrayList" "size" "I" (.int (0 : Int32)) := (D2 (Or.inl (own_w hw 62 rfl)) (ty := .int) (by decide))
      show own_F p e below s Z _ _ _ _ _ (T2.setTop (mkF m 21 #[.val (.int p0), .val (.int p1), .val (.int p2), .val (.int p3), .val (.int p4), .val (.int (0 : Int32)), .val (.int (0 : Int32)), .unset, .unset, .unset, .unset, .unset, .unset] [(.ref b2)]))
      refine own_F.of (fun _ => XS.dup S2.here S2.hx rfl (S2.dec at_21) rfl rfl) ?_
      show own_F p e below s Z _ _ _ _ _ (T2.setTop (mkF m 22 #[.val (.int p0), .val (.int p1), .val (.int p2), .val (.int p3), .val (.int p4), .val (.int (0 : Int32)), .val (.int (0 : Int32)), .unset, .unset, .unset, .unset, .unset, .unset] [(.ref b2), (.ref b2)]))
      refine own_callI S2 (y := (⟨"java/util/ArrayList", "<init>", "()V"⟩ : MethodName)) rfl (own_w hw 3 rfl) (own_w hw 4 rfl) (own_w hw 2 rfl) (own_w hw 5 rfl) (by decide) (argsL := []) (rest := [(.ref b2)]) (own_ALI l Z a0 hw b2 aD h2 S2.old SD AD (own_mayN S2 (Or.inr (by rw [g2]; exact S0.size))) A2 F2_modCount F2_elementData F2_size) (allS (Or.inr (by rw [g2]; exact S0.size)) all0) (by decide +kernel : parseMethodDescriptor "()V" = some ⟨[], none⟩) rfl rfl rfl at_22 (by decide) (Nat.le_of_ble_eq_true rfl) (by decide) (by decide) (fun T3 h3 v3 S3 K3 q3 => ?_)
      obtain ⟨rfl, Fm3, Fe3, Fs3⟩ := q3
      show own_F p e below s Z _ _ _ _ _ (T3.setTop (mkF m 25 #[.val (.int p0), .val (.int p1), .val (.int p2), .val (.int p3), .val (.int p4), .val (.int (0 : Int32)), .val (.int (0 : Int32)), .unset, .unset, .unset, .unset, .unset, .unset] [(.ref b2)]))
      refine own_F.of (fun _ => XS.astore S3.here S3.hx rfl (S3.dec at_25) rfl rfl (l' := #[.val (.int p0), .val (.int p1), .val (.int p2), .val (.int p3), .val (.int p4), .val (.int (0 : Int32)), .val (.int (0 : Int32)), .val (.ref b2), .unset, .unset, .unset, .unset, .unset]) rfl) ?_
      show own_F p e below s Z _ _ _ _ _ (T3.setTop (mkF m 27 #[.val (.int p0), .val (.int p1), .val (.int p2), .val (.int p3), .val (.int p4), .val (.int (0 : Int32)), .val (.int (0 : Int32)), .val (.ref b2), .unset, .unset, .unset, .unset, .unset] []))
      refine own_F.of (fun _ => XS.iload S3.here S3.hx rfl (S3.dec at_27) rfl) ?_
      show own_F p e below s Z _ _ _ _ _ (T3.setTop (mkF m 29 #[.val (.int p0), .val (.int p1), .val (.int p2), .val (.int p3), .val (.int p4), .val (.int (0 : Int32)), .val (.int (0 : Int32)), .val (.ref b2), .unset, .unset, .unset, .unset, .unset] [(.int (0 : Int32))]))
      refine own_if S3 42 at_29 (by decide) (by decide) (fun (hc29_4 : ¬ ((0 : Int32) < (0 : Int32))) => ?_) (fun (hc29_4 : (0 : Int32) < (0 : Int32)) => False.elim (absurd hc29_4 (by decide)))
      show own_F p e below s Z _ _ _ _ _ (T3.setTop (mkF m 42 #[.val (.int p0), .val (.int p1), .val (.int p2), .val (.int p3), .val (.int p4), .val (.int (0 : Int32)), .val (.int (0 : Int32)), .val (.ref b2), .unset, .unset, .unset, .unset, .unset] []))
      refine own_F.of (fun _ => XS.iload S3.here S3.hx rfl (S3.dec at_42) rfl) ?_
      show own_F p e below s Z _ _ _ _ _ (T3.setTop (mkF m 44 #[.val (.int p0), .val (.int p1), .val (.int p2), .val (.int p3), .val (.int p4), .val (.int (0 : Int32)), .val (.int (0 : Int32)), .val (.ref b2), .unset, .unset, .unset, .unset, .unset] [(.int (0 : Int32))]))
      refine own_F.of (fun _ => XS.iconst S3.here S3.hx rfl (S3.dec at_44)) ?_
      show own_F p e below s Z _ _ _ _ _ (T3.setTop (mkF m 45 #[.val (.int p0), .val (.int p1), .val (.int p2), .val (.int p3), .val (.int p4), .val (.int (0 : Int32)), .val (.int (0 : Int32)), .val (.ref b2), .unset, .unset, .unset, .unset, .unset] [(.int (1 : Int32)), (.int (0 : Int32))]))
      refine own_icmp S3 58 at_45 (by decide) (by decide) (fun (hc45_5 : ¬ ((1 : Int32) < (0 : Int32))) => ?_) (fun (hc45_5 : (1 : Int32) < (0 : Int32)) => False.elim (absurd hc45_5 (by decide)))
      show own_F p e below s Z _ _ _ _ _ (T3.setTop (mkF m 58 #[.val (.int p0), .val (.int p1), .val (.int p2), .val (.int p3), .val (.int p4), .val (.int (0 : Int32)), .val (.int (0 : Int32)), .val (.ref b2), .unset, .unset, .unset, .unset, .unset] []))
      refine own_F.of (fun _ => XS.iload S3.here S3.hx rfl (S3.dec at_58) rfl) ?_
      show own_F p e below s Z _ _ _ _ _ (T3.setTop (mkF m 60 #[.val (.int p0), .val (.int p1), .val (.int p2), .val (.int p3), .val (.int p4), .val (.int (0 : Int32)), .val (.int (0 : Int32)), .val (.ref b2), .unset, .unset, .unset, .unset, .unset] [(.int (0 : Int32))]))
      refine own_F.of (fun _ => XS.iconst S3.here S3.hx rfl (S3.dec at_60)) ?_
      show own_F p e below s Z _ _ _ _ _ (T3.setTop (mkF m 61 #[.val (.int p0), .val (.int p1), .val (.int p2), .val (.int p3), .val (.int p4), .val (.int (0 : Int32)), .val (.int (0 : Int32)), .val (.ref b2), .unset, .unset, .unset, .unset, .unset] [(.int (2 : Int32)), (.int (0 : Int32))]))
      refine own_icmp S3 74 at_61 (by decide) (by decide) (fun (hc61_6 : ¬ ((2 : Int32) < (0 : Int32))) => ?_) (fun (hc61_6 : (2 : Int32) < (0 : Int32)) => False.elim (absurd hc61_6 (by decide)))
      show own_F p e below s Z _ _ _ _ _ (T3.setTop (mkF m 74 #[.val (.int p0), .val (.int p1), .val (.int p2), .val (.int p3), .val (.int p4), .val (.int (0 : Int32)), .val (.int (0 : Int32)), .val (.ref b2), .unset, .unset, .unset, .unset, .unset] []))
      refine own_F.of (fun _ => XS.iload S3.here S3.hx rfl (S3.dec at_74) rfl) ?_
      show own_F p e below s Z _ _ _ _ _ (T3.setTop (mkF m 76 #[.val (.int p0), .val (.int p1), .val (.int p2), .val (.int p3), .val (.int p4), .val (.int (0 : Int32)), .val (.int (0 : Int32)), .val (.ref b2), .unset, .unset, .unset, .unset, .unset] [(.int (0 : Int32))]))
      refine own_if S3 87 at_76 (by decide) (by decide) (fun (hc76_7 : (0 : Int32) = (0 : Int32)) => ?_) (fun (hc76_7 : ¬ ((0 : Int32) = (0 : Int32))) => False.elim (absurd hc76_7 (by decide)))
      show own_F p e below s Z _ _ _ _ _ (T3.setTop (mkF m 87 #[.val (.int p0), .val (.int p1), .val (.int p2), .val (.int p3), .val (.int p4), .val (.int (0 : Int32)), .val (.int (0 : Int32)), .val (.ref b2), .unset, .unset, .unset, .unset, .unset] []))
      refine own_F.of (fun _ => XS.aconstNull S3.here S3.hx rfl (S3.dec at_87)) ?_
      show own_F p e below s Z _ _ _ _ _ (T3.setTop (mkF m 88 #[.val (.int p0), .val (.int p1), .val (.int p2), .val (.int p3), .val (.int p4), .val (.int (0 : Int32)), .val (.int (0 : Int32)), .val (.ref b2), .unset, .unset, .unset, .unset, .unset] [.null]))
      refine own_F.of (fun _ => XS.astore S3.here S3.hx rfl (S3.dec at_88) rfl rfl (l' := #[.val (.int p0), .val (.int p1), .val (.int p2), .val (.int p3), .val (.int p4), .val (.int (0 : Int32)), .val (.int (0 : Int32)), .val (.ref b2), .val .null, .unset, .unset, .unset, .unset]) rfl) ?_
      show own_F p e below s Z _ _ _ _ _ (T3.setTop (mkF m 90 #[.val (.int p0), .val (.int p1), .val (.int p2), .val (.int p3), .val (.int p4), .val (.int (0 : Int32)), .val (.int (0 : Int32)), .val (.ref b2), .val .null, .unset, .unset, .unset, .unset] []))
      refine own_new S3 (own_w hw 26 rfl) (own_w hw 27 rfl) (own_w hw 28 rfl) at_90 (by decide) (by decide) (fun T8 h8 b8 g8 S8 E8 A8 D8 => ?_)
      have F8_items : Fld Z h8 b8 "com/example/tidemark/tidemark/Page" "items" "Ljava/util/List;" .null := (D8 (Or.inr (own_w hw 68 rfl)) (ty := (.object "java/util/List")) (by decide))
      have F8_nextKey : Fld Z h8 b8 "com/example/tidemark/tidemark/Page" "nextKey" "Ljava/lang/Object;" .null := (D8 (Or.inr (own_w hw 70 rfl)) (ty := (.object "java/lang/Object")) (by decide))
      show own_F p e below s Z _ _ _ _ _ (T8.setTop (mkF m 93 #[.val (.int p0), .val (.int p1), .val (.int p2), .val (.int p3), .val (.int p4), .val (.int (0 : Int32)), .val (.int (0 : Int32)), .val (.ref b2), .val .null, .unset, .unset, .unset, .unset] [(.ref b8)]))
      refine own_F.of (fun _ => XS.dup S8.here S8.hx rfl (S8.dec at_93) rfl rfl) ?_
      show own_F p e below s Z _ _ _ _ _ (T8.setTop (mkF m 94 #[.val (.int p0), .val (.int p1), .val (.int p2), .val (.int p3), .val (.int p4), .val (.int (0 : Int32)), .val (.int (0 : Int32)), .val (.ref b2), .val .null, .unset, .unset, .unset, .unset] [(.ref b8), (.ref b8)]))
      refine own_F.of (fun _ => XS.aload S8.here S8.hx rfl (S8.dec at_94) rfl rfl) ?_
      show own_F p e below s Z _ _ _ _ _ (T8.setTop (mkF m 96 #[.val (.int p0), .val (.int p1), .val (.int p2), .val (.int p3), .val (.int p4), .val (.int (0 : Int32)), .val (.int (0 : Int32)), .val (.ref b2), .val .null, .unset, .unset, .unset, .unset] [(.ref b2), (.ref b8), (.ref b8)]))
      refine own_F.of (fun _ => XS.aload S8.here S8.hx rfl (S8.dec at_96) rfl rfl) ?_
      show own_F p e below s Z _ _ _ _ _ (T8.setTop (mkF m 98 #[.val (.int p0), .val (.int p1), .val (.int p2), .val (.int p3), .val (.int p4), .val (.int (0 : Int32)), .val (.int (0 : Int32)), .val (.ref b2), .val .null, .unset, .unset, .unset, .unset] [.null, (.ref b2), (.ref b8), (.ref b8)]))
      have fq9 := ((A2.keep K3).ext E8)
      have fq10 := (Fs3.ext E8)
      refine own_callI S8 (y := (⟨"com/example/tidemark/tidemark/Page", "<init>", "(Ljava/util/List;Ljava/lang/Object;)V"⟩ : MethodName)) rfl (own_w hw 29 rfl) (own_w hw 30 rfl) (own_w hw 28 rfl) (own_w hw 31 rfl) (by decide) (argsL := [(.ref b2), .null]) (rest := [(.ref b8)]) (own_Page0 l Z a0 hw b8 b2 .null aL h8 S8.old rfl SL (own_mayN S8 (Or.inr (by rw [g8]; exact S3.size))) A8 F8_items F8_nextKey fq9 fq10) (allS (Or.inr (by rw [g8]; exact S3.size)) all0) (by decide +kernel : parseMethodDescriptor "(Ljava/util/List;Ljava/lang/Object;)V" = some ⟨[(.object "java/util/List"), (.object "java/lang/Object")], none⟩) rfl rfl rfl at_98 (by decide) (Nat.le_of_ble_eq_true rfl) (by decide) (by decide) (fun T11 h11 v11 S11 K11 q11 => ?_)
      obtain ⟨rfl, Fi11, Fk11⟩ := q11
      show own_F p e below s Z _ _ _ _ _ (T11.setTop (mkF m 101 #[.val (.int p0), .val (.int p1), .val (.int p2), .val (.int p3), .val (.int p4), .val (.int (0 : Int32)), .val (.int (0 : Int32)), .val (.ref b2), .val .null, .unset, .unset, .unset, .unset] [(.ref b8)]))
      refine own_F.of (fun _ => XS.astore S11.here S11.hx rfl (S11.dec at_101) rfl rfl (l' := #[.val (.int p0), .val (.int p1), .val (.int p2), .val (.int p3), .val (.int p4), .val (.int (0 : Int32)), .val (.int (0 : Int32)), .val (.ref b2), .val .null, .val (.ref b8), .unset, .unset, .unset]) rfl) ?_
      show own_F p e below s Z _ _ _ _ _ (T11.setTop (mkF m 103 #[.val (.int p0), .val (.int p1), .val (.int p2), .val (.int p3), .val (.int p4), .val (.int (0 : Int32)), .val (.int (0 : Int32)), .val (.ref b2), .val .null, .val (.ref b8), .unset, .unset, .unset] []))
      refine own_F.of (fun _ => XS.aload S11.here S11.hx rfl (S11.dec at_103) rfl rfl) ?_
      show own_F p e below s Z _ _ _ _ _ (T11.setTop (mkF m 105 #[.val (.int p0), .val (.int p1), .val (.int p2), .val (.int p3), .val (.int p4), .val (.int (0 : Int32)), .val (.int (0 : Int32)), .val (.ref b2), .val .null, .val (.ref b8), .unset, .unset, .unset] [(.ref b8)]))
      have fq12 := (A8.keep K11)
      refine own_callS S11 (y := (⟨"com/example/tidemark/tidemark/PagedList", "first", "(Lcom/example/tidemark/tidemark/Page;)Lcom/example/tidemark/tidemark/PagedList;"⟩ : MethodName)) (own_w hw 71 rfl) (own_w hw 72 rfl) (own_w hw 73 rfl) (own_w hw 74 rfl) (by decide) (argsL := [(.ref b8)]) (rest := []) (own_firstN l Z a0 hw b8 aL a_END a_IDLE a_FAILED h11 S11.old S_END S_IDLE S_FAILED fq12 Fi11 Fk11) all0 (by decide +kernel : parseMethodDescriptor "(Lcom/example/tidemark/tidemark/Page;)Lcom/example/tidemark/tidemark/PagedList;" = some ⟨[(.object "com/example/tidemark/tidemark/Page")], some (.object "com/example/tidemark/tidemark/PagedList")⟩) rfl rfl rfl at_105 (by decide) (Nat.le_of_ble_eq_true rfl) (by decide) (by decide) (fun T13 h13 v13 S13 K13 q13 => ?_)
      obtain ⟨b13, rfl, X13, Fi13, Ff13, Fk13⟩ := q13
      show own_F p e below s Z _ _ _ _ _ (T13.setTop (mkF m 108 #[.val (.int p0), .val (.int p1), .val (.int p2), .val (.int p3), .val (.int p4), .val (.int (0 : Int32)), .val (.int (0 : Int32)), .val (.ref b2), .val .null, .val (.ref b8), .unset, .unset, .unset] [(.ref b13)]))
      refine own_F.of (fun _ => XS.astore S13.here S13.hx rfl (S13.dec at_108) rfl rfl (l' := #[.val (.int p0), .val (.int p1), .val (.int p2), .val (.int p3), .val (.int p4), .val (.int (0 : Int32)), .val (.int (0 : Int32)), .val (.ref b2), .val .null, .val (.ref b8), .val (.ref b13), .unset, .unset]) rfl) ?_
      show own_F p e below s Z _ _ _ _ _ (T13.setTop (mkF m 110 #[.val (.int p0), .val (.int p1), .val (.int p2), .val (.int p3), .val (.int p4), .val (.int (0 : Int32)), .val (.int (0 : Int32)), .val (.ref b2), .val .null, .val (.ref b8), .val (.ref b13), .unset, .unset] []))
      refine own_F.of (fun _ => XS.aload S13.here S13.hx rfl (S13.dec at_110) rfl rfl) ?_
      show own_F p e below s Z _ _ _ _ _ (T13.setTop (mkF m 112 #[.val (.int p0), .val (.int p1), .val (.int p2), .val (.int p3), .val (.int p4), .val (.int (0 : Int32)), .val (.int (0 : Int32)), .val (.ref b2), .val .null, .val (.ref b8), .val (.ref b13), .unset, .unset] [(.ref b13)]))
      refine own_callV S13 (y := (⟨"com/example/tidemark/tidemark/PagedList", "items", "()Ljava/util/List;"⟩ : MethodName)) (y' := (⟨"com/example/tidemark/tidemark/PagedList", "items", "()Ljava/util/List;"⟩ : MethodName)) (own_w hw 105 rfl) (own_w hw 106 rfl) (own_nf S13 (own_w hw 108 rfl)) (own_w hw 108 rfl) (own_w hw 107 rfl) (own_w hw 109 rfl) (own_w hw 73 rfl) (by decide) X13 (argsL := []) (rest := []) (own_plI l Z a0 hw b13 (.ref aL) h13 S13.old rfl Fi13) all0 (by decide +kernel : parseMethodDescriptor "()Ljava/util/List;" = some ⟨[], some (.object "java/util/List")⟩) rfl rfl rfl at_112 (by decide) (Nat.le_of_ble_eq_true rfl) (by decide) (by decide) (fun T14 h14 v14 S14 K14 q14 => ?_)
      obtain ⟨rfl, rfl⟩ := q14
      show own_F p e below s Z _ _ _ _ _ (T14.setTop (mkF m 115 #[.val (.int p0), .val (.int p1), .val (.int p2), .val (.int p3), .val (.int p4), .val (.int (0 : Int32)), .val (.int (0 : Int32)), .val (.ref b2), .val .null, .val (.ref b8), .val (.ref b13), .unset, .unset] [(.ref aL)]))
      refine own_F.of (fun _ => XS.astore S14.here S14.hx rfl (S14.dec at_115) rfl rfl (l' := #[.val (.int p0), .val (.int p1), .val (.int p2), .val (.int p3), .val (.int p4), .val (.int (0 : Int32)), .val (.int (0 : Int32)), .val (.ref b2), .val .null, .val (.ref b8), .val (.ref b13), .val (.ref aL), .unset]) rfl) ?_
      show own_F p e below s Z _ _ _ _ _ (T14.setTop (mkF m 117 #[.val (.int p0), .val (.int p1), .val (.int p2), .val (.int p3), .val (.int p4), .val (.int (0 : Int32)), .val (.int (0 : Int32)), .val (.ref b2), .val .null, .val (.ref b8), .val (.ref b13), .val (.ref aL), .unset] []))
      refine own_F.of (fun _ => XS.aload S14.here S14.hx rfl (S14.dec at_117) rfl rfl) ?_
      show own_F p e below s Z _ _ _ _ _ (T14.setTop (mkF m 119 #[.val (.int p0), .val (.int p1), .val (.int p2), .val (.int p3), .val (.int p4), .val (.int (0 : Int32)), .val (.int (0 : Int32)), .val (.ref b2), .val .null, .val (.ref b8), .val (.ref b13), .val (.ref aL), .unset] [(.ref aL)]))
      refine own_callX S14 (y := (⟨"java/util/List", "size", "()I"⟩ : MethodName)) (y' := (⟨"java/util/ImmutableCollections$ListN", "size", "()I"⟩ : MethodName)) (own_w hw 110 rfl) (own_w hw 111 rfl) (own_w hw 112 rfl) (own_w hw 113 rfl) (own_w hw 114 rfl) (own_w hw 115 rfl) (own_w hw 116 rfl) (own_w hw 117 rfl) (own_w hw 119 rfl) (own_w hw 118 rfl) (by decide) (XL.ext S14.old) (argsL := []) (rest := []) (own_szN0 l Z a0 hw aL aLe h13 S14.old (FL.ext S14.old) (AL0.ext S14.old)) all0 (by decide +kernel : parseMethodDescriptor "()I" = some ⟨[], some .int⟩) rfl rfl rfl at_119 (by decide) (Nat.le_of_ble_eq_true rfl) (by decide) (by decide) (fun T15 h15 v15 S15 K15 q15 => ?_)
      obtain ⟨rfl, rfl⟩ := q15
      show own_F p e below s Z _ _ _ _ _ (T15.setTop (mkF m 124 #[.val (.int p0), .val (.int p1), .val (.int p2), .val (.int p3), .val (.int p4), .val (.int (0 : Int32)), .val (.int (0 : Int32)), .val (.ref b2), .val .null, .val (.ref b8), .val (.ref b13), .val (.ref aL), .unset] [(.int (0 : Int32))]))
      refine own_F.of (fun _ => XS.iload S15.here S15.hx rfl (S15.dec at_124) rfl) ?_
      show own_F p e below s Z _ _ _ _ _ (T15.setTop (mkF m 126 #[.val (.int p0), .val (.int p1), .val (.int p2), .val (.int p3), .val (.int p4), .val (.int (0 : Int32)), .val (.int (0 : Int32)), .val (.ref b2), .val .null, .val (.ref b8), .val (.ref b13), .val (.ref aL), .unset] [(.int (0 : Int32)), (.int (0 : Int32))]))
      refine own_icmp S15 131 at_126 (by decide) (by decide) (fun (hc126_16 : (0 : Int32) = (0 : Int32)) => ?_) (fun (hc126_16 : ¬ ((0 : Int32) = (0 : Int32))) => False.elim (absurd hc126_16 (by decide)))
      show own_F p e below s Z _ _ _ _ _ (T15.setTop (mkF m 131 #[.val (.int p0), .val (.int p1), .val (.int p2), .val (.int p3), .val (.int p4), .val (.int (0 : Int32)), .val (.int (0 : Int32)), .val (.ref b2), .val .null, .val (.ref b8), .val (.ref b13), .val (.ref aL), .unset] []))
      refine own_F.of (fun _ => XS.iload S15.here S15.hx rfl (S15.dec at_131) rfl) ?_
      show own_F p e below s Z _ _ _ _ _ (T15.setTop (mkF m 133 #[.val (.int p0), .val (.int p1), .val (.int p2), .val (.int p3), .val (.int p4), .val (.int (0 : Int32)), .val (.int (0 : Int32)), .val (.ref b2), .val .null, .val (.ref b8), .val (.ref b13), .val (.ref aL), .unset] [(.int (0 : Int32))]))
      refine own_if S15 156 at_133 (by decide) (by decide) (fun (hc133_17 : ¬ ((0 : Int32) < (0 : Int32))) => ?_) (fun (hc133_17 : (0 : Int32) < (0 : Int32)) => False.elim (absurd hc133_17 (by decide)))
      show own_F p e below s Z _ _ _ _ _ (T15.setTop (mkF m 156 #[.val (.int p0), .val (.int p1), .val (.int p2), .val (.int p3), .val (.int p4), .val (.int (0 : Int32)), .val (.int (0 : Int32)), .val (.ref b2), .val .null, .val (.ref b8), .val (.ref b13), .val (.ref aL), .unset] []))
      refine own_F.of (fun _ => XS.iload S15.here S15.hx rfl (S15.dec at_156) rfl) ?_
      show own_F p e below s Z _ _ _ _ _ (T15.setTop (mkF m 158 #[.val (.int p0), .val (.int p1), .val (.int p2), .val (.int p3), .val (.int p4), .val (.int (0 : Int32)), .val (.int (0 : Int32)), .val (.ref b2), .val .null, .val (.ref b8), .val (.ref b13), .val (.ref aL), .unset] [(.int (0 : Int32))]))
      refine own_F.of (fun _ => XS.iconst S15.here S15.hx rfl (S15.dec at_158)) ?_
      show own_F p e below s Z _ _ _ _ _ (T15.setTop (mkF m 159 #[.val (.int p0), .val (.int p1), .val (.int p2), .val (.int p3), .val (.int p4), .val (.int (0 : Int32)), .val (.int (0 : Int32)), .val (.ref b2), .val .null, .val (.ref b8), .val (.ref b13), .val (.ref aL), .unset] [(.int (1 : Int32)), (.int (0 : Int32))]))
      refine own_icmp S15 182 at_159 (by decide) (by decide) (fun (hc159_18 : ¬ ((1 : Int32) < (0 : Int32))) => ?_) (fun (hc159_18 : (1 : Int32) < (0 : Int32)) => False.elim (absurd hc159_18 (by decide)))
      show own_F p e below s Z _ _ _ _ _ (T15.setTop (mkF m 182 #[.val (.int p0), .val (.int p1), .val (.int p2), .val (.int p3), .val (.int p4), .val (.int (0 : Int32)), .val (.int (0 : Int32)), .val (.ref b2), .val .null, .val (.ref b8), .val (.ref b13), .val (.ref aL), .unset] []))
      refine own_F.of (fun _ => XS.iload S15.here S15.hx rfl (S15.dec at_182) rfl) ?_
      show own_F p e below s Z _ _ _ _ _ (T15.setTop (mkF m 184 #[.val (.int p0), .val (.int p1), .val (.int p2), .val (.int p3), .val (.int p4), .val (.int (0 : Int32)), .val (.int (0 : Int32)), .val (.ref b2), .val .null, .val (.ref b8), .val (.ref b13), .val (.ref aL), .unset] [(.int (0 : Int32))]))
      refine own_F.of (fun _ => XS.iconst S15.here S15.hx rfl (S15.dec at_184)) ?_
      show own_F p e below s Z _ _ _ _ _ (T15.setTop (mkF m 185 #[.val (.int p0), .val (.int p1), .val (.int p2), .val (.int p3), .val (.int p4), .val (.int (0 : Int32)), .val (.int (0 : Int32)), .val (.ref b2), .val .null, .val (.ref b8), .val (.ref b13), .val (.ref aL), .unset] [(.int (2 : Int32)), (.int (0 : Int32))]))
      refine own_icmp S15 208 at_185 (by decide) (by decide) (fun (hc185_19 : ¬ ((2 : Int32) < (0 : Int32))) => ?_) (fun (hc185_19 : (2 : Int32) < (0 : Int32)) => False.elim (absurd hc185_19 (by decide)))
      show own_F p e below s Z _ _ _ _ _ (T15.setTop (mkF m 208 #[.val (.int p0), .val (.int p1), .val (.int p2), .val (.int p3), .val (.int p4), .val (.int (0 : Int32)), .val (.int (0 : Int32)), .val (.ref b2), .val .null, .val (.ref b8), .val (.ref b13), .val (.ref aL), .unset] []))
      refine own_F.of (fun _ => XS.iload S15.here S15.hx rfl (S15.dec at_208) rfl) ?_
      show own_F p e below s Z _ _ _ _ _ (T15.setTop (mkF m 210 #[.val (.int p0), .val (.int p1), .val (.int p2), .val (.int p3), .val (.int p4), .val (.int (0 : Int32)), .val (.int (0 : Int32)), .val (.ref b2), .val .null, .val (.ref b8), .val (.ref b13), .val (.ref aL), .unset] [(.int (0 : Int32))]))
      refine own_if S15 219 at_210 (by decide) (by decide) (fun (hc210_20 : (0 : Int32) = (0 : Int32)) => ?_) (fun (hc210_20 : ¬ ((0 : Int32) = (0 : Int32))) => False.elim (absurd hc210_20 (by decide)))
      show own_F p e below s Z _ _ _ _ _ (T15.setTop (mkF m 219 #[.val (.int p0), .val (.int p1), .val (.int p2), .val (.int p3), .val (.int p4), .val (.int (0 : Int32)), .val (.int (0 : Int32)), .val (.ref b2), .val .null, .val (.ref b8), .val (.ref b13), .val (.ref aL), .unset] []))
      refine own_getS S15 (host := "") (Or.inl (own_w hw 122 rfl)) Via.refl (S_END.ext S15.old) at_219 (fun T21 S21 => ?_)
      show own_F p e below s Z _ _ _ _ _ (T21.setTop (mkF m 222 #[.val (.int p0), .val (.int p1), .val (.int p2), .val (.int p3), .val (.int p4), .val (.int (0 : Int32)), .val (.int (0 : Int32)), .val (.ref b2), .val .null, .val (.ref b8), .val (.ref b13), .val (.ref aL), .unset] [(.ref a_END)]))
      refine own_F.of (fun _ => XS.astore S21.here S21.hx rfl (S21.dec at_222) rfl rfl (l' := #[.val (.int p0), .val (.int p1), .val (.int p2), .val (.int p3), .val (.int p4), .val (.int (0 : Int32)), .val (.int (0 : Int32)), .val (.ref b2), .val .null, .val (.ref b8), .val (.ref b13), .val (.ref aL), .val (.ref a_END)]) rfl) ?_
      show own_F p e below s Z _ _ _ _ _ (T21.setTop (mkF m 224 #[.val (.int p0), .val (.int p1), .val (.int p2), .val (.int p3), .val (.int p4), .val (.int (0 : Int32)), .val (.int (0 : Int32)), .val (.ref b2), .val .null, .val (.ref b8), .val (.ref b13), .val (.ref aL), .val (.ref a_END)] []))
      refine own_F.of (fun _ => XS.aload S21.here S21.hx rfl (S21.dec at_224) rfl rfl) ?_
      show own_F p e below s Z _ _ _ _ _ (T21.setTop (mkF m 226 #[.val (.int p0), .val (.int p1), .val (.int p2), .val (.int p3), .val (.int p4), .val (.int (0 : Int32)), .val (.int (0 : Int32)), .val (.ref b2), .val .null, .val (.ref b8), .val (.ref b13), .val (.ref aL), .val (.ref a_END)] [(.ref b13)]))
      refine own_callV S21 (y := (⟨"com/example/tidemark/tidemark/PagedList", "footer", "()Lcom/example/tidemark/tidemark/PagedList$Footer;"⟩ : MethodName)) (y' := (⟨"com/example/tidemark/tidemark/PagedList", "footer", "()Lcom/example/tidemark/tidemark/PagedList$Footer;"⟩ : MethodName)) (own_w hw 123 rfl) (own_w hw 124 rfl) (own_nf S21 (own_w hw 126 rfl)) (own_w hw 126 rfl) (own_w hw 125 rfl) (own_w hw 127 rfl) (own_w hw 73 rfl) (by decide) X13 (argsL := []) (rest := []) (own_plF l Z a0 hw b13 (.ref a_END) h13 S21.old rfl Ff13) all0 (by decide +kernel : parseMethodDescriptor "()Lcom/example/tidemark/tidemark/PagedList$Footer;" = some ⟨[], some (.object "com/example/tidemark/tidemark/PagedList$Footer")⟩) rfl rfl rfl at_226 (by decide) (Nat.le_of_ble_eq_true rfl) (by decide) (by decide) (fun T22 h22 v22 S22 K22 q22 => ?_)
      obtain ⟨rfl, rfl⟩ := q22
      show own_F p e below s Z _ _ _ _ _ (T22.setTop (mkF m 229 #[.val (.int p0), .val (.int p1), .val (.int p2), .val (.int p3), .val (.int p4), .val (.int (0 : Int32)), .val (.int (0 : Int32)), .val (.ref b2), .val .null, .val (.ref b8), .val (.ref b13), .val (.ref aL), .val (.ref a_END)] [(.ref a_END)]))
      refine own_F.of (fun _ => XS.aload S22.here S22.hx rfl (S22.dec at_229) rfl rfl) ?_
      show own_F p e below s Z _ _ _ _ _ (T22.setTop (mkF m 231 #[.val (.int p0), .val (.int p1), .val (.int p2), .val (.int p3), .val (.int p4), .val (.int (0 : Int32)), .val (.int (0 : Int32)), .val (.ref b2), .val .null, .val (.ref b8), .val (.ref b13), .val (.ref aL), .val (.ref a_END)] [(.ref a_END), (.ref a_END)]))
      refine own_acmp S22 rfl rfl 236 at_231 (by decide) (by decide) (fun (hc231_23 : (Value.ref a_END) = (Value.ref a_END)) => ?_) (fun (hc231_23 : ¬ ((Value.ref a_END) = (Value.ref a_END))) => False.elim (hc231_23 rfl))
      show own_F p e below s Z _ _ _ _ _ (T22.setTop (mkF m 236 #[.val (.int p0), .val (.int p1), .val (.int p2), .val (.int p3), .val (.int p4), .val (.int (0 : Int32)), .val (.int (0 : Int32)), .val (.ref b2), .val .null, .val (.ref b8), .val (.ref b13), .val (.ref aL), .val (.ref a_END)] []))
      refine own_F.of (fun _ => XS.aload S22.here S22.hx rfl (S22.dec at_236) rfl rfl) ?_
      show own_F p e below s Z _ _ _ _ _ (T22.setTop (mkF m 238 #[.val (.int p0), .val (.int p1), .val (.int p2), .val (.int p3), .val (.int p4), .val (.int (0 : Int32)), .val (.int (0 : Int32)), .val (.ref b2), .val .null, .val (.ref b8), .val (.ref b13), .val (.ref aL), .val (.ref a_END)] [(.ref b13)]))
      refine own_callV S22 (y := (⟨"com/example/tidemark/tidemark/PagedList", "canLoadMore", "()Z"⟩ : MethodName)) (y' := (⟨"com/example/tidemark/tidemark/PagedList", "canLoadMore", "()Z"⟩ : MethodName)) (own_w hw 128 rfl) (own_w hw 129 rfl) (own_nf S22 (own_w hw 131 rfl)) (own_w hw 131 rfl) (own_w hw 130 rfl) (own_w hw 132 rfl) (own_w hw 73 rfl) (by decide) X13 (argsL := []) (rest := []) (own_canN l Z a0 hw b13 a_END a_IDLE a_FAILED h13 S22.old S_END S_IDLE S_FAILED (F_END_ordinal.ne F_IDLE_ordinal (by decide)) (F_END_ordinal.ne F_FAILED_ordinal (by decide)) Ff13) all0 (by decide +kernel : parseMethodDescriptor "()Z" = some ⟨[], some .boolean⟩) rfl rfl rfl at_238 (by decide) (Nat.le_of_ble_eq_true rfl) (by decide) (by decide) (fun T24 h24 v24 S24 K24 q24 => ?_)
      obtain ⟨rfl, rfl⟩ := q24
      show own_F p e below s Z _ _ _ _ _ (T24.setTop (mkF m 241 #[.val (.int p0), .val (.int p1), .val (.int p2), .val (.int p3), .val (.int p4), .val (.int (0 : Int32)), .val (.int (0 : Int32)), .val (.ref b2), .val .null, .val (.ref b8), .val (.ref b13), .val (.ref aL), .val (.ref a_END)] [(.int (0 : Int32))]))
      refine own_F.of (fun _ => XS.iload S24.here S24.hx rfl (S24.dec at_241) rfl) ?_
      show own_F p e below s Z _ _ _ _ _ (T24.setTop (mkF m 243 #[.val (.int p0), .val (.int p1), .val (.int p2), .val (.int p3), .val (.int p4), .val (.int (0 : Int32)), .val (.int (0 : Int32)), .val (.ref b2), .val .null, .val (.ref b8), .val (.ref b13), .val (.ref aL), .val (.ref a_END)] [(.int (0 : Int32)), (.int (0 : Int32))]))
      refine own_icmp S24 248 at_243 (by decide) (by decide) (fun (hc243_25 : (0 : Int32) = (0 : Int32)) => ?_) (fun (hc243_25 : ¬ ((0 : Int32) = (0 : Int32))) => False.elim (absurd hc243_25 (by decide)))
      show own_F p e below s Z _ _ _ _ _ (T24.setTop (mkF m 248 #[.val (.int p0), .val (.int p1), .val (.int p2), .val (.int p3), .val (.int p4), .val (.int (0 : Int32)), .val (.int (0 : Int32)), .val (.ref b2), .val .null, .val (.ref b8), .val (.ref b13), .val (.ref aL), .val (.ref a_END)] []))
      refine own_F.of (fun _ => XS.aload S24.here S24.hx rfl (S24.dec at_248) rfl rfl) ?_
      show own_F p e below s Z _ _ _ _ _ (T24.setTop (mkF m 250 #[.val (.int p0), .val (.int p1), .val (.int p2), .val (.int p3), .val (.int p4), .val (.int (0 : Int32)), .val (.int (0 : Int32)), .val (.ref b2), .val .null, .val (.ref b8), .val (.ref b13), .val (.ref aL), .val (.ref a_END)] [(.ref b13)]))
      refine own_callV S24 (y := (⟨"com/example/tidemark/tidemark/PagedList", "nextKey", "()Ljava/lang/Object;"⟩ : MethodName)) (y' := (⟨"com/example/tidemark/tidemark/PagedList", "nextKey", "()Ljava/lang/Object;"⟩ : MethodName)) (own_w hw 137 rfl) (own_w hw 138 rfl) (own_nf S24 (own_w hw 140 rfl)) (own_w hw 140 rfl) (own_w hw 139 rfl) (own_w hw 141 rfl) (own_w hw 73 rfl) (by decide) X13 (argsL := []) (rest := []) (own_plK l Z a0 hw b13 .null h13 S24.old rfl Fk13) all0 (by decide +kernel : parseMethodDescriptor "()Ljava/lang/Object;" = some ⟨[], some (.object "java/lang/Object")⟩) rfl rfl rfl at_250 (by decide) (Nat.le_of_ble_eq_true rfl) (by decide) (by decide) (fun T26 h26 v26 S26 K26 q26 => ?_)
      obtain ⟨rfl, rfl⟩ := q26
      show own_F p e below s Z _ _ _ _ _ (T26.setTop (mkF m 253 #[.val (.int p0), .val (.int p1), .val (.int p2), .val (.int p3), .val (.int p4), .val (.int (0 : Int32)), .val (.int (0 : Int32)), .val (.ref b2), .val .null, .val (.ref b8), .val (.ref b13), .val (.ref aL), .val (.ref a_END)] [.null]))
      refine own_F.of (fun _ => XS.aload S26.here S26.hx rfl (S26.dec at_253) rfl rfl) ?_
      show own_F p e below s Z _ _ _ _ _ (T26.setTop (mkF m 255 #[.val (.int p0), .val (.int p1), .val (.int p2), .val (.int p3), .val (.int p4), .val (.int (0 : Int32)), .val (.int (0 : Int32)), .val (.ref b2), .val .null, .val (.ref b8), .val (.ref b13), .val (.ref aL), .val (.ref a_END)] [.null, .null]))
      refine own_acmp S26 rfl rfl 262 at_255 (by decide) (by decide) (fun (hc255_27 : ¬ (Value.null = Value.null)) => False.elim (hc255_27 rfl)) (fun (hc255_27 : Value.null = Value.null) => ?_)
      show own_F p e below s Z _ _ _ _ _ (T26.setTop (mkF m 258 #[.val (.int p0), .val (.int p1), .val (.int p2), .val (.int p3), .val (.int p4), .val (.int (0 : Int32)), .val (.int (0 : Int32)), .val (.ref b2), .val .null, .val (.ref b8), .val (.ref b13), .val (.ref aL), .val (.ref a_END)] []))
      refine own_F.of (fun _ => XS.iconst S26.here S26.hx rfl (S26.dec at_258)) ?_
      show own_F p e below s Z _ _ _ _ _ (T26.setTop (mkF m 259 #[.val (.int p0), .val (.int p1), .val (.int p2), .val (.int p3), .val (.int p4), .val (.int (0 : Int32)), .val (.int (0 : Int32)), .val (.ref b2), .val .null, .val (.ref b8), .val (.ref b13), .val (.ref aL), .val (.ref a_END)] [(.int (1 : Int32))]))
      refine own_F.of (fun _ => XS.goto S26.here S26.hx rfl (pc0 := 259) (pc' := 263) rfl (S26.dec at_259) (by decide) (by decide)) ?_
      show own_F p e below s Z _ _ _ _ _ (T26.setTop (mkF m 263 #[.val (.int p0), .val (.int p1), .val (.int p2), .val (.int p3), .val (.int p4), .val (.int (0 : Int32)), .val (.int (0 : Int32)), .val (.ref b2), .val .null, .val (.ref b8), .val (.ref b13), .val (.ref aL), .val (.ref a_END)] [(.int (1 : Int32))]))
      refine own_retZ S26 (by simp) at_263 (by decide) (by decide) ?_
      rfl
    · show own_F p e below s Z _ _ _ _ _ (T0.setTop (mkF m 11 #[.val (.int p0), .val (.int p1), .val (.int p2), .val (.int p3), .val (.int p4), .val (.int (0 : Int32)), .unset, .unset, .unset, .unset, .unset, .unset, .unset] []))
      refine own_F.of (fun _ => XS.iconst S0.here S0.hx rfl (S0.dec at_11)) ?_
      show own_F p e below s Z _ _ _ _ _ (T0.setTop (mkF m 12 #[.val (.int p0), .val (.int p1), .val (.int p2), .val (.int p3), .val (.int p4), .val (.int (0 : Int32)), .unset, .unset, .unset, .unset, .unset, .unset, .unset] [(.int (1 : Int32))]))
      refine own_F.of (fun _ => XS.goto S0.here S0.hx rfl (pc0 := 12) (pc' := 16) rfl (S0.dec at_12) (by decide) (by decide)) ?_
      show own_F p e below s Z _ _ _ _ _ (T0.setTop (mkF m 16 #[.val (.int p0), .val (.int p1), .val (.int p2), .val (.int p3), .val (.int p4), .val (.int (0 : Int32)), .unset, .unset, .unset, .unset, .unset, .unset, .unset] [(.int (1 : Int32))]))
      refine own_F.of (fun _ => XS.istore S0.here S0.hx rfl (S0.dec at_16) rfl (l' := #[.val (.int p0), .val (.int p1), .val (.int p2), .val (.int p3), .val (.int p4), .val (.int (0 : Int32)), .val (.int (1 : Int32)), .unset, .unset, .unset, .unset, .unset, .unset]) rfl) ?_
      show own_F p e below s Z _ _ _ _ _ (T0.setTop (mkF m 18 #[.val (.int p0), .val (.int p1), .val (.int p2), .val (.int p3), .val (.int p4), .val (.int (0 : Int32)), .val (.int (1 : Int32)), .unset, .unset, .unset, .unset, .unset, .unset] []))
      refine own_new S0 (own_w hw 0 rfl) (own_w hw 1 rfl) (own_w hw 2 rfl) at_18 (by decide) (by decide) (fun T28 h28 b28 g28 S28 E28 A28 D28 => ?_)
      have F28_modCount : Fld Z h28 b28 "java/util/AbstractList" "modCount" "I" (.int (0 : Int32)) := (D28 (Or.inl (own_w hw 22 rfl)) (ty := .int) (by decide))
      have F28_elementData : Fld Z h28 b28 "java/util/ArrayList" "elementData" "[Ljava/lang/Object;" .null := (D28 (Or.inl (own_w hw 25 rfl)) (ty := (.array (.object "java/lang/Object"))) (by decide))
      have F28_size : Fld Z h28 b28 "java/util/ArrayList" "size" "I" (.int (0 : Int32)) := (D28 (Or.inl (own_w hw 62 rfl)) (ty := .int) (by decide))
      show own_F p e below s Z _ _ _ _ _ (T28.setTop (mkF m 21 #[.val (.int p0), .val (.int p1), .val (.int p2), .val (.int p3), .val (.int p4), .val (.int (0 : Int32)), .val (.int (1 : Int32)), .unset, .unset, .unset, .unset, .unset, .unset] [(.ref b28)]))
      refine own_F.of (fun _ => XS.dup S28.here S28.hx rfl (S28.dec at_21) rfl rfl) ?_
      show own_F p e below s Z _ _ _ _ _ (T28.setTop (mkF m 22 #[.val (.int p0), .val (.int p1), .val (.int p2), .val (.int p3), .val (.int p4), .val (.int (0 : Int32)), .val (.int (1 : Int32)), .unset, .unset, .unset, .unset, .unset, .unset] [(.ref b28), (.ref b28)]))
      refine own_callI S28 (y := (⟨"java/util/ArrayList", "<init>", "()V"⟩ : MethodName)) rfl (own_w hw 3 rfl) (own_w hw 4 rfl) (own_w hw 2 rfl) (own_w hw 5 rfl) (by decide) (argsL := []) (rest := [(.ref b28)]) (own_ALI l Z a0 hw b28 aD h28 S28.old SD AD (own_mayN S28 (Or.inr (by rw [g28]; exact S0.size))) A28 F28_modCount F28_elementData F28_size) (allS (Or.inr (by rw [g28]; exact S0.size)) all0) (by decide +kernel : parseMethodDescriptor "()V" = some ⟨[], none⟩) rfl rfl rfl at_22 (by decide) (Nat.le_of_ble_eq_true rfl) (by decide) (by decide) (fun T29 h29 v29 S29 K29 q29 => ?_)
      obtain ⟨rfl, Fm29, Fe29, Fs29⟩ := q29
      show own_F p e below s Z _ _ _ _ _ (T29.setTop (mkF m 25 #[.val (.int p0), .val (.int p1), .val (.int p2), .val (.int p3), .val (.int p4), .val (.int (0 : Int32)), .val (.int (1 : Int32)), .unset, .unset, .unset, .unset, .unset, .unset] [(.ref b28)]))
      refine own_F.of (fun _ => XS.astore S29.here S29.hx rfl (S29.dec at_25) rfl rfl (l' := #[.val (.int p0), .val (.int p1), .val (.int p2), .val (.int p3), .val (.int p4), .val (.int (0 : Int32)), .val (.int (1 : Int32)), .val (.ref b28), .unset, .unset, .unset, .unset, .unset]) rfl) ?_
      show own_F p e below s Z _ _ _ _ _ (T29.setTop (mkF m 27 #[.val (.int p0), .val (.int p1), .val (.int p2), .val (.int p3), .val (.int p4), .val (.int (0 : Int32)), .val (.int (1 : Int32)), .val (.ref b28), .unset, .unset, .unset, .unset, .unset] []))
      refine own_F.of (fun _ => XS.iload S29.here S29.hx rfl (S29.dec at_27) rfl) ?_
      show own_F p e below s Z _ _ _ _ _ (T29.setTop (mkF m 29 #[.val (.int p0), .val (.int p1), .val (.int p2), .val (.int p3), .val (.int p4), .val (.int (0 : Int32)), .val (.int (1 : Int32)), .val (.ref b28), .unset, .unset, .unset, .unset, .unset] [(.int (0 : Int32))]))
      refine own_if S29 42 at_29 (by decide) (by decide) (fun (hc29_30 : ¬ ((0 : Int32) < (0 : Int32))) => ?_) (fun (hc29_30 : (0 : Int32) < (0 : Int32)) => False.elim (absurd hc29_30 (by decide)))
      show own_F p e below s Z _ _ _ _ _ (T29.setTop (mkF m 42 #[.val (.int p0), .val (.int p1), .val (.int p2), .val (.int p3), .val (.int p4), .val (.int (0 : Int32)), .val (.int (1 : Int32)), .val (.ref b28), .unset, .unset, .unset, .unset, .unset] []))
      refine own_F.of (fun _ => XS.iload S29.here S29.hx rfl (S29.dec at_42) rfl) ?_
      show own_F p e below s Z _ _ _ _ _ (T29.setTop (mkF m 44 #[.val (.int p0), .val (.int p1), .val (.int p2), .val (.int p3), .val (.int p4), .val (.int (0 : Int32)), .val (.int (1 : Int32)), .val (.ref b28), .unset, .unset, .unset, .unset, .unset] [(.int (0 : Int32))]))
      refine own_F.of (fun _ => XS.iconst S29.here S29.hx rfl (S29.dec at_44)) ?_
      show own_F p e below s Z _ _ _ _ _ (T29.setTop (mkF m 45 #[.val (.int p0), .val (.int p1), .val (.int p2), .val (.int p3), .val (.int p4), .val (.int (0 : Int32)), .val (.int (1 : Int32)), .val (.ref b28), .unset, .unset, .unset, .unset, .unset] [(.int (1 : Int32)), (.int (0 : Int32))]))
      refine own_icmp S29 58 at_45 (by decide) (by decide) (fun (hc45_31 : ¬ ((1 : Int32) < (0 : Int32))) => ?_) (fun (hc45_31 : (1 : Int32) < (0 : Int32)) => False.elim (absurd hc45_31 (by decide)))
      show own_F p e below s Z _ _ _ _ _ (T29.setTop (mkF m 58 #[.val (.int p0), .val (.int p1), .val (.int p2), .val (.int p3), .val (.int p4), .val (.int (0 : Int32)), .val (.int (1 : Int32)), .val (.ref b28), .unset, .unset, .unset, .unset, .unset] []))
      refine own_F.of (fun _ => XS.iload S29.here S29.hx rfl (S29.dec at_58) rfl) ?_
      show own_F p e below s Z _ _ _ _ _ (T29.setTop (mkF m 60 #[.val (.int p0), .val (.int p1), .val (.int p2), .val (.int p3), .val (.int p4), .val (.int (0 : Int32)), .val (.int (1 : Int32)), .val (.ref b28), .unset, .unset, .unset, .unset, .unset] [(.int (0 : Int32))]))
      refine own_F.of (fun _ => XS.iconst S29.here S29.hx rfl (S29.dec at_60)) ?_
      show own_F p e below s Z _ _ _ _ _ (T29.setTop (mkF m 61 #[.val (.int p0), .val (.int p1), .val (.int p2), .val (.int p3), .val (.int p4), .val (.int (0 : Int32)), .val (.int (1 : Int32)), .val (.ref b28), .unset, .unset, .unset, .unset, .unset] [(.int (2 : Int32)), (.int (0 : Int32))]))
      refine own_icmp S29 74 at_61 (by decide) (by decide) (fun (hc61_32 : ¬ ((2 : Int32) < (0 : Int32))) => ?_) (fun (hc61_32 : (2 : Int32) < (0 : Int32)) => False.elim (absurd hc61_32 (by decide)))
      show own_F p e below s Z _ _ _ _ _ (T29.setTop (mkF m 74 #[.val (.int p0), .val (.int p1), .val (.int p2), .val (.int p3), .val (.int p4), .val (.int (0 : Int32)), .val (.int (1 : Int32)), .val (.ref b28), .unset, .unset, .unset, .unset, .unset] []))
      refine own_F.of (fun _ => XS.iload S29.here S29.hx rfl (S29.dec at_74) rfl) ?_
      show own_F p e below s Z _ _ _ _ _ (T29.setTop (mkF m 76 #[.val (.int p0), .val (.int p1), .val (.int p2), .val (.int p3), .val (.int p4), .val (.int (0 : Int32)), .val (.int (1 : Int32)), .val (.ref b28), .unset, .unset, .unset, .unset, .unset] [(.int (1 : Int32))]))
      refine own_if S29 87 at_76 (by decide) (by decide) (fun (hc76_33 : (1 : Int32) = (0 : Int32)) => False.elim (absurd hc76_33 (by decide))) (fun (hc76_33 : ¬ ((1 : Int32) = (0 : Int32))) => ?_)
      show own_F p e below s Z _ _ _ _ _ (T29.setTop (mkF m 79 #[.val (.int p0), .val (.int p1), .val (.int p2), .val (.int p3), .val (.int p4), .val (.int (0 : Int32)), .val (.int (1 : Int32)), .val (.ref b28), .unset, .unset, .unset, .unset, .unset] []))
      refine own_F.of (fun _ => XS.iload S29.here S29.hx rfl (S29.dec at_79) rfl) ?_
      show own_F p e below s Z _ _ _ _ _ (T29.setTop (mkF m 81 #[.val (.int p0), .val (.int p1), .val (.int p2), .val (.int p3), .val (.int p4), .val (.int (0 : Int32)), .val (.int (1 : Int32)), .val (.ref b28), .unset, .unset, .unset, .unset, .unset] [(.int p4)]))
      refine own_callS S29 (y := (⟨"java/lang/Integer", "valueOf", "(I)Ljava/lang/Integer;"⟩ : MethodName)) (own_w hw 142 rfl) (own_w hw 143 rfl) (own_w hw 144 rfl) (own_w hw 145 rfl) (by decide) (argsL := [(.int p4)]) (rest := []) (own_vOfI l Z a0 hw p4 aCI clCI h29 S29.old SHi SCaI BXI) all0 (by decide +kernel : parseMethodDescriptor "(I)Ljava/lang/Integer;" = some ⟨[.int], some (.object "java/lang/Integer")⟩) rfl rfl rfl at_81 (by decide) (Nat.le_of_ble_eq_true rfl) (by decide) (by decide) (fun T34 h34 v34 S34 K34 q34 => ?_)
      obtain ⟨b34, rfl, X34, F34⟩ := q34
      show own_F p e below s Z _ _ _ _ _ (T34.setTop (mkF m 84 #[.val (.int p0), .val (.int p1), .val (.int p2), .val (.int p3), .val (.int p4), .val (.int (0 : Int32)), .val (.int (1 : Int32)), .val (.ref b28), .unset, .unset, .unset, .unset, .unset] [(.ref b34)]))
      refine own_F.of (fun _ => XS.goto S34.here S34.hx rfl (pc0 := 84) (pc' := 88) rfl (S34.dec at_84) (by decide) (by decide)) ?_
      show own_F p e below s Z _ _ _ _ _ (T34.setTop (mkF m 88 #[.val (.int p0), .val (.int p1), .val (.int p2), .val (.int p3), .val (.int p4), .val (.int (0 : Int32)), .val (.int (1 : Int32)), .val (.ref b28), .unset, .unset, .unset, .unset, .unset] [(.ref b34)]))
      refine own_F.of (fun _ => XS.astore S34.here S34.hx rfl (S34.dec at_88) rfl rfl (l' := #[.val (.int p0), .val (.int p1), .val (.int p2), .val (.int p3), .val (.int p4), .val (.int (0 : Int32)), .val (.int (1 : Int32)), .val (.ref b28), .val (.ref b34), .unset, .unset, .unset, .unset]) rfl) ?_
      show own_F p e below s Z _ _ _ _ _ (T34.setTop (mkF m 90 #[.val (.int p0), .val (.int p1), .val (.int p2), .val (.int p3), .val (.int p4), .val (.int (0 : Int32)), .val (.int (1 : Int32)), .val (.ref b28), .val (.ref b34), .unset, .unset, .unset, .unset] []))
      refine own_new S34 (own_w hw 26 rfl) (own_w hw 27 rfl) (own_w hw 28 rfl) at_90 (by decide) (by decide) (fun T35 h35 b35 g35 S35 E35 A35 D35 => ?_)
      have F35_items : Fld Z h35 b35 "com/example/tidemark/tidemark/Page" "items" "Ljava/util/List;" .null := (D35 (Or.inr (own_w hw 68 rfl)) (ty := (.object "java/util/List")) (by decide))
      have F35_nextKey : Fld Z h35 b35 "com/example/tidemark/tidemark/Page" "nextKey" "Ljava/lang/Object;" .null := (D35 (Or.inr (own_w hw 70 rfl)) (ty := (.object "java/lang/Object")) (by decide))
      show own_F p e below s Z _ _ _ _ _ (T35.setTop (mkF m 93 #[.val (.int p0), .val (.int p1), .val (.int p2), .val (.int p3), .val (.int p4), .val (.int (0 : Int32)), .val (.int (1 : Int32)), .val (.ref b28), .val (.ref b34), .unset, .unset, .unset, .unset] [(.ref b35)]))
      refine own_F.of (fun _ => XS.dup S35.here S35.hx rfl (S35.dec at_93) rfl rfl) ?_
      show own_F p e below s Z _ _ _ _ _ (T35.setTop (mkF m 94 #[.val (.int p0), .val (.int p1), .val (.int p2), .val (.int p3), .val (.int p4), .val (.int (0 : Int32)), .val (.int (1 : Int32)), .val (.ref b28), .val (.ref b34), .unset, .unset, .unset, .unset] [(.ref b35), (.ref b35)]))
      refine own_F.of (fun _ => XS.aload S35.here S35.hx rfl (S35.dec at_94) rfl rfl) ?_
      show own_F p e below s Z _ _ _ _ _ (T35.setTop (mkF m 96 #[.val (.int p0), .val (.int p1), .val (.int p2), .val (.int p3), .val (.int p4), .val (.int (0 : Int32)), .val (.int (1 : Int32)), .val (.ref b28), .val (.ref b34), .unset, .unset, .unset, .unset] [(.ref b28), (.ref b35), (.ref b35)]))
      refine own_F.of (fun _ => XS.aload S35.here S35.hx rfl (S35.dec at_96) rfl rfl) ?_
      show own_F p e below s Z _ _ _ _ _ (T35.setTop (mkF m 98 #[.val (.int p0), .val (.int p1), .val (.int p2), .val (.int p3), .val (.int p4), .val (.int (0 : Int32)), .val (.int (1 : Int32)), .val (.ref b28), .val (.ref b34), .unset, .unset, .unset, .unset] [(.ref b34), (.ref b28), (.ref b35), (.ref b35)]))
      have fq36 := (((A28.keep K29).keep K34).ext E35)
      have fq37 := ((Fs29.keep K34 nin0).ext E35)
      refine own_callI S35 (y := (⟨"com/example/tidemark/tidemark/Page", "<init>", "(Ljava/util/List;Ljava/lang/Object;)V"⟩ : MethodName)) rfl (own_w hw 29 rfl) (own_w hw 30 rfl) (own_w hw 28 rfl) (own_w hw 31 rfl) (by decide) (argsL := [(.ref b28), (.ref b34)]) (rest := [(.ref b35)]) (own_Page0 l Z a0 hw b35 b28 (.ref b34) aL h35 S35.old rfl SL (own_mayN S35 (Or.inr (by rw [g35]; exact S34.size))) A35 F35_items F35_nextKey fq36 fq37) (allS (Or.inr (by rw [g35]; exact S34.size)) all0) (by decide +kernel : parseMethodDescriptor "(Ljava/util/List;Ljava/lang/Object;)V" = some ⟨[(.object "java/util/List"), (.object "java/lang/Object")], none⟩) rfl rfl rfl at_98 (by decide) (Nat.le_of_ble_eq_true rfl) (by decide) (by decide) (fun T38 h38 v38 S38 K38 q38 => ?_)
      obtain ⟨rfl, Fi38, Fk38⟩ := q38
      show own_F p e below s Z _ _ _ _ _ (T38.setTop (mkF m 101 #[.val (.int p0), .val (.int p1), .val (.int p2), .val (.int p3), .val (.int p4), .val (.int (0 : Int32)), .val (.int (1 : Int32)), .val (.ref b28), .val (.ref b34), .unset, .unset, .unset, .unset] [(.ref b35)]))
      refine own_F.of (fun _ => XS.astore S38.here S38.hx rfl (S38.dec at_101) rfl rfl (l' := #[.val (.int p0), .val (.int p1), .val (.int p2), .val (.int p3), .val (.int p4), .val (.int (0 : Int32)), .val (.int (1 : Int32)), .val (.ref b28), .val (.ref b34), .val (.ref b35), .unset, .unset, .unset]) rfl) ?_
      show own_F p e below s Z _ _ _ _ _ (T38.setTop (mkF m 103 #[.val (.int p0), .val (.int p1), .val (.int p2), .val (.int p3), .val (.int p4), .val (.int (0 : Int32)), .val (.int (1 : Int32)), .val (.ref b28), .val (.ref b34), .val (.ref b35), .unset, .unset, .unset] []))
      refine own_F.of (fun _ => XS.aload S38.here S38.hx rfl (S38.dec at_103) rfl rfl) ?_
      show own_F p e below s Z _ _ _ _ _ (T38.setTop (mkF m 105 #[.val (.int p0), .val (.int p1), .val (.int p2), .val (.int p3), .val (.int p4), .val (.int (0 : Int32)), .val (.int (1 : Int32)), .val (.ref b28), .val (.ref b34), .val (.ref b35), .unset, .unset, .unset] [(.ref b35)]))
      have fq39 := (A35.keep K38)
      refine own_callS S38 (y := (⟨"com/example/tidemark/tidemark/PagedList", "first", "(Lcom/example/tidemark/tidemark/Page;)Lcom/example/tidemark/tidemark/PagedList;"⟩ : MethodName)) (own_w hw 71 rfl) (own_w hw 72 rfl) (own_w hw 73 rfl) (own_w hw 74 rfl) (by decide) (argsL := [(.ref b35)]) (rest := []) (own_firstR l Z a0 hw b35 aL b34 a_END a_IDLE a_FAILED h38 S38.old S_END S_IDLE S_FAILED fq39 Fi38 Fk38) all0 (by decide +kernel : parseMethodDescriptor "(Lcom/example/tidemark/tidemark/Page;)Lcom/example/tidemark/tidemark/PagedList;" = some ⟨[(.object "com/example/tidemark/tidemark/Page")], some (.object "com/example/tidemark/tidemark/PagedList")⟩) rfl rfl rfl at_105 (by decide) (Nat.le_of_ble_eq_true rfl) (by decide) (by decide) (fun T40 h40 v40 S40 K40 q40 => ?_)
      obtain ⟨b40, rfl, X40, Fi40, Ff40, Fk40⟩ := q40
      show own_F p e below s Z _ _ _ _ _ (T40.setTop (mkF m 108 #[.val (.int p0), .val (.int p1), .val (.int p2), .val (.int p3), .val (.int p4), .val (.int (0 : Int32)), .val (.int (1 : Int32)), .val (.ref b28), .val (.ref b34), .val (.ref b35), .unset, .unset, .unset] [(.ref b40)]))
      refine own_F.of (fun _ => XS.astore S40.here S40.hx rfl (S40.dec at_108) rfl rfl (l' := #[.val (.int p0), .val (.int p1), .val (.int p2), .val (.int p3), .val (.int p4), .val (.int (0 : Int32)), .val (.int (1 : Int32)), .val (.ref b28), .val (.ref b34), .val (.ref b35), .val (.ref b40), .unset, .unset]) rfl) ?_
      show own_F p e below s Z _ _ _ _ _ (T40.setTop (mkF m 110 #[.val (.int p0), .val (.int p1), .val (.int p2), .val (.int p3), .val (.int p4), .val (.int (0 : Int32)), .val (.int (1 : Int32)), .val (.ref b28), .val (.ref b34), .val (.ref b35), .val (.ref b40), .unset, .unset] []))
      refine own_F.of (fun _ => XS.aload S40.here S40.hx rfl (S40.dec at_110) rfl rfl) ?_
      show own_F p e below s Z _ _ _ _ _ (T40.setTop (mkF m 112 #[.val (.int p0), .val (.int p1), .val (.int p2), .val (.int p3), .val (.int p4), .val (.int (0 : Int32)), .val (.int (1 : Int32)), .val (.ref b28), .val (.ref b34), .val (.ref b35), .val (.ref b40), .unset, .unset] [(.ref b40)]))
      refine own_callV S40 (y := (⟨"com/example/tidemark/tidemark/PagedList", "items", "()Ljava/util/List;"⟩ : MethodName)) (y' := (⟨"com/example/tidemark/tidemark/PagedList", "items", "()Ljava/util/List;"⟩ : MethodName)) (own_w hw 105 rfl) (own_w hw 106 rfl) (own_nf S40 (own_w hw 108 rfl)) (own_w hw 108 rfl) (own_w hw 107 rfl) (own_w hw 109 rfl) (own_w hw 73 rfl) (by decide) X40 (argsL := []) (rest := []) (own_plI l Z a0 hw b40 (.ref aL) h40 S40.old rfl Fi40) all0 (by decide +kernel : parseMethodDescriptor "()Ljava/util/List;" = some ⟨[], some (.object "java/util/List")⟩) rfl rfl rfl at_112 (by decide) (Nat.le_of_ble_eq_true rfl) (by decide) (by decide) (fun T41 h41 v41 S41 K41 q41 => ?_)
      obtain ⟨rfl, rfl⟩ := q41
      show own_F p e below s Z _ _ _ _ _ (T41.setTop (mkF m 115 #[.val (.int p0), .val (.int p1), .val (.int p2), .val (.int p3), .val (.int p4), .val (.int (0 : Int32)), .val (.int (1 : Int32)), .val (.ref b28), .val (.ref b34), .val (.ref b35), .val (.ref b40), .unset, .unset] [(.ref aL)]))
      refine own_F.of (fun _ => XS.astore S41.here S41.hx rfl (S41.dec at_115) rfl rfl (l' := #[.val (.int p0), .val (.int p1), .val (.int p2), .val (.int p3), .val (.int p4), .val (.int (0 : Int32)), .val (.int (1 : Int32)), .val (.ref b28), .val (.ref b34), .val (.ref b35), .val (.ref b40), .val (.ref aL), .unset]) rfl) ?_
      show own_F p e below s Z _ _ _ _ _ (T41.setTop (mkF m 117 #[.val (.int p0), .val (.int p1), .val (.int p2), .val (.int p3), .val (.int p4), .val (.int (0 : Int32)), .val (.int (1 : Int32)), .val (.ref b28), .val (.ref b34), .val (.ref b35), .val (.ref b40), .val (.ref aL), .unset] []))
      refine own_F.of (fun _ => XS.aload S41.here S41.hx rfl (S41.dec at_117) rfl rfl) ?_
      show own_F p e below s Z _ _ _ _ _ (T41.setTop (mkF m 119 #[.val (.int p0), .val (.int p1), .val (.int p2), .val (.int p3), .val (.int p4), .val (.int (0 : Int32)), .val (.int (1 : Int32)), .val (.ref b28), .val (.ref b34), .val (.ref b35), .val (.ref b40), .val (.ref aL), .unset] [(.ref aL)]))
      refine own_callX S41 (y := (⟨"java/util/List", "size", "()I"⟩ : MethodName)) (y' := (⟨"java/util/ImmutableCollections$ListN", "size", "()I"⟩ : MethodName)) (own_w hw 110 rfl) (own_w hw 111 rfl) (own_w hw 112 rfl) (own_w hw 113 rfl) (own_w hw 114 rfl) (own_w hw 115 rfl) (own_w hw 116 rfl) (own_w hw 117 rfl) (own_w hw 119 rfl) (own_w hw 118 rfl) (by decide) (XL.ext S41.old) (argsL := []) (rest := []) (own_szN0 l Z a0 hw aL aLe h40 S41.old (FL.ext S41.old) (AL0.ext S41.old)) all0 (by decide +kernel : parseMethodDescriptor "()I" = some ⟨[], some .int⟩) rfl rfl rfl at_119 (by decide) (Nat.le_of_ble_eq_true rfl) (by decide) (by decide) (fun T42 h42 v42 S42 K42 q42 => ?_)
      obtain ⟨rfl, rfl⟩ := q42
      show own_F p e below s Z _ _ _ _ _ (T42.setTop (mkF m 124 #[.val (.int p0), .val (.int p1), .val (.int p2), .val (.int p3), .val (.int p4), .val (.int (0 : Int32)), .val (.int (1 : Int32)), .val (.ref b28), .val (.ref b34), .val (.ref b35), .val (.ref b40), .val (.ref aL), .unset] [(.int (0 : Int32))]))
      refine own_F.of (fun _ => XS.iload S42.here S42.hx rfl (S42.dec at_124) rfl) ?_
      show own_F p e below s Z _ _ _ _ _ (T42.setTop (mkF m 126 #[.val (.int p0), .val (.int p1), .val (.int p2), .val (.int p3), .val (.int p4), .val (.int (0 : Int32)), .val (.int (1 : Int32)), .val (.ref b28), .val (.ref b34), .val (.ref b35), .val (.ref b40), .val (.ref aL), .unset] [(.int (0 : Int32)), (.int (0 : Int32))]))
      refine own_icmp S42 131 at_126 (by decide) (by decide) (fun (hc126_43 : (0 : Int32) = (0 : Int32)) => ?_) (fun (hc126_43 : ¬ ((0 : Int32) = (0 : Int32))) => False.elim (absurd hc126_43 (by decide)))
      show own_F p e below s Z _ _ _ _ _ (T42.setTop (mkF m 131 #[.val (.int p0), .val (.int p1), .val (.int p2), .val (.int p3), .val (.int p4), .val (.int (0 : Int32)), .val (.int (1 : Int32)), .val (.ref b28), .val (.ref b34), .val (.ref b35), .val (.ref b40), .val (.ref aL), .unset] []))
      refine own_F.of (fun _ => XS.iload S42.here S42.hx rfl (S42.dec at_131) rfl) ?_
      show own_F p e below s Z _ _ _ _ _ (T42.setTop (mkF m 133 #[.val (.int p0), .val (.int p1), .val (.int p2), .val (.int p3), .val (.int p4), .val (.int (0 : Int32)), .val (.int (1 : Int32)), .val (.ref b28), .val (.ref b34), .val (.ref b35), .val (.ref b40), .val (.ref aL), .unset] [(.int (0 : Int32))]))
      refine own_if S42 156 at_133 (by decide) (by decide) (fun (hc133_44 : ¬ ((0 : Int32) < (0 : Int32))) => ?_) (fun (hc133_44 : (0 : Int32) < (0 : Int32)) => False.elim (absurd hc133_44 (by decide)))
      show own_F p e below s Z _ _ _ _ _ (T42.setTop (mkF m 156 #[.val (.int p0), .val (.int p1), .val (.int p2), .val (.int p3), .val (.int p4), .val (.int (0 : Int32)), .val (.int (1 : Int32)), .val (.ref b28), .val (.ref b34), .val (.ref b35), .val (.ref b40), .val (.ref aL), .unset] []))
      refine own_F.of (fun _ => XS.iload S42.here S42.hx rfl (S42.dec at_156) rfl) ?_
      show own_F p e below s Z _ _ _ _ _ (T42.setTop (mkF m 158 #[.val (.int p0), .val (.int p1), .val (.int p2), .val (.int p3), .val (.int p4), .val (.int (0 : Int32)), .val (.int (1 : Int32)), .val (.ref b28), .val (.ref b34), .val (.ref b35), .val (.ref b40), .val (.ref aL), .unset] [(.int (0 : Int32))]))
      refine own_F.of (fun _ => XS.iconst S42.here S42.hx rfl (S42.dec at_158)) ?_
      show own_F p e below s Z _ _ _ _ _ (T42.setTop (mkF m 159 #[.val (.int p0), .val (.int p1), .val (.int p2), .val (.int p3), .val (.int p4), .val (.int (0 : Int32)), .val (.int (1 : Int32)), .val (.ref b28), .val (.ref b34), .val (.ref b35), .val (.ref b40), .val (.ref aL), .unset] [(.int (1 : Int32)), (.int (0 : Int32))]))
      refine own_icmp S42 182 at_159 (by decide) (by decide) (fun (hc159_45 : ¬ ((1 : Int32) < (0 : Int32))) => ?_) (fun (hc159_45 : (1 : Int32) < (0 : Int32)) => False.elim (absurd hc159_45 (by decide)))
      show own_F p e below s Z _ _ _ _ _ (T42.setTop (mkF m 182 #[.val (.int p0), .val (.int p1), .val (.int p2), .val (.int p3), .val (.int p4), .val (.int (0 : Int32)), .val (.int (1 : Int32)), .val (.ref b28), .val (.ref b34), .val (.ref b35), .val (.ref b40), .val (.ref aL), .unset] []))
      refine own_F.of (fun _ => XS.iload S42.here S42.hx rfl (S42.dec at_182) rfl) ?_
      show own_F p e below s Z _ _ _ _ _ (T42.setTop (mkF m 184 #[.val (.int p0), .val (.int p1), .val (.int p2), .val (.int p3), .val (.int p4), .val (.int (0 : Int32)), .val (.int (1 : Int32)), .val (.ref b28), .val (.ref b34), .val (.ref b35), .val (.ref b40), .val (.ref aL), .unset] [(.int (0 : Int32))]))
      refine own_F.of (fun _ => XS.iconst S42.here S42.hx rfl (S42.dec at_184)) ?_
      show own_F p e below s Z _ _ _ _ _ (T42.setTop (mkF m 185 #[.val (.int p0), .val (.int p1), .val (.int p2), .val (.int p3), .val (.int p4), .val (.int (0 : Int32)), .val (.int (1 : Int32)), .val (.ref b28), .val (.ref b34), .val (.ref b35), .val (.ref b40), .val (.ref aL), .unset] [(.int (2 : Int32)), (.int (0 : Int32))]))
      refine own_icmp S42 208 at_185 (by decide) (by decide) (fun (hc185_46 : ¬ ((2 : Int32) < (0 : Int32))) => ?_) (fun (hc185_46 : (2 : Int32) < (0 : Int32)) => False.elim (absurd hc185_46 (by decide)))
      show own_F p e below s Z _ _ _ _ _ (T42.setTop (mkF m 208 #[.val (.int p0), .val (.int p1), .val (.int p2), .val (.int p3), .val (.int p4), .val (.int (0 : Int32)), .val (.int (1 : Int32)), .val (.ref b28), .val (.ref b34), .val (.ref b35), .val (.ref b40), .val (.ref aL), .unset] []))
      refine own_F.of (fun _ => XS.iload S42.here S42.hx rfl (S42.dec at_208) rfl) ?_
      show own_F p e below s Z _ _ _ _ _ (T42.setTop (mkF m 210 #[.val (.int p0), .val (.int p1), .val (.int p2), .val (.int p3), .val (.int p4), .val (.int (0 : Int32)), .val (.int (1 : Int32)), .val (.ref b28), .val (.ref b34), .val (.ref b35), .val (.ref b40), .val (.ref aL), .unset] [(.int (1 : Int32))]))
      refine own_if S42 219 at_210 (by decide) (by decide) (fun (hc210_47 : (1 : Int32) = (0 : Int32)) => False.elim (absurd hc210_47 (by decide))) (fun (hc210_47 : ¬ ((1 : Int32) = (0 : Int32))) => ?_)
      show own_F p e below s Z _ _ _ _ _ (T42.setTop (mkF m 213 #[.val (.int p0), .val (.int p1), .val (.int p2), .val (.int p3), .val (.int p4), .val (.int (0 : Int32)), .val (.int (1 : Int32)), .val (.ref b28), .val (.ref b34), .val (.ref b35), .val (.ref b40), .val (.ref aL), .unset] []))
      refine own_getS S42 (host := "") (Or.inl (own_w hw 269 rfl)) Via.refl (S_IDLE.ext S42.old) at_213 (fun T48 S48 => ?_)
      show own_F p e below s Z _ _ _ _ _ (T48.setTop (mkF m 216 #[.val (.int p0), .val (.int p1), .val (.int p2), .val (.int p3), .val (.int p4), .val (.int (0 : Int32)), .val (.int (1 : Int32)), .val (.ref b28), .val (.ref b34), .val (.ref b35), .val (.ref b40), .val (.ref aL), .unset] [(.ref a_IDLE)]))
      refine own_F.of (fun _ => XS.goto S48.here S48.hx rfl (pc0 := 216) (pc' := 222) rfl (S48.dec at_216) (by decide) (by decide)) ?_
      show own_F p e below s Z _ _ _ _ _ (T48.setTop (mkF m 222 #[.val (.int p0), .val (.int p1), .val (.int p2), .val (.int p3), .val (.int p4), .val (.int (0 : Int32)), .val (.int (1 : Int32)), .val (.ref b28), .val (.ref b34), .val (.ref b35), .val (.ref b40), .val (.ref aL), .unset] [(.ref a_IDLE)]))
      refine own_F.of (fun _ => XS.astore S48.here S48.hx rfl (S48.dec at_222) rfl rfl (l' := #[.val (.int p0), .val (.int p1), .val (.int p2), .val (.int p3), .val (.int p4), .val (.int (0 : Int32)), .val (.int (1 : Int32)), .val (.ref b28), .val (.ref b34), .val (.ref b35), .val (.ref b40), .val (.ref aL), .val (.ref a_IDLE)]) rfl) ?_
      show own_F p e below s Z _ _ _ _ _ (T48.setTop (mkF m 224 #[.val (.int p0), .val (.int p1), .val (.int p2), .val (.int p3), .val (.int p4), .val (.int (0 : Int32)), .val (.int (1 : Int32)), .val (.ref b28), .val (.ref b34), .val (.ref b35), .val (.ref b40), .val (.ref aL), .val (.ref a_IDLE)] []))
      refine own_F.of (fun _ => XS.aload S48.here S48.hx rfl (S48.dec at_224) rfl rfl) ?_
      show own_F p e below s Z _ _ _ _ _ (T48.setTop (mkF m 226 #[.val (.int p0), .val (.int p1), .val (.int p2), .val (.int p3), .val (.int p4), .val (.int (0 : Int32)), .val (.int (1 : Int32)), .val (.ref b28), .val (.ref b34), .val (.ref b35), .val (.ref b40), .val (.ref aL), .val (.ref a_IDLE)] [(.ref b40)]))
      refine own_callV S48 (y := (⟨"com/example/tidemark/tidemark/PagedList", "footer", "()Lcom/example/tidemark/tidemark/PagedList$Footer;"⟩ : MethodName)) (y' := (⟨"com/example/tidemark/tidemark/PagedList", "footer", "()Lcom/example/tidemark/tidemark/PagedList$Footer;"⟩ : MethodName)) (own_w hw 123 rfl) (own_w hw 124 rfl) (own_nf S48 (own_w hw 126 rfl)) (own_w hw 126 rfl) (own_w hw 125 rfl) (own_w hw 127 rfl) (own_w hw 73 rfl) (by decide) X40 (argsL := []) (rest := []) (own_plF l Z a0 hw b40 (.ref a_IDLE) h40 S48.old rfl Ff40) all0 (by decide +kernel : parseMethodDescriptor "()Lcom/example/tidemark/tidemark/PagedList$Footer;" = some ⟨[], some (.object "com/example/tidemark/tidemark/PagedList$Footer")⟩) rfl rfl rfl at_226 (by decide) (Nat.le_of_ble_eq_true rfl) (by decide) (by decide) (fun T49 h49 v49 S49 K49 q49 => ?_)
      obtain ⟨rfl, rfl⟩ := q49
      show own_F p e below s Z _ _ _ _ _ (T49.setTop (mkF m 229 #[.val (.int p0), .val (.int p1), .val (.int p2), .val (.int p3), .val (.int p4), .val (.int (0 : Int32)), .val (.int (1 : Int32)), .val (.ref b28), .val (.ref b34), .val (.ref b35), .val (.ref b40), .val (.ref aL), .val (.ref a_IDLE)] [(.ref a_IDLE)]))
      refine own_F.of (fun _ => XS.aload S49.here S49.hx rfl (S49.dec at_229) rfl rfl) ?_
      show own_F p e below s Z _ _ _ _ _ (T49.setTop (mkF m 231 #[.val (.int p0), .val (.int p1), .val (.int p2), .val (.int p3), .val (.int p4), .val (.int (0 : Int32)), .val (.int (1 : Int32)), .val (.ref b28), .val (.ref b34), .val (.ref b35), .val (.ref b40), .val (.ref aL), .val (.ref a_IDLE)] [(.ref a_IDLE), (.ref a_IDLE)]))
      refine own_acmp S49 rfl rfl 236 at_231 (by decide) (by decide) (fun (hc231_50 : (Value.ref a_IDLE) = (Value.ref a_IDLE)) => ?_) (fun (hc231_50 : ¬ ((Value.ref a_IDLE) = (Value.ref a_IDLE))) => False.elim (hc231_50 rfl))
      show own_F p e below s Z _ _ _ _ _ (T49.setTop (mkF m 236 #[.val (.int p0), .val (.int p1), .val (.int p2), .val (.int p3), .val (.int p4), .val (.int (0 : Int32)), .val (.int (1 : Int32)), .val (.ref b28), .val (.ref b34), .val (.ref b35), .val (.ref b40), .val (.ref aL), .val (.ref a_IDLE)] []))
      refine own_F.of (fun _ => XS.aload S49.here S49.hx rfl (S49.dec at_236) rfl rfl) ?_
      show own_F p e below s Z _ _ _ _ _ (T49.setTop (mkF m 238 #[.val (.int p0), .val (.int p1), .val (.int p2), .val (.int p3), .val (.int p4), .val (.int (0 : Int32)), .val (.int (1 : Int32)), .val (.ref b28), .val (.ref b34), .val (.ref b35), .val (.ref b40), .val (.ref aL), .val (.ref a_IDLE)] [(.ref b40)]))
      refine own_callV S49 (y := (⟨"com/example/tidemark/tidemark/PagedList", "canLoadMore", "()Z"⟩ : MethodName)) (y' := (⟨"com/example/tidemark/tidemark/PagedList", "canLoadMore", "()Z"⟩ : MethodName)) (own_w hw 128 rfl) (own_w hw 129 rfl) (own_nf S49 (own_w hw 131 rfl)) (own_w hw 131 rfl) (own_w hw 130 rfl) (own_w hw 132 rfl) (own_w hw 73 rfl) (by decide) X40 (argsL := []) (rest := []) (own_canR l Z a0 hw b40 a_END a_IDLE a_FAILED h40 S49.old S_END S_IDLE S_FAILED Ff40) all0 (by decide +kernel : parseMethodDescriptor "()Z" = some ⟨[], some .boolean⟩) rfl rfl rfl at_238 (by decide) (Nat.le_of_ble_eq_true rfl) (by decide) (by decide) (fun T51 h51 v51 S51 K51 q51 => ?_)
      obtain ⟨rfl, rfl⟩ := q51
      show own_F p e below s Z _ _ _ _ _ (T51.setTop (mkF m 241 #[.val (.int p0), .val (.int p1), .val (.int p2), .val (.int p3), .val (.int p4), .val (.int (0 : Int32)), .val (.int (1 : Int32)), .val (.ref b28), .val (.ref b34), .val (.ref b35), .val (.ref b40), .val (.ref aL), .val (.ref a_IDLE)] [(.int (1 : Int32))]))
      refine own_F.of (fun _ => XS.iload S51.here S51.hx rfl (S51.dec at_241) rfl) ?_
      show own_F p e below s Z _ _ _ _ _ (T51.setTop (mkF m 243 #[.val (.int p0), .val (.int p1), .val (.int p2), .val (.int p3), .val (.int p4), .val (.int (0 : Int32)), .val (.int (1 : Int32)), .val (.ref b28), .val (.ref b34), .val (.ref b35), .val (.ref b40), .val (.ref aL), .val (.ref a_IDLE)] [(.int (1 : Int32)), (.int (1 : Int32))]))
      refine own_icmp S51 248 at_243 (by decide) (by decide) (fun (hc243_52 : (1 : Int32) = (1 : Int32)) => ?_) (fun (hc243_52 : ¬ ((1 : Int32) = (1 : Int32))) => False.elim (absurd hc243_52 (by decide)))
      show own_F p e below s Z _ _ _ _ _ (T51.setTop (mkF m 248 #[.val (.int p0), .val (.int p1), .val (.int p2), .val (.int p3), .val (.int p4), .val (.int (0 : Int32)), .val (.int (1 : Int32)), .val (.ref b28), .val (.ref b34), .val (.ref b35), .val (.ref b40), .val (.ref aL), .val (.ref a_IDLE)] []))
      refine own_F.of (fun _ => XS.aload S51.here S51.hx rfl (S51.dec at_248) rfl rfl) ?_
      show own_F p e below s Z _ _ _ _ _ (T51.setTop (mkF m 250 #[.val (.int p0), .val (.int p1), .val (.int p2), .val (.int p3), .val (.int p4), .val (.int (0 : Int32)), .val (.int (1 : Int32)), .val (.ref b28), .val (.ref b34), .val (.ref b35), .val (.ref b40), .val (.ref aL), .val (.ref a_IDLE)] [(.ref b40)]))
      refine own_callV S51 (y := (⟨"com/example/tidemark/tidemark/PagedList", "nextKey", "()Ljava/lang/Object;"⟩ : MethodName)) (y' := (⟨"com/example/tidemark/tidemark/PagedList", "nextKey", "()Ljava/lang/Object;"⟩ : MethodName)) (own_w hw 137 rfl) (own_w hw 138 rfl) (own_nf S51 (own_w hw 140 rfl)) (own_w hw 140 rfl) (own_w hw 139 rfl) (own_w hw 141 rfl) (own_w hw 73 rfl) (by decide) X40 (argsL := []) (rest := []) (own_plK l Z a0 hw b40 (.ref b34) h40 S51.old rfl Fk40) all0 (by decide +kernel : parseMethodDescriptor "()Ljava/lang/Object;" = some ⟨[], some (.object "java/lang/Object")⟩) rfl rfl rfl at_250 (by decide) (Nat.le_of_ble_eq_true rfl) (by decide) (by decide) (fun T53 h53 v53 S53 K53 q53 => ?_)
      obtain ⟨rfl, rfl⟩ := q53
      show own_F p e below s Z _ _ _ _ _ (T53.setTop (mkF m 253 #[.val (.int p0), .val (.int p1), .val (.int p2), .val (.int p3), .val (.int p4), .val (.int (0 : Int32)), .val (.int (1 : Int32)), .val (.ref b28), .val (.ref b34), .val (.ref b35), .val (.ref b40), .val (.ref aL), .val (.ref a_IDLE)] [(.ref b34)]))
      refine own_F.of (fun _ => XS.aload S53.here S53.hx rfl (S53.dec at_253) rfl rfl) ?_
      show own_F p e below s Z _ _ _ _ _ (T53.setTop (mkF m 255 #[.val (.int p0), .val (.int p1), .val (.int p2), .val (.int p3), .val (.int p4), .val (.int (0 : Int32)), .val (.int (1 : Int32)), .val (.ref b28), .val (.ref b34), .val (.ref b35), .val (.ref b40), .val (.ref aL), .val (.ref a_IDLE)] [(.ref b34), (.ref b34)]))
      refine own_acmp S53 rfl rfl 262 at_255 (by decide) (by decide) (fun (hc255_54 : ¬ ((Value.ref b34) = (Value.ref b34))) => False.elim (hc255_54 rfl)) (fun (hc255_54 : (Value.ref b34) = (Value.ref b34)) => ?_)
      show own_F p e below s Z _ _ _ _ _ (T53.setTop (mkF m 258 #[.val (.int p0), .val (.int p1), .val (.int p2), .val (.int p3), .val (.int p4), .val (.int (0 : Int32)), .val (.int (1 : Int32)), .val (.ref b28), .val (.ref b34), .val (.ref b35), .val (.ref b40), .val (.ref aL), .val (.ref a_IDLE)] []))
      refine own_F.of (fun _ => XS.iconst S53.here S53.hx rfl (S53.dec at_258)) ?_
      show own_F p e below s Z _ _ _ _ _ (T53.setTop (mkF m 259 #[.val (.int p0), .val (.int p1), .val (.int p2), .val (.int p3), .val (.int p4), .val (.int (0 : Int32)), .val (.int (1 : Int32)), .val (.ref b28), .val (.ref b34), .val (.ref b35), .val (.ref b40), .val (.ref aL), .val (.ref a_IDLE)] [(.int (1 : Int32))]))
      refine own_F.of (fun _ => XS.goto S53.here S53.hx rfl (pc0 := 259) (pc' := 263) rfl (S53.dec at_259) (by decide) (by decide)) ?_
      show own_F p e below s Z _ _ _ _ _ (T53.setTop (mkF m 263 #[.val (.int p0), .val (.int p1), .val (.int p2), .val (.int p3), .val (.int p4), .val (.int (0 : Int32)), .val (.int (1 : Int32)), .val (.ref b28), .val (.ref b34), .val (.ref b35), .val (.ref b40), .val (.ref aL), .val (.ref a_IDLE)] [(.int (1 : Int32))]))
      refine own_retZ S53 (by simp) at_263 (by decide) (by decide) ?_
      rfl
  · rw [hn]
    show own_F p e below s Z _ _ _ _ _ (T0.setTop (mkF m 5 #[.val (.int p0), .val (.int p1), .val (.int p2), .val (.int p3), .val (.int p4), .val (.int (1 : Int32)), .unset, .unset, .unset, .unset, .unset, .unset, .unset] []))
    refine own_F.of (fun _ => XS.iloadN S0.here S0.hx rfl (S0.dec at_5) rfl) ?_
    show own_F p e below s Z _ _ _ _ _ (T0.setTop (mkF m 6 #[.val (.int p0), .val (.int p1), .val (.int p2), .val (.int p3), .val (.int p4), .val (.int (1 : Int32)), .unset, .unset, .unset, .unset, .unset, .unset, .unset] [(.int p0)]))
    refine own_F.of (fun _ => XS.iconst S0.here S0.hx rfl (S0.dec at_6)) ?_
    show own_F p e below s Z _ _ _ _ _ (T0.setTop (mkF m 7 #[.val (.int p0), .val (.int p1), .val (.int p2), .val (.int p3), .val (.int p4), .val (.int (1 : Int32)), .unset, .unset, .unset, .unset, .unset, .unset, .unset] [(.int (4 : Int32)), (.int p0)]))
    refine own_F.of (fun _ => XS.iand S0.here S0.hx rfl (S0.dec at_7) rfl) ?_
    show own_F p e below s Z _ _ _ _ _ (T0.setTop (mkF m 8 #[.val (.int p0), .val (.int p1), .val (.int p2), .val (.int p3), .val (.int p4), .val (.int (1 : Int32)), .unset, .unset, .unset, .unset, .unset, .unset, .unset] [(.int (p0 &&& (4 : Int32)))]))
    refine own_if S0 15 at_8 (by decide) (by decide) (fun (hc8_55 : (p0 &&& (4 : Int32)) = (0 : Int32)) => ?_) (fun (hc8_55 : ¬ ((p0 &&& (4 : Int32)) = (0 : Int32))) => ?_)
    · show own_F p e below s Z _ _ _ _ _ (T0.setTop (mkF m 15 #[.val (.int p0), .val (.int p1), .val (.int p2), .val (.int p3), .val (.int p4), .val (.int (1 : Int32)), .unset, .unset, .unset, .unset, .unset, .unset, .unset] []))
      refine own_F.of (fun _ => XS.iconst S0.here S0.hx rfl (S0.dec at_15)) ?_
      show own_F p e below s Z _ _ _ _ _ (T0.setTop (mkF m 16 #[.val (.int p0), .val (.int p1), .val (.int p2), .val (.int p3), .val (.int p4), .val (.int (1 : Int32)), .unset, .unset, .unset, .unset, .unset, .unset, .unset] [(.int (0 : Int32))]))
      refine own_F.of (fun _ => XS.istore S0.here S0.hx rfl (S0.dec at_16) rfl (l' := #[.val (.int p0), .val (.int p1), .val (.int p2), .val (.int p3), .val (.int p4), .val (.int (1 : Int32)), .val (.int (0 : Int32)), .unset, .unset, .unset, .unset, .unset, .unset]) rfl) ?_
      show own_F p e below s Z _ _ _ _ _ (T0.setTop (mkF m 18 #[.val (.int p0), .val (.int p1), .val (.int p2), .val (.int p3), .val (.int p4), .val (.int (1 : Int32)), .val (.int (0 : Int32)), .unset, .unset, .unset, .unset, .unset, .unset] []))
      refine own_new S0 (own_w hw 0 rfl) (own_w hw 1 rfl) (own_w hw 2 rfl) at_18 (by decide) (by decide) (fun T56 h56 b56 g56 S56 E56 A56 D56 => ?_)
      have F56_modCount : Fld Z h56 b56 "java/util/AbstractList" "modCount" "I" (.int (0 : Int32)) := (D56 (Or.inl (own_w hw 22 rfl)) (ty := .int) (by decide))
      have F56_elementData : Fld Z h56 b56 "java/util/ArrayList" "elementData" "[Ljava/lang/Object;" .null := (D56 (Or.inl (own_w hw 25 rfl)) (ty := (.array (.object "java/lang/Object"))) (by decide))
      have F56_size : Fld Z h56 b56 "java/util/ArrayList" "size" "I" (.int (0 : Int32)) := (D56 (Or.inl (own_w hw 62 rfl)) (ty := .int) (by decide))
      show own_F p e below s Z _ _ _ _ _ (T56.setTop (mkF m 21 #[.val (.int p0), .val (.int p1), .val (.int p2), .val (.int p3), .val (.int p4), .val (.int (1 : Int32)), .val (.int (0 : Int32)), .unset, .unset, .unset, .unset, .unset, .unset] [(.ref b56)]))
      refine own_F.of (fun _ => XS.dup S56.here S56.hx rfl (S56.dec at_21) rfl rfl) ?_
      show own_F p e below s Z _ _ _ _ _ (T56.setTop (mkF m 22 #[.val (.int p0), .val (.int p1), .val (.int p2), .val (.int p3), .val (.int p4), .val (.int (1 : Int32)), .val (.int (0 : Int32)), .unset, .unset, .unset, .unset, .unset, .unset] [(.ref b56), (.ref b56)]))
      refine own_callI S56 (y := (⟨"java/util/ArrayList", "<init>", "()V"⟩ : MethodName)) rfl (own_w hw 3 rfl) (own_w hw 4 rfl) (own_w hw 2 rfl) (own_w hw 5 rfl) (by decide) (argsL := []) (rest := [(.ref b56)]) (own_ALI l Z a0 hw b56 aD h56 S56.old SD AD (own_mayN S56 (Or.inr (by rw [g56]; exact S0.size))) A56 F56_modCount F56_elementData F56_size) (allS (Or.inr (by rw [g56]; exact S0.size)) all0) (by decide +kernel : parseMethodDescriptor "()V" = some ⟨[], none⟩) rfl rfl rfl at_22 (by decide) (Nat.le_of_ble_eq_true rfl) (by decide) (by decide) (fun T57 h57 v57 S57 K57 q57 => ?_)
      obtain ⟨rfl, Fm57, Fe57, Fs57⟩ := q57
      show own_F p e below s Z _ _ _ _ _ (T57.setTop (mkF m 25 #[.val (.int p0), .val (.int p1), .val (.int p2), .val (.int p3), .val (.int p4), .val (.int (1 : Int32)), .val (.int (0 : Int32)), .unset, .unset, .unset, .unset, .unset, .unset] [(.ref b56)]))
      refine own_F.of (fun _ => XS.astore S57.here S57.hx rfl (S57.dec at_25) rfl rfl (l' := #[.val (.int p0), .val (.int p1), .val (.int p2), .val (.int p3), .val (.int p4), .val (.int (1 : Int32)), .val (.int (0 : Int32)), .val (.ref b56), .unset, .unset, .unset, .unset, .unset]) rfl) ?_
      show own_F p e below s Z _ _ _ _ _ (T57.setTop (mkF m 27 #[.val (.int p0), .val (.int p1), .val (.int p2), .val (.int p3), .val (.int p4), .val (.int (1 : Int32)), .val (.int (0 : Int32)), .val (.ref b56), .unset, .unset, .unset, .unset, .unset] []))
      refine own_F.of (fun _ => XS.iload S57.here S57.hx rfl (S57.dec at_27) rfl) ?_
      show own_F p e below s Z _ _ _ _ _ (T57.setTop (mkF m 29 #[.val (.int p0), .val (.int p1), .val (.int p2), .val (.int p3), .val (.int p4), .val (.int (1 : Int32)), .val (.int (0 : Int32)), .val (.ref b56), .unset, .unset, .unset, .unset, .unset] [(.int (1 : Int32))]))
      refine own_if S57 42 at_29 (by decide) (by decide) (fun (hc29_58 : ¬ ((0 : Int32) < (1 : Int32))) => False.elim (absurd hc29_58 (by decide))) (fun (hc29_58 : (0 : Int32) < (1 : Int32)) => ?_)
      show own_F p e below s Z _ _ _ _ _ (T57.setTop (mkF m 32 #[.val (.int p0), .val (.int p1), .val (.int p2), .val (.int p3), .val (.int p4), .val (.int (1 : Int32)), .val (.int (0 : Int32)), .val (.ref b56), .unset, .unset, .unset, .unset, .unset] []))
      refine own_F.of (fun _ => XS.aload S57.here S57.hx rfl (S57.dec at_32) rfl rfl) ?_
      show own_F p e below s Z _ _ _ _ _ (T57.setTop (mkF m 34 #[.val (.int p0), .val (.int p1), .val (.int p2), .val (.int p3), .val (.int p4), .val (.int (1 : Int32)), .val (.int (0 : Int32)), .val (.ref b56), .unset, .unset, .unset, .unset, .unset] [(.ref b56)]))
      refine own_F.of (fun _ => XS.iloadN S57.here S57.hx rfl (S57.dec at_34) rfl) ?_
      show own_F p e below s Z _ _ _ _ _ (T57.setTop (mkF m 35 #[.val (.int p0), .val (.int p1), .val (.int p2), .val (.int p3), .val (.int p4), .val (.int (1 : Int32)), .val (.int (0 : Int32)), .val (.ref b56), .unset, .unset, .unset, .unset, .unset] [(.int p1), (.ref b56)]))
      refine own_callS S57 (y := (⟨"java/lang/Integer", "valueOf", "(I)Ljava/lang/Integer;"⟩ : MethodName)) (own_w hw 142 rfl) (own_w hw 143 rfl) (own_w hw 144 rfl) (own_w hw 145 rfl) (by decide) (argsL := [(.int p1)]) (rest := [(.ref b56)]) (own_vOfI l Z a0 hw p1 aCI clCI h57 S57.old SHi SCaI BXI) all0 (by decide +kernel : parseMethodDescriptor "(I)Ljava/lang/Integer;" = some ⟨[.int], some (.object "java/lang/Integer")⟩) rfl rfl rfl at_35 (by decide) (Nat.le_of_ble_eq_true rfl) (by decide) (by decide) (fun T59 h59 v59 S59 K59 q59 => ?_)
      obtain ⟨b59, rfl, X59, F59⟩ := q59
      show own_F p e below s Z _ _ _ _ _ (T59.setTop (mkF m 38 #[.val (.int p0), .val (.int p1), .val (.int p2), .val (.int p3), .val (.int p4), .val (.int (1 : Int32)), .val (.int (0 : Int32)), .val (.ref b56), .unset, .unset, .unset, .unset, .unset] [(.ref b59), (.ref b56)]))
      have fq60 := (Fe57.keep K59 nin0)
      have fq61 := (Fs57.keep K59 nin0)
      have fq62 := (Fm57.keep K59 nin0)
      have fq63 := ((A56.keep K57).keep K59)
      refine own_callV S59 (y := (⟨"java/util/ArrayList", "add", "(Ljava/lang/Object;)Z"⟩ : MethodName)) (y' := (⟨"java/util/ArrayList", "add", "(Ljava/lang/Object;)Z"⟩ : MethodName)) (own_w hw 149 rfl) (own_w hw 150 rfl) (own_nf S59 (own_w hw 152 rfl)) (own_w hw 152 rfl) (own_w hw 151 rfl) (own_w hw 153 rfl) (own_w hw 2 rfl) (by decide) fq63 (argsL := [(.ref b59)]) (rest := []) (own_add_0 l Z a0 hw b56 b59 aD (0 : Int32) h59 S59.old SD AD (own_mayN S59 (Or.inr (by rw [g56]; exact S0.size))) fq63 fq60 fq61 fq62 X59) (allS (Or.inr (by rw [g56]; exact S0.size)) all0) (by decide +kernel : parseMethodDescriptor "(Ljava/lang/Object;)Z" = some ⟨[(.object "java/lang/Object")], some .boolean⟩) rfl rfl rfl at_38 (by decide) (Nat.le_of_ble_eq_true rfl) (by decide) (by decide) (fun T64 h64 v64 S64 K64 q64 => ?_)
      obtain ⟨rfl, b64, g64, A64, Fe64, Fs64, Fm64⟩ := q64
      have V65 : own_AO Z h64 b64 [(.ref b59), .null, .null, .null, .null, .null, .null, .null, .null, .null] := A64
      show own_F p e below s Z _ _ _ _ _ (T64.setTop (mkF m 41 #[.val (.int p0), .val (.int p1), .val (.int p2), .val (.int p3), .val (.int p4), .val (.int (1 : Int32)), .val (.int (0 : Int32)), .val (.ref b56), .unset, .unset, .unset, .unset, .unset] [(.int (1 : Int32))]))
      refine own_F.of (fun _ => XS.pop S64.here S64.hx rfl (S64.dec at_41) rfl rfl) ?_
      show own_F p e below s Z _ _ _ _ _ (T64.setTop (mkF m 42 #[.val (.int p0), .val (.int p1), .val (.int p2), .val (.int p3), .val (.int p4), .val (.int (1 : Int32)), .val (.int (0 : Int32)), .val (.ref b56), .unset, .unset, .unset, .unset, .unset] []))
      refine own_F.of (fun _ => XS.iload S64.here S64.hx rfl (S64.dec at_42) rfl) ?_
      show own_F p e below s Z _ _ _ _ _ (T64.setTop (mkF m 44 #[.val (.int p0), .val (.int p1), .val (.int p2), .val (.int p3), .val (.int p4), .val (.int (1 : Int32)), .val (.int (0 : Int32)), .val (.ref b56), .unset, .unset, .unset, .unset, .unset] [(.int (1 : Int32))]))
      refine own_F.of (fun _ => XS.iconst S64.here S64.hx rfl (S64.dec at_44)) ?_
      show own_F p e below s Z _ _ _ _ _ (T64.setTop (mkF m 45 #[.val (.int p0), .val (.int p1), .val (.int p2), .val (.int p3), .val (.int p4), .val (.int (1 : Int32)), .val (.int (0 : Int32)), .val (.ref b56), .unset, .unset, .unset, .unset, .unset] [(.int (1 : Int32)), (.int (1 : Int32))]))
      refine own_icmp S64 58 at_45 (by decide) (by decide) (fun (hc45_66 : ¬ ((1 : Int32) < (1 : Int32))) => ?_) (fun (hc45_66 : (1 : Int32) < (1 : Int32)) => False.elim (absurd hc45_66 (by decide)))
      show own_F p e below s Z _ _ _ _ _ (T64.setTop (mkF m 58 #[.val (.int p0), .val (.int p1), .val (.int p2), .val (.int p3), .val (.int p4), .val (.int (1 : Int32)), .val (.int (0 : Int32)), .val (.ref b56), .unset, .unset, .unset, .unset, .unset] []))
      refine own_F.of (fun _ => XS.iload S64.here S64.hx rfl (S64.dec at_58) rfl) ?_
      show own_F p e below s Z _ _ _ _ _ (T64.setTop (mkF m 60 #[.val (.int p0), .val (.int p1), .val (.int p2), .val (.int p3), .val (.int p4), .val (.int (1 : Int32)), .val (.int (0 : Int32)), .val (.ref b56), .unset, .unset, .unset, .unset, .unset] [(.int (1 : Int32))]))
      refine own_F.of (fun _ => XS.iconst S64.here S64.hx rfl (S64.dec at_60)) ?_
      show own_F p e below s Z _ _ _ _ _ (T64.setTop (mkF m 61 #[.val (.int p0), .val (.int p1), .val (.int p2), .val (.int p3), .val (.int p4), .val (.int (1 : Int32)), .val (.int (0 : Int32)), .val (.ref b56), .unset, .unset, .unset, .unset, .unset] [(.int (2 : Int32)), (.int (1 : Int32))]))
      refine own_icmp S64 74 at_61 (by decide) (by decide) (fun (hc61_67 : ¬ ((2 : Int32) < (1 : Int32))) => ?_) (fun (hc61_67 : (2 : Int32) < (1 : Int32)) => False.elim (absurd hc61_67 (by decide)))
      show own_F p e below s Z _ _ _ _ _ (T64.setTop (mkF m 74 #[.val (.int p0), .val (.int p1), .val (.int p2), .val (.int p3), .val (.int p4), .val (.int (1 : Int32)), .val (.int (0 : Int32)), .val (.ref b56), .unset, .unset, .unset, .unset, .unset] []))
      refine own_F.of (fun _ => XS.iload S64.here S64.hx rfl (S64.dec at_74) rfl) ?_
      show own_F p e below s Z _ _ _ _ _ (T64.setTop (mkF m 76 #[.val (.int p0), .val (.int p1), .val (.int p2), .val (.int p3), .val (.int p4), .val (.int (1 : Int32)), .val (.int (0 : Int32)), .val (.ref b56), .unset, .unset, .unset, .unset, .unset] [(.int (0 : Int32))]))
      refine own_if S64 87 at_76 (by decide) (by decide) (fun (hc76_68 : (0 : Int32) = (0 : Int32)) => ?_) (fun (hc76_68 : ¬ ((0 : Int32) = (0 : Int32))) => False.elim (absurd hc76_68 (by decide)))
      show own_F p e below s Z _ _ _ _ _ (T64.setTop (mkF m 87 #[.val (.int p0), .val (.int p1), .val (.int p2), .val (.int p3), .val (.int p4), .val (.int (1 : Int32)), .val (.int (0 : Int32)), .val (.ref b56), .unset, .unset, .unset, .unset, .unset] []))
      refine own_F.of (fun _ => XS.aconstNull S64.here S64.hx rfl (S64.dec at_87)) ?_
      show own_F p e below s Z _ _ _ _ _ (T64.setTop (mkF m 88 #[.val (.int p0), .val (.int p1), .val (.int p2), .val (.int p3), .val (.int p4), .val (.int (1 : Int32)), .val (.int (0 : Int32)), .val (.ref b56), .unset, .unset, .unset, .unset, .unset] [.null]))
      refine own_F.of (fun _ => XS.astore S64.here S64.hx rfl (S64.dec at_88) rfl rfl (l' := #[.val (.int p0), .val (.int p1), .val (.int p2), .val (.int p3), .val (.int p4), .val (.int (1 : Int32)), .val (.int (0 : Int32)), .val (.ref b56), .val .null, .unset, .unset, .unset, .unset]) rfl) ?_
      show own_F p e below s Z _ _ _ _ _ (T64.setTop (mkF m 90 #[.val (.int p0), .val (.int p1), .val (.int p2), .val (.int p3), .val (.int p4), .val (.int (1 : Int32)), .val (.int (0 : Int32)), .val (.ref b56), .val .null, .unset, .unset, .unset, .unset] []))
      refine own_new S64 (own_w hw 26 rfl) (own_w hw 27 rfl) (own_w hw 28 rfl) at_90 (by decide) (by decide) (fun T69 h69 b69 g69 S69 E69 A69 D69 => ?_)
      have F69_items : Fld Z h69 b69 "com/example/tidemark/tidemark/Page" "items" "Ljava/util/List;" .null := (D69 (Or.inr (own_w hw 68 rfl)) (ty := (.object "java/util/List")) (by decide))
      have F69_nextKey : Fld Z h69 b69 "com/example/tidemark/tidemark/Page" "nextKey" "Ljava/lang/Object;" .null := (D69 (Or.inr (own_w hw 70 rfl)) (ty := (.object "java/lang/Object")) (by decide))
      show own_F p e below s Z _ _ _ _ _ (T69.setTop (mkF m 93 #[.val (.int p0), .val (.int p1), .val (.int p2), .val (.int p3), .val (.int p4), .val (.int (1 : Int32)), .val (.int (0 : Int32)), .val (.ref b56), .val .null, .unset, .unset, .unset, .unset] [(.ref b69)]))
      refine own_F.of (fun _ => XS.dup S69.here S69.hx rfl (S69.dec at_93) rfl rfl) ?_
      show own_F p e below s Z _ _ _ _ _ (T69.setTop (mkF m 94 #[.val (.int p0), .val (.int p1), .val (.int p2), .val (.int p3), .val (.int p4), .val (.int (1 : Int32)), .val (.int (0 : Int32)), .val (.ref b56), .val .null, .unset, .unset, .unset, .unset] [(.ref b69), (.ref b69)]))
      refine own_F.of (fun _ => XS.aload S69.here S69.hx rfl (S69.dec at_94) rfl rfl) ?_
      show own_F p e below s Z _ _ _ _ _ (T69.setTop (mkF m 96 #[.val (.int p0), .val (.int p1), .val (.int p2), .val (.int p3), .val (.int p4), .val (.int (1 : Int32)), .val (.int (0 : Int32)), .val (.ref b56), .val .null, .unset, .unset, .unset, .unset] [(.ref b56), (.ref b69), (.ref b69)]))
      refine own_F.of (fun _ => XS.aload S69.here S69.hx rfl (S69.dec at_96) rfl rfl) ?_
      show own_F p e below s Z _ _ _ _ _ (T69.setTop (mkF m 98 #[.val (.int p0), .val (.int p1), .val (.int p2), .val (.int p3), .val (.int p4), .val (.int (1 : Int32)), .val (.int (0 : Int32)), .val (.ref b56), .val .null, .unset, .unset, .unset, .unset] [.null, (.ref b56), (.ref b69), (.ref b69)]))
      have fq70 := ((fq63.keep K64).ext E69)
      have fq71 := (Fs64.ext E69)
      have fq72 := (Fe64.ext E69)
      have fq73 := (V65.ext E69)
      have fq74 := ((X59.keep K64).ext E69)
      refine own_callI S69 (y := (⟨"com/example/tidemark/tidemark/Page", "<init>", "(Ljava/util/List;Ljava/lang/Object;)V"⟩ : MethodName)) rfl (own_w hw 29 rfl) (own_w hw 30 rfl) (own_w hw 28 rfl) (own_w hw 31 rfl) (by decide) (argsL := [(.ref b56), .null]) (rest := [(.ref b69)]) (own_Page1 l Z a0 hw b69 b56 .null b64 b59 aM mO h69 S69.old rfl SM MO (own_mayN S69 (Or.inr (by rw [g69]; exact S64.size))) A69 F69_items F69_nextKey fq70 fq71 fq72 fq73 fq74) (allS (Or.inr (by rw [g69]; exact S64.size)) all0) (by decide +kernel : parseMethodDescriptor "(Ljava/util/List;Ljava/lang/Object;)V" = some ⟨[(.object "java/util/List"), (.object "java/lang/Object")], none⟩) rfl rfl rfl at_98 (by decide) (Nat.le_of_ble_eq_true rfl) (by decide) (by decide) (fun T75 h75 v75 S75 K75 q75 => ?_)
      obtain ⟨rfl, b75, Fi75, Fk75, X75, P75, R75⟩ := q75
      show own_F p e below s Z _ _ _ _ _ (T75.setTop (mkF m 101 #[.val (.int p0), .val (.int p1), .val (.int p2), .val (.int p3), .val (.int p4), .val (.int (1 : Int32)), .val (.int (0 : Int32)), .val (.ref b56), .val .null, .unset, .unset, .unset, .unset] [(.ref b69)]))
      refine own_F.of (fun _ => XS.astore S75.here S75.hx rfl (S75.dec at_101) rfl rfl (l' := #[.val (.int p0), .val (.int p1), .val (.int p2), .val (.int p3), .val (.int p4), .val (.int (1 : Int32)), .val (.int (0 : Int32)), .val (.ref b56), .val .null, .val (.ref b69), .unset, .unset, .unset]) rfl) ?_
      show own_F p e below s Z _ _ _ _ _ (T75.setTop (mkF m 103 #[.val (.int p0), .val (.int p1), .val (.int p2), .val (.int p3), .val (.int p4), .val (.int (1 : Int32)), .val (.int (0 : Int32)), .val (.ref b56), .val .null, .val (.ref b69), .unset, .unset, .unset] []))
      refine own_F.of (fun _ => XS.aload S75.here S75.hx rfl (S75.dec at_103) rfl rfl) ?_
      show own_F p e below s Z _ _ _ _ _ (T75.setTop (mkF m 105 #[.val (.int p0), .val (.int p1), .val (.int p2), .val (.int p3), .val (.int p4), .val (.int (1 : Int32)), .val (.int (0 : Int32)), .val (.ref b56), .val .null, .val (.ref b69), .unset, .unset, .unset] [(.ref b69)]))
      have fq76 := (A69.keep K75)
      refine own_callS S75 (y := (⟨"com/example/tidemark/tidemark/PagedList", "first", "(Lcom/example/tidemark/tidemark/Page;)Lcom/example/tidemark/tidemark/PagedList;"⟩ : MethodName)) (own_w hw 71 rfl) (own_w hw 72 rfl) (own_w hw 73 rfl) (own_w hw 74 rfl) (by decide) (argsL := [(.ref b69)]) (rest := []) (own_firstN l Z a0 hw b69 b75 a_END a_IDLE a_FAILED h75 S75.old S_END S_IDLE S_FAILED fq76 Fi75 Fk75) all0 (by decide +kernel : parseMethodDescriptor "(Lcom/example/tidemark/tidemark/Page;)Lcom/example/tidemark/tidemark/PagedList;" = some ⟨[(.object "com/example/tidemark/tidemark/Page")], some (.object "com/example/tidemark/tidemark/PagedList")⟩) rfl rfl rfl at_105 (by decide) (Nat.le_of_ble_eq_true rfl) (by decide) (by decide) (fun T77 h77 v77 S77 K77 q77 => ?_)
      obtain ⟨b77, rfl, X77, Fi77, Ff77, Fk77⟩ := q77
      show own_F p e below s Z _ _ _ _ _ (T77.setTop (mkF m 108 #[.val (.int p0), .val (.int p1), .val (.int p2), .val (.int p3), .val (.int p4), .val (.int (1 : Int32)), .val (.int (0 : Int32)), .val (.ref b56), .val .null, .val (.ref b69), .unset, .unset, .unset] [(.ref b77)]))
      refine own_F.of (fun _ => XS.astore S77.here S77.hx rfl (S77.dec at_108) rfl rfl (l' := #[.val (.int p0), .val (.int p1), .val (.int p2), .val (.int p3), .val (.int p4), .val (.int (1 : Int32)), .val (.int (0 : Int32)), .val (.ref b56), .val .null, .val (.ref b69), .val (.ref b77), .unset, .unset]) rfl) ?_
      show own_F p e below s Z _ _ _ _ _ (T77.setTop (mkF m 110 #[.val (.int p0), .val (.int p1), .val (.int p2), .val (.int p3), .val (.int p4), .val (.int (1 : Int32)), .val (.int (0 : Int32)), .val (.ref b56), .val .null, .val (.ref b69), .val (.ref b77), .unset, .unset] []))
      refine own_F.of (fun _ => XS.aload S77.here S77.hx rfl (S77.dec at_110) rfl rfl) ?_
      show own_F p e below s Z _ _ _ _ _ (T77.setTop (mkF m 112 #[.val (.int p0), .val (.int p1), .val (.int p2), .val (.int p3), .val (.int p4), .val (.int (1 : Int32)), .val (.int (0 : Int32)), .val (.ref b56), .val .null, .val (.ref b69), .val (.ref b77), .unset, .unset] [(.ref b77)]))
      refine own_callV S77 (y := (⟨"com/example/tidemark/tidemark/PagedList", "items", "()Ljava/util/List;"⟩ : MethodName)) (y' := (⟨"com/example/tidemark/tidemark/PagedList", "items", "()Ljava/util/List;"⟩ : MethodName)) (own_w hw 105 rfl) (own_w hw 106 rfl) (own_nf S77 (own_w hw 108 rfl)) (own_w hw 108 rfl) (own_w hw 107 rfl) (own_w hw 109 rfl) (own_w hw 73 rfl) (by decide) X77 (argsL := []) (rest := []) (own_plI l Z a0 hw b77 (.ref b75) h77 S77.old rfl Fi77) all0 (by decide +kernel : parseMethodDescriptor "()Ljava/util/List;" = some ⟨[], some (.object "java/util/List")⟩) rfl rfl rfl at_112 (by decide) (Nat.le_of_ble_eq_true rfl) (by decide) (by decide) (fun T78 h78 v78 S78 K78 q78 => ?_)
      obtain ⟨rfl, rfl⟩ := q78
      show own_F p e below s Z _ _ _ _ _ (T78.setTop (mkF m 115 #[.val (.int p0), .val (.int p1), .val (.int p2), .val (.int p3), .val (.int p4), .val (.int (1 : Int32)), .val (.int (0 : Int32)), .val (.ref b56), .val .null, .val (.ref b69), .val (.ref b77), .unset, .unset] [(.ref b75)]))
      refine own_F.of (fun _ => XS.astore S78.here S78.hx rfl (S78.dec at_115) rfl rfl (l' := #[.val (.int p0), .val (.int p1), .val (.int p2), .val (.int p3), .val (.int p4), .val (.int (1 : Int32)), .val (.int (0 : Int32)), .val (.ref b56), .val .null, .val (.ref b69), .val (.ref b77), .val (.ref b75), .unset]) rfl) ?_
      show own_F p e below s Z _ _ _ _ _ (T78.setTop (mkF m 117 #[.val (.int p0), .val (.int p1), .val (.int p2), .val (.int p3), .val (.int p4), .val (.int (1 : Int32)), .val (.int (0 : Int32)), .val (.ref b56), .val .null, .val (.ref b69), .val (.ref b77), .val (.ref b75), .unset] []))
      refine own_F.of (fun _ => XS.aload S78.here S78.hx rfl (S78.dec at_117) rfl rfl) ?_
      show own_F p e below s Z _ _ _ _ _ (T78.setTop (mkF m 119 #[.val (.int p0), .val (.int p1), .val (.int p2), .val (.int p3), .val (.int p4), .val (.int (1 : Int32)), .val (.int (0 : Int32)), .val (.ref b56), .val .null, .val (.ref b69), .val (.ref b77), .val (.ref b75), .unset] [(.ref b75)]))
      have fq79 := (R75.keep K77 nin0)
      have fq81 := (X75.keep K77)
      refine own_callX S78 (y := (⟨"java/util/List", "size", "()I"⟩ : MethodName)) (y' := (⟨"java/util/ImmutableCollections$List12", "size", "()I"⟩ : MethodName)) (own_w hw 110 rfl) (own_w hw 111 rfl) (own_w hw 112 rfl) (own_w hw 286 rfl) (own_w hw 287 rfl) (own_w hw 288 rfl) (own_w hw 289 rfl) (own_w hw 290 rfl) (own_w hw 291 rfl) (own_w hw 272 rfl) (by decide) fq81 (argsL := []) (rest := []) (own_szT1 l Z a0 hw b75 aM aM h77 S78.old SM fq79 rfl) all0 (by decide +kernel : parseMethodDescriptor "()I" = some ⟨[], some .int⟩) rfl rfl rfl at_119 (by decide) (Nat.le_of_ble_eq_true rfl) (by decide) (by decide) (fun T80 h80 v80 S80 K80 q80 => ?_)
      obtain ⟨rfl, rfl⟩ := q80
      show own_F p e below s Z _ _ _ _ _ (T80.setTop (mkF m 124 #[.val (.int p0), .val (.int p1), .val (.int p2), .val (.int p3), .val (.int p4), .val (.int (1 : Int32)), .val (.int (0 : Int32)), .val (.ref b56), .val .null, .val (.ref b69), .val (.ref b77), .val (.ref b75), .unset] [(.int (1 : Int32))]))
      refine own_F.of (fun _ => XS.iload S80.here S80.hx rfl (S80.dec at_124) rfl) ?_
      show own_F p e below s Z _ _ _ _ _ (T80.setTop (mkF m 126 #[.val (.int p0), .val (.int p1), .val (.int p2), .val (.int p3), .val (.int p4), .val (.int (1 : Int32)), .val (.int (0 : Int32)), .val (.ref b56), .val .null, .val (.ref b69), .val (.ref b77), .val (.ref b75), .unset] [(.int (1 : Int32)), (.int (1 : Int32))]))
      refine own_icmp S80 131 at_126 (by decide) (by decide) (fun (hc126_82 : (1 : Int32) = (1 : Int32)) => ?_) (fun (hc126_82 : ¬ ((1 : Int32) = (1 : Int32))) => False.elim (absurd hc126_82 (by decide)))
      show own_F p e below s Z _ _ _ _ _ (T80.setTop (mkF m 131 #[.val (.int p0), .val (.int p1), .val (.int p2), .val (.int p3), .val (.int p4), .val (.int (1 : Int32)), .val (.int (0 : Int32)), .val (.ref b56), .val .null, .val (.ref b69), .val (.ref b77), .val (.ref b75), .unset] []))
      refine own_F.of (fun _ => XS.iload S80.here S80.hx rfl (S80.dec at_131) rfl) ?_
      show own_F p e below s Z _ _ _ _ _ (T80.setTop (mkF m 133 #[.val (.int p0), .val (.int p1), .val (.int p2), .val (.int p3), .val (.int p4), .val (.int (1 : Int32)), .val (.int (0 : Int32)), .val (.ref b56), .val .null, .val (.ref b69), .val (.ref b77), .val (.ref b75), .unset] [(.int (1 : Int32))]))
      refine own_if S80 156 at_133 (by decide) (by decide) (fun (hc133_83 : ¬ ((0 : Int32) < (1 : Int32))) => False.elim (absurd hc133_83 (by decide))) (fun (hc133_83 : (0 : Int32) < (1 : Int32)) => ?_)
      show own_F p e below s Z _ _ _ _ _ (T80.setTop (mkF m 136 #[.val (.int p0), .val (.int p1), .val (.int p2), .val (.int p3), .val (.int p4), .val (.int (1 : Int32)), .val (.int (0 : Int32)), .val (.ref b56), .val .null, .val (.ref b69), .val (.ref b77), .val (.ref b75), .unset] []))
      refine own_F.of (fun _ => XS.aload S80.here S80.hx rfl (S80.dec at_136) rfl rfl) ?_
      show own_F p e below s Z _ _ _ _ _ (T80.setTop (mkF m 138 #[.val (.int p0), .val (.int p1), .val (.int p2), .val (.int p3), .val (.int p4), .val (.int (1 : Int32)), .val (.int (0 : Int32)), .val (.ref b56), .val .null, .val (.ref b69), .val (.ref b77), .val (.ref b75), .unset] [(.ref b75)]))
      refine own_F.of (fun _ => XS.iconst S80.here S80.hx rfl (S80.dec at_138)) ?_
      show own_F p e below s Z _ _ _ _ _ (T80.setTop (mkF m 139 #[.val (.int p0), .val (.int p1), .val (.int p2), .val (.int p3), .val (.int p4), .val (.int (1 : Int32)), .val (.int (0 : Int32)), .val (.ref b56), .val .null, .val (.ref b69), .val (.ref b77), .val (.ref b75), .unset] [(.int (0 : Int32)), (.ref b75)]))
      have fq84 := (P75.keep K77 nin0)
      refine own_callX S80 (y := (⟨"java/util/List", "get", "(I)Ljava/lang/Object;"⟩ : MethodName)) (y' := (⟨"java/util/ImmutableCollections$List12", "get", "(I)Ljava/lang/Object;"⟩ : MethodName)) (own_w hw 240 rfl) (own_w hw 241 rfl) (own_w hw 242 rfl) (own_w hw 293 rfl) (own_w hw 294 rfl) (own_w hw 295 rfl) (own_w hw 296 rfl) (own_w hw 290 rfl) (own_w hw 297 rfl) (own_w hw 272 rfl) (by decide) fq81 (argsL := [(.int (0 : Int32))]) (rest := []) (own_gtT_0 l Z a0 hw b75 b59 aM h77 S80.old fq84 fq79) all0 (by decide +kernel : parseMethodDescriptor "(I)Ljava/lang/Object;" = some ⟨[.int], some (.object "java/lang/Object")⟩) rfl rfl rfl at_139 (by decide) (Nat.le_of_ble_eq_true rfl) (by decide) (by decide) (fun T85 h85 v85 S85 K85 q85 => ?_)
      obtain ⟨rfl, rfl⟩ := q85
      show own_F p e below s Z _ _ _ _ _ (T85.setTop (mkF m 144 #[.val (.int p0), .val (.int p1), .val (.int p2), .val (.int p3), .val (.int p4), .val (.int (1 : Int32)), .val (.int (0 : Int32)), .val (.ref b56), .val .null, .val (.ref b69), .val (.ref b77), .val (.ref b75), .unset] [(.ref b59)]))
      have fq87 := ((fq74.keep K75).keep K77)
      refine own_cast S85 (own_w hw 248 rfl) (Ins.self fq87) at_144 (fun T86 S86 => ?_)
      show own_F p e below s Z _ _ _ _ _ (T86.setTop (mkF m 147 #[.val (.int p0), .val (.int p1), .val (.int p2), .val (.int p3), .val (.int p4), .val (.int (1 : Int32)), .val (.int (0 : Int32)), .val (.ref b56), .val .null, .val (.ref b69), .val (.ref b77), .val (.ref b75), .unset] [(.ref b59)]))
      have fq88 := ((((F59.keep K64 (ninS (ne_exa fq87 ((fq70.keep K75).keep K77) (by decide)) nin0)).ext E69).keep K75 (ninS (ne_exa fq87 (fq76.keep K77) (by decide)) nin0)).keep K77 nin0)
      refine own_callV S86 (y := (⟨"java/lang/Integer", "intValue", "()I"⟩ : MethodName)) (y' := (⟨"java/lang/Integer", "intValue", "()I"⟩ : MethodName)) (own_w hw 250 rfl) (own_w hw 251 rfl) (own_nf S86 (own_w hw 253 rfl)) (own_w hw 253 rfl) (own_w hw 252 rfl) (own_w hw 254 rfl) (own_w hw 144 rfl) (by decide) fq87 (argsL := []) (rest := []) (own_intV l Z a0 hw b59 p1 h77 S86.old fq88) all0 (by decide +kernel : parseMethodDescriptor "()I" = some ⟨[], some .int⟩) rfl rfl rfl at_147 (by decide) (Nat.le_of_ble_eq_true rfl) (by decide) (by decide) (fun T89 h89 v89 S89 K89 q89 => ?_)
      obtain ⟨rfl, rfl⟩ := q89
      show own_F p e below s Z _ _ _ _ _ (T89.setTop (mkF m 150 #[.val (.int p0), .val (.int p1), .val (.int p2), .val (.int p3), .val (.int p4), .val (.int (1 : Int32)), .val (.int (0 : Int32)), .val (.ref b56), .val .null, .val (.ref b69), .val (.ref b77), .val (.ref b75), .unset] [(.int p1)]))
      refine own_F.of (fun _ => XS.iloadN S89.here S89.hx rfl (S89.dec at_150) rfl) ?_
      show own_F p e below s Z _ _ _ _ _ (T89.setTop (mkF m 151 #[.val (.int p0), .val (.int p1), .val (.int p2), .val (.int p3), .val (.int p4), .val (.int (1 : Int32)), .val (.int (0 : Int32)), .val (.ref b56), .val .null, .val (.ref b69), .val (.ref b77), .val (.ref b75), .unset] [(.int p1), (.int p1)]))
      refine own_icmp S89 156 at_151 (by decide) (by decide) (fun (hc151_90 : p1 = p1) => ?_) (fun (hc151_90 : ¬ (p1 = p1)) => False.elim (hc151_90 rfl))
      show own_F p e below s Z _ _ _ _ _ (T89.setTop (mkF m 156 #[.val (.int p0), .val (.int p1), .val (.int p2), .val (.int p3), .val (.int p4), .val (.int (1 : Int32)), .val (.int (0 : Int32)), .val (.ref b56), .val .null, .val (.ref b69), .val (.ref b77), .val (.ref b75), .unset] []))
      refine own_F.of (fun _ => XS.iload S89.here S89.hx rfl (S89.dec at_156) rfl) ?_
      show own_F p e below s Z _ _ _ _ _ (T89.setTop (mkF m 158 #[.val (.int p0), .val (.int p1), .val (.int p2), .val (.int p3), .val (.int p4), .val (.int (1 : Int32)), .val (.int (0 : Int32)), .val (.ref b56), .val .null, .val (.ref b69), .val (.ref b77), .val (.ref b75), .unset] [(.int (1 : Int32))]))
      refine own_F.of (fun _ => XS.iconst S89.here S89.hx rfl (S89.dec at_158)) ?_
      show own_F p e below s Z _ _ _ _ _ (T89.setTop (mkF m 159 #[.val (.int p0), .val (.int p1), .val (.int p2), .val (.int p3), .val (.int p4), .val (.int (1 : Int32)), .val (.int (0 : Int32)), .val (.ref b56), .val .null, .val (.ref b69), .val (.ref b77), .val (.ref b75), .unset] [(.int (1 : Int32)), (.int (1 : Int32))]))
      refine own_icmp S89 182 at_159 (by decide) (by decide) (fun (hc159_91 : ¬ ((1 : Int32) < (1 : Int32))) => ?_) (fun (hc159_91 : (1 : Int32) < (1 : Int32)) => False.elim (absurd hc159_91 (by decide)))
      show own_F p e below s Z _ _ _ _ _ (T89.setTop (mkF m 182 #[.val (.int p0), .val (.int p1), .val (.int p2), .val (.int p3), .val (.int p4), .val (.int (1 : Int32)), .val (.int (0 : Int32)), .val (.ref b56), .val .null, .val (.ref b69), .val (.ref b77), .val (.ref b75), .unset] []))
      refine own_F.of (fun _ => XS.iload S89.here S89.hx rfl (S89.dec at_182) rfl) ?_
      show own_F p e below s Z _ _ _ _ _ (T89.setTop (mkF m 184 #[.val (.int p0), .val (.int p1), .val (.int p2), .val (.int p3), .val (.int p4), .val (.int (1 : Int32)), .val (.int (0 : Int32)), .val (.ref b56), .val .null, .val (.ref b69), .val (.ref b77), .val (.ref b75), .unset] [(.int (1 : Int32))]))
      refine own_F.of (fun _ => XS.iconst S89.here S89.hx rfl (S89.dec at_184)) ?_
      show own_F p e below s Z _ _ _ _ _ (T89.setTop (mkF m 185 #[.val (.int p0), .val (.int p1), .val (.int p2), .val (.int p3), .val (.int p4), .val (.int (1 : Int32)), .val (.int (0 : Int32)), .val (.ref b56), .val .null, .val (.ref b69), .val (.ref b77), .val (.ref b75), .unset] [(.int (2 : Int32)), (.int (1 : Int32))]))
      refine own_icmp S89 208 at_185 (by decide) (by decide) (fun (hc185_92 : ¬ ((2 : Int32) < (1 : Int32))) => ?_) (fun (hc185_92 : (2 : Int32) < (1 : Int32)) => False.elim (absurd hc185_92 (by decide)))
      show own_F p e below s Z _ _ _ _ _ (T89.setTop (mkF m 208 #[.val (.int p0), .val (.int p1), .val (.int p2), .val (.int p3), .val (.int p4), .val (.int (1 : Int32)), .val (.int (0 : Int32)), .val (.ref b56), .val .null, .val (.ref b69), .val (.ref b77), .val (.ref b75), .unset] []))
      refine own_F.of (fun _ => XS.iload S89.here S89.hx rfl (S89.dec at_208) rfl) ?_
      show own_F p e below s Z _ _ _ _ _ (T89.setTop (mkF m 210 #[.val (.int p0), .val (.int p1), .val (.int p2), .val (.int p3), .val (.int p4), .val (.int (1 : Int32)), .val (.int (0 : Int32)), .val (.ref b56), .val .null, .val (.ref b69), .val (.ref b77), .val (.ref b75), .unset] [(.int (0 : Int32))]))
      refine own_if S89 219 at_210 (by decide) (by decide) (fun (hc210_93 : (0 : Int32) = (0 : Int32)) => ?_) (fun (hc210_93 : ¬ ((0 : Int32) = (0 : Int32))) => False.elim (absurd hc210_93 (by decide)))
      show own_F p e below s Z _ _ _ _ _ (T89.setTop (mkF m 219 #[.val (.int p0), .val (.int p1), .val (.int p2), .val (.int p3), .val (.int p4), .val (.int (1 : Int32)), .val (.int (0 : Int32)), .val (.ref b56), .val .null, .val (.ref b69), .val (.ref b77), .val (.ref b75), .unset] []))
      refine own_getS S89 (host := "") (Or.inl (own_w hw 122 rfl)) Via.refl (S_END.ext S89.old) at_219 (fun T94 S94 => ?_)
      show own_F p e below s Z _ _ _ _ _ (T94.setTop (mkF m 222 #[.val (.int p0), .val (.int p1), .val (.int p2), .val (.int p3), .val (.int p4), .val (.int (1 : Int32)), .val (.int (0 : Int32)), .val (.ref b56), .val .null, .val (.ref b69), .val (.ref b77), .val (.ref b75), .unset] [(.ref a_END)]))
      refine own_F.of (fun _ => XS.astore S94.here S94.hx rfl (S94.dec at_222) rfl rfl (l' := #[.val (.int p0), .val (.int p1), .val (.int p2), .val (.int p3), .val (.int p4), .val (.int (1 : Int32)), .val (.int (0 : Int32)), .val (.ref b56), .val .null, .val (.ref b69), .val (.ref b77), .val (.ref b75), .val (.ref a_END)]) rfl) ?_
      show own_F p e below s Z _ _ _ _ _ (T94.setTop (mkF m 224 #[.val (.int p0), .val (.int p1), .val (.int p2), .val (.int p3), .val (.int p4), .val (.int (1 : Int32)), .val (.int (0 : Int32)), .val (.ref b56), .val .null, .val (.ref b69), .val (.ref b77), .val (.ref b75), .val (.ref a_END)] []))
      refine own_F.of (fun _ => XS.aload S94.here S94.hx rfl (S94.dec at_224) rfl rfl) ?_
      show own_F p e below s Z _ _ _ _ _ (T94.setTop (mkF m 226 #[.val (.int p0), .val (.int p1), .val (.int p2), .val (.int p3), .val (.int p4), .val (.int (1 : Int32)), .val (.int (0 : Int32)), .val (.ref b56), .val .null, .val (.ref b69), .val (.ref b77), .val (.ref b75), .val (.ref a_END)] [(.ref b77)]))
      refine own_callV S94 (y := (⟨"com/example/tidemark/tidemark/PagedList", "footer", "()Lcom/example/tidemark/tidemark/PagedList$Footer;"⟩ : MethodName)) (y' := (⟨"com/example/tidemark/tidemark/PagedList", "footer", "()Lcom/example/tidemark/tidemark/PagedList$Footer;"⟩ : MethodName)) (own_w hw 123 rfl) (own_w hw 124 rfl) (own_nf S94 (own_w hw 126 rfl)) (own_w hw 126 rfl) (own_w hw 125 rfl) (own_w hw 127 rfl) (own_w hw 73 rfl) (by decide) X77 (argsL := []) (rest := []) (own_plF l Z a0 hw b77 (.ref a_END) h77 S94.old rfl Ff77) all0 (by decide +kernel : parseMethodDescriptor "()Lcom/example/tidemark/tidemark/PagedList$Footer;" = some ⟨[], some (.object "com/example/tidemark/tidemark/PagedList$Footer")⟩) rfl rfl rfl at_226 (by decide) (Nat.le_of_ble_eq_true rfl) (by decide) (by decide) (fun T95 h95 v95 S95 K95 q95 => ?_)
      obtain ⟨rfl, rfl⟩ := q95
      show own_F p e below s Z _ _ _ _ _ (T95.setTop (mkF m 229 #[.val (.int p0), .val (.int p1), .val (.int p2), .val (.int p3), .val (.int p4), .val (.int (1 : Int32)), .val (.int (0 : Int32)), .val (.ref b56), .val .null, .val (.ref b69), .val (.ref b77), .val (.ref b75), .val (.ref a_END)] [(.ref a_END)]))
      refine own_F.of (fun _ => XS.aload S95.here S95.hx rfl (S95.dec at_229) rfl rfl) ?_
      show own_F p e below s Z _ _ _ _ _ (T95.setTop (mkF m 231 #[.val (.int p0), .val (.int p1), .val (.int p2), .val (.int p3), .val (.int p4), .val (.int (1 : Int32)), .val (.int (0 : Int32)), .val (.ref b56), .val .null, .val (.ref b69), .val (.ref b77), .val (.ref b75), .val (.ref a_END)] [(.ref a_END), (.ref a_END)]))
      refine own_acmp S95 rfl rfl 236 at_231 (by decide) (by decide) (fun (hc231_96 : (Value.ref a_END) = (Value.ref a_END)) => ?_) (fun (hc231_96 : ¬ ((Value.ref a_END) = (Value.ref a_END))) => False.elim (hc231_96 rfl))
      show own_F p e below s Z _ _ _ _ _ (T95.setTop (mkF m 236 #[.val (.int p0), .val (.int p1), .val (.int p2), .val (.int p3), .val (.int p4), .val (.int (1 : Int32)), .val (.int (0 : Int32)), .val (.ref b56), .val .null, .val (.ref b69), .val (.ref b77), .val (.ref b75), .val (.ref a_END)] []))
      refine own_F.of (fun _ => XS.aload S95.here S95.hx rfl (S95.dec at_236) rfl rfl) ?_
      show own_F p e below s Z _ _ _ _ _ (T95.setTop (mkF m 238 #[.val (.int p0), .val (.int p1), .val (.int p2), .val (.int p3), .val (.int p4), .val (.int (1 : Int32)), .val (.int (0 : Int32)), .val (.ref b56), .val .null, .val (.ref b69), .val (.ref b77), .val (.ref b75), .val (.ref a_END)] [(.ref b77)]))
      refine own_callV S95 (y := (⟨"com/example/tidemark/tidemark/PagedList", "canLoadMore", "()Z"⟩ : MethodName)) (y' := (⟨"com/example/tidemark/tidemark/PagedList", "canLoadMore", "()Z"⟩ : MethodName)) (own_w hw 128 rfl) (own_w hw 129 rfl) (own_nf S95 (own_w hw 131 rfl)) (own_w hw 131 rfl) (own_w hw 130 rfl) (own_w hw 132 rfl) (own_w hw 73 rfl) (by decide) X77 (argsL := []) (rest := []) (own_canN l Z a0 hw b77 a_END a_IDLE a_FAILED h77 S95.old S_END S_IDLE S_FAILED (F_END_ordinal.ne F_IDLE_ordinal (by decide)) (F_END_ordinal.ne F_FAILED_ordinal (by decide)) Ff77) all0 (by decide +kernel : parseMethodDescriptor "()Z" = some ⟨[], some .boolean⟩) rfl rfl rfl at_238 (by decide) (Nat.le_of_ble_eq_true rfl) (by decide) (by decide) (fun T97 h97 v97 S97 K97 q97 => ?_)
      obtain ⟨rfl, rfl⟩ := q97
      show own_F p e below s Z _ _ _ _ _ (T97.setTop (mkF m 241 #[.val (.int p0), .val (.int p1), .val (.int p2), .val (.int p3), .val (.int p4), .val (.int (1 : Int32)), .val (.int (0 : Int32)), .val (.ref b56), .val .null, .val (.ref b69), .val (.ref b77), .val (.ref b75), .val (.ref a_END)] [(.int (0 : Int32))]))
      refine own_F.of (fun _ => XS.iload S97.here S97.hx rfl (S97.dec at_241) rfl) ?_
      show own_F p e below s Z _ _ _ _ _ (T97.setTop (mkF m 243 #[.val (.int p0), .val (.int p1), .val (.int p2), .val (.int p3), .val (.int p4), .val (.int (1 : Int32)), .val (.int (0 : Int32)), .val (.ref b56), .val .null, .val (.ref b69), .val (.ref b77), .val (.ref b75), .val (.ref a_END)] [(.int (0 : Int32)), (.int (0 : Int32))]))
      refine own_icmp S97 248 at_243 (by decide) (by decide) (fun (hc243_98 : (0 : Int32) = (0 : Int32)) => ?_) (fun (hc243_98 : ¬ ((0 : Int32) = (0 : Int32))) => False.elim (absurd hc243_98 (by decide)))
      show own_F p e below s Z _ _ _ _ _ (T97.setTop (mkF m 248 #[.val (.int p0), .val (.int p1), .val (.int p2), .val (.int p3), .val (.int p4), .val (.int (1 : Int32)), .val (.int (0 : Int32)), .val (.ref b56), .val .null, .val (.ref b69), .val (.ref b77), .val (.ref b75), .val (.ref a_END)] []))
      refine own_F.of (fun _ => XS.aload S97.here S97.hx rfl (S97.dec at_248) rfl rfl) ?_
      show own_F p e below s Z _ _ _ _ _ (T97.setTop (mkF m 250 #[.val (.int p0), .val (.int p1), .val (.int p2), .val (.int p3), .val (.int p4), .val (.int (1 : Int32)), .val (.int (0 : Int32)), .val (.ref b56), .val .null, .val (.ref b69), .val (.ref b77), .val (.ref b75), .val (.ref a_END)] [(.ref b77)]))
      refine own_callV S97 (y := (⟨"com/example/tidemark/tidemark/PagedList", "nextKey", "()Ljava/lang/Object;"⟩ : MethodName)) (y' := (⟨"com/example/tidemark/tidemark/PagedList", "nextKey", "()Ljava/lang/Object;"⟩ : MethodName)) (own_w hw 137 rfl) (own_w hw 138 rfl) (own_nf S97 (own_w hw 140 rfl)) (own_w hw 140 rfl) (own_w hw 139 rfl) (own_w hw 141 rfl) (own_w hw 73 rfl) (by decide) X77 (argsL := []) (rest := []) (own_plK l Z a0 hw b77 .null h77 S97.old rfl Fk77) all0 (by decide +kernel : parseMethodDescriptor "()Ljava/lang/Object;" = some ⟨[], some (.object "java/lang/Object")⟩) rfl rfl rfl at_250 (by decide) (Nat.le_of_ble_eq_true rfl) (by decide) (by decide) (fun T99 h99 v99 S99 K99 q99 => ?_)
      obtain ⟨rfl, rfl⟩ := q99
      show own_F p e below s Z _ _ _ _ _ (T99.setTop (mkF m 253 #[.val (.int p0), .val (.int p1), .val (.int p2), .val (.int p3), .val (.int p4), .val (.int (1 : Int32)), .val (.int (0 : Int32)), .val (.ref b56), .val .null, .val (.ref b69), .val (.ref b77), .val (.ref b75), .val (.ref a_END)] [.null]))
      refine own_F.of (fun _ => XS.aload S99.here S99.hx rfl (S99.dec at_253) rfl rfl) ?_
      show own_F p e below s Z _ _ _ _ _ (T99.setTop (mkF m 255 #[.val (.int p0), .val (.int p1), .val (.int p2), .val (.int p3), .val (.int p4), .val (.int (1 : Int32)), .val (.int (0 : Int32)), .val (.ref b56), .val .null, .val (.ref b69), .val (.ref b77), .val (.ref b75), .val (.ref a_END)] [.null, .null]))
      refine own_acmp S99 rfl rfl 262 at_255 (by decide) (by decide) (fun (hc255_100 : ¬ (Value.null = Value.null)) => False.elim (hc255_100 rfl)) (fun (hc255_100 : Value.null = Value.null) => ?_)
      show own_F p e below s Z _ _ _ _ _ (T99.setTop (mkF m 258 #[.val (.int p0), .val (.int p1), .val (.int p2), .val (.int p3), .val (.int p4), .val (.int (1 : Int32)), .val (.int (0 : Int32)), .val (.ref b56), .val .null, .val (.ref b69), .val (.ref b77), .val (.ref b75), .val (.ref a_END)] []))
      refine own_F.of (fun _ => XS.iconst S99.here S99.hx rfl (S99.dec at_258)) ?_
      show own_F p e below s Z _ _ _ _ _ (T99.setTop (mkF m 259 #[.val (.int p0), .val (.int p1), .val (.int p2), .val (.int p3), .val (.int p4), .val (.int (1 : Int32)), .val (.int (0 : Int32)), .val (.ref b56), .val .null, .val (.ref b69), .val (.ref b77), .val (.ref b75), .val (.ref a_END)] [(.int (1 : Int32))]))
      refine own_F.of (fun _ => XS.goto S99.here S99.hx rfl (pc0 := 259) (pc' := 263) rfl (S99.dec at_259) (by decide) (by decide)) ?_
      show own_F p e below s Z _ _ _ _ _ (T99.setTop (mkF m 263 #[.val (.int p0), .val (.int p1), .val (.int p2), .val (.int p3), .val (.int p4), .val (.int (1 : Int32)), .val (.int (0 : Int32)), .val (.ref b56), .val .null, .val (.ref b69), .val (.ref b77), .val (.ref b75), .val (.ref a_END)] [(.int (1 : Int32))]))
      refine own_retZ S99 (by simp) at_263 (by decide) (by decide) ?_
      rfl
    · show own_F p e below s Z _ _ _ _ _ (T0.setTop (mkF m 11 #[.val (.int p0), .val (.int p1), .val (.int p2), .val (.int p3), .val (.int p4), .val (.int (1 : Int32)), .unset, .unset, .unset, .unset, .unset, .unset, .unset] []))
      refine own_F.of (fun _ => XS.iconst S0.here S0.hx rfl (S0.dec at_11)) ?_
      show own_F p e below s Z _ _ _ _ _ (T0.setTop (mkF m 12 #[.val (.int p0), .val (.int p1), .val (.int p2), .val (.int p3), .val (.int p4), .val (.int (1 : Int32)), .unset, .unset, .unset, .unset, .unset, .unset, .unset] [(.int (1 : Int32))]))
      refine own_F.of (fun _ => XS.goto S0.here S0.hx rfl (pc0 := 12) (pc' := 16) rfl (S0.dec at_12) (by decide) (by decide)) ?_
      show own_F p e below s Z _ _ _ _ _ (T0.setTop (mkF m 16 #[.val (.int p0), .val (.int p1), .val (.int p2), .val (.int p3), .val (.int p4), .val (.int (1 : Int32)), .unset, .unset, .unset, .unset, .unset, .unset, .unset] [(.int (1 : Int32))]))
      refine own_F.of (fun _ => XS.istore S0.here S0.hx rfl (S0.dec at_16) rfl (l' := #[.val (.int p0), .val (.int p1), .val (.int p2), .val (.int p3), .val (.int p4), .val (.int (1 : Int32)), .val (.int (1 : Int32)), .unset, .unset, .unset, .unset, .unset, .unset]) rfl) ?_
      show own_F p e below s Z _ _ _ _ _ (T0.setTop (mkF m 18 #[.val (.int p0), .val (.int p1), .val (.int p2), .val (.int p3), .val (.int p4), .val (.int (1 : Int32)), .val (.int (1 : Int32)), .unset, .unset, .unset, .unset, .unset, .unset] []))
      refine own_new S0 (own_w hw 0 rfl) (own_w hw 1 rfl) (own_w hw 2 rfl) at_18 (by decide) (by decide) (fun T101 h101 b101 g101 S101 E101 A101 D101 => ?_)
      have F101_modCount : Fld Z h101 b101 "java/util/AbstractList" "modCount" "I" (.int (0 : Int32)) := (D101 (Or.inl (own_w hw 22 rfl)) (ty := .int) (by decide))
      have F101_elementData : Fld Z h101 b101 "java/util/ArrayList" "elementData" "[Ljava/lang/Object;" .null := (D101 (Or.inl (own_w hw 25 rfl)) (ty := (.array (.object "java/lang/Object"))) (by decide))
      have F101_size : Fld Z h101 b101 "java/util/ArrayList" "size" "I" (.int (0 : Int32)) := (D101 (Or.inl (own_w hw 62 rfl)) (ty := .int) (by decide))
      show own_F p e below s Z _ _ _ _ _ (T101.setTop (mkF m 21 #[.val (.int p0), .val (.int p1), .val (.int p2), .val (.int p3), .val (.int p4), .val (.int (1 : Int32)), .val (.int (1 : Int32)), .unset, .unset, .unset, .unset, .unset, .unset] [(.ref b101)]))
      refine own_F.of (fun _ => XS.dup S101.here S101.hx rfl (S101.dec at_21) rfl rfl) ?_
      show own_F p e below s Z _ _ _ _ _ (T101.setTop (mkF m 22 #[.val (.int p0), .val (.int p1), .val (.int p2), .val (.int p3), .val (.int p4), .val (.int (1 : Int32)), .val (.int (1 : Int32)), .unset, .unset, .unset, .unset, .unset, .unset] [(.ref b101), (.ref b101)]))
      refine own_callI S101 (y := (⟨"java/util/ArrayList", "<init>", "()V"⟩ : MethodName)) rfl (own_w hw 3 rfl) (own_w hw 4 rfl) (own_w hw 2 rfl) (own_w hw 5 rfl) (by decide) (argsL := []) (rest := [(.ref b101)]) (own_ALI l Z a0 hw b101 aD h101 S101.old SD AD (own_mayN S101 (Or.inr (by rw [g101]; exact S0.size))) A101 F101_modCount F101_elementData F101_size) (allS (Or.inr (by rw [g101]; exact S0.size)) all0) (by decide +kernel : parseMethodDescriptor "()V" = some ⟨[], none⟩) rfl rfl rfl at_22 (by decide) (Nat.le_of_ble_eq_true rfl) (by decide) (by decide) (fun T102 h102 v102 S102 K102 q102 => ?_)
      obtain ⟨rfl, Fm102, Fe102, Fs102⟩ := q102
      show own_F p e below s Z _ _ _ _ _ (T102.setTop (mkF m 25 #[.val (.int p0), .val (.int p1), .val (.int p2), .val (.int p3), .val (.int p4), .val (.int (1 : Int32)), .val (.int (1 : Int32)), .unset, .unset, .unset, .unset, .unset, .unset] [(.ref b101)]))
      refine own_F.of (fun _ => XS.astore S102.here S102.hx rfl (S102.dec at_25) rfl rfl (l' := #[.val (.int p0), .val (.int p1), .val (.int p2), .val (.int p3), .val (.int p4), .val (.int (1 : Int32)), .val (.int (1 : Int32)), .val (.ref b101), .unset, .unset, .unset, .unset, .unset]) rfl) ?_
      show own_F p e below s Z _ _ _ _ _ (T102.setTop (mkF m 27 #[.val (.int p0), .val (.int p1), .val (.int p2), .val (.int p3), .val (.int p4), .val (.int (1 : Int32)), .val (.int (1 : Int32)), .val (.ref b101), .unset, .unset, .unset, .unset, .unset] []))
      refine own_F.of (fun _ => XS.iload S102.here S102.hx rfl (S102.dec at_27) rfl) ?_
      show own_F p e below s Z _ _ _ _ _ (T102.setTop (mkF m 29 #[.val (.int p0), .val (.int p1), .val (.int p2), .val (.int p3), .val (.int p4), .val (.int (1 : Int32)), .val (.int (1 : Int32)), .val (.ref b101), .unset, .unset, .unset, .unset, .unset] [(.int (1 : Int32))]))
      refine own_if S102 42 at_29 (by decide) (by decide) (fun (hc29_103 : ¬ ((0 : Int32) < (1 : Int32))) => False.elim (absurd hc29_103 (by decide))) (fun (hc29_103 : (0 : Int32) < (1 : Int32)) => ?_)
      show own_F p e below s Z _ _ _ _ _ (T102.setTop (mkF m 32 #[.val (.int p0), .val (.int p1), .val (.int p2), .val (.int p3), .val (.int p4), .val (.int (1 : Int32)), .val (.int (1 : Int32)), .val (.ref b101), .unset, .unset, .unset, .unset, .unset] []))
      refine own_F.of (fun _ => XS.aload S102.here S102.hx rfl (S102.dec at_32) rfl rfl) ?_
      show own_F p e below s Z _ _ _ _ _ (T102.setTop (mkF m 34 #[.val (.int p0), .val (.int p1), .val (.int p2), .val (.int p3), .val (.int p4), .val (.int (1 : Int32)), .val (.int (1 : Int32)), .val (.ref b101), .unset, .unset, .unset, .unset, .unset] [(.ref b101)]))
      refine own_F.of (fun _ => XS.iloadN S102.here S102.hx rfl (S102.dec at_34) rfl) ?_
      show own_F p e below s Z _ _ _ _ _ (T102.setTop (mkF m 35 #[.val (.int p0), .val (.int p1), .val (.int p2), .val (.int p3), .val (.int p4), .val (.int (1 : Int32)), .val (.int (1 : Int32)), .val (.ref b101), .unset, .unset, .unset, .unset, .unset] [(.int p1), (.ref b101)]))
      refine own_callS S102 (y := (⟨"java/lang/Integer", "valueOf", "(I)Ljava/lang/Integer;"⟩ : MethodName)) (own_w hw 142 rfl) (own_w hw 143 rfl) (own_w hw 144 rfl) (own_w hw 145 rfl) (by decide) (argsL := [(.int p1)]) (rest := [(.ref b101)]) (own_vOfI l Z a0 hw p1 aCI clCI h102 S102.old SHi SCaI BXI) all0 (by decide +kernel : parseMethodDescriptor "(I)Ljava/lang/Integer;" = some ⟨[.int], some (.object "java/lang/Integer")⟩) rfl rfl rfl at_35 (by decide) (Nat.le_of_ble_eq_true rfl) (by decide) (by decide) (fun T104 h104 v104 S104 K104 q104 => ?_)
      obtain ⟨b104, rfl, X104, F104⟩ := q104
      show own_F p e below s Z _ _ _ _ _ (T104.setTop (mkF m 38 #[.val (.int p0), .val (.int p1), .val (.int p2), .val (.int p3), .val (.int p4), .val (.int (1 : Int32)), .val (.int (1 : Int32)), .val (.ref b101), .unset, .unset, .unset, .unset, .unset] [(.ref b104), (.ref b101)]))
      have fq105 := (Fe102.keep K104 nin0)
      have fq106 := (Fs102.keep K104 nin0)
      have fq107 := (Fm102.keep K104 nin0)
      have fq108 := ((A101.keep K102).keep K104)
      refine own_callV S104 (y := (⟨"java/util/ArrayList", "add", "(Ljava/lang/Object;)Z"⟩ : MethodName)) (y' := (⟨"java/util/ArrayList", "add", "(Ljava/lang/Object;)Z"⟩ : MethodName)) (own_w hw 149 rfl) (own_w hw 150 rfl) (own_nf S104 (own_w hw 152 rfl)) (own_w hw 152 rfl) (own_w hw 151 rfl) (own_w hw 153 rfl) (own_w hw 2 rfl) (by decide) fq108 (argsL := [(.ref b104)]) (rest := []) (own_add_0 l Z a0 hw b101 b104 aD (0 : Int32) h104 S104.old SD AD (own_mayN S104 (Or.inr (by rw [g101]; exact S0.size))) fq108 fq105 fq106 fq107 X104) (allS (Or.inr (by rw [g101]; exact S0.size)) all0) (by decide +kernel : parseMethodDescriptor "(Ljava/lang/Object;)Z" = some ⟨[(.object "java/lang/Object")], some .boolean⟩) rfl rfl rfl at_38 (by decide) (Nat.le_of_ble_eq_true rfl) (by decide) (by decide) (fun T109 h109 v109 S109 K109 q109 => ?_)
      obtain ⟨rfl, b109, g109, A109, Fe109, Fs109, Fm109⟩ := q109
      have V110 : own_AO Z h109 b109 [(.ref b104), .null, .null, .null, .null, .null, .null, .null, .null, .null] := A109
      show own_F p e below s Z _ _ _ _ _ (T109.setTop (mkF m 41 #[.val (.int p0), .val (.int p1), .val (.int p2), .val (.int p3), .val (.int p4), .val (.int (1 : Int32)), .val (.int (1 : Int32)), .val (.ref b101), .unset, .unset, .unset, .unset, .unset] [(.int (1 : Int32))]))
      refine own_F.of (fun _ => XS.pop S109.here S109.hx rfl (S109.dec at_41) rfl rfl) ?_
      show own_F p e below s Z _ _ _ _ _ (T109.setTop (mkF m 42 #[.val (.int p0), .val (.int p1), .val (.int p2), .val (.int p3), .val (.int p4), .val (.int (1 : Int32)), .val (.int (1 : Int32)), .val (.ref b101), .unset, .unset, .unset, .unset, .unset] []))
      refine own_F.of (fun _ => XS.iload S109.here S109.hx rfl (S109.dec at_42) rfl) ?_
      show own_F p e below s Z _ _ _ _ _ (T109.setTop (mkF m 44 #[.val (.int p0), .val (.int p1), .val (.int p2), .val (.int p3), .val (.int p4), .val (.int (1 : Int32)), .val (.int (1 : Int32)), .val (.ref b101), .unset, .unset, .unset, .unset, .unset] [(.int (1 : Int32))]))
      refine own_F.of (fun _ => XS.iconst S109.here S109.hx rfl (S109.dec at_44)) ?_
      show own_F p e below s Z _ _ _ _ _ (T109.setTop (mkF m 45 #[.val (.int p0), .val (.int p1), .val (.int p2), .val (.int p3), .val (.int p4), .val (.int (1 : Int32)), .val (.int (1 : Int32)), .val (.ref b101), .unset, .unset, .unset, .unset, .unset] [(.int (1 : Int32)), (.int (1 : Int32))]))
      refine own_icmp S109 58 at_45 (by decide) (by decide) (fun (hc45_111 : ¬ ((1 : Int32) < (1 : Int32))) => ?_) (fun (hc45_111 : (1 : Int32) < (1 : Int32)) => False.elim (absurd hc45_111 (by decide)))
      show own_F p e below s Z _ _ _ _ _ (T109.setTop (mkF m 58 #[.val (.int p0), .val (.int p1), .val (.int p2), .val (.int p3), .val (.int p4), .val (.int (1 : Int32)), .val (.int (1 : Int32)), .val (.ref b101), .unset, .unset, .unset, .unset, .unset] []))
      refine own_F.of (fun _ => XS.iload S109.here S109.hx rfl (S109.dec at_58) rfl) ?_
      show own_F p e below s Z _ _ _ _ _ (T109.setTop (mkF m 60 #[.val (.int p0), .val (.int p1), .val (.int p2), .val (.int p3), .val (.int p4), .val (.int (1 : Int32)), .val (.int (1 : Int32)), .val (.ref b101), .unset, .unset, .unset, .unset, .unset] [(.int (1 : Int32))]))
      refine own_F.of (fun _ => XS.iconst S109.here S109.hx rfl (S109.dec at_60)) ?_
      show own_F p e below s Z _ _ _ _ _ (T109.setTop (mkF m 61 #[.val (.int p0), .val (.int p1), .val (.int p2), .val (.int p3), .val (.int p4), .val (.int (1 : Int32)), .val (.int (1 : Int32)), .val (.ref b101), .unset, .unset, .unset, .unset, .unset] [(.int (2 : Int32)), (.int (1 : Int32))]))
      refine own_icmp S109 74 at_61 (by decide) (by decide) (fun (hc61_112 : ¬ ((2 : Int32) < (1 : Int32))) => ?_) (fun (hc61_112 : (2 : Int32) < (1 : Int32)) => False.elim (absurd hc61_112 (by decide)))
      show own_F p e below s Z _ _ _ _ _ (T109.setTop (mkF m 74 #[.val (.int p0), .val (.int p1), .val (.int p2), .val (.int p3), .val (.int p4), .val (.int (1 : Int32)), .val (.int (1 : Int32)), .val (.ref b101), .unset, .unset, .unset, .unset, .unset] []))
      refine own_F.of (fun _ => XS.iload S109.here S109.hx rfl (S109.dec at_74) rfl) ?_
      show own_F p e below s Z _ _ _ _ _ (T109.setTop (mkF m 76 #[.val (.int p0), .val (.int p1), .val (.int p2), .val (.int p3), .val (.int p4), .val (.int (1 : Int32)), .val (.int (1 : Int32)), .val (.ref b101), .unset, .unset, .unset, .unset, .unset] [(.int (1 : Int32))]))
      refine own_if S109 87 at_76 (by decide) (by decide) (fun (hc76_113 : (1 : Int32) = (0 : Int32)) => False.elim (absurd hc76_113 (by decide))) (fun (hc76_113 : ¬ ((1 : Int32) = (0 : Int32))) => ?_)
      show own_F p e below s Z _ _ _ _ _ (T109.setTop (mkF m 79 #[.val (.int p0), .val (.int p1), .val (.int p2), .val (.int p3), .val (.int p4), .val (.int (1 : Int32)), .val (.int (1 : Int32)), .val (.ref b101), .unset, .unset, .unset, .unset, .unset] []))
      refine own_F.of (fun _ => XS.iload S109.here S109.hx rfl (S109.dec at_79) rfl) ?_
      show own_F p e below s Z _ _ _ _ _ (T109.setTop (mkF m 81 #[.val (.int p0), .val (.int p1), .val (.int p2), .val (.int p3), .val (.int p4), .val (.int (1 : Int32)), .val (.int (1 : Int32)), .val (.ref b101), .unset, .unset, .unset, .unset, .unset] [(.int p4)]))
      refine own_callS S109 (y := (⟨"java/lang/Integer", "valueOf", "(I)Ljava/lang/Integer;"⟩ : MethodName)) (own_w hw 142 rfl) (own_w hw 143 rfl) (own_w hw 144 rfl) (own_w hw 145 rfl) (by decide) (argsL := [(.int p4)]) (rest := []) (own_vOfI l Z a0 hw p4 aCI clCI h109 S109.old SHi SCaI BXI) all0 (by decide +kernel : parseMethodDescriptor "(I)Ljava/lang/Integer;" = some ⟨[.int], some (.object "java/lang/Integer")⟩) rfl rfl rfl at_81 (by decide) (Nat.le_of_ble_eq_true rfl) (by decide) (by decide) (fun T114 h114 v114 S114 K114 q114 => ?_)
      obtain ⟨b114, rfl, X114, F114⟩ := q114
      show own_F p e below s Z _ _ _ _ _ (T114.setTop (mkF m 84 #[.val (.int p0), .val (.int p1), .val (.int p2), .val (.int p3), .val (.int p4), .val (.int (1 : Int32)), .val (.int (1 : Int32)), .val (.ref b101), .unset, .unset, .unset, .unset, .unset] [(.ref b114)]))
      refine own_F.of (fun _ => XS.goto S114.here S114.hx rfl (pc0 := 84) (pc' := 88) rfl (S114.dec at_84) (by decide) (by decide)) ?_
      show own_F p e below s Z _ _ _ _ _ (T114.setTop (mkF m 88 #[.val (.int p0), .val (.int p1), .val (.int p2), .val (.int p3), .val (.int p4), .val (.int (1 : Int32)), .val (.int (1 : Int32)), .val (.ref b101), .unset, .unset, .unset, .unset, .unset] [(.ref b114)]))
      refine own_F.of (fun _ => XS.astore S114.here S114.hx rfl (S114.dec at_88) rfl rfl (l' := #[.val (.int p0), .val (.int p1), .val (.int p2), .val (.int p3), .val (.int p4), .val (.int (1 : Int32)), .val (.int (1 : Int32)), .val (.ref b101), .val (.ref b114), .unset, .unset, .unset, .unset]) rfl) ?_
      show own_F p e below s Z _ _ _ _ _ (T114.setTop (mkF m 90 #[.val (.int p0), .val (.int p1), .val (.int p2), .val (.int p3), .val (.int p4), .val (.int (1 : Int32)), .val (.int (1 : Int32)), .val (.ref b101), .val (.ref b114), .unset, .unset, .unset, .unset] []))
      refine own_new S114 (own_w hw 26 rfl) (own_w hw 27 rfl) (own_w hw 28 rfl) at_90 (by decide) (by decide) (fun T115 h115 b115 g115 S115 E115 A115 D115 => ?_)
      have F115_items : Fld Z h115 b115 "com/example/tidemark/tidemark/Page" "items" "Ljava/util/List;" .null := (D115 (Or.inr (own_w hw 68 rfl)) (ty := (.object "java/util/List")) (by decide))
      have F115_nextKey : Fld Z h115 b115 "com/example/tidemark/tidemark/Page" "nextKey" "Ljava/lang/Object;" .null := (D115 (Or.inr (own_w hw 70 rfl)) (ty := (.object "java/lang/Object")) (by decide))
      show own_F p e below s Z _ _ _ _ _ (T115.setTop (mkF m 93 #[.val (.int p0), .val (.int p1), .val (.int p2), .val (.int p3), .val (.int p4), .val (.int (1 : Int32)), .val (.int (1 : Int32)), .val (.ref b101), .val (.ref b114), .unset, .unset, .unset, .unset] [(.ref b115)]))
      refine own_F.of (fun _ => XS.dup S115.here S115.hx rfl (S115.dec at_93) rfl rfl) ?_
      show own_F p e below s Z _ _ _ _ _ (T115.setTop (mkF m 94 #[.val (.int p0), .val (.int p1), .val (.int p2), .val (.int p3), .val (.int p4), .val (.int (1 : Int32)), .val (.int (1 : Int32)), .val (.ref b101), .val (.ref b114), .unset, .unset, .unset, .unset] [(.ref b115), (.ref b115)]))
      refine own_F.of (fun _ => XS.aload S115.here S115.hx rfl (S115.dec at_94) rfl rfl) ?_
      show own_F p e below s Z _ _ _ _ _ (T115.setTop (mkF m 96 #[.val (.int p0), .val (.int p1), .val (.int p2), .val (.int p3), .val (.int p4), .val (.int (1 : Int32)), .val (.int (1 : Int32)), .val (.ref b101), .val (.ref b114), .unset, .unset, .unset, .unset] [(.ref b101), (.ref b115), (.ref b115)]))
      refine own_F.of (fun _ => XS.aload S115.here S115.hx rfl (S115.dec at_96) rfl rfl) ?_
      show own_F p e below s Z _ _ _ _ _ (T115.setTop (mkF m 98 #[.val (.int p0), .val (.int p1), .val (.int p2), .val (.int p3), .val (.int p4), .val (.int (1 : Int32)), .val (.int (1 : Int32)), .val (.ref b101), .val (.ref b114), .unset, .unset, .unset, .unset] [(.ref b114), (.ref b101), (.ref b115), (.ref b115)]))
      have fq116 := (((fq108.keep K109).keep K114).ext E115)
      have fq117 := ((Fs109.keep K114 nin0).ext E115)
      have fq118 := ((Fe109.keep K114 nin0).ext E115)
      have fq119 := ((V110.keep K114 nin0).ext E115)
      have fq120 := (((X104.keep K109).keep K114).ext E115)
      refine own_callI S115 (y := (⟨"com/example/tidemark/tidemark/Page", "<init>", "(Ljava/util/List;Ljava/lang/Object;)V"⟩ : MethodName)) rfl (own_w hw 29 rfl) (own_w hw 30 rfl) (own_w hw 28 rfl) (own_w hw 31 rfl) (by decide) (argsL := [(.ref b101), (.ref b114)]) (rest := [(.ref b115)]) (own_Page1 l Z a0 hw b115 b101 (.ref b114) b109 b104 aM mO h115 S115.old rfl SM MO (own_mayN S115 (Or.inr (by rw [g115]; exact S114.size))) A115 F115_items F115_nextKey fq116 fq117 fq118 fq119 fq120) (allS (Or.inr (by rw [g115]; exact S114.size)) all0) (by decide +kernel : parseMethodDescriptor "(Ljava/util/List;Ljava/lang/Object;)V" = some ⟨[(.object "java/util/List"), (.object "java/lang/Object")], none⟩) rfl rfl rfl at_98 (by decide) (Nat.le_of_ble_eq_true rfl) (by decide) (by decide) (fun T121 h121 v121 S121 K121 q121 => ?_)
      obtain ⟨rfl, b121, Fi121, Fk121, X121, P121, R121⟩ := q121
      show own_F p e below s Z _ _ _ _ _ (T121.setTop (mkF m 101 #[.val (.int p0), .val (.int p1), .val (.int p2), .val (.int p3), .val (.int p4), .val (.int (1 : Int32)), .val (.int (1 : Int32)), .val (.ref b101), .val (.ref b114), .unset, .unset, .unset, .unset] [(.ref b115)]))
      refine own_F.of (fun _ => XS.astore S121.here S121.hx rfl (S121.dec at_101) rfl rfl (l' := #[.val (.int p0), .val (.int p1), .val (.int p2), .val (.int p3), .val (.int p4), .val (.int (1 : Int32)), .val (.int (1 : Int32)), .val (.ref b101), .val (.ref b114), .val (.ref b115), .unset, .unset, .unset]) rfl) ?_
      show own_F p e below s Z _ _ _ _ _ (T121.setTop (mkF m 103 #[.val (.int p0), .val (.int p1), .val (.int p2), .val (.int p3), .val (.int p4), .val (.int (1 : Int32)), .val (.int (1 : Int32)), .val (.ref b101), .val (.ref b114), .val (.ref b115), .unset, .unset, .unset] []))
      refine own_F.of (fun _ => XS.aload S121.here S121.hx rfl (S121.dec at_103) rfl rfl) ?_
      show own_F p e below s Z _ _ _ _ _ (T121.setTop (mkF m 105 #[.val (.int p0), .val (.int p1), .val (.int p2), .val (.int p3), .val (.int p4), .val (.int (1 : Int32)), .val (.int (1 : Int32)), .val (.ref b101), .val (.ref b114), .val (.ref b115), .unset, .unset, .unset] [(.ref b115)]))
      have fq122 := (A115.keep K121)
      refine own_callS S121 (y := (⟨"com/example/tidemark/tidemark/PagedList", "first", "(Lcom/example/tidemark/tidemark/Page;)Lcom/example/tidemark/tidemark/PagedList;"⟩ : MethodName)) (own_w hw 71 rfl) (own_w hw 72 rfl) (own_w hw 73 rfl) (own_w hw 74 rfl) (by decide) (argsL := [(.ref b115)]) (rest := []) (own_firstR l Z a0 hw b115 b121 b114 a_END a_IDLE a_FAILED h121 S121.old S_END S_IDLE S_FAILED fq122 Fi121 Fk121) all0 (by decide +kernel : parseMethodDescriptor "(Lcom/example/tidemark/tidemark/Page;)Lcom/example/tidemark/tidemark/PagedList;" = some ⟨[(.object "com/example/tidemark/tidemark/Page")], some (.object "com/example/tidemark/tidemark/PagedList")⟩) rfl rfl rfl at_105 (by decide) (Nat.le_of_ble_eq_true rfl) (by decide) (by decide) (fun T123 h123 v123 S123 K123 q123 => ?_)
      obtain ⟨b123, rfl, X123, Fi123, Ff123, Fk123⟩ := q123
      show own_F p e below s Z _ _ _ _ _ (T123.setTop (mkF m 108 #[.val (.int p0), .val (.int p1), .val (.int p2), .val (.int p3), .val (.int p4), .val (.int (1 : Int32)), .val (.int (1 : Int32)), .val (.ref b101), .val (.ref b114), .val (.ref b115), .unset, .unset, .unset] [(.ref b123)]))
      refine own_F.of (fun _ => XS.astore S123.here S123.hx rfl (S123.dec at_108) rfl rfl (l' := #[.val (.int p0), .val (.int p1), .val (.int p2), .val (.int p3), .val (.int p4), .val (.int (1 : Int32)), .val (.int (1 : Int32)), .val (.ref b101), .val (.ref b114), .val (.ref b115), .val (.ref b123), .unset, .unset]) rfl) ?_
      show own_F p e below s Z _ _ _ _ _ (T123.setTop (mkF m 110 #[.val (.int p0), .val (.int p1), .val (.int p2), .val (.int p3), .val (.int p4), .val (.int (1 : Int32)), .val (.int (1 : Int32)), .val (.ref b101), .val (.ref b114), .val (.ref b115), .val (.ref b123), .unset, .unset] []))
      refine own_F.of (fun _ => XS.aload S123.here S123.hx rfl (S123.dec at_110) rfl rfl) ?_
      show own_F p e below s Z _ _ _ _ _ (T123.setTop (mkF m 112 #[.val (.int p0), .val (.int p1), .val (.int p2), .val (.int p3), .val (.int p4), .val (.int (1 : Int32)), .val (.int (1 : Int32)), .val (.ref b101), .val (.ref b114), .val (.ref b115), .val (.ref b123), .unset, .unset] [(.ref b123)]))
      refine own_callV S123 (y := (⟨"com/example/tidemark/tidemark/PagedList", "items", "()Ljava/util/List;"⟩ : MethodName)) (y' := (⟨"com/example/tidemark/tidemark/PagedList", "items", "()Ljava/util/List;"⟩ : MethodName)) (own_w hw 105 rfl) (own_w hw 106 rfl) (own_nf S123 (own_w hw 108 rfl)) (own_w hw 108 rfl) (own_w hw 107 rfl) (own_w hw 109 rfl) (own_w hw 73 rfl) (by decide) X123 (argsL := []) (rest := []) (own_plI l Z a0 hw b123 (.ref b121) h123 S123.old rfl Fi123) all0 (by decide +kernel : parseMethodDescriptor "()Ljava/util/List;" = some ⟨[], some (.object "java/util/List")⟩) rfl rfl rfl at_112 (by decide) (Nat.le_of_ble_eq_true rfl) (by decide) (by decide) (fun T124 h124 v124 S124 K124 q124 => ?_)
      obtain ⟨rfl, rfl⟩ := q124
      show own_F p e below s Z _ _ _ _ _ (T124.setTop (mkF m 115 #[.val (.int p0), .val (.int p1), .val (.int p2), .val (.int p3), .val (.int p4), .val (.int (1 : Int32)), .val (.int (1 : Int32)), .val (.ref b101), .val (.ref b114), .val (.ref b115), .val (.ref b123), .unset, .unset] [(.ref b121)]))
      refine own_F.of (fun _ => XS.astore S124.here S124.hx rfl (S124.dec at_115) rfl rfl (l' := #[.val (.int p0), .val (.int p1), .val (.int p2), .val (.int p3), .val (.int p4), .val (.int (1 : Int32)), .val (.int (1 : Int32)), .val (.ref b101), .val (.ref b114), .val (.ref b115), .val (.ref b123), .val (.ref b121), .unset]) rfl) ?_
      show own_F p e below s Z _ _ _ _ _ (T124.setTop (mkF m 117 #[.val (.int p0), .val (.int p1), .val (.int p2), .val (.int p3), .val (.int p4), .val (.int (1 : Int32)), .val (.int (1 : Int32)), .val (.ref b101), .val (.ref b114), .val (.ref b115), .val (.ref b123), .val (.ref b121), .unset] []))
      refine own_F.of (fun _ => XS.aload S124.here S124.hx rfl (S124.dec at_117) rfl rfl) ?_
      show own_F p e below s Z _ _ _ _ _ (T124.setTop (mkF m 119 #[.val (.int p0), .val (.int p1), .val (.int p2), .val (.int p3), .val (.int p4), .val (.int (1 : Int32)), .val (.int (1 : Int32)), .val (.ref b101), .val (.ref b114), .val (.ref b115), .val (.ref b123), .val (.ref b121), .unset] [(.ref b121)]))
      have fq125 := (R121.keep K123 nin0)
      have fq127 := (X121.keep K123)
      refine own_callX S124 (y := (⟨"java/util/List", "size", "()I"⟩ : MethodName)) (y' := (⟨"java/util/ImmutableCollections$List12", "size", "()I"⟩ : MethodName)) (own_w hw 110 rfl) (own_w hw 111 rfl) (own_w hw 112 rfl) (own_w hw 286 rfl) (own_w hw 287 rfl) (own_w hw 288 rfl) (own_w hw 289 rfl) (own_w hw 290 rfl) (own_w hw 291 rfl) (own_w hw 272 rfl) (by decide) fq127 (argsL := []) (rest := []) (own_szT1 l Z a0 hw b121 aM aM h123 S124.old SM fq125 rfl) all0 (by decide +kernel : parseMethodDescriptor "()I" = some ⟨[], some .int⟩) rfl rfl rfl at_119 (by decide) (Nat.le_of_ble_eq_true rfl) (by decide) (by decide) (fun T126 h126 v126 S126 K126 q126 => ?_)
      obtain ⟨rfl, rfl⟩ := q126
      show own_F p e below s Z _ _ _ _ _ (T126.setTop (mkF m 124 #[.val (.int p0), .val (.int p1), .val (.int p2), .val (.int p3), .val (.int p4), .val (.int (1 : Int32)), .val (.int (1 : Int32)), .val (.ref b101), .val (.ref b114), .val (.ref b115), .val (.ref b123), .val (.ref b121), .unset] [(.int (1 : Int32))]))
      refine own_F.of (fun _ => XS.iload S126.here S126.hx rfl (S126.dec at_124) rfl) ?_
      show own_F p e below s Z _ _ _ _ _ (T126.setTop (mkF m 126 #[.val (.int p0), .val (.int p1), .val (.int p2), .val (.int p3), .val (.int p4), .val (.int (1 : Int32)), .val (.int (1 : Int32)), .val (.ref b101), .val (.ref b114), .val (.ref b115), .val (.ref b123), .val (.ref b121), .unset] [(.int (1 : Int32)), (.int (1 : Int32))]))
      refine own_icmp S126 131 at_126 (by decide) (by decide) (fun (hc126_128 : (1 : Int32) = (1 : Int32)) => ?_) (fun (hc126_128 : ¬ ((1 : Int32) = (1 : Int32))) => False.elim (absurd hc126_128 (by decide)))
      show own_F p e below s Z _ _ _ _ _ (T126.setTop (mkF m 131 #[.val (.int p0), .val (.int p1), .val (.int p2), .val (.int p3), .val (.int p4), .val (.int (1 : Int32)), .val (.int (1 : Int32)), .val (.ref b101), .val (.ref b114), .val (.ref b115), .val (.ref b123), .val (.ref b121), .unset] []))
      refine own_F.of (fun _ => XS.iload S126.here S126.hx rfl (S126.dec at_131) rfl) ?_
      show own_F p e below s Z _ _ _ _ _ (T126.setTop (mkF m 133 #[.val (.int p0), .val (.int p1), .val (.int p2), .val (.int p3), .val (.int p4), .val (.int (1 : Int32)), .val (.int (1 : Int32)), .val (.ref b101), .val (.ref b114), .val (.ref b115), .val (.ref b123), .val (.ref b121), .unset] [(.int (1 : Int32))]))
      refine own_if S126 156 at_133 (by decide) (by decide) (fun (hc133_129 : ¬ ((0 : Int32) < (1 : Int32))) => False.elim (absurd hc133_129 (by decide))) (fun (hc133_129 : (0 : Int32) < (1 : Int32)) => ?_)
      show own_F p e below s Z _ _ _ _ _ (T126.setTop (mkF m 136 #[.val (.int p0), .val (.int p1), .val (.int p2), .val (.int p3), .val (.int p4), .val (.int (1 : Int32)), .val (.int (1 : Int32)), .val (.ref b101), .val (.ref b114), .val (.ref b115), .val (.ref b123), .val (.ref b121), .unset] []))
      refine own_F.of (fun _ => XS.aload S126.here S126.hx rfl (S126.dec at_136) rfl rfl) ?_
      show own_F p e below s Z _ _ _ _ _ (T126.setTop (mkF m 138 #[.val (.int p0), .val (.int p1), .val (.int p2), .val (.int p3), .val (.int p4), .val (.int (1 : Int32)), .val (.int (1 : Int32)), .val (.ref b101), .val (.ref b114), .val (.ref b115), .val (.ref b123), .val (.ref b121), .unset] [(.ref b121)]))
      refine own_F.of (fun _ => XS.iconst S126.here S126.hx rfl (S126.dec at_138)) ?_
      show own_F p e below s Z _ _ _ _ _ (T126.setTop (mkF m 139 #[.val (.int p0), .val (.int p1), .val (.int p2), .val (.int p3), .val (.int p4), .val (.int (1 : Int32)), .val (.int (1 : Int32)), .val (.ref b101), .val (.ref b114), .val (.ref b115), .val (.ref b123), .val (.ref b121), .unset] [(.int (0 : Int32)), (.ref b121)]))
      have fq130 := (P121.keep K123 nin0)
      refine own_callX S126 (y := (⟨"java/util/List", "get", "(I)Ljava/lang/Object;"⟩ : MethodName)) (y' := (⟨"java/util/ImmutableCollections$List12", "get", "(I)Ljava/lang/Object;"⟩ : MethodName)) (own_w hw 240 rfl) (own_w hw 241 rfl) (own_w hw 242 rfl) (own_w hw 293 rfl) (own_w hw 294 rfl) (own_w hw 295 rfl) (own_w hw 296 rfl) (own_w hw 290 rfl) (own_w hw 297 rfl) (own_w hw 272 rfl) (by decide) fq127 (argsL := [(.int (0 : Int32))]) (rest := []) (own_gtT_0 l Z a0 hw b121 b104 aM h123 S126.old fq130 fq125) all0 (by decide +kernel : parseMethodDescriptor "(I)Ljava/lang/Object;" = some ⟨[.int], some (.object "java/lang/Object")⟩) rfl rfl rfl at_139 (by decide) (Nat.le_of_ble_eq_true rfl) (by decide) (by decide) (fun T131 h131 v131 S131 K131 q131 => ?_)
      obtain ⟨rfl, rfl⟩ := q131
      show own_F p e below s Z _ _ _ _ _ (T131.setTop (mkF m 144 #[.val (.int p0), .val (.int p1), .val (.int p2), .val (.int p3), .val (.int p4), .val (.int (1 : Int32)), .val (.int (1 : Int32)), .val (.ref b101), .val (.ref b114), .val (.ref b115), .val (.ref b123), .val (.ref b121), .unset] [(.ref b104)]))
      have fq133 := ((fq120.keep K121).keep K123)
      refine own_cast S131 (own_w hw 248 rfl) (Ins.self fq133) at_144 (fun T132 S132 => ?_)
      show own_F p e below s Z _ _ _ _ _ (T132.setTop (mkF m 147 #[.val (.int p0), .val (.int p1), .val (.int p2), .val (.int p3), .val (.int p4), .val (.int (1 : Int32)), .val (.int (1 : Int32)), .val (.ref b101), .val (.ref b114), .val (.ref b115), .val (.ref b123), .val (.ref b121), .unset] [(.ref b104)]))
      have fq134 := (((((F104.keep K109 (ninS (ne_exa fq133 ((fq116.keep K121).keep K123) (by decide)) nin0)).keep K114 nin0).ext E115).keep K121 (ninS (ne_exa fq133 (fq122.keep K123) (by decide)) nin0)).keep K123 nin0)
      refine own_callV S132 (y := (⟨"java/lang/Integer", "intValue", "()I"⟩ : MethodName)) (y' := (⟨"java/lang/Integer", "intValue", "()I"⟩ : MethodName)) (own_w hw 250 rfl) (own_w hw 251 rfl) (own_nf S132 (own_w hw 253 rfl)) (own_w hw 253 rfl) (own_w hw 252 rfl) (own_w hw 254 rfl) (own_w hw 144 rfl) (by decide) fq133 (argsL := []) (rest := []) (own_intV l Z a0 hw b104 p1 h123 S132.old fq134) all0 (by decide +kernel : parseMethodDescriptor "()I" = some ⟨[], some .int⟩) rfl rfl rfl at_147 (by decide) (Nat.le_of_ble_eq_true rfl) (by decide) (by decide) (fun T135 h135 v135 S135 K135 q135 => ?_)
      obtain ⟨rfl, rfl⟩ := q135
      show own_F p e below s Z _ _ _ _ _ (T135.setTop (mkF m 150 #[.val (.int p0), .val (.int p1), .val (.int p2), .val (.int p3), .val (.int p4), .val (.int (1 : Int32)), .val (.int (1 : Int32)), .val (.ref b101), .val (.ref b114), .val (.ref b115), .val (.ref b123), .val (.ref b121), .unset] [(.int p1)]))
      refine own_F.of (fun _ => XS.iloadN S135.here S135.hx rfl (S135.dec at_150) rfl) ?_
      show own_F p e below s Z _ _ _ _ _ (T135.setTop (mkF m 151 #[.val (.int p0), .val (.int p1), .val (.int p2), .val (.int p3), .val (.int p4), .val (.int (1 : Int32)), .val (.int (1 : Int32)), .val (.ref b101), .val (.ref b114), .val (.ref b115), .val (.ref b123), .val (.ref b121), .unset] [(.int p1), (.int p1)]))
      refine own_icmp S135 156 at_151 (by decide) (by decide) (fun (hc151_136 : p1 = p1) => ?_) (fun (hc151_136 : ¬ (p1 = p1)) => False.elim (hc151_136 rfl))
      show own_F p e below s Z _ _ _ _ _ (T135.setTop (mkF m 156 #[.val (.int p0), .val (.int p1), .val (.int p2), .val (.int p3), .val (.int p4), .val (.int (1 : Int32)), .val (.int (1 : Int32)), .val (.ref b101), .val (.ref b114), .val (.ref b115), .val (.ref b123), .val (.ref b121), .unset] []))
      refine own_F.of (fun _ => XS.iload S135.here S135.hx rfl (S135.dec at_156) rfl) ?_
      show own_F p e below s Z _ _ _ _ _ (T135.setTop (mkF m 158 #[.val (.int p0), .val (.int p1), .val (.int p2), .val (.int p3), .val (.int p4), .val (.int (1 : Int32)), .val (.int (1 : Int32)), .val (.ref b101), .val (.ref b114), .val (.ref b115), .val (.ref b123), .val (.ref b121), .unset] [(.int (1 : Int32))]))
      refine own_F.of (fun _ => XS.iconst S135.here S135.hx rfl (S135.dec at_158)) ?_
      show own_F p e below s Z _ _ _ _ _ (T135.setTop (mkF m 159 #[.val (.int p0), .val (.int p1), .val (.int p2), .val (.int p3), .val (.int p4), .val (.int (1 : Int32)), .val (.int (1 : Int32)), .val (.ref b101), .val (.ref b114), .val (.ref b115), .val (.ref b123), .val (.ref b121), .unset] [(.int (1 : Int32)), (.int (1 : Int32))]))
      refine own_icmp S135 182 at_159 (by decide) (by decide) (fun (hc159_137 : ¬ ((1 : Int32) < (1 : Int32))) => ?_) (fun (hc159_137 : (1 : Int32) < (1 : Int32)) => False.elim (absurd hc159_137 (by decide)))
      show own_F p e below s Z _ _ _ _ _ (T135.setTop (mkF m 182 #[.val (.int p0), .val (.int p1), .val (.int p2), .val (.int p3), .val (.int p4), .val (.int (1 : Int32)), .val (.int (1 : Int32)), .val (.ref b101), .val (.ref b114), .val (.ref b115), .val (.ref b123), .val (.ref b121), .unset] []))
      refine own_F.of (fun _ => XS.iload S135.here S135.hx rfl (S135.dec at_182) rfl) ?_
      show own_F p e below s Z _ _ _ _ _ (T135.setTop (mkF m 184 #[.val (.int p0), .val (.int p1), .val (.int p2), .val (.int p3), .val (.int p4), .val (.int (1 : Int32)), .val (.int (1 : Int32)), .val (.ref b101), .val (.ref b114), .val (.ref b115), .val (.ref b123), .val (.ref b121), .unset] [(.int (1 : Int32))]))
      refine own_F.of (fun _ => XS.iconst S135.here S135.hx rfl (S135.dec at_184)) ?_
      show own_F p e below s Z _ _ _ _ _ (T135.setTop (mkF m 185 #[.val (.int p0), .val (.int p1), .val (.int p2), .val (.int p3), .val (.int p4), .val (.int (1 : Int32)), .val (.int (1 : Int32)), .val (.ref b101), .val (.ref b114), .val (.ref b115), .val (.ref b123), .val (.ref b121), .unset] [(.int (2 : Int32)), (.int (1 : Int32))]))
      refine own_icmp S135 208 at_185 (by decide) (by decide) (fun (hc185_138 : ¬ ((2 : Int32) < (1 : Int32))) => ?_) (fun (hc185_138 : (2 : Int32) < (1 : Int32)) => False.elim (absurd hc185_138 (by decide)))
      show own_F p e below s Z _ _ _ _ _ (T135.setTop (mkF m 208 #[.val (.int p0), .val (.int p1), .val (.int p2), .val (.int p3), .val (.int p4), .val (.int (1 : Int32)), .val (.int (1 : Int32)), .val (.ref b101), .val (.ref b114), .val (.ref b115), .val (.ref b123), .val (.ref b121), .unset] []))
      refine own_F.of (fun _ => XS.iload S135.here S135.hx rfl (S135.dec at_208) rfl) ?_
      show own_F p e below s Z _ _ _ _ _ (T135.setTop (mkF m 210 #[.val (.int p0), .val (.int p1), .val (.int p2), .val (.int p3), .val (.int p4), .val (.int (1 : Int32)), .val (.int (1 : Int32)), .val (.ref b101), .val (.ref b114), .val (.ref b115), .val (.ref b123), .val (.ref b121), .unset] [(.int (1 : Int32))]))
      refine own_if S135 219 at_210 (by decide) (by decide) (fun (hc210_139 : (1 : Int32) = (0 : Int32)) => False.elim (absurd hc210_139 (by decide))) (fun (hc210_139 : ¬ ((1 : Int32) = (0 : Int32))) => ?_)
      show own_F p e below s Z _ _ _ _ _ (T135.setTop (mkF m 213 #[.val (.int p0), .val (.int p1), .val (.int p2), .val (.int p3), .val (.int p4), .val (.int (1 : Int32)), .val (.int (1 : Int32)), .val (.ref b101), .val (.ref b114), .val (.ref b115), .val (.ref b123), .val (.ref b121), .unset] []))
      refine own_getS S135 (host := "") (Or.inl (own_w hw 269 rfl)) Via.refl (S_IDLE.ext S135.old) at_213 (fun T140 S140 => ?_)
      show own_F p e below s Z _ _ _ _ _ (T140.setTop (mkF m 216 #[.val (.int p0), .val (.int p1), .val (.int p2), .val (.int p3), .val (.int p4), .val (.int (1 : Int32)), .val (.int (1 : Int32)), .val (.ref b101), .val (.ref b114), .val (.ref b115), .val (.ref b123), .val (.ref b121), .unset] [(.ref a_IDLE)]))
      refine own_F.of (fun _ => XS.goto S140.here S140.hx rfl (pc0 := 216) (pc' := 222) rfl (S140.dec at_216) (by decide) (by decide)) ?_
      show own_F p e below s Z _ _ _ _ _ (T140.setTop (mkF m 222 #[.val (.int p0), .val (.int p1), .val (.int p2), .val (.int p3), .val (.int p4), .val (.int (1 : Int32)), .val (.int (1 : Int32)), .val (.ref b101), .val (.ref b114), .val (.ref b115), .val (.ref b123), .val (.ref b121), .unset] [(.ref a_IDLE)]))
      refine own_F.of (fun _ => XS.astore S140.here S140.hx rfl (S140.dec at_222) rfl rfl (l' := #[.val (.int p0), .val (.int p1), .val (.int p2), .val (.int p3), .val (.int p4), .val (.int (1 : Int32)), .val (.int (1 : Int32)), .val (.ref b101), .val (.ref b114), .val (.ref b115), .val (.ref b123), .val (.ref b121), .val (.ref a_IDLE)]) rfl) ?_
      show own_F p e below s Z _ _ _ _ _ (T140.setTop (mkF m 224 #[.val (.int p0), .val (.int p1), .val (.int p2), .val (.int p3), .val (.int p4), .val (.int (1 : Int32)), .val (.int (1 : Int32)), .val (.ref b101), .val (.ref b114), .val (.ref b115), .val (.ref b123), .val (.ref b121), .val (.ref a_IDLE)] []))
      refine own_F.of (fun _ => XS.aload S140.here S140.hx rfl (S140.dec at_224) rfl rfl) ?_
      show own_F p e below s Z _ _ _ _ _ (T140.setTop (mkF m 226 #[.val (.int p0), .val (.int p1), .val (.int p2), .val (.int p3), .val (.int p4), .val (.int (1 : Int32)), .val (.int (1 : Int32)), .val (.ref b101), .val (.ref b114), .val (.ref b115), .val (.ref b123), .val (.ref b121), .val (.ref a_IDLE)] [(.ref b123)]))
      refine own_callV S140 (y := (⟨"com/example/tidemark/tidemark/PagedList", "footer", "()Lcom/example/tidemark/tidemark/PagedList$Footer;"⟩ : MethodName)) (y' := (⟨"com/example/tidemark/tidemark/PagedList", "footer", "()Lcom/example/tidemark/tidemark/PagedList$Footer;"⟩ : MethodName)) (own_w hw 123 rfl) (own_w hw 124 rfl) (own_nf S140 (own_w hw 126 rfl)) (own_w hw 126 rfl) (own_w hw 125 rfl) (own_w hw 127 rfl) (own_w hw 73 rfl) (by decide) X123 (argsL := []) (rest := []) (own_plF l Z a0 hw b123 (.ref a_IDLE) h123 S140.old rfl Ff123) all0 (by decide +kernel : parseMethodDescriptor "()Lcom/example/tidemark/tidemark/PagedList$Footer;" = some ⟨[], some (.object "com/example/tidemark/tidemark/PagedList$Footer")⟩) rfl rfl rfl at_226 (by decide) (Nat.le_of_ble_eq_true rfl) (by decide) (by decide) (fun T141 h141 v141 S141 K141 q141 => ?_)
      obtain ⟨rfl, rfl⟩ := q141
      show own_F p e below s Z _ _ _ _ _ (T141.setTop (mkF m 229 #[.val (.int p0), .val (.int p1), .val (.int p2), .val (.int p3), .val (.int p4), .val (.int (1 : Int32)), .val (.int (1 : Int32)), .val (.ref b101), .val (.ref b114), .val (.ref b115), .val (.ref b123), .val (.ref b121), .val (.ref a_IDLE)] [(.ref a_IDLE)]))
      refine own_F.of (fun _ => XS.aload S141.here S141.hx rfl (S141.dec at_229) rfl rfl) ?_
      show own_F p e below s Z _ _ _ _ _ (T141.setTop (mkF m 231 #[.val (.int p0), .val (.int p1), .val (.int p2), .val (.int p3), .val (.int p4), .val (.int (1 : Int32)), .val (.int (1 : Int32)), .val (.ref b101), .val (.ref b114), .val (.ref b115), .val (.ref b123), .val (.ref b121), .val (.ref a_IDLE)] [(.ref a_IDLE), (.ref a_IDLE)]))
      refine own_acmp S141 rfl rfl 236 at_231 (by decide) (by decide) (fun (hc231_142 : (Value.ref a_IDLE) = (Value.ref a_IDLE)) => ?_) (fun (hc231_142 : ¬ ((Value.ref a_IDLE) = (Value.ref a_IDLE))) => False.elim (hc231_142 rfl))
      show own_F p e below s Z _ _ _ _ _ (T141.setTop (mkF m 236 #[.val (.int p0), .val (.int p1), .val (.int p2), .val (.int p3), .val (.int p4), .val (.int (1 : Int32)), .val (.int (1 : Int32)), .val (.ref b101), .val (.ref b114), .val (.ref b115), .val (.ref b123), .val (.ref b121), .val (.ref a_IDLE)] []))
      refine own_F.of (fun _ => XS.aload S141.here S141.hx rfl (S141.dec at_236) rfl rfl) ?_
      show own_F p e below s Z _ _ _ _ _ (T141.setTop (mkF m 238 #[.val (.int p0), .val (.int p1), .val (.int p2), .val (.int p3), .val (.int p4), .val (.int (1 : Int32)), .val (.int (1 : Int32)), .val (.ref b101), .val (.ref b114), .val (.ref b115), .val (.ref b123), .val (.ref b121), .val (.ref a_IDLE)] [(.ref b123)]))
      refine own_callV S141 (y := (⟨"com/example/tidemark/tidemark/PagedList", "canLoadMore", "()Z"⟩ : MethodName)) (y' := (⟨"com/example/tidemark/tidemark/PagedList", "canLoadMore", "()Z"⟩ : MethodName)) (own_w hw 128 rfl) (own_w hw 129 rfl) (own_nf S141 (own_w hw 131 rfl)) (own_w hw 131 rfl) (own_w hw 130 rfl) (own_w hw 132 rfl) (own_w hw 73 rfl) (by decide) X123 (argsL := []) (rest := []) (own_canR l Z a0 hw b123 a_END a_IDLE a_FAILED h123 S141.old S_END S_IDLE S_FAILED Ff123) all0 (by decide +kernel : parseMethodDescriptor "()Z" = some ⟨[], some .boolean⟩) rfl rfl rfl at_238 (by decide) (Nat.le_of_ble_eq_true rfl) (by decide) (by decide) (fun T143 h143 v143 S143 K143 q143 => ?_)
      obtain ⟨rfl, rfl⟩ := q143
      show own_F p e below s Z _ _ _ _ _ (T143.setTop (mkF m 241 #[.val (.int p0), .val (.int p1), .val (.int p2), .val (.int p3), .val (.int p4), .val (.int (1 : Int32)), .val (.int (1 : Int32)), .val (.ref b101), .val (.ref b114), .val (.ref b115), .val (.ref b123), .val (.ref b121), .val (.ref a_IDLE)] [(.int (1 : Int32))]))
      refine own_F.of (fun _ => XS.iload S143.here S143.hx rfl (S143.dec at_241) rfl) ?_
      show own_F p e below s Z _ _ _ _ _ (T143.setTop (mkF m 243 #[.val (.int p0), .val (.int p1), .val (.int p2), .val (.int p3), .val (.int p4), .val (.int (1 : Int32)), .val (.int (1 : Int32)), .val (.ref b101), .val (.ref b114), .val (.ref b115), .val (.ref b123), .val (.ref b121), .val (.ref a_IDLE)] [(.int (1 : Int32)), (.int (1 : Int32))]))
      refine own_icmp S143 248 at_243 (by decide) (by decide) (fun (hc243_144 : (1 : Int32) = (1 : Int32)) => ?_) (fun (hc243_144 : ¬ ((1 : Int32) = (1 : Int32))) => False.elim (absurd hc243_144 (by decide)))
      show own_F p e below s Z _ _ _ _ _ (T143.setTop (mkF m 248 #[.val (.int p0), .val (.int p1), .val (.int p2), .val (.int p3), .val (.int p4), .val (.int (1 : Int32)), .val (.int (1 : Int32)), .val (.ref b101), .val (.ref b114), .val (.ref b115), .val (.ref b123), .val (.ref b121), .val (.ref a_IDLE)] []))
      refine own_F.of (fun _ => XS.aload S143.here S143.hx rfl (S143.dec at_248) rfl rfl) ?_
      show own_F p e below s Z _ _ _ _ _ (T143.setTop (mkF m 250 #[.val (.int p0), .val (.int p1), .val (.int p2), .val (.int p3), .val (.int p4), .val (.int (1 : Int32)), .val (.int (1 : Int32)), .val (.ref b101), .val (.ref b114), .val (.ref b115), .val (.ref b123), .val (.ref b121), .val (.ref a_IDLE)] [(.ref b123)]))
      refine own_callV S143 (y := (⟨"com/example/tidemark/tidemark/PagedList", "nextKey", "()Ljava/lang/Object;"⟩ : MethodName)) (y' := (⟨"com/example/tidemark/tidemark/PagedList", "nextKey", "()Ljava/lang/Object;"⟩ : MethodName)) (own_w hw 137 rfl) (own_w hw 138 rfl) (own_nf S143 (own_w hw 140 rfl)) (own_w hw 140 rfl) (own_w hw 139 rfl) (own_w hw 141 rfl) (own_w hw 73 rfl) (by decide) X123 (argsL := []) (rest := []) (own_plK l Z a0 hw b123 (.ref b114) h123 S143.old rfl Fk123) all0 (by decide +kernel : parseMethodDescriptor "()Ljava/lang/Object;" = some ⟨[], some (.object "java/lang/Object")⟩) rfl rfl rfl at_250 (by decide) (Nat.le_of_ble_eq_true rfl) (by decide) (by decide) (fun T145 h145 v145 S145 K145 q145 => ?_)
      obtain ⟨rfl, rfl⟩ := q145
      show own_F p e below s Z _ _ _ _ _ (T145.setTop (mkF m 253 #[.val (.int p0), .val (.int p1), .val (.int p2), .val (.int p3), .val (.int p4), .val (.int (1 : Int32)), .val (.int (1 : Int32)), .val (.ref b101), .val (.ref b114), .val (.ref b115), .val (.ref b123), .val (.ref b121), .val (.ref a_IDLE)] [(.ref b114)]))
      refine own_F.of (fun _ => XS.aload S145.here S145.hx rfl (S145.dec at_253) rfl rfl) ?_
      show own_F p e below s Z _ _ _ _ _ (T145.setTop (mkF m 255 #[.val (.int p0), .val (.int p1), .val (.int p2), .val (.int p3), .val (.int p4), .val (.int (1 : Int32)), .val (.int (1 : Int32)), .val (.ref b101), .val (.ref b114), .val (.ref b115), .val (.ref b123), .val (.ref b121), .val (.ref a_IDLE)] [(.ref b114), (.ref b114)]))
      refine own_acmp S145 rfl rfl 262 at_255 (by decide) (by decide) (fun (hc255_146 : ¬ ((Value.ref b114) = (Value.ref b114))) => False.elim (hc255_146 rfl)) (fun (hc255_146 : (Value.ref b114) = (Value.ref b114)) => ?_)
      show own_F p e below s Z _ _ _ _ _ (T145.setTop (mkF m 258 #[.val (.int p0), .val (.int p1), .val (.int p2), .val (.int p3), .val (.int p4), .val (.int (1 : Int32)), .val (.int (1 : Int32)), .val (.ref b101), .val (.ref b114), .val (.ref b115), .val (.ref b123), .val (.ref b121), .val (.ref a_IDLE)] []))
      refine own_F.of (fun _ => XS.iconst S145.here S145.hx rfl (S145.dec at_258)) ?_
      show own_F p e below s Z _ _ _ _ _ (T145.setTop (mkF m 259 #[.val (.int p0), .val (.int p1), .val (.int p2), .val (.int p3), .val (.int p4), .val (.int (1 : Int32)), .val (.int (1 : Int32)), .val (.ref b101), .val (.ref b114), .val (.ref b115), .val (.ref b123), .val (.ref b121), .val (.ref a_IDLE)] [(.int (1 : Int32))]))
      refine own_F.of (fun _ => XS.goto S145.here S145.hx rfl (pc0 := 259) (pc' := 263) rfl (S145.dec at_259) (by decide) (by decide)) ?_
      show own_F p e below s Z _ _ _ _ _ (T145.setTop (mkF m 263 #[.val (.int p0), .val (.int p1), .val (.int p2), .val (.int p3), .val (.int p4), .val (.int (1 : Int32)), .val (.int (1 : Int32)), .val (.ref b101), .val (.ref b114), .val (.ref b115), .val (.ref b123), .val (.ref b121), .val (.ref a_IDLE)] [(.int (1 : Int32))]))
      refine own_retZ S145 (by simp) at_263 (by decide) (by decide) ?_
      rfl
  · rw [hn]
    show own_F p e below s Z _ _ _ _ _ (T0.setTop (mkF m 5 #[.val (.int p0), .val (.int p1), .val (.int p2), .val (.int p3), .val (.int p4), .val (.int (2 : Int32)), .unset, .unset, .unset, .unset, .unset, .unset, .unset] []))
    refine own_F.of (fun _ => XS.iloadN S0.here S0.hx rfl (S0.dec at_5) rfl) ?_
    show own_F p e below s Z _ _ _ _ _ (T0.setTop (mkF m 6 #[.val (.int p0), .val (.int p1), .val (.int p2), .val (.int p3), .val (.int p4), .val (.int (2 : Int32)), .unset, .unset, .unset, .unset, .unset, .unset, .unset] [(.int p0)]))
    refine own_F.of (fun _ => XS.iconst S0.here S0.hx rfl (S0.dec at_6)) ?_
    show own_F p e below s Z _ _ _ _ _ (T0.setTop (mkF m 7 #[.val (.int p0), .val (.int p1), .val (.int p2), .val (.int p3), .val (.int p4), .val (.int (2 : Int32)), .unset, .unset, .unset, .unset, .unset, .unset, .unset] [(.int (4 : Int32)), (.int p0)]))
    refine own_F.of (fun _ => XS.iand S0.here S0.hx rfl (S0.dec at_7) rfl) ?_
    show own_F p e below s Z _ _ _ _ _ (T0.setTop (mkF m 8 #[.val (.int p0), .val (.int p1), .val (.int p2), .val (.int p3), .val (.int p4), .val (.int (2 : Int32)), .unset, .unset, .unset, .unset, .unset, .unset, .unset] [(.int (p0 &&& (4 : Int32)))]))
    refine own_if S0 15 at_8 (by decide) (by decide) (fun (hc8_147 : (p0 &&& (4 : Int32)) = (0 : Int32)) => ?_) (fun (hc8_147 : ¬ ((p0 &&& (4 : Int32)) = (0 : Int32))) => ?_)
    · show own_F p e below s Z _ _ _ _ _ (T0.setTop (mkF m 15 #[.val (.int p0), .val (.int p1), .val (.int p2), .val (.int p3), .val (.int p4), .val (.int (2 : Int32)), .unset, .unset, .unset, .unset, .unset, .unset, .unset] []))
      refine own_F.of (fun _ => XS.iconst S0.here S0.hx rfl (S0.dec at_15)) ?_
      show own_F p e below s Z _ _ _ _ _ (T0.setTop (mkF m 16 #[.val (.int p0), .val (.int p1), .val (.int p2), .val (.int p3), .val (.int p4), .val (.int (2 : Int32)), .unset, .unset, .unset, .unset, .unset, .unset, .unset] [(.int (0 : Int32))]))
      refine own_F.of (fun _ => XS.istore S0.here S0.hx rfl (S0.dec at_16) rfl (l' := #[.val (.int p0), .val (.int p1), .val (.int p2), .val (.int p3), .val (.int p4), .val (.int (2 : Int32)), .val (.int (0 : Int32)), .unset, .unset, .unset, .unset, .unset, .unset]) rfl) ?_
      show own_F p e below s Z _ _ _ _ _ (T0.setTop (mkF m 18 #[.val (.int p0), .val (.int p1), .val (.int p2), .val (.int p3), .val (.int p4), .val (.int (2 : Int32)), .val (.int (0 : Int32)), .unset, .unset, .unset, .unset, .unset, .unset] []))
      refine own_new S0 (own_w hw 0 rfl) (own_w hw 1 rfl) (own_w hw 2 rfl) at_18 (by decide) (by decide) (fun T148 h148 b148 g148 S148 E148 A148 D148 => ?_)
      have F148_modCount : Fld Z h148 b148 "java/util/AbstractList" "modCount" "I" (.int (0 : Int32)) := (D148 (Or.inl (own_w hw 22 rfl)) (ty := .int) (by decide))
      have F148_elementData : Fld Z h148 b148 "java/util/ArrayList" "elementData" "[Ljava/lang/Object;" .null := (D148 (Or.inl (own_w hw 25 rfl)) (ty := (.array (.object "java/lang/Object"))) (by decide))
      have F148_size : Fld Z h148 b148 "java/util/ArrayList" "size" "I" (.int (0 : Int32)) := (D148 (Or.inl (own_w hw 62 rfl)) (ty := .int) (by decide))
      show own_F p e below s Z _ _ _ _ _ (T148.setTop (mkF m 21 #[.val (.int p0), .val (.int p1), .val (.int p2), .val (.int p3), .val (.int p4), .val (.int (2 : Int32)), .val (.int (0 : Int32)), .unset, .unset, .unset, .unset, .unset, .unset] [(.ref b148)]))
      refine own_F.of (fun _ => XS.dup S148.here S148.hx rfl (S148.dec at_21) rfl rfl) ?_
      show own_F p e below s Z _ _ _ _ _ (T148.setTop (mkF m 22 #[.val (.int p0), .val (.int p1), .val (.int p2), .val (.int p3), .val (.int p4), .val (.int (2 : Int32)), .val (.int (0 : Int32)), .unset, .unset, .unset, .unset, .unset, .unset] [(.ref b148), (.ref b148)]))
      refine own_callI S148 (y := (⟨"java/util/ArrayList", "<init>", "()V"⟩ : MethodName)) rfl (own_w hw 3 rfl) (own_w hw 4 rfl) (own_w hw 2 rfl) (own_w hw 5 rfl) (by decide) (argsL := []) (rest := [(.ref b148)]) (own_ALI l Z a0 hw b148 aD h148 S148.old SD AD (own_mayN S148 (Or.inr (by rw [g148]; exact S0.size))) A148 F148_modCount F148_elementData F148_size) (allS (Or.inr (by rw [g148]; exact S0.size)) all0) (by decide +kernel : parseMethodDescriptor "()V" = some ⟨[], none⟩) rfl rfl rfl at_22 (by decide) (Nat.le_of_ble_eq_true rfl) (by decide) (by decide) (fun T149 h149 v149 S149 K149 q149 => ?_)
      obtain ⟨rfl, Fm149, Fe149, Fs149⟩ := q149
      show own_F p e below s Z _ _ _ _ _ (T149.setTop (mkF m 25 #[.val (.int p0), .val (.int p1), .val (.int p2), .val (.int p3), .val (.int p4), .val (.int (2 : Int32)), .val (.int (0 : Int32)), .unset, .unset, .unset, .unset, .unset, .unset] [(.ref b148)]))
      refine own_F.of (fun _ => XS.astore S149.here S149.hx rfl (S149.dec at_25) rfl rfl (l' := #[.val (.int p0), .val (.int p1), .val (.int p2), .val (.int p3), .val (.int p4), .val (.int (2 : Int32)), .val (.int (0 : Int32)), .val (.ref b148), .unset, .unset, .unset, .unset, .unset]) rfl) ?_
      show own_F p e below s Z _ _ _ _ _ (T149.setTop (mkF m 27 #[.val (.int p0), .val (.int p1), .val (.int p2), .val (.int p3), .val (.int p4), .val (.int (2 : Int32)), .val (.int (0 : Int32)), .val (.ref b148), .unset, .unset, .unset, .unset, .unset] []))
      refine own_F.of (fun _ => XS.iload S149.here S149.hx rfl (S149.dec at_27) rfl) ?_
      show own_F p e below s Z _ _ _ _ _ (T149.setTop (mkF m 29 #[.val (.int p0), .val (.int p1), .val (.int p2), .val (.int p3), .val (.int p4), .val (.int (2 : Int32)), .val (.int (0 : Int32)), .val (.ref b148), .unset, .unset, .unset, .unset, .unset] [(.int (2 : Int32))]))
      refine own_if S149 42 at_29 (by decide) (by decide) (fun (hc29_150 : ¬ ((0 : Int32) < (2 : Int32))) => False.elim (absurd hc29_150 (by decide))) (fun (hc29_150 : (0 : Int32) < (2 : Int32)) => ?_)
      show own_F p e below s Z _ _ _ _ _ (T149.setTop (mkF m 32 #[.val (.int p0), .val (.int p1), .val (.int p2), .val (.int p3), .val (.int p4), .val (.int (2 : Int32)), .val (.int (0 : Int32)), .val (.ref b148), .unset, .unset, .unset, .unset, .unset] []))
      refine own_F.of (fun _ => XS.aload S149.here S149.hx rfl (S149.dec at_32) rfl rfl) ?_
      show own_F p e below s Z _ _ _ _ _ (T149.setTop (mkF m 34 #[.val (.int p0), .val (.int p1), .val (.int p2), .val (.int p3), .val (.int p4), .val (.int (2 : Int32)), .val (.int (0 : Int32)), .val (.ref b148), .unset, .unset, .unset, .unset, .unset] [(.ref b148)]))
      refine own_F.of (fun _ => XS.iloadN S149.here S149.hx rfl (S149.dec at_34) rfl) ?_
      show own_F p e below s Z _ _ _ _ _ (T149.setTop (mkF m 35 #[.val (.int p0), .val (.int p1), .val (.int p2), .val (.int p3), .val (.int p4), .val (.int (2 : Int32)), .val (.int (0 : Int32)), .val (.ref b148), .unset, .unset, .unset, .unset, .unset] [(.int p1), (.ref b148)]))
      refine own_callS S149 (y := (⟨"java/lang/Integer", "valueOf", "(I)Ljava/lang/Integer;"⟩ : MethodName)) (own_w hw 142 rfl) (own_w hw 143 rfl) (own_w hw 144 rfl) (own_w hw 145 rfl) (by decide) (argsL := [(.int p1)]) (rest := [(.ref b148)]) (own_vOfI l Z a0 hw p1 aCI clCI h149 S149.old SHi SCaI BXI) all0 (by decide +kernel : parseMethodDescriptor "(I)Ljava/lang/Integer;" = some ⟨[.int], some (.object "java/lang/Integer")⟩) rfl rfl rfl at_35 (by decide) (Nat.le_of_ble_eq_true rfl) (by decide) (by decide) (fun T151 h151 v151 S151 K151 q151 => ?_)
      obtain ⟨b151, rfl, X151, F151⟩ := q151
      show own_F p e below s Z _ _ _ _ _ (T151.setTop (mkF m 38 #[.val (.int p0), .val (.int p1), .val (.int p2), .val (.int p3), .val (.int p4), .val (.int (2 : Int32)), .val (.int (0 : Int32)), .val (.ref b148), .unset, .unset, .unset, .unset, .unset] [(.ref b151), (.ref b148)]))
      have fq152 := (Fe149.keep K151 nin0)
      have fq153 := (Fs149.keep K151 nin0)
      have fq154 := (Fm149.keep K151 nin0)
      have fq155 := ((A148.keep K149).keep K151)
      refine own_callV S151 (y := (⟨"java/util/ArrayList", "add", "(Ljava/lang/Object;)Z"⟩ : MethodName)) (y' := (⟨"java/util/ArrayList", "add", "(Ljava/lang/Object;)Z"⟩ : MethodName)) (own_w hw 149 rfl) (own_w hw 150 rfl) (own_nf S151 (own_w hw 152 rfl)) (own_w hw 152 rfl) (own_w hw 151 rfl) (own_w hw 153 rfl) (own_w hw 2 rfl) (by decide) fq155 (argsL := [(.ref b151)]) (rest := []) (own_add_0 l Z a0 hw b148 b151 aD (0 : Int32) h151 S151.old SD AD (own_mayN S151 (Or.inr (by rw [g148]; exact S0.size))) fq155 fq152 fq153 fq154 X151) (allS (Or.inr (by rw [g148]; exact S0.size)) all0) (by decide +kernel : parseMethodDescriptor "(Ljava/lang/Object;)Z" = some ⟨[(.object "java/lang/Object")], some .boolean⟩) rfl rfl rfl at_38 (by decide) (Nat.le_of_ble_eq_true rfl) (by decide) (by decide) (fun T156 h156 v156 S156 K156 q156 => ?_)
      obtain ⟨rfl, b156, g156, A156, Fe156, Fs156, Fm156⟩ := q156
      have V157 : own_AO Z h156 b156 [(.ref b151), .null, .null, .null, .null, .null, .null, .null, .null, .null] := A156
      show own_F p e below s Z _ _ _ _ _ (T156.setTop (mkF m 41 #[.val (.int p0), .val (.int p1), .val (.int p2), .val (.int p3), .val (.int p4), .val (.int (2 : Int32)), .val (.int (0 : Int32)), .val (.ref b148), .unset, .unset, .unset, .unset, .unset] [(.int (1 : Int32))]))
      refine own_F.of (fun _ => XS.pop S156.here S156.hx rfl (S156.dec at_41) rfl rfl) ?_
      show own_F p e below s Z _ _ _ _ _ (T156.setTop (mkF m 42 #[.val (.int p0), .val (.int p1), .val (.int p2), .val (.int p3), .val (.int p4), .val (.int (2 : Int32)), .val (.int (0 : Int32)), .val (.ref b148), .unset, .unset, .unset, .unset, .unset] []))
      refine own_F.of (fun _ => XS.iload S156.here S156.hx rfl (S156.dec at_42) rfl) ?_
      show own_F p e below s Z _ _ _ _ _ (T156.setTop (mkF m 44 #[.val (.int p0), .val (.int p1), .val (.int p2), .val (.int p3), .val (.int p4), .val (.int (2 : Int32)), .val (.int (0 : Int32)), .val (.ref b148), .unset, .unset, .unset, .unset, .unset] [(.int (2 : Int32))]))
      refine own_F.of (fun _ => XS.iconst S156.here S156.hx rfl (S156.dec at_44)) ?_
      show own_F p e below s Z _ _ _ _ _ (T156.setTop (mkF m 45 #[.val (.int p0), .val (.int p1), .val (.int p2), .val (.int p3), .val (.int p4), .val (.int (2 : Int32)), .val (.int (0 : Int32)), .val (.ref b148), .unset, .unset, .unset, .unset, .unset] [(.int (1 : Int32)), (.int (2 : Int32))]))
      refine own_icmp S156 58 at_45 (by decide) (by decide) (fun (hc45_158 : ¬ ((1 : Int32) < (2 : Int32))) => False.elim (absurd hc45_158 (by decide))) (fun (hc45_158 : (1 : Int32) < (2 : Int32)) => ?_)
      show own_F p e below s Z _ _ _ _ _ (T156.setTop (mkF m 48 #[.val (.int p0), .val (.int p1), .val (.int p2), .val (.int p3), .val (.int p4), .val (.int (2 : Int32)), .val (.int (0 : Int32)), .val (.ref b148), .unset, .unset, .unset, .unset, .unset] []))
      refine own_F.of (fun _ => XS.aload S156.here S156.hx rfl (S156.dec at_48) rfl rfl) ?_
      show own_F p e below s Z _ _ _ _ _ (T156.setTop (mkF m 50 #[.val (.int p0), .val (.int p1), .val (.int p2), .val (.int p3), .val (.int p4), .val (.int (2 : Int32)), .val (.int (0 : Int32)), .val (.ref b148), .unset, .unset, .unset, .unset, .unset] [(.ref b148)]))
      refine own_F.of (fun _ => XS.iloadN S156.here S156.hx rfl (S156.dec at_50) rfl) ?_
      show own_F p e below s Z _ _ _ _ _ (T156.setTop (mkF m 51 #[.val (.int p0), .val (.int p1), .val (.int p2), .val (.int p3), .val (.int p4), .val (.int (2 : Int32)), .val (.int (0 : Int32)), .val (.ref b148), .unset, .unset, .unset, .unset, .unset] [(.int p2), (.ref b148)]))
      refine own_callS S156 (y := (⟨"java/lang/Integer", "valueOf", "(I)Ljava/lang/Integer;"⟩ : MethodName)) (own_w hw 142 rfl) (own_w hw 143 rfl) (own_w hw 144 rfl) (own_w hw 145 rfl) (by decide) (argsL := [(.int p2)]) (rest := [(.ref b148)]) (own_vOfI l Z a0 hw p2 aCI clCI h156 S156.old SHi SCaI BXI) all0 (by decide +kernel : parseMethodDescriptor "(I)Ljava/lang/Integer;" = some ⟨[.int], some (.object "java/lang/Integer")⟩) rfl rfl rfl at_51 (by decide) (Nat.le_of_ble_eq_true rfl) (by decide) (by decide) (fun T159 h159 v159 S159 K159 q159 => ?_)
      obtain ⟨b159, rfl, X159, F159⟩ := q159
      show own_F p e below s Z _ _ _ _ _ (T159.setTop (mkF m 54 #[.val (.int p0), .val (.int p1), .val (.int p2), .val (.int p3), .val (.int p4), .val (.int (2 : Int32)), .val (.int (0 : Int32)), .val (.ref b148), .unset, .unset, .unset, .unset, .unset] [(.ref b159), (.ref b148)]))
      have fq160 := (Fe156.keep K159 nin0)
      have fq161 := (Fs156.keep K159 nin0)
      have fq162 := (Fm156.keep K159 nin0)
      have fq163 := ((fq155.keep K156).keep K159)
      have fq164 := (V157.keep K159 nin0)
      have fq165 := ((X151.keep K156).keep K159)
      refine own_callV S159 (y := (⟨"java/util/ArrayList", "add", "(Ljava/lang/Object;)Z"⟩ : MethodName)) (y' := (⟨"java/util/ArrayList", "add", "(Ljava/lang/Object;)Z"⟩ : MethodName)) (own_w hw 149 rfl) (own_w hw 150 rfl) (own_nf S159 (own_w hw 152 rfl)) (own_w hw 152 rfl) (own_w hw 151 rfl) (own_w hw 153 rfl) (own_w hw 2 rfl) (by decide) fq163 (argsL := [(.ref b159)]) (rest := []) (own_add_1 l Z a0 hw b148 b156 b151 b159 ((0 : Int32) + (1 : Int32)) h159 S159.old (own_mayN S159 (Or.inr (by rw [g148]; exact S0.size))) fq163 (own_mayN S159 (Or.inr (Nat.le_trans S151.size g156))) fq164 fq160 fq161 fq162 fq165 X159) (allS (Or.inr (by rw [g148]; exact S0.size)) (allS (Or.inr (Nat.le_trans S151.size g156)) all0)) (by decide +kernel : parseMethodDescriptor "(Ljava/lang/Object;)Z" = some ⟨[(.object "java/lang/Object")], some .boolean⟩) rfl rfl rfl at_54 (by decide) (Nat.le_of_ble_eq_true rfl) (by decide) (by decide) (fun T166 h166 v166 S166 K166 q166 => ?_)
      obtain ⟨rfl, A166, Fe166, Fs166, Fm166⟩ := q166
      have V167 : own_AO Z h166 b156 [(.ref b151), (.ref b159), .null, .null, .null, .null, .null, .null, .null, .null] := A166
      show own_F p e below s Z _ _ _ _ _ (T166.setTop (mkF m 57 #[.val (.int p0), .val (.int p1), .val (.int p2), .val (.int p3), .val (.int p4), .val (.int (2 : Int32)), .val (.int (0 : Int32)), .val (.ref b148), .unset, .unset, .unset, .unset, .unset] [(.int (1 : Int32))]))
      refine own_F.of (fun _ => XS.pop S166.here S166.hx rfl (S166.dec at_57) rfl rfl) ?_
      show own_F p e below s Z _ _ _ _ _ (T166.setTop (mkF m 58 #[.val (.int p0), .val (.int p1), .val (.int p2), .val (.int p3), .val (.int p4), .val (.int (2 : Int32)), .val (.int (0 : Int32)), .val (.ref b148), .unset, .unset, .unset, .unset, .unset] []))
      refine own_F.of (fun _ => XS.iload S166.here S166.hx rfl (S166.dec at_58) rfl) ?_
      show own_F p e below s Z _ _ _ _ _ (T166.setTop (mkF m 60 #[.val (.int p0), .val (.int p1), .val (.int p2), .val (.int p3), .val (.int p4), .val (.int (2 : Int32)), .val (.int (0 : Int32)), .val (.ref b148), .unset, .unset, .unset, .unset, .unset] [(.int (2 : Int32))]))
      refine own_F.of (fun _ => XS.iconst S166.here S166.hx rfl (S166.dec at_60)) ?_
      show own_F p e below s Z _ _ _ _ _ (T166.setTop (mkF m 61 #[.val (.int p0), .val (.int p1), .val (.int p2), .val (.int p3), .val (.int p4), .val (.int (2 : Int32)), .val (.int (0 : Int32)), .val (.ref b148), .unset, .unset, .unset, .unset, .unset] [(.int (2 : Int32)), (.int (2 : Int32))]))
      refine own_icmp S166 74 at_61 (by decide) (by decide) (fun (hc61_168 : ¬ ((2 : Int32) < (2 : Int32))) => ?_) (fun (hc61_168 : (2 : Int32) < (2 : Int32)) => False.elim (absurd hc61_168 (by decide)))
      show own_F p e below s Z _ _ _ _ _ (T166.setTop (mkF m 74 #[.val (.int p0), .val (.int p1), .val (.int p2), .val (.int p3), .val (.int p4), .val (.int (2 : Int32)), .val (.int (0 : Int32)), .val (.ref b148), .unset, .unset, .unset, .unset, .unset] []))
      refine own_F.of (fun _ => XS.iload S166.here S166.hx rfl (S166.dec at_74) rfl) ?_
      show own_F p e below s Z _ _ _ _ _ (T166.setTop (mkF m 76 #[.val (.int p0), .val (.int p1), .val (.int p2), .val (.int p3), .val (.int p4), .val (.int (2 : Int32)), .val (.int (0 : Int32)), .val (.ref b148), .unset, .unset, .unset, .unset, .unset] [(.int (0 : Int32))]))
      refine own_if S166 87 at_76 (by decide) (by decide) (fun (hc76_169 : (0 : Int32) = (0 : Int32)) => ?_) (fun (hc76_169 : ¬ ((0 : Int32) = (0 : Int32))) => False.elim (absurd hc76_169 (by decide)))
      show own_F p e below s Z _ _ _ _ _ (T166.setTop (mkF m 87 #[.val (.int p0), .val (.int p1), .val (.int p2), .val (.int p3), .val (.int p4), .val (.int (2 : Int32)), .val (.int (0 : Int32)), .val (.ref b148), .unset, .unset, .unset, .unset, .unset] []))
      refine own_F.of (fun _ => XS.aconstNull S166.here S166.hx rfl (S166.dec at_87)) ?_
      show own_F p e below s Z _ _ _ _ _ (T166.setTop (mkF m 88 #[.val (.int p0), .val (.int p1), .val (.int p2), .val (.int p3), .val (.int p4), .val (.int (2 : Int32)), .val (.int (0 : Int32)), .val (.ref b148), .unset, .unset, .unset, .unset, .unset] [.null]))
      refine own_F.of (fun _ => XS.astore S166.here S166.hx rfl (S166.dec at_88) rfl rfl (l' := #[.val (.int p0), .val (.int p1), .val (.int p2), .val (.int p3), .val (.int p4), .val (.int (2 : Int32)), .val (.int (0 : Int32)), .val (.ref b148), .val .null, .unset, .unset, .unset, .unset]) rfl) ?_
      show own_F p e below s Z _ _ _ _ _ (T166.setTop (mkF m 90 #[.val (.int p0), .val (.int p1), .val (.int p2), .val (.int p3), .val (.int p4), .val (.int (2 : Int32)), .val (.int (0 : Int32)), .val (.ref b148), .val .null, .unset, .unset, .unset, .unset] []))
      refine own_new S166 (own_w hw 26 rfl) (own_w hw 27 rfl) (own_w hw 28 rfl) at_90 (by decide) (by decide) (fun T170 h170 b170 g170 S170 E170 A170 D170 => ?_)
      have F170_items : Fld Z h170 b170 "com/example/tidemark/tidemark/Page" "items" "Ljava/util/List;" .null := (D170 (Or.inr (own_w hw 68 rfl)) (ty := (.object "java/util/List")) (by decide))
      have F170_nextKey : Fld Z h170 b170 "com/example/tidemark/tidemark/Page" "nextKey" "Ljava/lang/Object;" .null := (D170 (Or.inr (own_w hw 70 rfl)) (ty := (.object "java/lang/Object")) (by decide))
      show own_F p e below s Z _ _ _ _ _ (T170.setTop (mkF m 93 #[.val (.int p0), .val (.int p1), .val (.int p2), .val (.int p3), .val (.int p4), .val (.int (2 : Int32)), .val (.int (0 : Int32)), .val (.ref b148), .val .null, .unset, .unset, .unset, .unset] [(.ref b170)]))
      refine own_F.of (fun _ => XS.dup S170.here S170.hx rfl (S170.dec at_93) rfl rfl) ?_
      show own_F p e below s Z _ _ _ _ _ (T170.setTop (mkF m 94 #[.val (.int p0), .val (.int p1), .val (.int p2), .val (.int p3), .val (.int p4), .val (.int (2 : Int32)), .val (.int (0 : Int32)), .val (.ref b148), .val .null, .unset, .unset, .unset, .unset] [(.ref b170), (.ref b170)]))
      refine own_F.of (fun _ => XS.aload S170.here S170.hx rfl (S170.dec at_94) rfl rfl) ?_
      show own_F p e below s Z _ _ _ _ _ (T170.setTop (mkF m 96 #[.val (.int p0), .val (.int p1), .val (.int p2), .val (.int p3), .val (.int p4), .val (.int (2 : Int32)), .val (.int (0 : Int32)), .val (.ref b148), .val .null, .unset, .unset, .unset, .unset] [(.ref b148), (.ref b170), (.ref b170)]))
      refine own_F.of (fun _ => XS.aload S170.here S170.hx rfl (S170.dec at_96) rfl rfl) ?_
      show own_F p e below s Z _ _ _ _ _ (T170.setTop (mkF m 98 #[.val (.int p0), .val (.int p1), .val (.int p2), .val (.int p3), .val (.int p4), .val (.int (2 : Int32)), .val (.int (0 : Int32)), .val (.ref b148), .val .null, .unset, .unset, .unset, .unset] [.null, (.ref b148), (.ref b170), (.ref b170)]))
      have fq171 := ((fq163.keep K166).ext E170)
      have fq172 := (Fs166.ext E170)
      have fq173 := (Fe166.ext E170)
      have fq174 := (V167.ext E170)
      have fq175 := ((fq165.keep K166).ext E170)
      have fq176 := ((X159.keep K166).ext E170)
      refine own_callI S170 (y := (⟨"com/example/tidemark/tidemark/Page", "<init>", "(Ljava/util/List;Ljava/lang/Object;)V"⟩ : MethodName)) rfl (own_w hw 29 rfl) (own_w hw 30 rfl) (own_w hw 28 rfl) (own_w hw 31 rfl) (by decide) (argsL := [(.ref b148), .null]) (rest := [(.ref b170)]) (own_Page2 l Z a0 hw b170 b148 .null b156 b151 b159 aM mO h170 S170.old rfl SM MO (own_mayN S170 (Or.inr (by rw [g170]; exact S166.size))) A170 F170_items F170_nextKey fq171 fq172 fq173 fq174 fq175 fq176) (allS (Or.inr (by rw [g170]; exact S166.size)) all0) (by decide +kernel : parseMethodDescriptor "(Ljava/util/List;Ljava/lang/Object;)V" = some ⟨[(.object "java/util/List"), (.object "java/lang/Object")], none⟩) rfl rfl rfl at_98 (by decide) (Nat.le_of_ble_eq_true rfl) (by decide) (by decide) (fun T177 h177 v177 S177 K177 q177 => ?_)
      obtain ⟨rfl, b177, Fi177, Fk177, X177, P177, R177⟩ := q177
      show own_F p e below s Z _ _ _ _ _ (T177.setTop (mkF m 101 #[.val (.int p0), .val (.int p1), .val (.int p2), .val (.int p3), .val (.int p4), .val (.int (2 : Int32)), .val (.int (0 : Int32)), .val (.ref b148), .val .null, .unset, .unset, .unset, .unset] [(.ref b170)]))
      refine own_F.of (fun _ => XS.astore S177.here S177.hx rfl (S177.dec at_101) rfl rfl (l' := #[.val (.int p0), .val (.int p1), .val (.int p2), .val (.int p3), .val (.int p4), .val (.int (2 : Int32)), .val (.int (0 : Int32)), .val (.ref b148), .val .null, .val (.ref b170), .unset, .unset, .unset]) rfl) ?_
      show own_F p e below s Z _ _ _ _ _ (T177.setTop (mkF m 103 #[.val (.int p0), .val (.int p1), .val (.int p2), .val (.int p3), .val (.int p4), .val (.int (2 : Int32)), .val (.int (0 : Int32)), .val (.ref b148), .val .null, .val (.ref b170), .unset, .unset, .unset] []))
      refine own_F.of (fun _ => XS.aload S177.here S177.hx rfl (S177.dec at_103) rfl rfl) ?_
      show own_F p e below s Z _ _ _ _ _ (T177.setTop (mkF m 105 #[.val (.int p0), .val (.int p1), .val (.int p2), .val (.int p3), .val (.int p4), .val (.int (2 : Int32)), .val (.int (0 : Int32)), .val (.ref b148), .val .null, .val (.ref b170), .unset, .unset, .unset] [(.ref b170)]))
      have fq178 := (A170.keep K177)
      refine own_callS S177 (y := (⟨"com/example/tidemark/tidemark/PagedList", "first", "(Lcom/example/tidemark/tidemark/Page;)Lcom/example/tidemark/tidemark/PagedList;"⟩ : MethodName)) (own_w hw 71 rfl) (own_w hw 72 rfl) (own_w hw 73 rfl) (own_w hw 74 rfl) (by decide) (argsL := [(.ref b170)]) (rest := []) (own_firstN l Z a0 hw b170 b177 a_END a_IDLE a_FAILED h177 S177.old S_END S_IDLE S_FAILED fq178 Fi177 Fk177) all0 (by decide +kernel : parseMethodDescriptor "(Lcom/example/tidemark/tidemark/Page;)Lcom/example/tidemark/tidemark/PagedList;" = some ⟨[(.object "com/example/tidemark/tidemark/Page")], some (.object "com/example/tidemark/tidemark/PagedList")⟩) rfl rfl rfl at_105 (by decide) (Nat.le_of_ble_eq_true rfl) (by decide) (by decide) (fun T179 h179 v179 S179 K179 q179 => ?_)
      obtain ⟨b179, rfl, X179, Fi179, Ff179, Fk179⟩ := q179
      show own_F p e below s Z _ _ _ _ _ (T179.setTop (mkF m 108 #[.val (.int p0), .val (.int p1), .val (.int p2), .val (.int p3), .val (.int p4), .val (.int (2 : Int32)), .val (.int (0 : Int32)), .val (.ref b148), .val .null, .val (.ref b170), .unset, .unset, .unset] [(.ref b179)]))
      refine own_F.of (fun _ => XS.astore S179.here S179.hx rfl (S179.dec at_108) rfl rfl (l' := #[.val (.int p0), .val (.int p1), .val (.int p2), .val (.int p3), .val (.int p4), .val (.int (2 : Int32)), .val (.int (0 : Int32)), .val (.ref b148), .val .null, .val (.ref b170), .val (.ref b179), .unset, .unset]) rfl) ?_
      show own_F p e below s Z _ _ _ _ _ (T179.setTop (mkF m 110 #[.val (.int p0), .val (.int p1), .val (.int p2), .val (.int p3), .val (.int p4), .val (.int (2 : Int32)), .val (.int (0 : Int32)), .val (.ref b148), .val .null, .val (.ref b170), .val (.ref b179), .unset, .unset] []))
      refine own_F.of (fun _ => XS.aload S179.here S179.hx rfl (S179.dec at_110) rfl rfl) ?_
      show own_F p e below s Z _ _ _ _ _ (T179.setTop (mkF m 112 #[.val (.int p0), .val (.int p1), .val (.int p2), .val (.int p3), .val (.int p4), .val (.int (2 : Int32)), .val (.int (0 : Int32)), .val (.ref b148), .val .null, .val (.ref b170), .val (.ref b179), .unset, .unset] [(.ref b179)]))
      refine own_callV S179 (y := (⟨"com/example/tidemark/tidemark/PagedList", "items", "()Ljava/util/List;"⟩ : MethodName)) (y' := (⟨"com/example/tidemark/tidemark/PagedList", "items", "()Ljava/util/List;"⟩ : MethodName)) (own_w hw 105 rfl) (own_w hw 106 rfl) (own_nf S179 (own_w hw 108 rfl)) (own_w hw 108 rfl) (own_w hw 107 rfl) (own_w hw 109 rfl) (own_w hw 73 rfl) (by decide) X179 (argsL := []) (rest := []) (own_plI l Z a0 hw b179 (.ref b177) h179 S179.old rfl Fi179) all0 (by decide +kernel : parseMethodDescriptor "()Ljava/util/List;" = some ⟨[], some (.object "java/util/List")⟩) rfl rfl rfl at_112 (by decide) (Nat.le_of_ble_eq_true rfl) (by decide) (by decide) (fun T180 h180 v180 S180 K180 q180 => ?_)
      obtain ⟨rfl, rfl⟩ := q180
      show own_F p e below s Z _ _ _ _ _ (T180.setTop (mkF m 115 #[.val (.int p0), .val (.int p1), .val (.int p2), .val (.int p3), .val (.int p4), .val (.int (2 : Int32)), .val (.int (0 : Int32)), .val (.ref b148), .val .null, .val (.ref b170), .val (.ref b179), .unset, .unset] [(.ref b177)]))
      refine own_F.of (fun _ => XS.astore S180.here S180.hx rfl (S180.dec at_115) rfl rfl (l' := #[.val (.int p0), .val (.int p1), .val (.int p2), .val (.int p3), .val (.int p4), .val (.int (2 : Int32)), .val (.int (0 : Int32)), .val (.ref b148), .val .null, .val (.ref b170), .val (.ref b179), .val (.ref b177), .unset]) rfl) ?_
      show own_F p e below s Z _ _ _ _ _ (T180.setTop (mkF m 117 #[.val (.int p0), .val (.int p1), .val (.int p2), .val (.int p3), .val (.int p4), .val (.int (2 : Int32)), .val (.int (0 : Int32)), .val (.ref b148), .val .null, .val (.ref b170), .val (.ref b179), .val (.ref b177), .unset] []))
      refine own_F.of (fun _ => XS.aload S180.here S180.hx rfl (S180.dec at_117) rfl rfl) ?_
      show own_F p e below s Z _ _ _ _ _ (T180.setTop (mkF m 119 #[.val (.int p0), .val (.int p1), .val (.int p2), .val (.int p3), .val (.int p4), .val (.int (2 : Int32)), .val (.int (0 : Int32)), .val (.ref b148), .val .null, .val (.ref b170), .val (.ref b179), .val (.ref b177), .unset] [(.ref b177)]))
      have fq181 := (R177.keep K179 nin0)
      have fq182 := ((fq176.keep K177).keep K179)
      have fq184 := (X177.keep K179)
      refine own_callX S180 (y := (⟨"java/util/List", "size", "()I"⟩ : MethodName)) (y' := (⟨"java/util/ImmutableCollections$List12", "size", "()I"⟩ : MethodName)) (own_w hw 110 rfl) (own_w hw 111 rfl) (own_w hw 112 rfl) (own_w hw 286 rfl) (own_w hw 287 rfl) (own_w hw 288 rfl) (own_w hw 289 rfl) (own_w hw 290 rfl) (own_w hw 291 rfl) (own_w hw 272 rfl) (by decide) fq184 (argsL := []) (rest := []) (own_szT2 l Z a0 hw b177 b159 aM h179 S180.old SM fq181 (ne_exa fq182 (XM.ext S180.old) (by decide))) all0 (by decide +kernel : parseMethodDescriptor "()I" = some ⟨[], some .int⟩) rfl rfl rfl at_119 (by decide) (Nat.le_of_ble_eq_true rfl) (by decide) (by decide) (fun T183 h183 v183 S183 K183 q183 => ?_)
      obtain ⟨rfl, rfl⟩ := q183
      show own_F p e below s Z _ _ _ _ _ (T183.setTop (mkF m 124 #[.val (.int p0), .val (.int p1), .val (.int p2), .val (.int p3), .val (.int p4), .val (.int (2 : Int32)), .val (.int (0 : Int32)), .val (.ref b148), .val .null, .val (.ref b170), .val (.ref b179), .val (.ref b177), .unset] [(.int (2 : Int32))]))
      refine own_F.of (fun _ => XS.iload S183.here S183.hx rfl (S183.dec at_124) rfl) ?_
      show own_F p e below s Z _ _ _ _ _ (T183.setTop (mkF m 126 #[.val (.int p0), .val (.int p1), .val (.int p2), .val (.int p3), .val (.int p4), .val (.int (2 : Int32)), .val (.int (0 : Int32)), .val (.ref b148), .val .null, .val (.ref b170), .val (.ref b179), .val (.ref b177), .unset] [(.int (2 : Int32)), (.int (2 : Int32))]))
      refine own_icmp S183 131 at_126 (by decide) (by decide) (fun (hc126_185 : (2 : Int32) = (2 : Int32)) => ?_) (fun (hc126_185 : ¬ ((2 : Int32) = (2 : Int32))) => False.elim (absurd hc126_185 (by decide)))
      show own_F p e below s Z _ _ _ _ _ (T183.setTop (mkF m 131 #[.val (.int p0), .val (.int p1), .val (.int p2), .val (.int p3), .val (.int p4), .val (.int (2 : Int32)), .val (.int (0 : Int32)), .val (.ref b148), .val .null, .val (.ref b170), .val (.ref b179), .val (.ref b177), .unset] []))
      refine own_F.of (fun _ => XS.iload S183.here S183.hx rfl (S183.dec at_131) rfl) ?_
      show own_F p e below s Z _ _ _ _ _ (T183.setTop (mkF m 133 #[.val (.int p0), .val (.int p1), .val (.int p2), .val (.int p3), .val (.int p4), .val (.int (2 : Int32)), .val (.int (0 : Int32)), .val (.ref b148), .val .null, .val (.ref b170), .val (.ref b179), .val (.ref b177), .unset] [(.int (2 : Int32))]))
      refine own_if S183 156 at_133 (by decide) (by decide) (fun (hc133_186 : ¬ ((0 : Int32) < (2 : Int32))) => False.elim (absurd hc133_186 (by decide))) (fun (hc133_186 : (0 : Int32) < (2 : Int32)) => ?_)
      show own_F p e below s Z _ _ _ _ _ (T183.setTop (mkF m 136 #[.val (.int p0), .val (.int p1), .val (.int p2), .val (.int p3), .val (.int p4), .val (.int (2 : Int32)), .val (.int (0 : Int32)), .val (.ref b148), .val .null, .val (.ref b170), .val (.ref b179), .val (.ref b177), .unset] []))
      refine own_F.of (fun _ => XS.aload S183.here S183.hx rfl (S183.dec at_136) rfl rfl) ?_
      show own_F p e below s Z _ _ _ _ _ (T183.setTop (mkF m 138 #[.val (.int p0), .val (.int p1), .val (.int p2), .val (.int p3), .val (.int p4), .val (.int (2 : Int32)), .val (.int (0 : Int32)), .val (.ref b148), .val .null, .val (.ref b170), .val (.ref b179), .val (.ref b177), .unset] [(.ref b177)]))
      refine own_F.of (fun _ => XS.iconst S183.here S183.hx rfl (S183.dec at_138)) ?_
      show own_F p e below s Z _ _ _ _ _ (T183.setTop (mkF m 139 #[.val (.int p0), .val (.int p1), .val (.int p2), .val (.int p3), .val (.int p4), .val (.int (2 : Int32)), .val (.int (0 : Int32)), .val (.ref b148), .val .null, .val (.ref b170), .val (.ref b179), .val (.ref b177), .unset] [(.int (0 : Int32)), (.ref b177)]))
      have fq187 := (P177.keep K179 nin0)
      refine own_callX S183 (y := (⟨"java/util/List", "get", "(I)Ljava/lang/Object;"⟩ : MethodName)) (y' := (⟨"java/util/ImmutableCollections$List12", "get", "(I)Ljava/lang/Object;"⟩ : MethodName)) (own_w hw 240 rfl) (own_w hw 241 rfl) (own_w hw 242 rfl) (own_w hw 293 rfl) (own_w hw 294 rfl) (own_w hw 295 rfl) (own_w hw 296 rfl) (own_w hw 290 rfl) (own_w hw 297 rfl) (own_w hw 272 rfl) (by decide) fq184 (argsL := [(.int (0 : Int32))]) (rest := []) (own_gtT_0 l Z a0 hw b177 b151 b159 h179 S183.old fq187 fq181) all0 (by decide +kernel : parseMethodDescriptor "(I)Ljava/lang/Object;" = some ⟨[.int], some (.object "java/lang/Object")⟩) rfl rfl rfl at_139 (by decide) (Nat.le_of_ble_eq_true rfl) (by decide) (by decide) (fun T188 h188 v188 S188 K188 q188 => ?_)
      obtain ⟨rfl, rfl⟩ := q188
      show own_F p e below s Z _ _ _ _ _ (T188.setTop (mkF m 144 #[.val (.int p0), .val (.int p1), .val (.int p2), .val (.int p3), .val (.int p4), .val (.int (2 : Int32)), .val (.int (0 : Int32)), .val (.ref b148), .val .null, .val (.ref b170), .val (.ref b179), .val (.ref b177), .unset] [(.ref b151)]))
      have fq190 := ((fq175.keep K177).keep K179)
      refine own_cast S188 (own_w hw 248 rfl) (Ins.self fq190) at_144 (fun T189 S189 => ?_)
      show own_F p e below s Z _ _ _ _ _ (T189.setTop (mkF m 147 #[.val (.int p0), .val (.int p1), .val (.int p2), .val (.int p3), .val (.int p4), .val (.int (2 : Int32)), .val (.int (0 : Int32)), .val (.ref b148), .val .null, .val (.ref b170), .val (.ref b179), .val (.ref b177), .unset] [(.ref b151)]))
      have fq191 := ((((((F151.keep K156 (ninS (ne_exa fq190 ((fq171.keep K177).keep K179) (by decide)) nin0)).keep K159 nin0).keep K166 (ninS (ne_exa fq190 ((fq171.keep K177).keep K179) (by decide)) (ninS (ne_exa fq190 (((V167.exa.ext E170).keep K177).keep K179) (by decide)) nin0))).ext E170).keep K177 (ninS (ne_exa fq190 (fq178.keep K179) (by decide)) nin0)).keep K179 nin0)
      refine own_callV S189 (y := (⟨"java/lang/Integer", "intValue", "()I"⟩ : MethodName)) (y' := (⟨"java/lang/Integer", "intValue", "()I"⟩ : MethodName)) (own_w hw 250 rfl) (own_w hw 251 rfl) (own_nf S189 (own_w hw 253 rfl)) (own_w hw 253 rfl) (own_w hw 252 rfl) (own_w hw 254 rfl) (own_w hw 144 rfl) (by decide) fq190 (argsL := []) (rest := []) (own_intV l Z a0 hw b151 p1 h179 S189.old fq191) all0 (by decide +kernel : parseMethodDescriptor "()I" = some ⟨[], some .int⟩) rfl rfl rfl at_147 (by decide) (Nat.le_of_ble_eq_true rfl) (by decide) (by decide) (fun T192 h192 v192 S192 K192 q192 => ?_)
      obtain ⟨rfl, rfl⟩ := q192
      show own_F p e below s Z _ _ _ _ _ (T192.setTop (mkF m 150 #[.val (.int p0), .val (.int p1), .val (.int p2), .val (.int p3), .val (.int p4), .val (.int (2 : Int32)), .val (.int (0 : Int32)), .val (.ref b148), .val .null, .val (.ref b170), .val (.ref b179), .val (.ref b177), .unset] [(.int p1)]))
      refine own_F.of (fun _ => XS.iloadN S192.here S192.hx rfl (S192.dec at_150) rfl) ?_
      show own_F p e below s Z _ _ _ _ _ (T192.setTop (mkF m 151 #[.val (.int p0), .val (.int p1), .val (.int p2), .val (.int p3), .val (.int p4), .val (.int (2 : Int32)), .val (.int (0 : Int32)), .val (.ref b148), .val .null, .val (.ref b170), .val (.ref b179), .val (.ref b177), .unset] [(.int p1), (.int p1)]))
      refine own_icmp S192 156 at_151 (by decide) (by decide) (fun (hc151_193 : p1 = p1) => ?_) (fun (hc151_193 : ¬ (p1 = p1)) => False.elim (hc151_193 rfl))
      show own_F p e below s Z _ _ _ _ _ (T192.setTop (mkF m 156 #[.val (.int p0), .val (.int p1), .val (.int p2), .val (.int p3), .val (.int p4), .val (.int (2 : Int32)), .val (.int (0 : Int32)), .val (.ref b148), .val .null, .val (.ref b170), .val (.ref b179), .val (.ref b177), .unset] []))
      refine own_F.of (fun _ => XS.iload S192.here S192.hx rfl (S192.dec at_156) rfl) ?_
      show own_F p e below s Z _ _ _ _ _ (T192.setTop (mkF m 158 #[.val (.int p0), .val (.int p1), .val (.int p2), .val (.int p3), .val (.int p4), .val (.int (2 : Int32)), .val (.int (0 : Int32)), .val (.ref b148), .val .null, .val (.ref b170), .val (.ref b179), .val (.ref b177), .unset] [(.int (2 : Int32))]))
      refine own_F.of (fun _ => XS.iconst S192.here S192.hx rfl (S192.dec at_158)) ?_
      show own_F p e below s Z _ _ _ _ _ (T192.setTop (mkF m 159 #[.val (.int p0), .val (.int p1), .val (.int p2), .val (.int p3), .val (.int p4), .val (.int (2 : Int32)), .val (.int (0 : Int32)), .val (.ref b148), .val .null, .val (.ref b170), .val (.ref b179), .val (.ref b177), .unset] [(.int (1 : Int32)), (.int (2 : Int32))]))
      refine own_icmp S192 182 at_159 (by decide) (by decide) (fun (hc159_194 : ¬ ((1 : Int32) < (2 : Int32))) => False.elim (absurd hc159_194 (by decide))) (fun (hc159_194 : (1 : Int32) < (2 : Int32)) => ?_)
      show own_F p e below s Z _ _ _ _ _ (T192.setTop (mkF m 162 #[.val (.int p0), .val (.int p1), .val (.int p2), .val (.int p3), .val (.int p4), .val (.int (2 : Int32)), .val (.int (0 : Int32)), .val (.ref b148), .val .null, .val (.ref b170), .val (.ref b179), .val (.ref b177), .unset] []))
      refine own_F.of (fun _ => XS.aload S192.here S192.hx rfl (S192.dec at_162) rfl rfl) ?_
      show own_F p e below s Z _ _ _ _ _ (T192.setTop (mkF m 164 #[.val (.int p0), .val (.int p1), .val (.int p2), .val (.int p3), .val (.int p4), .val (.int (2 : Int32)), .val (.int (0 : Int32)), .val (.ref b148), .val .null, .val (.ref b170), .val (.ref b179), .val (.ref b177), .unset] [(.ref b177)]))
      refine own_F.of (fun _ => XS.iconst S192.here S192.hx rfl (S192.dec at_164)) ?_
      show own_F p e below s Z _ _ _ _ _ (T192.setTop (mkF m 165 #[.val (.int p0), .val (.int p1), .val (.int p2), .val (.int p3), .val (.int p4), .val (.int (2 : Int32)), .val (.int (0 : Int32)), .val (.ref b148), .val .null, .val (.ref b170), .val (.ref b179), .val (.ref b177), .unset] [(.int (1 : Int32)), (.ref b177)]))
      refine own_callX S192 (y := (⟨"java/util/List", "get", "(I)Ljava/lang/Object;"⟩ : MethodName)) (y' := (⟨"java/util/ImmutableCollections$List12", "get", "(I)Ljava/lang/Object;"⟩ : MethodName)) (own_w hw 240 rfl) (own_w hw 241 rfl) (own_w hw 242 rfl) (own_w hw 293 rfl) (own_w hw 294 rfl) (own_w hw 295 rfl) (own_w hw 296 rfl) (own_w hw 290 rfl) (own_w hw 297 rfl) (own_w hw 272 rfl) (by decide) fq184 (argsL := [(.int (1 : Int32))]) (rest := []) (own_gtT_1 l Z a0 hw b177 b151 b159 aM h179 S192.old SM fq187 fq181 (ne_exa fq182 (XM.ext S192.old) (by decide))) all0 (by decide +kernel : parseMethodDescriptor "(I)Ljava/lang/Object;" = some ⟨[.int], some (.object "java/lang/Object")⟩) rfl rfl rfl at_165 (by decide) (Nat.le_of_ble_eq_true rfl) (by decide) (by decide) (fun T195 h195 v195 S195 K195 q195 => ?_)
      obtain ⟨rfl, rfl⟩ := q195
      show own_F p e below s Z _ _ _ _ _ (T195.setTop (mkF m 170 #[.val (.int p0), .val (.int p1), .val (.int p2), .val (.int p3), .val (.int p4), .val (.int (2 : Int32)), .val (.int (0 : Int32)), .val (.ref b148), .val .null, .val (.ref b170), .val (.ref b179), .val (.ref b177), .unset] [(.ref b159)]))
      refine own_cast S195 (own_w hw 248 rfl) (Ins.self fq182) at_170 (fun T196 S196 => ?_)
      show own_F p e below s Z _ _ _ _ _ (T196.setTop (mkF m 173 #[.val (.int p0), .val (.int p1), .val (.int p2), .val (.int p3), .val (.int p4), .val (.int (2 : Int32)), .val (.int (0 : Int32)), .val (.ref b148), .val .null, .val (.ref b170), .val (.ref b179), .val (.ref b177), .unset] [(.ref b159)]))
      have fq197 := ((((F159.keep K166 (ninS (ne_exa fq182 ((fq171.keep K177).keep K179) (by decide)) (ninS (ne_exa fq182 (((V167.exa.ext E170).keep K177).keep K179) (by decide)) nin0))).ext E170).keep K177 (ninS (ne_exa fq182 (fq178.keep K179) (by decide)) nin0)).keep K179 nin0)
      refine own_callV S196 (y := (⟨"java/lang/Integer", "intValue", "()I"⟩ : MethodName)) (y' := (⟨"java/lang/Integer", "intValue", "()I"⟩ : MethodName)) (own_w hw 250 rfl) (own_w hw 251 rfl) (own_nf S196 (own_w hw 253 rfl)) (own_w hw 253 rfl) (own_w hw 252 rfl) (own_w hw 254 rfl) (own_w hw 144 rfl) (by decide) fq182 (argsL := []) (rest := []) (own_intV l Z a0 hw b159 p2 h179 S196.old fq197) all0 (by decide +kernel : parseMethodDescriptor "()I" = some ⟨[], some .int⟩) rfl rfl rfl at_173 (by decide) (Nat.le_of_ble_eq_true rfl) (by decide) (by decide) (fun T198 h198 v198 S198 K198 q198 => ?_)
      obtain ⟨rfl, rfl⟩ := q198
      show own_F p e below s Z _ _ _ _ _ (T198.setTop (mkF m 176 #[.val (.int p0), .val (.int p1), .val (.int p2), .val (.int p3), .val (.int p4), .val (.int (2 : Int32)), .val (.int (0 : Int32)), .val (.ref b148), .val .null, .val (.ref b170), .val (.ref b179), .val (.ref b177), .unset] [(.int p2)]))
      refine own_F.of (fun _ => XS.iloadN S198.here S198.hx rfl (S198.dec at_176) rfl) ?_
      show own_F p e below s Z _ _ _ _ _ (T198.setTop (mkF m 177 #[.val (.int p0), .val (.int p1), .val (.int p2), .val (.int p3), .val (.int p4), .val (.int (2 : Int32)), .val (.int (0 : Int32)), .val (.ref b148), .val .null, .val (.ref b170), .val (.ref b179), .val (.ref b177), .unset] [(.int p2), (.int p2)]))
      refine own_icmp S198 182 at_177 (by decide) (by decide) (fun (hc177_199 : p2 = p2) => ?_) (fun (hc177_199 : ¬ (p2 = p2)) => False.elim (hc177_199 rfl))
      show own_F p e below s Z _ _ _ _ _ (T198.setTop (mkF m 182 #[.val (.int p0), .val (.int p1), .val (.int p2), .val (.int p3), .val (.int p4), .val (.int (2 : Int32)), .val (.int (0 : Int32)), .val (.ref b148), .val .null, .val (.ref b170), .val (.ref b179), .val (.ref b177), .unset] []))
      refine own_F.of (fun _ => XS.iload S198.here S198.hx rfl (S198.dec at_182) rfl) ?_
      show own_F p e below s Z _ _ _ _ _ (T198.setTop (mkF m 184 #[.val (.int p0), .val (.int p1), .val (.int p2), .val (.int p3), .val (.int p4), .val (.int (2 : Int32)), .val (.int (0 : Int32)), .val (.ref b148), .val .null, .val (.ref b170), .val (.ref b179), .val (.ref b177), .unset] [(.int (2 : Int32))]))
      refine own_F.of (fun _ => XS.iconst S198.here S198.hx rfl (S198.dec at_184)) ?_
      show own_F p e below s Z _ _ _ _ _ (T198.setTop (mkF m 185 #[.val (.int p0), .val (.int p1), .val (.int p2), .val (.int p3), .val (.int p4), .val (.int (2 : Int32)), .val (.int (0 : Int32)), .val (.ref b148), .val .null, .val (.ref b170), .val (.ref b179), .val (.ref b177), .unset] [(.int (2 : Int32)), (.int (2 : Int32))]))
      refine own_icmp S198 208 at_185 (by decide) (by decide) (fun (hc185_200 : ¬ ((2 : Int32) < (2 : Int32))) => ?_) (fun (hc185_200 : (2 : Int32) < (2 : Int32)) => False.elim (absurd hc185_200 (by decide)))
      show own_F p e below s Z _ _ _ _ _ (T198.setTop (mkF m 208 #[.val (.int p0), .val (.int p1), .val (.int p2), .val (.int p3), .val (.int p4), .val (.int (2 : Int32)), .val (.int (0 : Int32)), .val (.ref b148), .val .null, .val (.ref b170), .val (.ref b179), .val (.ref b177), .unset] []))
      refine own_F.of (fun _ => XS.iload S198.here S198.hx rfl (S198.dec at_208) rfl) ?_
      show own_F p e below s Z _ _ _ _ _ (T198.setTop (mkF m 210 #[.val (.int p0), .val (.int p1), .val (.int p2), .val (.int p3), .val (.int p4), .val (.int (2 : Int32)), .val (.int (0 : Int32)), .val (.ref b148), .val .null, .val (.ref b170), .val (.ref b179), .val (.ref b177), .unset] [(.int (0 : Int32))]))
      refine own_if S198 219 at_210 (by decide) (by decide) (fun (hc210_201 : (0 : Int32) = (0 : Int32)) => ?_) (fun (hc210_201 : ¬ ((0 : Int32) = (0 : Int32))) => False.elim (absurd hc210_201 (by decide)))
      show own_F p e below s Z _ _ _ _ _ (T198.setTop (mkF m 219 #[.val (.int p0), .val (.int p1), .val (.int p2), .val (.int p3), .val (.int p4), .val (.int (2 : Int32)), .val (.int (0 : Int32)), .val (.ref b148), .val .null, .val (.ref b170), .val (.ref b179), .val (.ref b177), .unset] []))
      refine own_getS S198 (host := "") (Or.inl (own_w hw 122 rfl)) Via.refl (S_END.ext S198.old) at_219 (fun T202 S202 => ?_)
      show own_F p e below s Z _ _ _ _ _ (T202.setTop (mkF m 222 #[.val (.int p0), .val (.int p1), .val (.int p2), .val (.int p3), .val (.int p4), .val (.int (2 : Int32)), .val (.int (0 : Int32)), .val (.ref b148), .val .null, .val (.ref b170), .val (.ref b179), .val (.ref b177), .unset] [(.ref a_END)]))
      refine own_F.of (fun _ => XS.astore S202.here S202.hx rfl (S202.dec at_222) rfl rfl (l' := #[.val (.int p0), .val (.int p1), .val (.int p2), .val (.int p3), .val (.int p4), .val (.int (2 : Int32)), .val (.int (0 : Int32)), .val (.ref b148), .val .null, .val (.ref b170), .val (.ref b179), .val (.ref b177), .val (.ref a_END)]) rfl) ?_
      show own_F p e below s Z _ _ _ _ _ (T202.setTop (mkF m 224 #[.val (.int p0), .val (.int p1), .val (.int p2), .val (.int p3), .val (.int p4), .val (.int (2 : Int32)), .val (.int (0 : Int32)), .val (.ref b148), .val .null, .val (.ref b170), .val (.ref b179), .val (.ref b177), .val (.ref a_END)] []))
      refine own_F.of (fun _ => XS.aload S202.here S202.hx rfl (S202.dec at_224) rfl rfl) ?_
      show own_F p e below s Z _ _ _ _ _ (T202.setTop (mkF m 226 #[.val (.int p0), .val (.int p1), .val (.int p2), .val (.int p3), .val (.int p4), .val (.int (2 : Int32)), .val (.int (0 : Int32)), .val (.ref b148), .val .null, .val (.ref b170), .val (.ref b179), .val (.ref b177), .val (.ref a_END)] [(.ref b179)]))
      refine own_callV S202 (y := (⟨"com/example/tidemark/tidemark/PagedList", "footer", "()Lcom/example/tidemark/tidemark/PagedList$Footer;"⟩ : MethodName)) (y' := (⟨"com/example/tidemark/tidemark/PagedList", "footer", "()Lcom/example/tidemark/tidemark/PagedList$Footer;"⟩ : MethodName)) (own_w hw 123 rfl) (own_w hw 124 rfl) (own_nf S202 (own_w hw 126 rfl)) (own_w hw 126 rfl) (own_w hw 125 rfl) (own_w hw 127 rfl) (own_w hw 73 rfl) (by decide) X179 (argsL := []) (rest := []) (own_plF l Z a0 hw b179 (.ref a_END) h179 S202.old rfl Ff179) all0 (by decide +kernel : parseMethodDescriptor "()Lcom/example/tidemark/tidemark/PagedList$Footer;" = some ⟨[], some (.object "com/example/tidemark/tidemark/PagedList$Footer")⟩) rfl rfl rfl at_226 (by decide) (Nat.le_of_ble_eq_true rfl) (by decide) (by decide) (fun T203 h203 v203 S203 K203 q203 => ?_)
      obtain ⟨rfl, rfl⟩ := q203
      show own_F p e below s Z _ _ _ _ _ (T203.setTop (mkF m 229 #[.val (.int p0), .val (.int p1), .val (.int p2), .val (.int p3), .val (.int p4), .val (.int (2 : Int32)), .val (.int (0 : Int32)), .val (.ref b148), .val .null, .val (.ref b170), .val (.ref b179), .val (.ref b177), .val (.ref a_END)] [(.ref a_END)]))
      refine own_F.of (fun _ => XS.aload S203.here S203.hx rfl (S203.dec at_229) rfl rfl) ?_
      show own_F p e below s Z _ _ _ _ _ (T203.setTop (mkF m 231 #[.val (.int p0), .val (.int p1), .val (.int p2), .val (.int p3), .val (.int p4), .val (.int (2 : Int32)), .val (.int (0 : Int32)), .val (.ref b148), .val .null, .val (.ref b170), .val (.ref b179), .val (.ref b177), .val (.ref a_END)] [(.ref a_END), (.ref a_END)]))
      refine own_acmp S203 rfl rfl 236 at_231 (by decide) (by decide) (fun (hc231_204 : (Value.ref a_END) = (Value.ref a_END)) => ?_) (fun (hc231_204 : ¬ ((Value.ref a_END) = (Value.ref a_END))) => False.elim (hc231_204 rfl))
      show own_F p e below s Z _ _ _ _ _ (T203.setTop (mkF m 236 #[.val (.int p0), .val (.int p1), .val (.int p2), .val (.int p3), .val (.int p4), .val (.int (2 : Int32)), .val (.int (0 : Int32)), .val (.ref b148), .val .null, .val (.ref b170), .val (.ref b179), .val (.ref b177), .val (.ref a_END)] []))
      refine own_F.of (fun _ => XS.aload S203.here S203.hx rfl (S203.dec at_236) rfl rfl) ?_
      show own_F p e below s Z _ _ _ _ _ (T203.setTop (mkF m 238 #[.val (.int p0), .val (.int p1), .val (.int p2), .val (.int p3), .val (.int p4), .val (.int (2 : Int32)), .val (.int (0 : Int32)), .val (.ref b148), .val .null, .val (.ref b170), .val (.ref b179), .val (.ref b177), .val (.ref a_END)] [(.ref b179)]))
      refine own_callV S203 (y := (⟨"com/example/tidemark/tidemark/PagedList", "canLoadMore", "()Z"⟩ : MethodName)) (y' := (⟨"com/example/tidemark/tidemark/PagedList", "canLoadMore", "()Z"⟩ : MethodName)) (own_w hw 128 rfl) (own_w hw 129 rfl) (own_nf S203 (own_w hw 131 rfl)) (own_w hw 131 rfl) (own_w hw 130 rfl) (own_w hw 132 rfl) (own_w hw 73 rfl) (by decide) X179 (argsL := []) (rest := []) (own_canN l Z a0 hw b179 a_END a_IDLE a_FAILED h179 S203.old S_END S_IDLE S_FAILED (F_END_ordinal.ne F_IDLE_ordinal (by decide)) (F_END_ordinal.ne F_FAILED_ordinal (by decide)) Ff179) all0 (by decide +kernel : parseMethodDescriptor "()Z" = some ⟨[], some .boolean⟩) rfl rfl rfl at_238 (by decide) (Nat.le_of_ble_eq_true rfl) (by decide) (by decide) (fun T205 h205 v205 S205 K205 q205 => ?_)
      obtain ⟨rfl, rfl⟩ := q205
      show own_F p e below s Z _ _ _ _ _ (T205.setTop (mkF m 241 #[.val (.int p0), .val (.int p1), .val (.int p2), .val (.int p3), .val (.int p4), .val (.int (2 : Int32)), .val (.int (0 : Int32)), .val (.ref b148), .val .null, .val (.ref b170), .val (.ref b179), .val (.ref b177), .val (.ref a_END)] [(.int (0 : Int32))]))
      refine own_F.of (fun _ => XS.iload S205.here S205.hx rfl (S205.dec at_241) rfl) ?_
      show own_F p e below s Z _ _ _ _ _ (T205.setTop (mkF m 243 #[.val (.int p0), .val (.int p1), .val (.int p2), .val (.int p3), .val (.int p4), .val (.int (2 : Int32)), .val (.int (0 : Int32)), .val (.ref b148), .val .null, .val (.ref b170), .val (.ref b179), .val (.ref b177), .val (.ref a_END)] [(.int (0 : Int32)), (.int (0 : Int32))]))
      refine own_icmp S205 248 at_243 (by decide) (by decide) (fun (hc243_206 : (0 : Int32) = (0 : Int32)) => ?_) (fun (hc243_206 : ¬ ((0 : Int32) = (0 : Int32))) => False.elim (absurd hc243_206 (by decide)))
      show own_F p e below s Z _ _ _ _ _ (T205.setTop (mkF m 248 #[.val (.int p0), .val (.int p1), .val (.int p2), .val (.int p3), .val (.int p4), .val (.int (2 : Int32)), .val (.int (0 : Int32)), .val (.ref b148), .val .null, .val (.ref b170), .val (.ref b179), .val (.ref b177), .val (.ref a_END)] []))
      refine own_F.of (fun _ => XS.aload S205.here S205.hx rfl (S205.dec at_248) rfl rfl) ?_
      show own_F p e below s Z _ _ _ _ _ (T205.setTop (mkF m 250 #[.val (.int p0), .val (.int p1), .val (.int p2), .val (.int p3), .val (.int p4), .val (.int (2 : Int32)), .val (.int (0 : Int32)), .val (.ref b148), .val .null, .val (.ref b170), .val (.ref b179), .val (.ref b177), .val (.ref a_END)] [(.ref b179)]))
      refine own_callV S205 (y := (⟨"com/example/tidemark/tidemark/PagedList", "nextKey", "()Ljava/lang/Object;"⟩ : MethodName)) (y' := (⟨"com/example/tidemark/tidemark/PagedList", "nextKey", "()Ljava/lang/Object;"⟩ : MethodName)) (own_w hw 137 rfl) (own_w hw 138 rfl) (own_nf S205 (own_w hw 140 rfl)) (own_w hw 140 rfl) (own_w hw 139 rfl) (own_w hw 141 rfl) (own_w hw 73 rfl) (by decide) X179 (argsL := []) (rest := []) (own_plK l Z a0 hw b179 .null h179 S205.old rfl Fk179) all0 (by decide +kernel : parseMethodDescriptor "()Ljava/lang/Object;" = some ⟨[], some (.object "java/lang/Object")⟩) rfl rfl rfl at_250 (by decide) (Nat.le_of_ble_eq_true rfl) (by decide) (by decide) (fun T207 h207 v207 S207 K207 q207 => ?_)
      obtain ⟨rfl, rfl⟩ := q207
      show own_F p e below s Z _ _ _ _ _ (T207.setTop (mkF m 253 #[.val (.int p0), .val (.int p1), .val (.int p2), .val (.int p3), .val (.int p4), .val (.int (2 : Int32)), .val (.int (0 : Int32)), .val (.ref b148), .val .null, .val (.ref b170), .val (.ref b179), .val (.ref b177), .val (.ref a_END)] [.null]))
      refine own_F.of (fun _ => XS.aload S207.here S207.hx rfl (S207.dec at_253) rfl rfl) ?_
      show own_F p e below s Z _ _ _ _ _ (T207.setTop (mkF m 255 #[.val (.int p0), .val (.int p1), .val (.int p2), .val (.int p3), .val (.int p4), .val (.int (2 : Int32)), .val (.int (0 : Int32)), .val (.ref b148), .val .null, .val (.ref b170), .val (.ref b179), .val (.ref b177), .val (.ref a_END)] [.null, .null]))
      refine own_acmp S207 rfl rfl 262 at_255 (by decide) (by decide) (fun (hc255_208 : ¬ (Value.null = Value.null)) => False.elim (hc255_208 rfl)) (fun (hc255_208 : Value.null = Value.null) => ?_)
      show own_F p e below s Z _ _ _ _ _ (T207.setTop (mkF m 258 #[.val (.int p0), .val (.int p1), .val (.int p2), .val (.int p3), .val (.int p4), .val (.int (2 : Int32)), .val (.int (0 : Int32)), .val (.ref b148), .val .null, .val (.ref b170), .val (.ref b179), .val (.ref b177), .val (.ref a_END)] []))
      refine own_F.of (fun _ => XS.iconst S207.here S207.hx rfl (S207.dec at_258)) ?_
      show own_F p e below s Z _ _ _ _ _ (T207.setTop (mkF m 259 #[.val (.int p0), .val (.int p1), .val (.int p2), .val (.int p3), .val (.int p4), .val (.int (2 : Int32)), .val (.int (0 : Int32)), .val (.ref b148), .val .null, .val (.ref b170), .val (.ref b179), .val (.ref b177), .val (.ref a_END)] [(.int (1 : Int32))]))
      refine own_F.of (fun _ => XS.goto S207.here S207.hx rfl (pc0 := 259) (pc' := 263) rfl (S207.dec at_259) (by decide) (by decide)) ?_
      show own_F p e below s Z _ _ _ _ _ (T207.setTop (mkF m 263 #[.val (.int p0), .val (.int p1), .val (.int p2), .val (.int p3), .val (.int p4), .val (.int (2 : Int32)), .val (.int (0 : Int32)), .val (.ref b148), .val .null, .val (.ref b170), .val (.ref b179), .val (.ref b177), .val (.ref a_END)] [(.int (1 : Int32))]))
      refine own_retZ S207 (by simp) at_263 (by decide) (by decide) ?_
      rfl
    · show own_F p e below s Z _ _ _ _ _ (T0.setTop (mkF m 11 #[.val (.int p0), .val (.int p1), .val (.int p2), .val (.int p3), .val (.int p4), .val (.int (2 : Int32)), .unset, .unset, .unset, .unset, .unset, .unset, .unset] []))
      refine own_F.of (fun _ => XS.iconst S0.here S0.hx rfl (S0.dec at_11)) ?_
      show own_F p e below s Z _ _ _ _ _ (T0.setTop (mkF m 12 #[.val (.int p0), .val (.int p1), .val (.int p2), .val (.int p3), .val (.int p4), .val (.int (2 : Int32)), .unset, .unset, .unset, .unset, .unset, .unset, .unset] [(.int (1 : Int32))]))
      refine own_F.of (fun _ => XS.goto S0.here S0.hx rfl (pc0 := 12) (pc' := 16) rfl (S0.dec at_12) (by decide) (by decide)) ?_
      show own_F p e below s Z _ _ _ _ _ (T0.setTop (mkF m 16 #[.val (.int p0), .val (.int p1), .val (.int p2), .val (.int p3), .val (.int p4), .val (.int (2 : Int32)), .unset, .unset, .unset, .unset, .unset, .unset, .unset] [(.int (1 : Int32))]))
      refine own_F.of (fun _ => XS.istore S0.here S0.hx rfl (S0.dec at_16) rfl (l' := #[.val (.int p0), .val (.int p1), .val (.int p2), .val (.int p3), .val (.int p4), .val (.int (2 : Int32)), .val (.int (1 : Int32)), .unset, .unset, .unset, .unset, .unset, .unset]) rfl) ?_
      show own_F p e below s Z _ _ _ _ _ (T0.setTop (mkF m 18 #[.val (.int p0), .val (.int p1), .val (.int p2), .val (.int p3), .val (.int p4), .val (.int (2 : Int32)), .val (.int (1 : Int32)), .unset, .unset, .unset, .unset, .unset, .unset] []))
      refine own_new S0 (own_w hw 0 rfl) (own_w hw 1 rfl) (own_w hw 2 rfl) at_18 (by decide) (by decide) (fun T209 h209 b209 g209 S209 E209 A209 D209 => ?_)
      have F209_modCount : Fld Z h209 b209 "java/util/AbstractList" "modCount" "I" (.int (0 : Int32)) := (D209 (Or.inl (own_w hw 22 rfl)) (ty := .int) (by decide))
      have F209_elementData : Fld Z h209 b209 "java/util/ArrayList" "elementData" "[Ljava/lang/Object;" .null := (D209 (Or.inl (own_w hw 25 rfl)) (ty := (.array (.object "java/lang/Object"))) (by decide))
      have F209_size : Fld Z h209 b209 "java/util/ArrayList" "size" "I" (.int (0 : Int32)) := (D209 (Or.inl (own_w hw 62 rfl)) (ty := .int) (by decide))
      show own_F p e below s Z _ _ _ _ _ (T209.setTop (mkF m 21 #[.val (.int p0), .val (.int p1), .val (.int p2), .val (.int p3), .val (.int p4), .val (.int (2 : Int32)), .val (.int (1 : Int32)), .unset, .unset, .unset, .unset, .unset, .unset] [(.ref b209)]))
      refine own_F.of (fun _ => XS.dup S209.here S209.hx rfl (S209.dec at_21) rfl rfl) ?_
      show own_F p e below s Z _ _ _ _ _ (T209.setTop (mkF m 22 #[.val (.int p0), .val (.int p1), .val (.int p2), .val (.int p3), .val (.int p4), .val (.int (2 : Int32)), .val (.int (1 : Int32)), .unset, .unset, .unset, .unset, .unset, .unset] [(.ref b209), (.ref b209)]))
      refine own_callI S209 (y := (⟨"java/util/ArrayList", "<init>", "()V"⟩ : MethodName)) rfl (own_w hw 3 rfl) (own_w hw 4 rfl) (own_w hw 2 rfl) (own_w hw 5 rfl) (by decide) (argsL := []) (rest := [(.ref b209)]) (own_ALI l Z a0 hw b209 aD h209 S209.old SD AD (own_mayN S209 (Or.inr (by rw [g209]; exact S0.size))) A209 F209_modCount F209_elementData F209_size) (allS (Or.inr (by rw [g209]; exact S0.size)) all0) (by decide +kernel : parseMethodDescriptor "()V" = some ⟨[], none⟩) rfl rfl rfl at_22 (by decide) (Nat.le_of_ble_eq_true rfl) (by decide) (by decide) (fun T210 h210 v210 S210 K210 q210 => ?_)
      obtain ⟨rfl, Fm210, Fe210, Fs210⟩ := q210
      show own_F p e below s Z _ _ _ _ _ (T210.setTop (mkF m 25 #[.val (.int p0), .val (.int p1), .val (.int p2), .val (.int p3), .val (.int p4), .val (.int (2 : Int32)), .val (.int (1 : Int32)), .unset, .unset, .unset, .unset, .unset, .unset] [(.ref b209)]))
      refine own_F.of (fun _ => XS.astore S210.here S210.hx rfl (S210.dec at_25) rfl rfl (l' := #[.val (.int p0), .val (.int p1), .val (.int p2), .val (.int p3), .val (.int p4), .val (.int (2 : Int32)), .val (.int (1 : Int32)), .val (.ref b209), .unset, .unset, .unset, .unset, .unset]) rfl) ?_
      show own_F p e below s Z _ _ _ _ _ (T210.setTop (mkF m 27 #[.val (.int p0), .val (.int p1), .val (.int p2), .val (.int p3), .val (.int p4), .val (.int (2 : Int32)), .val (.int (1 : Int32)), .val (.ref b209), .unset, .unset, .unset, .unset, .unset] []))
      refine own_F.of (fun _ => XS.iload S210.here S210.hx rfl (S210.dec at_27) rfl) ?_
      show own_F p e below s Z _ _ _ _ _ (T210.setTop (mkF m 29 #[.val (.int p0), .val (.int p1), .val (.int p2), .val (.int p3), .val (.int p4), .val (.int (2 : Int32)), .val (.int (1 : Int32)), .val (.ref b209), .unset, .unset, .unset, .unset, .unset] [(.int (2 : Int32))]))
      refine own_if S210 42 at_29 (by decide) (by decide) (fun (hc29_211 : ¬ ((0 : Int32) < (2 : Int32))) => False.elim (absurd hc29_211 (by decide))) (fun (hc29_211 : (0 : Int32) < (2 : Int32)) => ?_)
      show own_F p e below s Z _ _ _ _ _ (T210.setTop (mkF m 32 #[.val (.int p0), .val (.int p1), .val (.int p2), .val (.int p3), .val (.int p4), .val (.int (2 : Int32)), .val (.int (1 : Int32)), .val (.ref b209), .unset, .unset, .unset, .unset, .unset] []))
      refine own_F.of (fun _ => XS.aload S210.here S210.hx rfl (S210.dec at_32) rfl rfl) ?_
      show own_F p e below s Z _ _ _ _ _ (T210.setTop (mkF m 34 #[.val (.int p0), .val (.int p1), .val (.int p2), .val (.int p3), .val (.int p4), .val (.int (2 : Int32)), .val (.int (1 : Int32)), .val (.ref b209), .unset, .unset, .unset, .unset, .unset] [(.ref b209)]))
      refine own_F.of (fun _ => XS.iloadN S210.here S210.hx rfl (S210.dec at_34) rfl) ?_
      show own_F p e below s Z _ _ _ _ _ (T210.setTop (mkF m 35 #[.val (.int p0), .val (.int p1), .val (.int p2), .val (.int p3), .val (.int p4), .val (.int (2 : Int32)), .val (.int (1 : Int32)), .val (.ref b209), .unset, .unset, .unset, .unset, .unset] [(.int p1), (.ref b209)]))
      refine own_callS S210 (y := (⟨"java/lang/Integer", "valueOf", "(I)Ljava/lang/Integer;"⟩ : MethodName)) (own_w hw 142 rfl) (own_w hw 143 rfl) (own_w hw 144 rfl) (own_w hw 145 rfl) (by decide) (argsL := [(.int p1)]) (rest := [(.ref b209)]) (own_vOfI l Z a0 hw p1 aCI clCI h210 S210.old SHi SCaI BXI) all0 (by decide +kernel : parseMethodDescriptor "(I)Ljava/lang/Integer;" = some ⟨[.int], some (.object "java/lang/Integer")⟩) rfl rfl rfl at_35 (by decide) (Nat.le_of_ble_eq_true rfl) (by decide) (by decide) (fun T212 h212 v212 S212 K212 q212 => ?_)
      obtain ⟨b212, rfl, X212, F212⟩ := q212
      show own_F p e below s Z _ _ _ _ _ (T212.setTop (mkF m 38 #[.val (.int p0), .val (.int p1), .val (.int p2), .val (.int p3), .val (.int p4), .val (.int (2 : Int32)), .val (.int (1 : Int32)), .val (.ref b209), .unset, .unset, .unset, .unset, .unset] [(.ref b212), (.ref b209)]))
      have fq213 := (Fe210.keep K212 nin0)
      have fq214 := (Fs210.keep K212 nin0)
      have fq215 := (Fm210.keep K212 nin0)
      have fq216 := ((A209.keep K210).keep K212)
      refine own_callV S212 (y := (⟨"java/util/ArrayList", "add", "(Ljava/lang/Object;)Z"⟩ : MethodName)) (y' := (⟨"java/util/ArrayList", "add", "(Ljava/lang/Object;)Z"⟩ : MethodName)) (own_w hw 149 rfl) (own_w hw 150 rfl) (own_nf S212 (own_w hw 152 rfl)) (own_w hw 152 rfl) (own_w hw 151 rfl) (own_w hw 153 rfl) (own_w hw 2 rfl) (by decide) fq216 (argsL := [(.ref b212)]) (rest := []) (own_add_0 l Z a0 hw b209 b212 aD (0 : Int32) h212 S212.old SD AD (own_mayN S212 (Or.inr (by rw [g209]; exact S0.size))) fq216 fq213 fq214 fq215 X212) (allS (Or.inr (by rw [g209]; exact S0.size)) all0) (by decide +kernel : parseMethodDescriptor "(Ljava/lang/Object;)Z" = some ⟨[(.object "java/lang/Object")], some .boolean⟩) rfl rfl rfl at_38 (by decide) (Nat.le_of_ble_eq_true rfl) (by decide) (by decide) (fun T217 h217 v217 S217 K217 q217 => ?_)
      obtain ⟨rfl, b217, g217, A217, Fe217, Fs217, Fm217⟩ := q217
      have V218 : own_AO Z h217 b217 [(.ref b212), .null, .null, .null, .null, .null, .null, .null, .null, .null] := A217
      show own_F p e below s Z _ _ _ _ _ (T217.setTop (mkF m 41 #[.val (.int p0), .val (.int p1), .val (.int p2), .val (.int p3), .val (.int p4), .val (.int (2 : Int32)), .val (.int (1 : Int32)), .val (.ref b209), .unset, .unset, .unset, .unset, .unset] [(.int (1 : Int32))]))
      refine own_F.of (fun _ => XS.pop S217.here S217.hx rfl (S217.dec at_41) rfl rfl) ?_
      show own_F p e below s Z _ _ _ _ _ (T217.setTop (mkF m 42 #[.val (.int p0), .val (.int p1), .val (.int p2), .val (.int p3), .val (.int p4), .val (.int (2 : Int32)), .val (.int (1 : Int32)), .val (.ref b209), .unset, .unset, .unset, .unset, .unset] []))
      refine own_F.of (fun _ => XS.iload S217.here S217.hx rfl (S217.dec at_42) rfl) ?_
      show own_F p e below s Z _ _ _ _ _ (T217.setTop (mkF m 44 #[.val (.int p0), .val (.int p1), .val (.int p2), .val (.int p3), .val (.int p4), .val (.int (2 : Int32)), .val (.int (1 : Int32)), .val (.ref b209), .unset, .unset, .unset, .unset, .unset] [(.int (2 : Int32))]))
      refine own_F.of (fun _ => XS.iconst S217.here S217.hx rfl (S217.dec at_44)) ?_
      show own_F p e below s Z _ _ _ _ _ (T217.setTop (mkF m 45 #[.val (.int p0), .val (.int p1), .val (.int p2), .val (.int p3), .val (.int p4), .val (.int (2 : Int32)), .val (.int (1 : Int32)), .val (.ref b209), .unset, .unset, .unset, .unset, .unset] [(.int (1 : Int32)), (.int (2 : Int32))]))
      refine own_icmp S217 58 at_45 (by decide) (by decide) (fun (hc45_219 : ¬ ((1 : Int32) < (2 : Int32))) => False.elim (absurd hc45_219 (by decide))) (fun (hc45_219 : (1 : Int32) < (2 : Int32)) => ?_)
      show own_F p e below s Z _ _ _ _ _ (T217.setTop (mkF m 48 #[.val (.int p0), .val (.int p1), .val (.int p2), .val (.int p3), .val (.int p4), .val (.int (2 : Int32)), .val (.int (1 : Int32)), .val (.ref b209), .unset, .unset, .unset, .unset, .unset] []))
      refine own_F.of (fun _ => XS.aload S217.here S217.hx rfl (S217.dec at_48) rfl rfl) ?_
      show own_F p e below s Z _ _ _ _ _ (T217.setTop (mkF m 50 #[.val (.int p0), .val (.int p1), .val (.int p2), .val (.int p3), .val (.int p4), .val (.int (2 : Int32)), .val (.int (1 : Int32)), .val (.ref b209), .unset, .unset, .unset, .unset, .unset] [(.ref b209)]))
      refine own_F.of (fun _ => XS.iloadN S217.here S217.hx rfl (S217.dec at_50) rfl) ?_
      show own_F p e below s Z _ _ _ _ _ (T217.setTop (mkF m 51 #[.val (.int p0), .val (.int p1), .val (.int p2), .val (.int p3), .val (.int p4), .val (.int (2 : Int32)), .val (.int (1 : Int32)), .val (.ref b209), .unset, .unset, .unset, .unset, .unset] [(.int p2), (.ref b209)]))
      refine own_callS S217 (y := (⟨"java/lang/Integer", "valueOf", "(I)Ljava/lang/Integer;"⟩ : MethodName)) (own_w hw 142 rfl) (own_w hw 143 rfl) (own_w hw 144 rfl) (own_w hw 145 rfl) (by decide) (argsL := [(.int p2)]) (rest := [(.ref b209)]) (own_vOfI l Z a0 hw p2 aCI clCI h217 S217.old SHi SCaI BXI) all0 (by decide +kernel : parseMethodDescriptor "(I)Ljava/lang/Integer;" = some ⟨[.int], some (.object "java/lang/Integer")⟩) rfl rfl rfl at_51 (by decide) (Nat.le_of_ble_eq_true rfl) (by decide) (by decide) (fun T220 h220 v220 S220 K220 q220 => ?_)
      obtain ⟨b220, rfl, X220, F220⟩ := q220
      show own_F p e below s Z _ _ _ _ _ (T220.setTop (mkF m 54 #[.val (.int p0), .val (.int p1), .val (.int p2), .val (.int p3), .val (.int p4), .val (.int (2 : Int32)), .val (.int (1 : Int32)), .val (.ref b209), .unset, .unset, .unset, .unset, .unset] [(.ref b220), (.ref b209)]))
      have fq221 := (Fe217.keep K220 nin0)
      have fq222 := (Fs217.keep K220 nin0)
      have fq223 := (Fm217.keep K220 nin0)
      have fq224 := ((fq216.keep K217).keep K220)
      have fq225 := (V218.keep K220 nin0)
      have fq226 := ((X212.keep K217).keep K220)
      refine own_callV S220 (y := (⟨"java/util/ArrayList", "add", "(Ljava/lang/Object;)Z"⟩ : MethodName)) (y' := (⟨"java/util/ArrayList", "add", "(Ljava/lang/Object;)Z"⟩ : MethodName)) (own_w hw 149 rfl) (own_w hw 150 rfl) (own_nf S220 (own_w hw 152 rfl)) (own_w hw 152 rfl) (own_w hw 151 rfl) (own_w hw 153 rfl) (own_w hw 2 rfl) (by decide) fq224 (argsL := [(.ref b220)]) (rest := []) (own_add_1 l Z a0 hw b209 b217 b212 b220 ((0 : Int32) + (1 : Int32)) h220 S220.old (own_mayN S220 (Or.inr (by rw [g209]; exact S0.size))) fq224 (own_mayN S220 (Or.inr (Nat.le_trans S212.size g217))) fq225 fq221 fq222 fq223 fq226 X220) (allS (Or.inr (by rw [g209]; exact S0.size)) (allS (Or.inr (Nat.le_trans S212.size g217)) all0)) (by decide +kernel : parseMethodDescriptor "(Ljava/lang/Object;)Z" = some ⟨[(.object "java/lang/Object")], some .boolean⟩) rfl rfl rfl at_54 (by decide) (Nat.le_of_ble_eq_true rfl) (by decide) (by decide) (fun T227 h227 v227 S227 K227 q227 => ?_)
      obtain ⟨rfl, A227, Fe227, Fs227, Fm227⟩ := q227
      have V228 : own_AO Z h227 b217 [(.ref b212), (.ref b220), .null, .null, .null, .null, .null, .null, .null, .null] := A227
      show own_F p e below s Z _ _ _ _ _ (T227.setTop (mkF m 57 #[.val (.int p0), .val (.int p1), .val (.int p2), .val (.int p3), .val (.int p4), .val (.int (2 : Int32)), .val (.int (1 : Int32)), .val (.ref b209), .unset, .unset, .unset, .unset, .unset] [(.int (1 : Int32))]))
      refine own_F.of (fun _ => XS.pop S227.here S227.hx rfl (S227.dec at_57) rfl rfl) ?_
      show own_F p e below s Z _ _ _ _ _ (T227.setTop (mkF m 58 #[.val (.int p0), .val (.int p1), .val (.int p2), .val (.int p3), .val (.int p4), .val (.int (2 : Int32)), .val (.int (1 : Int32)), .val (.ref b209), .unset, .unset, .unset, .unset, .unset] []))
      refine own_F.of (fun _ => XS.iload S227.here S227.hx rfl (S227.dec at_58) rfl) ?_
      show own_F p e below s Z _ _ _ _ _ (T227.setTop (mkF m 60 #[.val (.int p0), .val (.int p1), .val (.int p2), .val (.int p3), .val (.int p4), .val (.int (2 : Int32)), .val (.int (1 : Int32)), .val (.ref b209), .unset, .unset, .unset, .unset, .unset] [(.int (2 : Int32))]))
      refine own_F.of (fun _ => XS.iconst S227.here S227.hx rfl (S227.dec at_60)) ?_
      show own_F p e below s Z _ _ _ _ _ (T227.setTop (mkF m 61 #[.val (.int p0), .val (.int p1), .val (.int p2), .val (.int p3), .val (.int p4), .val (.int (2 : Int32)), .val (.int (1 : Int32)), .val (.ref b209), .unset, .unset, .unset, .unset, .unset] [(.int (2 : Int32)), (.int (2 : Int32))]))
      refine own_icmp S227 74 at_61 (by decide) (by decide) (fun (hc61_229 : ¬ ((2 : Int32) < (2 : Int32))) => ?_) (fun (hc61_229 : (2 : Int32) < (2 : Int32)) => False.elim (absurd hc61_229 (by decide)))
      show own_F p e below s Z _ _ _ _ _ (T227.setTop (mkF m 74 #[.val (.int p0), .val (.int p1), .val (.int p2), .val (.int p3), .val (.int p4), .val (.int (2 : Int32)), .val (.int (1 : Int32)), .val (.ref b209), .unset, .unset, .unset, .unset, .unset] []))
      refine own_F.of (fun _ => XS.iload S227.here S227.hx rfl (S227.dec at_74) rfl) ?_
      show own_F p e below s Z _ _ _ _ _ (T227.setTop (mkF m 76 #[.val (.int p0), .val (.int p1), .val (.int p2), .val (.int p3), .val (.int p4), .val (.int (2 : Int32)), .val (.int (1 : Int32)), .val (.ref b209), .unset, .unset, .unset, .unset, .unset] [(.int (1 : Int32))]))
      refine own_if S227 87 at_76 (by decide) (by decide) (fun (hc76_230 : (1 : Int32) = (0 : Int32)) => False.elim (absurd hc76_230 (by decide))) (fun (hc76_230 : ¬ ((1 : Int32) = (0 : Int32))) => ?_)
      show own_F p e below s Z _ _ _ _ _ (T227.setTop (mkF m 79 #[.val (.int p0), .val (.int p1), .val (.int p2), .val (.int p3), .val (.int p4), .val (.int (2 : Int32)), .val (.int (1 : Int32)), .val (.ref b209), .unset, .unset, .unset, .unset, .unset] []))
      refine own_F.of (fun _ => XS.iload S227.here S227.hx rfl (S227.dec at_79) rfl) ?_
      show own_F p e below s Z _ _ _ _ _ (T227.setTop (mkF m 81 #[.val (.int p0), .val (.int p1), .val (.int p2), .val (.int p3), .val (.int p4), .val (.int (2 : Int32)), .val (.int (1 : Int32)), .val (.ref b209), .unset, .unset, .unset, .unset, .unset] [(.int p4)]))
      refine own_callS S227 (y := (⟨"java/lang/Integer", "valueOf", "(I)Ljava/lang/Integer;"⟩ : MethodName)) (own_w hw 142 rfl) (own_w hw 143 rfl) (own_w hw 144 rfl) (own_w hw 145 rfl) (by decide) (argsL := [(.int p4)]) (rest := []) (own_vOfI l Z a0 hw p4 aCI clCI h227 S227.old SHi SCaI BXI) all0 (by decide +kernel : parseMethodDescriptor "(I)Ljava/lang/Integer;" = some ⟨[.int], some (.object "java/lang/Integer")⟩) rfl rfl rfl at_81 (by decide) (Nat.le_of_ble_eq_true rfl) (by decide) (by decide) (fun T231 h231 v231 S231 K231 q231 => ?_)
      obtain ⟨b231, rfl, X231, F231⟩ := q231
      show own_F p e below s Z _ _ _ _ _ (T231.setTop (mkF m 84 #[.val (.int p0), .val (.int p1), .val (.int p2), .val (.int p3), .val (.int p4), .val (.int (2 : Int32)), .val (.int (1 : Int32)), .val (.ref b209), .unset, .unset, .unset, .unset, .unset] [(.ref b231)]))
      refine own_F.of (fun _ => XS.goto S231.here S231.hx rfl (pc0 := 84) (pc' := 88) rfl (S231.dec at_84) (by decide) (by decide)) ?_
      show own_F p e below s Z _ _ _ _ _ (T231.setTop (mkF m 88 #[.val (.int p0), .val (.int p1), .val (.int p2), .val (.int p3), .val (.int p4), .val (.int (2 : Int32)), .val (.int (1 : Int32)), .val (.ref b209), .unset, .unset, .unset, .unset, .unset] [(.ref b231)]))
      refine own_F.of (fun _ => XS.astore S231.here S231.hx rfl (S231.dec at_88) rfl rfl (l' := #[.val (.int p0), .val (.int p1), .val (.int p2), .val (.int p3), .val (.int p4), .val (.int (2 : Int32)), .val (.int (1 : Int32)), .val (.ref b209), .val (.ref b231), .unset, .unset, .unset, .unset]) rfl) ?_
      show own_F p e below s Z _ _ _ _ _ (T231.setTop (mkF m 90 #[.val (.int p0), .val (.int p1), .val (.int p2), .val (.int p3), .val (.int p4), .val (.int (2 : Int32)), .val (.int (1 : Int32)), .val (.ref b209), .val (.ref b231), .unset, .unset, .unset, .unset] []))
      refine own_new S231 (own_w hw 26 rfl) (own_w hw 27 rfl) (own_w hw 28 rfl) at_90 (by decide) (by decide) (fun T232 h232 b232 g232 S232 E232 A232 D232 => ?_)
      have F232_items : Fld Z h232 b232 "com/example/tidemark/tidemark/Page" "items" "Ljava/util/List;" .null := (D232 (Or.inr (own_w hw 68 rfl)) (ty := (.object "java/util/List")) (by decide))
      have F232_nextKey : Fld Z h232 b232 "com/example/tidemark/tidemark/Page" "nextKey" "Ljava/lang/Object;" .null := (D232 (Or.inr (own_w hw 70 rfl)) (ty := (.object "java/lang/Object")) (by decide))
      show own_F p e below s Z _ _ _ _ _ (T232.setTop (mkF m 93 #[.val (.int p0), .val (.int p1), .val (.int p2), .val (.int p3), .val (.int p4), .val (.int (2 : Int32)), .val (.int (1 : Int32)), .val (.ref b209), .val (.ref b231), .unset, .unset, .unset, .unset] [(.ref b232)]))
      refine own_F.of (fun _ => XS.dup S232.here S232.hx rfl (S232.dec at_93) rfl rfl) ?_
      show own_F p e below s Z _ _ _ _ _ (T232.setTop (mkF m 94 #[.val (.int p0), .val (.int p1), .val (.int p2), .val (.int p3), .val (.int p4), .val (.int (2 : Int32)), .val (.int (1 : Int32)), .val (.ref b209), .val (.ref b231), .unset, .unset, .unset, .unset] [(.ref b232), (.ref b232)]))
      refine own_F.of (fun _ => XS.aload S232.here S232.hx rfl (S232.dec at_94) rfl rfl) ?_
      show own_F p e below s Z _ _ _ _ _ (T232.setTop (mkF m 96 #[.val (.int p0), .val (.int p1), .val (.int p2), .val (.int p3), .val (.int p4), .val (.int (2 : Int32)), .val (.int (1 : Int32)), .val (.ref b209), .val (.ref b231), .unset, .unset, .unset, .unset] [(.ref b209), (.ref b232), (.ref b232)]))
      refine own_F.of (fun _ => XS.aload S232.here S232.hx rfl (S232.dec at_96) rfl rfl) ?_
      show own_F p e below s Z _ _ _ _ _ (T232.setTop (mkF m 98 #[.val (.int p0), .val (.int p1), .val (.int p2), .val (.int p3), .val (.int p4), .val (.int (2 : Int32)), .val (.int (1 : Int32)), .val (.ref b209), .val (.ref b231), .unset, .unset, .unset, .unset] [(.ref b231), (.ref b209), (.ref b232), (.ref b232)]))
      have fq233 := (((fq224.keep K227).keep K231).ext E232)
      have fq234 := ((Fs227.keep K231 nin0).ext E232)
      have fq235 := ((Fe227.keep K231 nin0).ext E232)
      have fq236 := ((V228.keep K231 nin0).ext E232)
      have fq237 := (((fq226.keep K227).keep K231).ext E232)
      have fq238 := (((X220.keep K227).keep K231).ext E232)
      refine own_callI S232 (y := (⟨"com/example/tidemark/tidemark/Page", "<init>", "(Ljava/util/List;Ljava/lang/Object;)V"⟩ : MethodName)) rfl (own_w hw 29 rfl) (own_w hw 30 rfl) (own_w hw 28 rfl) (own_w hw 31 rfl) (by decide) (argsL := [(.ref b209), (.ref b231)]) (rest := [(.ref b232)]) (own_Page2 l Z a0 hw b232 b209 (.ref b231) b217 b212 b220 aM mO h232 S232.old rfl SM MO (own_mayN S232 (Or.inr (by rw [g232]; exact S231.size))) A232 F232_items F232_nextKey fq233 fq234 fq235 fq236 fq237 fq238) (allS (Or.inr (by rw [g232]; exact S231.size)) all0) (by decide +kernel : parseMethodDescriptor "(Ljava/util/List;Ljava/lang/Object;)V" = some ⟨[(.object "java/util/List"), (.object "java/lang/Object")], none⟩) rfl rfl rfl at_98 (by decide) (Nat.le_of_ble_eq_true rfl) (by decide) (by decide) (fun T239 h239 v239 S239 K239 q239 => ?_)
      obtain ⟨rfl, b239, Fi239, Fk239, X239, P239, R239⟩ := q239
      show own_F p e below s Z _ _ _ _ _ (T239.setTop (mkF m 101 #[.val (.int p0), .val (.int p1), .val (.int p2), .val (.int p3), .val (.int p4), .val (.int (2 : Int32)), .val (.int (1 : Int32)), .val (.ref b209), .val (.ref b231), .unset, .unset, .unset, .unset] [(.ref b232)]))
      refine own_F.of (fun _ => XS.astore S239.here S239.hx rfl (S239.dec at_101) rfl rfl (l' := #[.val (.int p0), .val (.int p1), .val (.int p2), .val (.int p3), .val (.int p4), .val (.int (2 : Int32)), .val (.int (1 : Int32)), .val (.ref b209), .val (.ref b231), .val (.ref b232), .unset, .unset, .unset]) rfl) ?_
      show own_F p e below s Z _ _ _ _ _ (T239.setTop (mkF m 103 #[.val (.int p0), .val (.int p1), .val (.int p2), .val (.int p3), .val (.int p4), .val (.int (2 : Int32)), .val (.int (1 : Int32)), .val (.ref b209), .val (.ref b231), .val (.ref b232), .unset, .unset, .unset] []))
      refine own_F.of (fun _ => XS.aload S239.here S239.hx rfl (S239.dec at_103) rfl rfl) ?_
      show own_F p e below s Z _ _ _ _ _ (T239.setTop (mkF m 105 #[.val (.int p0), .val (.int p1), .val (.int p2), .val (.int p3), .val (.int p4), .val (.int (2 : Int32)), .val (.int (1 : Int32)), .val (.ref b209), .val (.ref b231), .val (.ref b232), .unset, .unset, .unset] [(.ref b232)]))
      have fq240 := (A232.keep K239)
      refine own_callS S239 (y := (⟨"com/example/tidemark/tidemark/PagedList", "first", "(Lcom/example/tidemark/tidemark/Page;)Lcom/example/tidemark/tidemark/PagedList;"⟩ : MethodName)) (own_w hw 71 rfl) (own_w hw 72 rfl) (own_w hw 73 rfl) (own_w hw 74 rfl) (by decide) (argsL := [(.ref b232)]) (rest := []) (own_firstR l Z a0 hw b232 b239 b231 a_END a_IDLE a_FAILED h239 S239.old S_END S_IDLE S_FAILED fq240 Fi239 Fk239) all0 (by decide +kernel : parseMethodDescriptor "(Lcom/example/tidemark/tidemark/Page;)Lcom/example/tidemark/tidemark/PagedList;" = some ⟨[(.object "com/example/tidemark/tidemark/Page")], some (.object "com/example/tidemark/tidemark/PagedList")⟩) rfl rfl rfl at_105 (by decide) (Nat.le_of_ble_eq_true rfl) (by decide) (by decide) (fun T241 h241 v241 S241 K241 q241 => ?_)
      obtain ⟨b241, rfl, X241, Fi241, Ff241, Fk241⟩ := q241
      show own_F p e below s Z _ _ _ _ _ (T241.setTop (mkF m 108 #[.val (.int p0), .val (.int p1), .val (.int p2), .val (.int p3), .val (.int p4), .val (.int (2 : Int32)), .val (.int (1 : Int32)), .val (.ref b209), .val (.ref b231), .val (.ref b232), .unset, .unset, .unset] [(.ref b241)]))
      refine own_F.of (fun _ => XS.astore S241.here S241.hx rfl (S241.dec at_108) rfl rfl (l' := #[.val (.int p0), .val (.int p1), .val (.int p2), .val (.int p3), .val (.int p4), .val (.int (2 : Int32)), .val (.int (1 : Int32)), .val (.ref b209), .val (.ref b231), .val (.ref b232), .val (.ref b241), .unset, .unset]) rfl) ?_
      show own_F p e below s Z _ _ _ _ _ (T241.setTop (mkF m 110 #[.val (.int p0), .val (.int p1), .val (.int p2), .val (.int p3), .val (.int p4), .val (.int (2 : Int32)), .val (.int (1 : Int32)), .val (.ref b209), .val (.ref b231), .val (.ref b232), .val (.ref b241), .unset, .unset] []))
      refine own_F.of (fun _ => XS.aload S241.here S241.hx rfl (S241.dec at_110) rfl rfl) ?_
      show own_F p e below s Z _ _ _ _ _ (T241.setTop (mkF m 112 #[.val (.int p0), .val (.int p1), .val (.int p2), .val (.int p3), .val (.int p4), .val (.int (2 : Int32)), .val (.int (1 : Int32)), .val (.ref b209), .val (.ref b231), .val (.ref b232), .val (.ref b241), .unset, .unset] [(.ref b241)]))
      refine own_callV S241 (y := (⟨"com/example/tidemark/tidemark/PagedList", "items", "()Ljava/util/List;"⟩ : MethodName)) (y' := (⟨"com/example/tidemark/tidemark/PagedList", "items", "()Ljava/util/List;"⟩ : MethodName)) (own_w hw 105 rfl) (own_w hw 106 rfl) (own_nf S241 (own_w hw 108 rfl)) (own_w hw 108 rfl) (own_w hw 107 rfl) (own_w hw 109 rfl) (own_w hw 73 rfl) (by decide) X241 (argsL := []) (rest := []) (own_plI l Z a0 hw b241 (.ref b239) h241 S241.old rfl Fi241) all0 (by decide +kernel : parseMethodDescriptor "()Ljava/util/List;" = some ⟨[], some (.object "java/util/List")⟩) rfl rfl rfl at_112 (by decide) (Nat.le_of_ble_eq_true rfl) (by decide) (by decide) (fun T242 h242 v242 S242 K242 q242 => ?_)
      obtain ⟨rfl, rfl⟩ := q242
      show own_F p e below s Z _ _ _ _ _ (T242.setTop (mkF m 115 #[.val (.int p0), .val (.int p1), .val (.int p2), .val (.int p3), .val (.int p4), .val (.int (2 : Int32)), .val (.int (1 : Int32)), .val (.ref b209), .val (.ref b231), .val (.ref b232), .val (.ref b241), .unset, .unset] [(.ref b239)]))
      refine own_F.of (fun _ => XS.astore S242.here S242.hx rfl (S242.dec at_115) rfl rfl (l' := #[.val (.int p0), .val (.int p1), .val (.int p2), .val (.int p3), .val (.int p4), .val (.int (2 : Int32)), .val (.int (1 : Int32)), .val (.ref b209), .val (.ref b231), .val (.ref b232), .val (.ref b241), .val (.ref b239), .unset]) rfl) ?_
      show own_F p e below s Z _ _ _ _ _ (T242.setTop (mkF m 117 #[.val (.int p0), .val (.int p1), .val (.int p2), .val (.int p3), .val (.int p4), .val (.int (2 : Int32)), .val (.int (1 : Int32)), .val (.ref b209), .val (.ref b231), .val (.ref b232), .val (.ref b241), .val (.ref b239), .unset] []))
      refine own_F.of (fun _ => XS.aload S242.here S242.hx rfl (S242.dec at_117) rfl rfl) ?_
      show own_F p e below s Z _ _ _ _ _ (T242.setTop (mkF m 119 #[.val (.int p0), .val (.int p1), .val (.int p2), .val (.int p3), .val (.int p4), .val (.int (2 : Int32)), .val (.int (1 : Int32)), .val (.ref b209), .val (.ref b231), .val (.ref b232), .val (.ref b241), .val (.ref b239), .unset] [(.ref b239)]))
      have fq243 := (R239.keep K241 nin0)
      have fq244 := ((fq238.keep K239).keep K241)
      have fq246 := (X239.keep K241)
      refine own_callX S242 (y := (⟨"java/util/List", "size", "()I"⟩ : MethodName)) (y' := (⟨"java/util/ImmutableCollections$List12", "size", "()I"⟩ : MethodName)) (own_w hw 110 rfl) (own_w hw 111 rfl) (own_w hw 112 rfl) (own_w hw 286 rfl) (own_w hw 287 rfl) (own_w hw 288 rfl) (own_w hw 289 rfl) (own_w hw 290 rfl) (own_w hw 291 rfl) (own_w hw 272 rfl) (by decide) fq246 (argsL := []) (rest := []) (own_szT2 l Z a0 hw b239 b220 aM h241 S242.old SM fq243 (ne_exa fq244 (XM.ext S242.old) (by decide))) all0 (by decide +kernel : parseMethodDescriptor "()I" = some ⟨[], some .int⟩) rfl rfl rfl at_119 (by decide) (Nat.le_of_ble_eq_true rfl) (by decide) (by decide) (fun T245 h245 v245 S245 K245 q245 => ?_)
      obtain ⟨rfl, rfl⟩ := q245
      show own_F p e below s Z _ _ _ _ _ (T245.setTop (mkF m 124 #[.val (.int p0), .val (.int p1), .val (.int p2), .val (.int p3), .val (.int p4), .val (.int (2 : Int32)), .val (.int (1 : Int32)), .val (.ref b209), .val (.ref b231), .val (.ref b232), .val (.ref b241), .val (.ref b239), .unset] [(.int (2 : Int32))]))
      refine own_F.of (fun _ => XS.iload S245.here S245.hx rfl (S245.dec at_124) rfl) ?_
      show own_F p e below s Z _ _ _ _ _ (T245.setTop (mkF m 126 #[.val (.int p0), .val (.int p1), .val (.int p2), .val (.int p3), .val (.int p4), .val (.int (2 : Int32)), .val (.int (1 : Int32)), .val (.ref b209), .val (.ref b231), .val (.ref b232), .val (.ref b241), .val (.ref b239), .unset] [(.int (2 : Int32)), (.int (2 : Int32))]))
      refine own_icmp S245 131 at_126 (by decide) (by decide) (fun (hc126_247 : (2 : Int32) = (2 : Int32)) => ?_) (fun (hc126_247 : ¬ ((2 : Int32) = (2 : Int32))) => False.elim (absurd hc126_247 (by decide)))
      show own_F p e below s Z _ _ _ _ _ (T245.setTop (mkF m 131 #[.val (.int p0), .val (.int p1), .val (.int p2), .val (.int p3), .val (.int p4), .val (.int (2 : Int32)), .val (.int (1 : Int32)), .val (.ref b209), .val (.ref b231), .val (.ref b232), .val (.ref b241), .val (.ref b239), .unset] []))
      refine own_F.of (fun _ => XS.iload S245.here S245.hx rfl (S245.dec at_131) rfl) ?_
      show own_F p e below s Z _ _ _ _ _ (T245.setTop (mkF m 133 #[.val (.int p0), .val (.int p1), .val (.int p2), .val (.int p3), .val (.int p4), .val (.int (2 : Int32)), .val (.int (1 : Int32)), .val (.ref b209), .val (.ref b231), .val (.ref b232), .val (.ref b241), .val (.ref b239), .unset] [(.int (2 : Int32))]))
      refine own_if S245 156 at_133 (by decide) (by decide) (fun (hc133_248 : ¬ ((0 : Int32) < (2 : Int32))) => False.elim (absurd hc133_248 (by decide))) (fun (hc133_248 : (0 : Int32) < (2 : Int32)) => ?_)
      show own_F p e below s Z _ _ _ _ _ (T245.setTop (mkF m 136 #[.val (.int p0), .val (.int p1), .val (.int p2), .val (.int p3), .val (.int p4), .val (.int (2 : Int32)), .val (.int (1 : Int32)), .val (.ref b209), .val (.ref b231), .val (.ref b232), .val (.ref b241), .val (.ref b239), .unset] []))
      refine own_F.of (fun _ => XS.aload S245.here S245.hx rfl (S245.dec at_136) rfl rfl) ?_
      show own_F p e below s Z _ _ _ _ _ (T245.setTop (mkF m 138 #[.val (.int p0), .val (.int p1), .val (.int p2), .val (.int p3), .val (.int p4), .val (.int (2 : Int32)), .val (.int (1 : Int32)), .val (.ref b209), .val (.ref b231), .val (.ref b232), .val (.ref b241), .val (.ref b239), .unset] [(.ref b239)]))
      refine own_F.of (fun _ => XS.iconst S245.here S245.hx rfl (S245.dec at_138)) ?_
      show own_F p e below s Z _ _ _ _ _ (T245.setTop (mkF m 139 #[.val (.int p0), .val (.int p1), .val (.int p2), .val (.int p3), .val (.int p4), .val (.int (2 : Int32)), .val (.int (1 : Int32)), .val (.ref b209), .val (.ref b231), .val (.ref b232), .val (.ref b241), .val (.ref b239), .unset] [(.int (0 : Int32)), (.ref b239)]))
      have fq249 := (P239.keep K241 nin0)
      refine own_callX S245 (y := (⟨"java/util/List", "get", "(I)Ljava/lang/Object;"⟩ : MethodName)) (y' := (⟨"java/util/ImmutableCollections$List12", "get", "(I)Ljava/lang/Object;"⟩ : MethodName)) (own_w hw 240 rfl) (own_w hw 241 rfl) (own_w hw 242 rfl) (own_w hw 293 rfl) (own_w hw 294 rfl) (own_w hw 295 rfl) (own_w hw 296 rfl) (own_w hw 290 rfl) (own_w hw 297 rfl) (own_w hw 272 rfl) (by decide) fq246 (argsL := [(.int (0 : Int32))]) (rest := []) (own_gtT_0 l Z a0 hw b239 b212 b220 h241 S245.old fq249 fq243) all0 (by decide +kernel : parseMethodDescriptor "(I)Ljava/lang/Object;" = some ⟨[.int], some (.object "java/lang/Object")⟩) rfl rfl rfl at_139 (by decide) (Nat.le_of_ble_eq_true rfl) (by decide) (by decide) (fun T250 h250 v250 S250 K250 q250 => ?_)
      obtain ⟨rfl, rfl⟩ := q250
      show own_F p e below s Z _ _ _ _ _ (T250.setTop (mkF m 144 #[.val (.int p0), .val (.int p1), .val (.int p2), .val (.int p3), .val (.int p4), .val (.int (2 : Int32)), .val (.int (1 : Int32)), .val (.ref b209), .val (.ref b231), .val (.ref b232), .val (.ref b241), .val (.ref b239), .unset] [(.ref b212)]))
      have fq252 := ((fq237.keep K239).keep K241)
      refine own_cast S250 (own_w hw 248 rfl) (Ins.self fq252) at_144 (fun T251 S251 => ?_)
      show own_F p e below s Z _ _ _ _ _ (T251.setTop (mkF m 147 #[.val (.int p0), .val (.int p1), .val (.int p2), .val (.int p3), .val (.int p4), .val (.int (2 : Int32)), .val (.int (1 : Int32)), .val (.ref b209), .val (.ref b231), .val (.ref b232), .val (.ref b241), .val (.ref b239), .unset] [(.ref b212)]))
      have fq253 := (((((((F212.keep K217 (ninS (ne_exa fq252 ((fq233.keep K239).keep K241) (by decide)) nin0)).keep K220 nin0).keep K227 (ninS (ne_exa fq252 ((fq233.keep K239).keep K241) (by decide)) (ninS (ne_exa fq252 ((((V228.exa.keep K231).ext E232).keep K239).keep K241) (by decide)) nin0))).keep K231 nin0).ext E232).keep K239 (ninS (ne_exa fq252 (fq240.keep K241) (by decide)) nin0)).keep K241 nin0)
      refine own_callV S251 (y := (⟨"java/lang/Integer", "intValue", "()I"⟩ : MethodName)) (y' := (⟨"java/lang/Integer", "intValue", "()I"⟩ : MethodName)) (own_w hw 250 rfl) (own_w hw 251 rfl) (own_nf S251 (own_w hw 253 rfl)) (own_w hw 253 rfl) (own_w hw 252 rfl) (own_w hw 254 rfl) (own_w hw 144 rfl) (by decide) fq252 (argsL := []) (rest := []) (own_intV l Z a0 hw b212 p1 h241 S251.old fq253) all0 (by decide +kernel : parseMethodDescriptor "()I" = some ⟨[], some .int⟩) rfl rfl rfl at_147 (by decide) (Nat.le_of_ble_eq_true rfl) (by decide) (by decide) (fun T254 h254 v254 S254 K254 q254 => ?_)
      obtain ⟨rfl, rfl⟩ := q254
      show own_F p e below s Z _ _ _ _ _ (T254.setTop (mkF m 150 #[.val (.int p0), .val (.int p1), .val (.int p2), .val (.int p3), .val (.int p4), .val (.int (2 : Int32)), .val (.int (1 : Int32)), .val (.ref b209), .val (.ref b231), .val (.ref b232), .val (.ref b241), .val (.ref b239), .unset] [(.int p1)]))
      refine own_F.of (fun _ => XS.iloadN S254.here S254.hx rfl (S254.dec at_150) rfl) ?_
      show own_F p e below s Z _ _ _ _ _ (T254.setTop (mkF m 151 #[.val (.int p0), .val (.int p1), .val (.int p2), .val (.int p3), .val (.int p4), .val (.int (2 : Int32)), .val (.int (1 : Int32)), .val (.ref b209), .val (.ref b231), .val (.ref b232), .val (.ref b241), .val (.ref b239), .unset] [(.int p1), (.int p1)]))
      refine own_icmp S254 156 at_151 (by decide) (by decide) (fun (hc151_255 : p1 = p1) => ?_) (fun (hc151_255 : ¬ (p1 = p1)) => False.elim (hc151_255 rfl))
      show own_F p e below s Z _ _ _ _ _ (T254.setTop (mkF m 156 #[.val (.int p0), .val (.int p1), .val (.int p2), .val (.int p3), .val (.int p4), .val (.int (2 : Int32)), .val (.int (1 : Int32)), .val (.ref b209), .val (.ref b231), .val (.ref b232), .val (.ref b241), .val (.ref b239), .unset] []))
      refine own_F.of (fun _ => XS.iload S254.here S254.hx rfl (S254.dec at_156) rfl) ?_
      show own_F p e below s Z _ _ _ _ _ (T254.setTop (mkF m 158 #[.val (.int p0), .val (.int p1), .val (.int p2), .val (.int p3), .val (.int p4), .val (.int (2 : Int32)), .val (.int (1 : Int32)), .val (.ref b209), .val (.ref b231), .val (.ref b232), .val (.ref b241), .val (.ref b239), .unset] [(.int (2 : Int32))]))
      refine own_F.of (fun _ => XS.iconst S254.here S254.hx rfl (S254.dec at_158)) ?_
      show own_F p e below s Z _ _ _ _ _ (T254.setTop (mkF m 159 #[.val (.int p0), .val (.int p1), .val (.int p2), .val (.int p3), .val (.int p4), .val (.int (2 : Int32)), .val (.int (1 : Int32)), .val (.ref b209), .val (.ref b231), .val (.ref b232), .val (.ref b241), .val (.ref b239), .unset] [(.int (1 : Int32)), (.int (2 : Int32))]))
      refine own_icmp S254 182 at_159 (by decide) (by decide) (fun (hc159_256 : ¬ ((1 : Int32) < (2 : Int32))) => False.elim (absurd hc159_256 (by decide))) (fun (hc159_256 : (1 : Int32) < (2 : Int32)) => ?_)
      show own_F p e below s Z _ _ _ _ _ (T254.setTop (mkF m 162 #[.val (.int p0), .val (.int p1), .val (.int p2), .val (.int p3), .val (.int p4), .val (.int (2 : Int32)), .val (.int (1 : Int32)), .val (.ref b209), .val (.ref b231), .val (.ref b232), .val (.ref b241), .val (.ref b239), .unset] []))
      refine own_F.of (fun _ => XS.aload S254.here S254.hx rfl (S254.dec at_162) rfl rfl) ?_
      show own_F p e below s Z _ _ _ _ _ (T254.setTop (mkF m 164 #[.val (.int p0), .val (.int p1), .val (.int p2), .val (.int p3), .val (.int p4), .val (.int (2 : Int32)), .val (.int (1 : Int32)), .val (.ref b209), .val (.ref b231), .val (.ref b232), .val (.ref b241), .val (.ref b239), .unset] [(.ref b239)]))
      refine own_F.of (fun _ => XS.iconst S254.here S254.hx rfl (S254.dec at_164)) ?_
      show own_F p e below s Z _ _ _ _ _ (T254.setTop (mkF m 165 #[.val (.int p0), .val (.int p1), .val (.int p2), .val (.int p3), .val (.int p4), .val (.int (2 : Int32)), .val (.int (1 : Int32)), .val (.ref b209), .val (.ref b231), .val (.ref b232), .val (.ref b241), .val (.ref b239), .unset] [(.int (1 : Int32)), (.ref b239)]))
      refine own_callX S254 (y := (⟨"java/util/List", "get", "(I)Ljava/lang/Object;"⟩ : MethodName)) (y' := (⟨"java/util/ImmutableCollections$List12", "get", "(I)Ljava/lang/Object;"⟩ : MethodName)) (own_w hw 240 rfl) (own_w hw 241 rfl) (own_w hw 242 rfl) (own_w hw 293 rfl) (own_w hw 294 rfl) (own_w hw 295 rfl) (own_w hw 296 rfl) (own_w hw 290 rfl) (own_w hw 297 rfl) (own_w hw 272 rfl) (by decide) fq246 (argsL := [(.int (1 : Int32))]) (rest := []) (own_gtT_1 l Z a0 hw b239 b212 b220 aM h241 S254.old SM fq249 fq243 (ne_exa fq244 (XM.ext S254.old) (by decide))) all0 (by decide +kernel : parseMethodDescriptor "(I)Ljava/lang/Object;" = some ⟨[.int], some (.object "java/lang/Object")⟩) rfl rfl rfl at_165 (by decide) (Nat.le_of_ble_eq_true rfl) (by decide) (by decide) (fun T257 h257 v257 S257 K257 q257 => ?_)
      obtain ⟨rfl, rfl⟩ := q257
      show own_F p e below s Z _ _ _ _ _ (T257.setTop (mkF m 170 #[.val (.int p0), .val (.int p1), .val (.int p2), .val (.int p3), .val (.int p4), .val (.int (2 : Int32)), .val (.int (1 : Int32)), .val (.ref b209), .val (.ref b231), .val (.ref b232), .val (.ref b241), .val (.ref b239), .unset] [(.ref b220)]))
      refine own_cast S257 (own_w hw 248 rfl) (Ins.self fq244) at_170 (fun T258 S258 => ?_)
      show own_F p e below s Z _ _ _ _ _ (T258.setTop (mkF m 173 #[.val (.int p0), .val (.int p1), .val (.int p2), .val (.int p3), .val (.int p4), .val (.int (2 : Int32)), .val (.int (1 : Int32)), .val (.ref b209), .val (.ref b231), .val (.ref b232), .val (.ref b241), .val (.ref b239), .unset] [(.ref b220)]))
      have fq259 := (((((F220.keep K227 (ninS (ne_exa fq244 ((fq233.keep K239).keep K241) (by decide)) (ninS (ne_exa fq244 ((((V228.exa.keep K231).ext E232).keep K239).keep K241) (by decide)) nin0))).keep K231 nin0).ext E232).keep K239 (ninS (ne_exa fq244 (fq240.keep K241) (by decide)) nin0)).keep K241 nin0)
      refine own_callV S258 (y := (⟨"java/lang/Integer", "intValue", "()I"⟩ : MethodName)) (y' := (⟨"java/lang/Integer", "intValue", "()I"⟩ : MethodName)) (own_w hw 250 rfl) (own_w hw 251 rfl) (own_nf S258 (own_w hw 253 rfl)) (own_w hw 253 rfl) (own_w hw 252 rfl) (own_w hw 254 rfl) (own_w hw 144 rfl) (by decide) fq244 (argsL := []) (rest := []) (own_intV l Z a0 hw b220 p2 h241 S258.old fq259) all0 (by decide +kernel : parseMethodDescriptor "()I" = some ⟨[], some .int⟩) rfl rfl rfl at_173 (by decide) (Nat.le_of_ble_eq_true rfl) (by decide) (by decide) (fun T260 h260 v260 S260 K260 q260 => ?_)
      obtain ⟨rfl, rfl⟩ := q260
      show own_F p e below s Z _ _ _ _ _ (T260.setTop (mkF m 176 #[.val (.int p0), .val (.int p1), .val (.int p2), .val (.int p3), .val (.int p4), .val (.int (2 : Int32)), .val (.int (1 : Int32)), .val (.ref b209), .val (.ref b231), .val (.ref b232), .val (.ref b241), .val (.ref b239), .unset] [(.int p2)]))
      refine own_F.of (fun _ => XS.iloadN S260.here S260.hx rfl (S260.dec at_176) rfl) ?_
      show own_F p e below s Z _ _ _ _ _ (T260.setTop (mkF m 177 #[.val (.int p0), .val (.int p1), .val (.int p2), .val (.int p3), .val (.int p4), .val (.int (2 : Int32)), .val (.int (1 : Int32)), .val (.ref b209), .val (.ref b231), .val (.ref b232), .val (.ref b241), .val (.ref b239), .unset] [(.int p2), (.int p2)]))
      refine own_icmp S260 182 at_177 (by decide) (by decide) (fun (hc177_261 : p2 = p2) => ?_) (fun (hc177_261 : ¬ (p2 = p2)) => False.elim (hc177_261 rfl))
      show own_F p e below s Z _ _ _ _ _ (T260.setTop (mkF m 182 #[.val (.int p0), .val (.int p1), .val (.int p2), .val (.int p3), .val (.int p4), .val (.int (2 : Int32)), .val (.int (1 : Int32)), .val (.ref b209), .val (.ref b231), .val (.ref b232), .val (.ref b241), .val (.ref b239), .unset] []))
      refine own_F.of (fun _ => XS.iload S260.here S260.hx rfl (S260.dec at_182) rfl) ?_
      show own_F p e below s Z _ _ _ _ _ (T260.setTop (mkF m 184 #[.val (.int p0), .val (.int p1), .val (.int p2), .val (.int p3), .val (.int p4), .val (.int (2 : Int32)), .val (.int (1 : Int32)), .val (.ref b209), .val (.ref b231), .val (.ref b232), .val (.ref b241), .val (.ref b239), .unset] [(.int (2 : Int32))]))
      refine own_F.of (fun _ => XS.iconst S260.here S260.hx rfl (S260.dec at_184)) ?_
      show own_F p e below s Z _ _ _ _ _ (T260.setTop (mkF m 185 #[.val (.int p0), .val (.int p1), .val (.int p2), .val (.int p3), .val (.int p4), .val (.int (2 : Int32)), .val (.int (1 : Int32)), .val (.ref b209), .val (.ref b231), .val (.ref b232), .val (.ref b241), .val (.ref b239), .unset] [(.int (2 : Int32)), (.int (2 : Int32))]))
      refine own_icmp S260 208 at_185 (by decide) (by decide) (fun (hc185_262 : ¬ ((2 : Int32) < (2 : Int32))) => ?_) (fun (hc185_262 : (2 : Int32) < (2 : Int32)) => False.elim (absurd hc185_262 (by decide)))
      show own_F p e below s Z _ _ _ _ _ (T260.setTop (mkF m 208 #[.val (.int p0), .val (.int p1), .val (.int p2), .val (.int p3), .val (.int p4), .val (.int (2 : Int32)), .val (.int (1 : Int32)), .val (.ref b209), .val (.ref b231), .val (.ref b232), .val (.ref b241), .val (.ref b239), .unset] []))
      refine own_F.of (fun _ => XS.iload S260.here S260.hx rfl (S260.dec at_208) rfl) ?_
      show own_F p e below s Z _ _ _ _ _ (T260.setTop (mkF m 210 #[.val (.int p0), .val (.int p1), .val (.int p2), .val (.int p3), .val (.int p4), .val (.int (2 : Int32)), .val (.int (1 : Int32)), .val (.ref b209), .val (.ref b231), .val (.ref b232), .val (.ref b241), .val (.ref b239), .unset] [(.int (1 : Int32))]))
      refine own_if S260 219 at_210 (by decide) (by decide) (fun (hc210_263 : (1 : Int32) = (0 : Int32)) => False.elim (absurd hc210_263 (by decide))) (fun (hc210_263 : ¬ ((1 : Int32) = (0 : Int32))) => ?_)
      show own_F p e below s Z _ _ _ _ _ (T260.setTop (mkF m 213 #[.val (.int p0), .val (.int p1), .val (.int p2), .val (.int p3), .val (.int p4), .val (.int (2 : Int32)), .val (.int (1 : Int32)), .val (.ref b209), .val (.ref b231), .val (.ref b232), .val (.ref b241), .val (.ref b239), .unset] []))
      refine own_getS S260 (host := "") (Or.inl (own_w hw 269 rfl)) Via.refl (S_IDLE.ext S260.old) at_213 (fun T264 S264 => ?_)
      show own_F p e below s Z _ _ _ _ _ (T264.setTop (mkF m 216 #[.val (.int p0), .val (.int p1), .val (.int p2), .val (.int p3), .val (.int p4), .val (.int (2 : Int32)), .val (.int (1 : Int32)), .val (.ref b209), .val (.ref b231), .val (.ref b232), .val (.ref b241), .val (.ref b239), .unset] [(.ref a_IDLE)]))
      refine own_F.of (fun _ => XS.goto S264.here S264.hx rfl (pc0 := 216) (pc' := 222) rfl (S264.dec at_216) (by decide) (by decide)) ?_
      show own_F p e below s Z _ _ _ _ _ (T264.setTop (mkF m 222 #[.val (.int p0), .val (.int p1), .val (.int p2), .val (.int p3), .val (.int p4), .val (.int (2 : Int32)), .val (.int (1 : Int32)), .val (.ref b209), .val (.ref b231), .val (.ref b232), .val (.ref b241), .val (.ref b239), .unset] [(.ref a_IDLE)]))
      refine own_F.of (fun _ => XS.astore S264.here S264.hx rfl (S264.dec at_222) rfl rfl (l' := #[.val (.int p0), .val (.int p1), .val (.int p2), .val (.int p3), .val (.int p4), .val (.int (2 : Int32)), .val (.int (1 : Int32)), .val (.ref b209), .val (.ref b231), .val (.ref b232), .val (.ref b241), .val (.ref b239), .val (.ref a_IDLE)]) rfl) ?_
      show own_F p e below s Z _ _ _ _ _ (T264.setTop (mkF m 224 #[.val (.int p0), .val (.int p1), .val (.int p2), .val (.int p3), .val (.int p4), .val (.int (2 : Int32)), .val (.int (1 : Int32)), .val (.ref b209), .val (.ref b231), .val (.ref b232), .val (.ref b241), .val (.ref b239), .val (.ref a_IDLE)] []))
      refine own_F.of (fun _ => XS.aload S264.here S264.hx rfl (S264.dec at_224) rfl rfl) ?_
      show own_F p e below s Z _ _ _ _ _ (T264.setTop (mkF m 226 #[.val (.int p0), .val (.int p1), .val (.int p2), .val (.int p3), .val (.int p4), .val (.int (2 : Int32)), .val (.int (1 : Int32)), .val (.ref b209), .val (.ref b231), .val (.ref b232), .val (.ref b241), .val (.ref b239), .val (.ref a_IDLE)] [(.ref b241)]))
      refine own_callV S264 (y := (⟨"com/example/tidemark/tidemark/PagedList", "footer", "()Lcom/example/tidemark/tidemark/PagedList$Footer;"⟩ : MethodName)) (y' := (⟨"com/example/tidemark/tidemark/PagedList", "footer", "()Lcom/example/tidemark/tidemark/PagedList$Footer;"⟩ : MethodName)) (own_w hw 123 rfl) (own_w hw 124 rfl) (own_nf S264 (own_w hw 126 rfl)) (own_w hw 126 rfl) (own_w hw 125 rfl) (own_w hw 127 rfl) (own_w hw 73 rfl) (by decide) X241 (argsL := []) (rest := []) (own_plF l Z a0 hw b241 (.ref a_IDLE) h241 S264.old rfl Ff241) all0 (by decide +kernel : parseMethodDescriptor "()Lcom/example/tidemark/tidemark/PagedList$Footer;" = some ⟨[], some (.object "com/example/tidemark/tidemark/PagedList$Footer")⟩) rfl rfl rfl at_226 (by decide) (Nat.le_of_ble_eq_true rfl) (by decide) (by decide) (fun T265 h265 v265 S265 K265 q265 => ?_)
      obtain ⟨rfl, rfl⟩ := q265
      show own_F p e below s Z _ _ _ _ _ (T265.setTop (mkF m 229 #[.val (.int p0), .val (.int p1), .val (.int p2), .val (.int p3), .val (.int p4), .val (.int (2 : Int32)), .val (.int (1 : Int32)), .val (.ref b209), .val (.ref b231), .val (.ref b232), .val (.ref b241), .val (.ref b239), .val (.ref a_IDLE)] [(.ref a_IDLE)]))
      refine own_F.of (fun _ => XS.aload S265.here S265.hx rfl (S265.dec at_229) rfl rfl) ?_
      show own_F p e below s Z _ _ _ _ _ (T265.setTop (mkF m 231 #[.val (.int p0), .val (.int p1), .val (.int p2), .val (.int p3), .val (.int p4), .val (.int (2 : Int32)), .val (.int (1 : Int32)), .val (.ref b209), .val (.ref b231), .val (.ref b232), .val (.ref b241), .val (.ref b239), .val (.ref a_IDLE)] [(.ref a_IDLE), (.ref a_IDLE)]))
      refine own_acmp S265 rfl rfl 236 at_231 (by decide) (by decide) (fun (hc231_266 : (Value.ref a_IDLE) = (Value.ref a_IDLE)) => ?_) (fun (hc231_266 : ¬ ((Value.ref a_IDLE) = (Value.ref a_IDLE))) => False.elim (hc231_266 rfl))
      show own_F p e below s Z _ _ _ _ _ (T265.setTop (mkF m 236 #[.val (.int p0), .val (.int p1), .val (.int p2), .val (.int p3), .val (.int p4), .val (.int (2 : Int32)), .val (.int (1 : Int32)), .val (.ref b209), .val (.ref b231), .val (.ref b232), .val (.ref b241), .val (.ref b239), .val (.ref a_IDLE)] []))
      refine own_F.of (fun _ => XS.aload S265.here S265.hx rfl (S265.dec at_236) rfl rfl) ?_
      show own_F p e below s Z _ _ _ _ _ (T265.setTop (mkF m 238 #[.val (.int p0), .val (.int p1), .val (.int p2), .val (.int p3), .val (.int p4), .val (.int (2 : Int32)), .val (.int (1 : Int32)), .val (.ref b209), .val (.ref b231), .val (.ref b232), .val (.ref b241), .val (.ref b239), .val (.ref a_IDLE)] [(.ref b241)]))
      refine own_callV S265 (y := (⟨"com/example/tidemark/tidemark/PagedList", "canLoadMore", "()Z"⟩ : MethodName)) (y' := (⟨"com/example/tidemark/tidemark/PagedList", "canLoadMore", "()Z"⟩ : MethodName)) (own_w hw 128 rfl) (own_w hw 129 rfl) (own_nf S265 (own_w hw 131 rfl)) (own_w hw 131 rfl) (own_w hw 130 rfl) (own_w hw 132 rfl) (own_w hw 73 rfl) (by decide) X241 (argsL := []) (rest := []) (own_canR l Z a0 hw b241 a_END a_IDLE a_FAILED h241 S265.old S_END S_IDLE S_FAILED Ff241) all0 (by decide +kernel : parseMethodDescriptor "()Z" = some ⟨[], some .boolean⟩) rfl rfl rfl at_238 (by decide) (Nat.le_of_ble_eq_true rfl) (by decide) (by decide) (fun T267 h267 v267 S267 K267 q267 => ?_)
      obtain ⟨rfl, rfl⟩ := q267
      show own_F p e below s Z _ _ _ _ _ (T267.setTop (mkF m 241 #[.val (.int p0), .val (.int p1), .val (.int p2), .val (.int p3), .val (.int p4), .val (.int (2 : Int32)), .val (.int (1 : Int32)), .val (.ref b209), .val (.ref b231), .val (.ref b232), .val (.ref b241), .val (.ref b239), .val (.ref a_IDLE)] [(.int (1 : Int32))]))
      refine own_F.of (fun _ => XS.iload S267.here S267.hx rfl (S267.dec at_241) rfl) ?_
      show own_F p e below s Z _ _ _ _ _ (T267.setTop (mkF m 243 #[.val (.int p0), .val (.int p1), .val (.int p2), .val (.int p3), .val (.int p4), .val (.int (2 : Int32)), .val (.int (1 : Int32)), .val (.ref b209), .val (.ref b231), .val (.ref b232), .val (.ref b241), .val (.ref b239), .val (.ref a_IDLE)] [(.int (1 : Int32)), (.int (1 : Int32))]))
      refine own_icmp S267 248 at_243 (by decide) (by decide) (fun (hc243_268 : (1 : Int32) = (1 : Int32)) => ?_) (fun (hc243_268 : ¬ ((1 : Int32) = (1 : Int32))) => False.elim (absurd hc243_268 (by decide)))
      show own_F p e below s Z _ _ _ _ _ (T267.setTop (mkF m 248 #[.val (.int p0), .val (.int p1), .val (.int p2), .val (.int p3), .val (.int p4), .val (.int (2 : Int32)), .val (.int (1 : Int32)), .val (.ref b209), .val (.ref b231), .val (.ref b232), .val (.ref b241), .val (.ref b239), .val (.ref a_IDLE)] []))
      refine own_F.of (fun _ => XS.aload S267.here S267.hx rfl (S267.dec at_248) rfl rfl) ?_
      show own_F p e below s Z _ _ _ _ _ (T267.setTop (mkF m 250 #[.val (.int p0), .val (.int p1), .val (.int p2), .val (.int p3), .val (.int p4), .val (.int (2 : Int32)), .val (.int (1 : Int32)), .val (.ref b209), .val (.ref b231), .val (.ref b232), .val (.ref b241), .val (.ref b239), .val (.ref a_IDLE)] [(.ref b241)]))
      refine own_callV S267 (y := (⟨"com/example/tidemark/tidemark/PagedList", "nextKey", "()Ljava/lang/Object;"⟩ : MethodName)) (y' := (⟨"com/example/tidemark/tidemark/PagedList", "nextKey", "()Ljava/lang/Object;"⟩ : MethodName)) (own_w hw 137 rfl) (own_w hw 138 rfl) (own_nf S267 (own_w hw 140 rfl)) (own_w hw 140 rfl) (own_w hw 139 rfl) (own_w hw 141 rfl) (own_w hw 73 rfl) (by decide) X241 (argsL := []) (rest := []) (own_plK l Z a0 hw b241 (.ref b231) h241 S267.old rfl Fk241) all0 (by decide +kernel : parseMethodDescriptor "()Ljava/lang/Object;" = some ⟨[], some (.object "java/lang/Object")⟩) rfl rfl rfl at_250 (by decide) (Nat.le_of_ble_eq_true rfl) (by decide) (by decide) (fun T269 h269 v269 S269 K269 q269 => ?_)
      obtain ⟨rfl, rfl⟩ := q269
      show own_F p e below s Z _ _ _ _ _ (T269.setTop (mkF m 253 #[.val (.int p0), .val (.int p1), .val (.int p2), .val (.int p3), .val (.int p4), .val (.int (2 : Int32)), .val (.int (1 : Int32)), .val (.ref b209), .val (.ref b231), .val (.ref b232), .val (.ref b241), .val (.ref b239), .val (.ref a_IDLE)] [(.ref b231)]))
      refine own_F.of (fun _ => XS.aload S269.here S269.hx rfl (S269.dec at_253) rfl rfl) ?_
      show own_F p e below s Z _ _ _ _ _ (T269.setTop (mkF m 255 #[.val (.int p0), .val (.int p1), .val (.int p2), .val (.int p3), .val (.int p4), .val (.int (2 : Int32)), .val (.int (1 : Int32)), .val (.ref b209), .val (.ref b231), .val (.ref b232), .val (.ref b241), .val (.ref b239), .val (.ref a_IDLE)] [(.ref b231), (.ref b231)]))
      refine own_acmp S269 rfl rfl 262 at_255 (by decide) (by decide) (fun (hc255_270 : ¬ ((Value.ref b231) = (Value.ref b231))) => False.elim (hc255_270 rfl)) (fun (hc255_270 : (Value.ref b231) = (Value.ref b231)) => ?_)
      show own_F p e below s Z _ _ _ _ _ (T269.setTop (mkF m 258 #[.val (.int p0), .val (.int p1), .val (.int p2), .val (.int p3), .val (.int p4), .val (.int (2 : Int32)), .val (.int (1 : Int32)), .val (.ref b209), .val (.ref b231), .val (.ref b232), .val (.ref b241), .val (.ref b239), .val (.ref a_IDLE)] []))
      refine own_F.of (fun _ => XS.iconst S269.here S269.hx rfl (S269.dec at_258)) ?_
      show own_F p e below s Z _ _ _ _ _ (T269.setTop (mkF m 259 #[.val (.int p0), .val (.int p1), .val (.int p2), .val (.int p3), .val (.int p4), .val (.int (2 : Int32)), .val (.int (1 : Int32)), .val (.ref b209), .val (.ref b231), .val (.ref b232), .val (.ref b241), .val (.ref b239), .val (.ref a_IDLE)] [(.int (1 : Int32))]))
      refine own_F.of (fun _ => XS.goto S269.here S269.hx rfl (pc0 := 259) (pc' := 263) rfl (S269.dec at_259) (by decide) (by decide)) ?_
      show own_F p e below s Z _ _ _ _ _ (T269.setTop (mkF m 263 #[.val (.int p0), .val (.int p1), .val (.int p2), .val (.int p3), .val (.int p4), .val (.int (2 : Int32)), .val (.int (1 : Int32)), .val (.ref b209), .val (.ref b231), .val (.ref b232), .val (.ref b241), .val (.ref b239), .val (.ref a_IDLE)] [(.int (1 : Int32))]))
      refine own_retZ S269 (by simp) at_263 (by decide) (by decide) ?_
      rfl
  · rw [hn]
    show own_F p e below s Z _ _ _ _ _ (T0.setTop (mkF m 5 #[.val (.int p0), .val (.int p1), .val (.int p2), .val (.int p3), .val (.int p4), .val (.int (3 : Int32)), .unset, .unset, .unset, .unset, .unset, .unset, .unset] []))
    refine own_F.of (fun _ => XS.iloadN S0.here S0.hx rfl (S0.dec at_5) rfl) ?_
    show own_F p e below s Z _ _ _ _ _ (T0.setTop (mkF m 6 #[.val (.int p0), .val (.int p1), .val (.int p2), .val (.int p3), .val (.int p4), .val (.int (3 : Int32)), .unset, .unset, .unset, .unset, .unset, .unset, .unset] [(.int p0)]))
    refine own_F.of (fun _ => XS.iconst S0.here S0.hx rfl (S0.dec at_6)) ?_
    show own_F p e below s Z _ _ _ _ _ (T0.setTop (mkF m 7 #[.val (.int p0), .val (.int p1), .val (.int p2), .val (.int p3), .val (.int p4), .val (.int (3 : Int32)), .unset, .unset, .unset, .unset, .unset, .unset, .unset] [(.int (4 : Int32)), (.int p0)]))
    refine own_F.of (fun _ => XS.iand S0.here S0.hx rfl (S0.dec at_7) rfl) ?_
    show own_F p e below s Z _ _ _ _ _ (T0.setTop (mkF m 8 #[.val (.int p0), .val (.int p1), .val (.int p2), .val (.int p3), .val (.int p4), .val (.int (3 : Int32)), .unset, .unset, .unset, .unset, .unset, .unset, .unset] [(.int (p0 &&& (4 : Int32)))]))
    refine own_if S0 15 at_8 (by decide) (by decide) (fun (hc8_271 : (p0 &&& (4 : Int32)) = (0 : Int32)) => ?_) (fun (hc8_271 : ¬ ((p0 &&& (4 : Int32)) = (0 : Int32))) => ?_)
    · show own_F p e below s Z _ _ _ _ _ (T0.setTop (mkF m 15 #[.val (.int p0), .val (.int p1), .val (.int p2), .val (.int p3), .val (.int p4), .val (.int (3 : Int32)), .unset, .unset, .unset, .unset, .unset, .unset, .unset] []))
      refine own_F.of (fun _ => XS.iconst S0.here S0.hx rfl (S0.dec at_15)) ?_
      show own_F p e below s Z _ _ _ _ _ (T0.setTop (mkF m 16 #[.val (.int p0), .val (.int p1), .val (.int p2), .val (.int p3), .val (.int p4), .val (.int (3 : Int32)), .unset, .unset, .unset, .unset, .unset, .unset, .unset] [(.int (0 : Int32))]))
      refine own_F.of (fun _ => XS.istore S0.here S0.hx rfl (S0.dec at_16) rfl (l' := #[.val (.int p0), .val (.int p1), .val (.int p2), .val (.int p3), .val (.int p4), .val (.int (3 : Int32)), .val (.int (0 : Int32)), .unset, .unset, .unset, .unset, .unset, .unset]) rfl) ?_
      show own_F p e below s Z _ _ _ _ _ (T0.setTop (mkF m 18 #[.val (.int p0), .val (.int p1), .val (.int p2), .val (.int p3), .val (.int p4), .val (.int (3 : Int32)), .val (.int (0 : Int32)), .unset, .unset, .unset, .unset, .unset, .unset] []))
      refine own_new S0 (own_w hw 0 rfl) (own_w hw 1 rfl) (own_w hw 2 rfl) at_18 (by decide) (by decide) (fun T272 h272 b272 g272 S272 E272 A272 D272 => ?_)
      have F272_modCount : Fld Z h272 b272 "java/util/AbstractList" "modCount" "I" (.int (0 : Int32)) := (D272 (Or.inl (own_w hw 22 rfl)) (ty := .int) (by decide))
      have F272_elementData : Fld Z h272 b272 "java/util/ArrayList" "elementData" "[Ljava/lang/Object;" .null := (D272 (Or.inl (own_w hw 25 rfl)) (ty := (.array (.object "java/lang/Object"))) (by decide))
      have F272_size : Fld Z h272 b272 "java/util/ArrayList" "size" "I" (.int (0 : Int32)) := (D272 (Or.inl (own_w hw 62 rfl)) (ty := .int) (by decide))
      show own_F p e below s Z _ _ _ _ _ (T272.setTop (mkF m 21 #[.val (.int p0), .val (.int p1), .val (.int p2), .val (.int p3), .val (.int p4), .val (.int (3 : Int32)), .val (.int (0 : Int32)), .unset, .unset, .unset, .unset, .unset, .unset] [(.ref b272)]))
      refine own_F.of (fun _ => XS.dup S272.here S272.hx rfl (S272.dec at_21) rfl rfl) ?_
      show own_F p e below s Z _ _ _ _ _ (T272.setTop (mkF m 22 #[.val (.int p0), .val (.int p1), .val (.int p2), .val (.int p3), .val (.int p4), .val (.int (3 : Int32)), .val (.int (0 : Int32)), .unset, .unset, .unset, .unset, .unset, .unset] [(.ref b272), (.ref b272)]))
      refine own_callI S272 (y := (⟨"java/util/ArrayList", "<init>", "()V"⟩ : MethodName)) rfl (own_w hw 3 rfl) (own_w hw 4 rfl) (own_w hw 2 rfl) (own_w hw 5 rfl) (by decide) (argsL := []) (rest := [(.ref b272)]) (own_ALI l Z a0 hw b272 aD h272 S272.old SD AD (own_mayN S272 (Or.inr (by rw [g272]; exact S0.size))) A272 F272_modCount F272_elementData F272_size) (allS (Or.inr (by rw [g272]; exact S0.size)) all0) (by decide +kernel : parseMethodDescriptor "()V" = some ⟨[], none⟩) rfl rfl rfl at_22 (by decide) (Nat.le_of_ble_eq_true rfl) (by decide) (by decide) (fun T273 h273 v273 S273 K273 q273 => ?_)
      obtain ⟨rfl, Fm273, Fe273, Fs273⟩ := q273
      show own_F p e below s Z _ _ _ _ _ (T273.setTop (mkF m 25 #[.val (.int p0), .val (.int p1), .val (.int p2), .val (.int p3), .val (.int p4), .val (.int (3 : Int32)), .val (.int (0 : Int32)), .unset, .unset, .unset, .unset, .unset, .unset] [(.ref b272)]))
      refine own_F.of (fun _ => XS.astore S273.here S273.hx rfl (S273.dec at_25) rfl rfl (l' := #[.val (.int p0), .val (.int p1), .val (.int p2), .val (.int p3), .val (.int p4), .val (.int (3 : Int32)), .val (.int (0 : Int32)), .val (.ref b272), .unset, .unset, .unset, .unset, .unset]) rfl) ?_
      show own_F p e below s Z _ _ _ _ _ (T273.setTop (mkF m 27 #[.val (.int p0), .val (.int p1), .val (.int p2), .val (.int p3), .val (.int p4), .val (.int (3 : Int32)), .val (.int (0 : Int32)), .val (.ref b272), .unset, .unset, .unset, .unset, .unset] []))
      refine own_F.of (fun _ => XS.iload S273.here S273.hx rfl (S273.dec at_27) rfl) ?_
      show own_F p e below s Z _ _ _ _ _ (T273.setTop (mkF m 29 #[.val (.int p0), .val (.int p1), .val (.int p2), .val (.int p3), .val (.int p4), .val (.int (3 : Int32)), .val (.int (0 : Int32)), .val (.ref b272), .unset, .unset, .unset, .unset, .unset] [(.int (3 : Int32))]))
      refine own_if S273 42 at_29 (by decide) (by decide) (fun (hc29_274 : ¬ ((0 : Int32) < (3 : Int32))) => False.elim (absurd hc29_274 (by decide))) (fun (hc29_274 : (0 : Int32) < (3 : Int32)) => ?_)
      show own_F p e below s Z _ _ _ _ _ (T273.setTop (mkF m 32 #[.val (.int p0), .val (.int p1), .val (.int p2), .val (.int p3), .val (.int p4), .val (.int (3 : Int32)), .val (.int (0 : Int32)), .val (.ref b272), .unset, .unset, .unset, .unset, .unset] []))
      refine own_F.of (fun _ => XS.aload S273.here S273.hx rfl (S273.dec at_32) rfl rfl) ?_
      show own_F p e below s Z _ _ _ _ _ (T273.setTop (mkF m 34 #[.val (.int p0), .val (.int p1), .val (.int p2), .val (.int p3), .val (.int p4), .val (.int (3 : Int32)), .val (.int (0 : Int32)), .val (.ref b272), .unset, .unset, .unset, .unset, .unset] [(.ref b272)]))
      refine own_F.of (fun _ => XS.iloadN S273.here S273.hx rfl (S273.dec at_34) rfl) ?_
      show own_F p e below s Z _ _ _ _ _ (T273.setTop (mkF m 35 #[.val (.int p0), .val (.int p1), .val (.int p2), .val (.int p3), .val (.int p4), .val (.int (3 : Int32)), .val (.int (0 : Int32)), .val (.ref b272), .unset, .unset, .unset, .unset, .unset] [(.int p1), (.ref b272)]))
      refine own_callS S273 (y := (⟨"java/lang/Integer", "valueOf", "(I)Ljava/lang/Integer;"⟩ : MethodName)) (own_w hw 142 rfl) (own_w hw 143 rfl) (own_w hw 144 rfl) (own_w hw 145 rfl) (by decide) (argsL := [(.int p1)]) (rest := [(.ref b272)]) (own_vOfI l Z a0 hw p1 aCI clCI h273 S273.old SHi SCaI BXI) all0 (by decide +kernel : parseMethodDescriptor "(I)Ljava/lang/Integer;" = some ⟨[.int], some (.object "java/lang/Integer")⟩) rfl rfl rfl at_35 (by decide) (Nat.le_of_ble_eq_true rfl) (by decide) (by decide) (fun T275 h275 v275 S275 K275 q275 => ?_)
      obtain ⟨b275, rfl, X275, F275⟩ := q275
      show own_F p e below s Z _ _ _ _ _ (T275.setTop (mkF m 38 #[.val (.int p0), .val (.int p1), .val (.int p2), .val (.int p3), .val (.int p4), .val (.int (3 : Int32)), .val (.int (0 : Int32)), .val (.ref b272), .unset, .unset, .unset, .unset, .unset] [(.ref b275), (.ref b272)]))
      have fq276 := (Fe273.keep K275 nin0)
      have fq277 := (Fs273.keep K275 nin0)
      have fq278 := (Fm273.keep K275 nin0)
      have fq279 := ((A272.keep K273).keep K275)
      refine own_callV S275 (y := (⟨"java/util/ArrayList", "add", "(Ljava/lang/Object;)Z"⟩ : MethodName)) (y' := (⟨"java/util/ArrayList", "add", "(Ljava/lang/Object;)Z"⟩ : MethodName)) (own_w hw 149 rfl) (own_w hw 150 rfl) (own_nf S275 (own_w hw 152 rfl)) (own_w hw 152 rfl) (own_w hw 151 rfl) (own_w hw 153 rfl) (own_w hw 2 rfl) (by decide) fq279 (argsL := [(.ref b275)]) (rest := []) (own_add_0 l Z a0 hw b272 b275 aD (0 : Int32) h275 S275.old SD AD (own_mayN S275 (Or.inr (by rw [g272]; exact S0.size))) fq279 fq276 fq277 fq278 X275) (allS (Or.inr (by rw [g272]; exact S0.size)) all0) (by decide +kernel : parseMethodDescriptor "(Ljava/lang/Object;)Z" = some ⟨[(.object "java/lang/Object")], some .boolean⟩) rfl rfl rfl at_38 (by decide) (Nat.le_of_ble_eq_true rfl) (by decide) (by decide) (fun T280 h280 v280 S280 K280 q280 => ?_)
      obtain ⟨rfl, b280, g280, A280, Fe280, Fs280, Fm280⟩ := q280
      have V281 : own_AO Z h280 b280 [(.ref b275), .null, .null, .null, .null, .null, .null, .null, .null, .null] := A280
      show own_F p e below s Z _ _ _ _ _ (T280.setTop (mkF m 41 #[.val (.int p0), .val (.int p1), .val (.int p2), .val (.int p3), .val (.int p4), .val (.int (3 : Int32)), .val (.int (0 : Int32)), .val (.ref b272), .unset, .unset, .unset, .unset, .unset] [(.int (1 : Int32))]))
      refine own_F.of (fun _ => XS.pop S280.here S280.hx rfl (S280.dec at_41) rfl rfl) ?_
      show own_F p e below s Z _ _ _ _ _ (T280.setTop (mkF m 42 #[.val (.int p0), .val (.int p1), .val (.int p2), .val (.int p3), .val (.int p4), .val (.int (3 : Int32)), .val (.int (0 : Int32)), .val (.ref b272), .unset, .unset, .unset, .unset, .unset] []))
      refine own_F.of (fun _ => XS.iload S280.here S280.hx rfl (S280.dec at_42) rfl) ?_
      show own_F p e below s Z _ _ _ _ _ (T280.setTop (mkF m 44 #[.val (.int p0), .val (.int p1), .val (.int p2), .val (.int p3), .val (.int p4), .val (.int (3 : Int32)), .val (.int (0 : Int32)), .val (.ref b272), .unset, .unset, .unset, .unset, .unset] [(.int (3 : Int32))]))
      refine own_F.of (fun _ => XS.iconst S280.here S280.hx rfl (S280.dec at_44)) ?_
      show own_F p e below s Z _ _ _ _ _ (T280.setTop (mkF m 45 #[.val (.int p0), .val (.int p1), .val (.int p2), .val (.int p3), .val (.int p4), .val (.int (3 : Int32)), .val (.int (0 : Int32)), .val (.ref b272), .unset, .unset, .unset, .unset, .unset] [(.int (1 : Int32)), (.int (3 : Int32))]))
      refine own_icmp S280 58 at_45 (by decide) (by decide) (fun (hc45_282 : ¬ ((1 : Int32) < (3 : Int32))) => False.elim (absurd hc45_282 (by decide))) (fun (hc45_282 : (1 : Int32) < (3 : Int32)) => ?_)
      show own_F p e below s Z _ _ _ _ _ (T280.setTop (mkF m 48 #[.val (.int p0), .val (.int p1), .val (.int p2), .val (.int p3), .val (.int p4), .val (.int (3 : Int32)), .val (.int (0 : Int32)), .val (.ref b272), .unset, .unset, .unset, .unset, .unset] []))
      refine own_F.of (fun _ => XS.aload S280.here S280.hx rfl (S280.dec at_48) rfl rfl) ?_
      show own_F p e below s Z _ _ _ _ _ (T280.setTop (mkF m 50 #[.val (.int p0), .val (.int p1), .val (.int p2), .val (.int p3), .val (.int p4), .val (.int (3 : Int32)), .val (.int (0 : Int32)), .val (.ref b272), .unset, .unset, .unset, .unset, .unset] [(.ref b272)]))
      refine own_F.of (fun _ => XS.iloadN S280.here S280.hx rfl (S280.dec at_50) rfl) ?_
      show own_F p e below s Z _ _ _ _ _ (T280.setTop (mkF m 51 #[.val (.int p0), .val (.int p1), .val (.int p2), .val (.int p3), .val (.int p4), .val (.int (3 : Int32)), .val (.int (0 : Int32)), .val (.ref b272), .unset, .unset, .unset, .unset, .unset] [(.int p2), (.ref b272)]))
      refine own_callS S280 (y := (⟨"java/lang/Integer", "valueOf", "(I)Ljava/lang/Integer;"⟩ : MethodName)) (own_w hw 142 rfl) (own_w hw 143 rfl) (own_w hw 144 rfl) (own_w hw 145 rfl) (by decide) (argsL := [(.int p2)]) (rest := [(.ref b272)]) (own_vOfI l Z a0 hw p2 aCI clCI h280 S280.old SHi SCaI BXI) all0 (by decide +kernel : parseMethodDescriptor "(I)Ljava/lang/Integer;" = some ⟨[.int], some (.object "java/lang/Integer")⟩) rfl rfl rfl at_51 (by decide) (Nat.le_of_ble_eq_true rfl) (by decide) (by decide) (fun T283 h283 v283 S283 K283 q283 => ?_)
      obtain ⟨b283, rfl, X283, F283⟩ := q283
      show own_F p e below s Z _ _ _ _ _ (T283.setTop (mkF m 54 #[.val (.int p0), .val (.int p1), .val (.int p2), .val (.int p3), .val (.int p4), .val (.int (3 : Int32)), .val (.int (0 : Int32)), .val (.ref b272), .unset, .unset, .unset, .unset, .unset] [(.ref b283), (.ref b272)]))
      have fq284 := (Fe280.keep K283 nin0)
      have fq285 := (Fs280.keep K283 nin0)
      have fq286 := (Fm280.keep K283 nin0)
      have fq287 := ((fq279.keep K280).keep K283)
      have fq288 := (V281.keep K283 nin0)
      have fq289 := ((X275.keep K280).keep K283)
      refine own_callV S283 (y := (⟨"java/util/ArrayList", "add", "(Ljava/lang/Object;)Z"⟩ : MethodName)) (y' := (⟨"java/util/ArrayList", "add", "(Ljava/lang/Object;)Z"⟩ : MethodName)) (own_w hw 149 rfl) (own_w hw 150 rfl) (own_nf S283 (own_w hw 152 rfl)) (own_w hw 152 rfl) (own_w hw 151 rfl) (own_w hw 153 rfl) (own_w hw 2 rfl) (by decide) fq287 (argsL := [(.ref b283)]) (rest := []) (own_add_1 l Z a0 hw b272 b280 b275 b283 ((0 : Int32) + (1 : Int32)) h283 S283.old (own_mayN S283 (Or.inr (by rw [g272]; exact S0.size))) fq287 (own_mayN S283 (Or.inr (Nat.le_trans S275.size g280))) fq288 fq284 fq285 fq286 fq289 X283) (allS (Or.inr (by rw [g272]; exact S0.size)) (allS (Or.inr (Nat.le_trans S275.size g280)) all0)) (by decide +kernel : parseMethodDescriptor "(Ljava/lang/Object;)Z" = some ⟨[(.object "java/lang/Object")], some .boolean⟩) rfl rfl rfl at_54 (by decide) (Nat.le_of_ble_eq_true rfl) (by decide) (by decide) (fun T290 h290 v290 S290 K290 q290 => ?_)
      obtain ⟨rfl, A290, Fe290, Fs290, Fm290⟩ := q290
      have V291 : own_AO Z h290 b280 [(.ref b275), (.ref b283), .null, .null, .null, .null, .null, .null, .null, .null] := A290
      show own_F p e below s Z _ _ _ _ _ (T290.setTop (mkF m 57 #[.val (.int p0), .val (.int p1), .val (.int p2), .val (.int p3), .val (.int p4), .val (.int (3 : Int32)), .val (.int (0 : Int32)), .val (.ref b272), .unset, .unset, .unset, .unset, .unset] [(.int (1 : Int32))]))
      refine own_F.of (fun _ => XS.pop S290.here S290.hx rfl (S290.dec at_57) rfl rfl) ?_
      show own_F p e below s Z _ _ _ _ _ (T290.setTop (mkF m 58 #[.val (.int p0), .val (.int p1), .val (.int p2), .val (.int p3), .val (.int p4), .val (.int (3 : Int32)), .val (.int (0 : Int32)), .val (.ref b272), .unset, .unset, .unset, .unset, .unset] []))
      refine own_F.of (fun _ => XS.iload S290.here S290.hx rfl (S290.dec at_58) rfl) ?_
      show own_F p e below s Z _ _ _ _ _ (T290.setTop (mkF m 60 #[.val (.int p0), .val (.int p1), .val (.int p2), .val (.int p3), .val (.int p4), .val (.int (3 : Int32)), .val (.int (0 : Int32)), .val (.ref b272), .unset, .unset, .unset, .unset, .unset] [(.int (3 : Int32))]))
      refine own_F.of (fun _ => XS.iconst S290.here S290.hx rfl (S290.dec at_60)) ?_
      show own_F p e below s Z _ _ _ _ _ (T290.setTop (mkF m 61 #[.val (.int p0), .val (.int p1), .val (.int p2), .val (.int p3), .val (.int p4), .val (.int (3 : Int32)), .val (.int (0 : Int32)), .val (.ref b272), .unset, .unset, .unset, .unset, .unset] [(.int (2 : Int32)), (.int (3 : Int32))]))
      refine own_icmp S290 74 at_61 (by decide) (by decide) (fun (hc61_292 : ¬ ((2 : Int32) < (3 : Int32))) => False.elim (absurd hc61_292 (by decide))) (fun (hc61_292 : (2 : Int32) < (3 : Int32)) => ?_)
      show own_F p e below s Z _ _ _ _ _ (T290.setTop (mkF m 64 #[.val (.int p0), .val (.int p1), .val (.int p2), .val (.int p3), .val (.int p4), .val (.int (3 : Int32)), .val (.int (0 : Int32)), .val (.ref b272), .unset, .unset, .unset, .unset, .unset] []))
      refine own_F.of (fun _ => XS.aload S290.here S290.hx rfl (S290.dec at_64) rfl rfl) ?_
      show own_F p e below s Z _ _ _ _ _ (T290.setTop (mkF m 66 #[.val (.int p0), .val (.int p1), .val (.int p2), .val (.int p3), .val (.int p4), .val (.int (3 : Int32)), .val (.int (0 : Int32)), .val (.ref b272), .unset, .unset, .unset, .unset, .unset] [(.ref b272)]))
      refine own_F.of (fun _ => XS.iloadN S290.here S290.hx rfl (S290.dec at_66) rfl) ?_
      show own_F p e below s Z _ _ _ _ _ (T290.setTop (mkF m 67 #[.val (.int p0), .val (.int p1), .val (.int p2), .val (.int p3), .val (.int p4), .val (.int (3 : Int32)), .val (.int (0 : Int32)), .val (.ref b272), .unset, .unset, .unset, .unset, .unset] [(.int p3), (.ref b272)]))
      refine own_callS S290 (y := (⟨"java/lang/Integer", "valueOf", "(I)Ljava/lang/Integer;"⟩ : MethodName)) (own_w hw 142 rfl) (own_w hw 143 rfl) (own_w hw 144 rfl) (own_w hw 145 rfl) (by decide) (argsL := [(.int p3)]) (rest := [(.ref b272)]) (own_vOfI l Z a0 hw p3 aCI clCI h290 S290.old SHi SCaI BXI) all0 (by decide +kernel : parseMethodDescriptor "(I)Ljava/lang/Integer;" = some ⟨[.int], some (.object "java/lang/Integer")⟩) rfl rfl rfl at_67 (by decide) (Nat.le_of_ble_eq_true rfl) (by decide) (by decide) (fun T293 h293 v293 S293 K293 q293 => ?_)
      obtain ⟨b293, rfl, X293, F293⟩ := q293
      show own_F p e below s Z _ _ _ _ _ (T293.setTop (mkF m 70 #[.val (.int p0), .val (.int p1), .val (.int p2), .val (.int p3), .val (.int p4), .val (.int (3 : Int32)), .val (.int (0 : Int32)), .val (.ref b272), .unset, .unset, .unset, .unset, .unset] [(.ref b293), (.ref b272)]))
      have fq294 := (Fe290.keep K293 nin0)
      have fq295 := (Fs290.keep K293 nin0)
      have fq296 := (Fm290.keep K293 nin0)
      have fq297 := ((fq287.keep K290).keep K293)
      have fq298 := (V291.keep K293 nin0)
      have fq299 := ((fq289.keep K290).keep K293)
      have fq300 := ((X283.keep K290).keep K293)
      refine own_callV S293 (y := (⟨"java/util/ArrayList", "add", "(Ljava/lang/Object;)Z"⟩ : MethodName)) (y' := (⟨"java/util/ArrayList", "add", "(Ljava/lang/Object;)Z"⟩ : MethodName)) (own_w hw 149 rfl) (own_w hw 150 rfl) (own_nf S293 (own_w hw 152 rfl)) (own_w hw 152 rfl) (own_w hw 151 rfl) (own_w hw 153 rfl) (own_w hw 2 rfl) (by decide) fq297 (argsL := [(.ref b293)]) (rest := []) (own_add_2 l Z a0 hw b272 b280 b275 b283 b293 (((0 : Int32) + (1 : Int32)) + (1 : Int32)) h293 S293.old (own_mayN S293 (Or.inr (by rw [g272]; exact S0.size))) fq297 (own_mayN S293 (Or.inr (Nat.le_trans S275.size g280))) fq298 fq294 fq295 fq296 fq299 fq300 X293) (allS (Or.inr (by rw [g272]; exact S0.size)) (allS (Or.inr (Nat.le_trans S275.size g280)) all0)) (by decide +kernel : parseMethodDescriptor "(Ljava/lang/Object;)Z" = some ⟨[(.object "java/lang/Object")], some .boolean⟩) rfl rfl rfl at_70 (by decide) (Nat.le_of_ble_eq_true rfl) (by decide) (by decide) (fun T301 h301 v301 S301 K301 q301 => ?_)
      obtain ⟨rfl, A301, Fe301, Fs301, Fm301⟩ := q301
      have V302 : own_AO Z h301 b280 [(.ref b275), (.ref b283), (.ref b293), .null, .null, .null, .null, .null, .null, .null] := A301
      show own_F p e below s Z _ _ _ _ _ (T301.setTop (mkF m 73 #[.val (.int p0), .val (.int p1), .val (.int p2), .val (.int p3), .val (.int p4), .val (.int (3 : Int32)), .val (.int (0 : Int32)), .val (.ref b272), .unset, .unset, .unset, .unset, .unset] [(.int (1 : Int32))]))
      refine own_F.of (fun _ => XS.pop S301.here S301.hx rfl (S301.dec at_73) rfl rfl) ?_
      show own_F p e below s Z _ _ _ _ _ (T301.setTop (mkF m 74 #[.val (.int p0), .val (.int p1), .val (.int p2), .val (.int p3), .val (.int p4), .val (.int (3 : Int32)), .val (.int (0 : Int32)), .val (.ref b272), .unset, .unset, .unset, .unset, .unset] []))
      refine own_F.of (fun _ => XS.iload S301.here S301.hx rfl (S301.dec at_74) rfl) ?_
      show own_F p e below s Z _ _ _ _ _ (T301.setTop (mkF m 76 #[.val (.int p0), .val (.int p1), .val (.int p2), .val (.int p3), .val (.int p4), .val (.int (3 : Int32)), .val (.int (0 : Int32)), .val (.ref b272), .unset, .unset, .unset, .unset, .unset] [(.int (0 : Int32))]))
      refine own_if S301 87 at_76 (by decide) (by decide) (fun (hc76_303 : (0 : Int32) = (0 : Int32)) => ?_) (fun (hc76_303 : ¬ ((0 : Int32) = (0 : Int32))) => False.elim (absurd hc76_303 (by decide)))
      show own_F p e below s Z _ _ _ _ _ (T301.setTop (mkF m 87 #[.val (.int p0), .val (.int p1), .val (.int p2), .val (.int p3), .val (.int p4), .val (.int (3 : Int32)), .val (.int (0 : Int32)), .val (.ref b272), .unset, .unset, .unset, .unset, .unset] []))
      refine own_F.of (fun _ => XS.aconstNull S301.here S301.hx rfl (S301.dec at_87)) ?_
      show own_F p e below s Z _ _ _ _ _ (T301.setTop (mkF m 88 #[.val (.int p0), .val (.int p1), .val (.int p2), .val (.int p3), .val (.int p4), .val (.int (3 : Int32)), .val (.int (0 : Int32)), .val (.ref b272), .unset, .unset, .unset, .unset, .unset] [.null]))
      refine own_F.of (fun _ => XS.astore S301.here S301.hx rfl (S301.dec at_88) rfl rfl (l' := #[.val (.int p0), .val (.int p1), .val (.int p2), .val (.int p3), .val (.int p4), .val (.int (3 : Int32)), .val (.int (0 : Int32)), .val (.ref b272), .val .null, .unset, .unset, .unset, .unset]) rfl) ?_
      show own_F p e below s Z _ _ _ _ _ (T301.setTop (mkF m 90 #[.val (.int p0), .val (.int p1), .val (.int p2), .val (.int p3), .val (.int p4), .val (.int (3 : Int32)), .val (.int (0 : Int32)), .val (.ref b272), .val .null, .unset, .unset, .unset, .unset] []))
      refine own_new S301 (own_w hw 26 rfl) (own_w hw 27 rfl) (own_w hw 28 rfl) at_90 (by decide) (by decide) (fun T304 h304 b304 g304 S304 E304 A304 D304 => ?_)
      have F304_items : Fld Z h304 b304 "com/example/tidemark/tidemark/Page" "items" "Ljava/util/List;" .null := (D304 (Or.inr (own_w hw 68 rfl)) (ty := (.object "java/util/List")) (by decide))
      have F304_nextKey : Fld Z h304 b304 "com/example/tidemark/tidemark/Page" "nextKey" "Ljava/lang/Object;" .null := (D304 (Or.inr (own_w hw 70 rfl)) (ty := (.object "java/lang/Object")) (by decide))
      show own_F p e below s Z _ _ _ _ _ (T304.setTop (mkF m 93 #[.val (.int p0), .val (.int p1), .val (.int p2), .val (.int p3), .val (.int p4), .val (.int (3 : Int32)), .val (.int (0 : Int32)), .val (.ref b272), .val .null, .unset, .unset, .unset, .unset] [(.ref b304)]))
      refine own_F.of (fun _ => XS.dup S304.here S304.hx rfl (S304.dec at_93) rfl rfl) ?_
      show own_F p e below s Z _ _ _ _ _ (T304.setTop (mkF m 94 #[.val (.int p0), .val (.int p1), .val (.int p2), .val (.int p3), .val (.int p4), .val (.int (3 : Int32)), .val (.int (0 : Int32)), .val (.ref b272), .val .null, .unset, .unset, .unset, .unset] [(.ref b304), (.ref b304)]))
      refine own_F.of (fun _ => XS.aload S304.here S304.hx rfl (S304.dec at_94) rfl rfl) ?_
      show own_F p e below s Z _ _ _ _ _ (T304.setTop (mkF m 96 #[.val (.int p0), .val (.int p1), .val (.int p2), .val (.int p3), .val (.int p4), .val (.int (3 : Int32)), .val (.int (0 : Int32)), .val (.ref b272), .val .null, .unset, .unset, .unset, .unset] [(.ref b272), (.ref b304), (.ref b304)]))
      refine own_F.of (fun _ => XS.aload S304.here S304.hx rfl (S304.dec at_96) rfl rfl) ?_
      show own_F p e below s Z _ _ _ _ _ (T304.setTop (mkF m 98 #[.val (.int p0), .val (.int p1), .val (.int p2), .val (.int p3), .val (.int p4), .val (.int (3 : Int32)), .val (.int (0 : Int32)), .val (.ref b272), .val .null, .unset, .unset, .unset, .unset] [.null, (.ref b272), (.ref b304), (.ref b304)]))
      have fq305 := ((fq297.keep K301).ext E304)
      have fq306 := (Fs301.ext E304)
      have fq307 := (Fe301.ext E304)
      have fq308 := (V302.ext E304)
      have fq309 := ((fq299.keep K301).ext E304)
      have fq310 := ((fq300.keep K301).ext E304)
      have fq311 := ((X293.keep K301).ext E304)
      refine own_callI S304 (y := (⟨"com/example/tidemark/tidemark/Page", "<init>", "(Ljava/util/List;Ljava/lang/Object;)V"⟩ : MethodName)) rfl (own_w hw 29 rfl) (own_w hw 30 rfl) (own_w hw 28 rfl) (own_w hw 31 rfl) (by decide) (argsL := [(.ref b272), .null]) (rest := [(.ref b304)]) (own_Page3 l Z a0 hw b304 b272 .null b280 b275 b283 b293 aM mO h304 S304.old rfl SM MO (own_mayN S304 (Or.inr (by rw [g304]; exact S301.size))) A304 F304_items F304_nextKey fq305 fq306 fq307 fq308 fq309 fq310 fq311) (allS (Or.inr (by rw [g304]; exact S301.size)) all0) (by decide +kernel : parseMethodDescriptor "(Ljava/util/List;Ljava/lang/Object;)V" = some ⟨[(.object "java/util/List"), (.object "java/lang/Object")], none⟩) rfl rfl rfl at_98 (by decide) (Nat.le_of_ble_eq_true rfl) (by decide) (by decide) (fun T312 h312 v312 S312 K312 q312 => ?_)
      obtain ⟨rfl, b312, Fi312, Fk312, ar312, X312, P312, R312, U312⟩ := q312
      show own_F p e below s Z _ _ _ _ _ (T312.setTop (mkF m 101 #[.val (.int p0), .val (.int p1), .val (.int p2), .val (.int p3), .val (.int p4), .val (.int (3 : Int32)), .val (.int (0 : Int32)), .val (.ref b272), .val .null, .unset, .unset, .unset, .unset] [(.ref b304)]))
      refine own_F.of (fun _ => XS.astore S312.here S312.hx rfl (S312.dec at_101) rfl rfl (l' := #[.val (.int p0), .val (.int p1), .val (.int p2), .val (.int p3), .val (.int p4), .val (.int (3 : Int32)), .val (.int (0 : Int32)), .val (.ref b272), .val .null, .val (.ref b304), .unset, .unset, .unset]) rfl) ?_
      show own_F p e below s Z _ _ _ _ _ (T312.setTop (mkF m 103 #[.val (.int p0), .val (.int p1), .val (.int p2), .val (.int p3), .val (.int p4), .val (.int (3 : Int32)), .val (.int (0 : Int32)), .val (.ref b272), .val .null, .val (.ref b304), .unset, .unset, .unset] []))
      refine own_F.of (fun _ => XS.aload S312.here S312.hx rfl (S312.dec at_103) rfl rfl) ?_
      show own_F p e below s Z _ _ _ _ _ (T312.setTop (mkF m 105 #[.val (.int p0), .val (.int p1), .val (.int p2), .val (.int p3), .val (.int p4), .val (.int (3 : Int32)), .val (.int (0 : Int32)), .val (.ref b272), .val .null, .val (.ref b304), .unset, .unset, .unset] [(.ref b304)]))
      have fq313 := (A304.keep K312)
      refine own_callS S312 (y := (⟨"com/example/tidemark/tidemark/PagedList", "first", "(Lcom/example/tidemark/tidemark/Page;)Lcom/example/tidemark/tidemark/PagedList;"⟩ : MethodName)) (own_w hw 71 rfl) (own_w hw 72 rfl) (own_w hw 73 rfl) (own_w hw 74 rfl) (by decide) (argsL := [(.ref b304)]) (rest := []) (own_firstN l Z a0 hw b304 b312 a_END a_IDLE a_FAILED h312 S312.old S_END S_IDLE S_FAILED fq313 Fi312 Fk312) all0 (by decide +kernel : parseMethodDescriptor "(Lcom/example/tidemark/tidemark/Page;)Lcom/example/tidemark/tidemark/PagedList;" = some ⟨[(.object "com/example/tidemark/tidemark/Page")], some (.object "com/example/tidemark/tidemark/PagedList")⟩) rfl rfl rfl at_105 (by decide) (Nat.le_of_ble_eq_true rfl) (by decide) (by decide) (fun T314 h314 v314 S314 K314 q314 => ?_)
      obtain ⟨b314, rfl, X314, Fi314, Ff314, Fk314⟩ := q314
      show own_F p e below s Z _ _ _ _ _ (T314.setTop (mkF m 108 #[.val (.int p0), .val (.int p1), .val (.int p2), .val (.int p3), .val (.int p4), .val (.int (3 : Int32)), .val (.int (0 : Int32)), .val (.ref b272), .val .null, .val (.ref b304), .unset, .unset, .unset] [(.ref b314)]))
      refine own_F.of (fun _ => XS.astore S314.here S314.hx rfl (S314.dec at_108) rfl rfl (l' := #[.val (.int p0), .val (.int p1), .val (.int p2), .val (.int p3), .val (.int p4), .val (.int (3 : Int32)), .val (.int (0 : Int32)), .val (.ref b272), .val .null, .val (.ref b304), .val (.ref b314), .unset, .unset]) rfl) ?_
      show own_F p e below s Z _ _ _ _ _ (T314.setTop (mkF m 110 #[.val (.int p0), .val (.int p1), .val (.int p2), .val (.int p3), .val (.int p4), .val (.int (3 : Int32)), .val (.int (0 : Int32)), .val (.ref b272), .val .null, .val (.ref b304), .val (.ref b314), .unset, .unset] []))
      refine own_F.of (fun _ => XS.aload S314.here S314.hx rfl (S314.dec at_110) rfl rfl) ?_
      show own_F p e below s Z _ _ _ _ _ (T314.setTop (mkF m 112 #[.val (.int p0), .val (.int p1), .val (.int p2), .val (.int p3), .val (.int p4), .val (.int (3 : Int32)), .val (.int (0 : Int32)), .val (.ref b272), .val .null, .val (.ref b304), .val (.ref b314), .unset, .unset] [(.ref b314)]))
      refine own_callV S314 (y := (⟨"com/example/tidemark/tidemark/PagedList", "items", "()Ljava/util/List;"⟩ : MethodName)) (y' := (⟨"com/example/tidemark/tidemark/PagedList", "items", "()Ljava/util/List;"⟩ : MethodName)) (own_w hw 105 rfl) (own_w hw 106 rfl) (own_nf S314 (own_w hw 108 rfl)) (own_w hw 108 rfl) (own_w hw 107 rfl) (own_w hw 109 rfl) (own_w hw 73 rfl) (by decide) X314 (argsL := []) (rest := []) (own_plI l Z a0 hw b314 (.ref b312) h314 S314.old rfl Fi314) all0 (by decide +kernel : parseMethodDescriptor "()Ljava/util/List;" = some ⟨[], some (.object "java/util/List")⟩) rfl rfl rfl at_112 (by decide) (Nat.le_of_ble_eq_true rfl) (by decide) (by decide) (fun T315 h315 v315 S315 K315 q315 => ?_)
      obtain ⟨rfl, rfl⟩ := q315
      show own_F p e below s Z _ _ _ _ _ (T315.setTop (mkF m 115 #[.val (.int p0), .val (.int p1), .val (.int p2), .val (.int p3), .val (.int p4), .val (.int (3 : Int32)), .val (.int (0 : Int32)), .val (.ref b272), .val .null, .val (.ref b304), .val (.ref b314), .unset, .unset] [(.ref b312)]))
      refine own_F.of (fun _ => XS.astore S315.here S315.hx rfl (S315.dec at_115) rfl rfl (l' := #[.val (.int p0), .val (.int p1), .val (.int p2), .val (.int p3), .val (.int p4), .val (.int (3 : Int32)), .val (.int (0 : Int32)), .val (.ref b272), .val .null, .val (.ref b304), .val (.ref b314), .val (.ref b312), .unset]) rfl) ?_
      show own_F p e below s Z _ _ _ _ _ (T315.setTop (mkF m 117 #[.val (.int p0), .val (.int p1), .val (.int p2), .val (.int p3), .val (.int p4), .val (.int (3 : Int32)), .val (.int (0 : Int32)), .val (.ref b272), .val .null, .val (.ref b304), .val (.ref b314), .val (.ref b312), .unset] []))
      refine own_F.of (fun _ => XS.aload S315.here S315.hx rfl (S315.dec at_117) rfl rfl) ?_
      show own_F p e below s Z _ _ _ _ _ (T315.setTop (mkF m 119 #[.val (.int p0), .val (.int p1), .val (.int p2), .val (.int p3), .val (.int p4), .val (.int (3 : Int32)), .val (.int (0 : Int32)), .val (.ref b272), .val .null, .val (.ref b304), .val (.ref b314), .val (.ref b312), .unset] [(.ref b312)]))
      have fq316 := (P312.keep K314 nin0)
      have fq317 := (R312.keep K314 nin0)
      have fq319 := (X312.keep K314)
      refine own_callX S315 (y := (⟨"java/util/List", "size", "()I"⟩ : MethodName)) (y' := (⟨"java/util/ImmutableCollections$ListN", "size", "()I"⟩ : MethodName)) (own_w hw 110 rfl) (own_w hw 111 rfl) (own_w hw 112 rfl) (own_w hw 113 rfl) (own_w hw 114 rfl) (own_w hw 115 rfl) (own_w hw 116 rfl) (own_w hw 117 rfl) (own_w hw 119 rfl) (own_w hw 118 rfl) (by decide) fq319 (argsL := []) (rest := []) (own_szN3 l Z a0 hw b312 ar312 b275 b283 b293 h314 S315.old fq316 fq317.A) all0 (by decide +kernel : parseMethodDescriptor "()I" = some ⟨[], some .int⟩) rfl rfl rfl at_119 (by decide) (Nat.le_of_ble_eq_true rfl) (by decide) (by decide) (fun T318 h318 v318 S318 K318 q318 => ?_)
      obtain ⟨rfl, rfl⟩ := q318
      show own_F p e below s Z _ _ _ _ _ (T318.setTop (mkF m 124 #[.val (.int p0), .val (.int p1), .val (.int p2), .val (.int p3), .val (.int p4), .val (.int (3 : Int32)), .val (.int (0 : Int32)), .val (.ref b272), .val .null, .val (.ref b304), .val (.ref b314), .val (.ref b312), .unset] [(.int (3 : Int32))]))
      refine own_F.of (fun _ => XS.iload S318.here S318.hx rfl (S318.dec at_124) rfl) ?_
      show own_F p e below s Z _ _ _ _ _ (T318.setTop (mkF m 126 #[.val (.int p0), .val (.int p1), .val (.int p2), .val (.int p3), .val (.int p4), .val (.int (3 : Int32)), .val (.int (0 : Int32)), .val (.ref b272), .val .null, .val (.ref b304), .val (.ref b314), .val (.ref b312), .unset] [(.int (3 : Int32)), (.int (3 : Int32))]))
      refine own_icmp S318 131 at_126 (by decide) (by decide) (fun (hc126_320 : (3 : Int32) = (3 : Int32)) => ?_) (fun (hc126_320 : ¬ ((3 : Int32) = (3 : Int32))) => False.elim (absurd hc126_320 (by decide)))
      show own_F p e below s Z _ _ _ _ _ (T318.setTop (mkF m 131 #[.val (.int p0), .val (.int p1), .val (.int p2), .val (.int p3), .val (.int p4), .val (.int (3 : Int32)), .val (.int (0 : Int32)), .val (.ref b272), .val .null, .val (.ref b304), .val (.ref b314), .val (.ref b312), .unset] []))
      refine own_F.of (fun _ => XS.iload S318.here S318.hx rfl (S318.dec at_131) rfl) ?_
      show own_F p e below s Z _ _ _ _ _ (T318.setTop (mkF m 133 #[.val (.int p0), .val (.int p1), .val (.int p2), .val (.int p3), .val (.int p4), .val (.int (3 : Int32)), .val (.int (0 : Int32)), .val (.ref b272), .val .null, .val (.ref b304), .val (.ref b314), .val (.ref b312), .unset] [(.int (3 : Int32))]))
      refine own_if S318 156 at_133 (by decide) (by decide) (fun (hc133_321 : ¬ ((0 : Int32) < (3 : Int32))) => False.elim (absurd hc133_321 (by decide))) (fun (hc133_321 : (0 : Int32) < (3 : Int32)) => ?_)
      show own_F p e below s Z _ _ _ _ _ (T318.setTop (mkF m 136 #[.val (.int p0), .val (.int p1), .val (.int p2), .val (.int p3), .val (.int p4), .val (.int (3 : Int32)), .val (.int (0 : Int32)), .val (.ref b272), .val .null, .val (.ref b304), .val (.ref b314), .val (.ref b312), .unset] []))
      refine own_F.of (fun _ => XS.aload S318.here S318.hx rfl (S318.dec at_136) rfl rfl) ?_
      show own_F p e below s Z _ _ _ _ _ (T318.setTop (mkF m 138 #[.val (.int p0), .val (.int p1), .val (.int p2), .val (.int p3), .val (.int p4), .val (.int (3 : Int32)), .val (.int (0 : Int32)), .val (.ref b272), .val .null, .val (.ref b304), .val (.ref b314), .val (.ref b312), .unset] [(.ref b312)]))
      refine own_F.of (fun _ => XS.iconst S318.here S318.hx rfl (S318.dec at_138)) ?_
      show own_F p e below s Z _ _ _ _ _ (T318.setTop (mkF m 139 #[.val (.int p0), .val (.int p1), .val (.int p2), .val (.int p3), .val (.int p4), .val (.int (3 : Int32)), .val (.int (0 : Int32)), .val (.ref b272), .val .null, .val (.ref b304), .val (.ref b314), .val (.ref b312), .unset] [(.int (0 : Int32)), (.ref b312)]))
      refine own_callX S318 (y := (⟨"java/util/List", "get", "(I)Ljava/lang/Object;"⟩ : MethodName)) (y' := (⟨"java/util/ImmutableCollections$ListN", "get", "(I)Ljava/lang/Object;"⟩ : MethodName)) (own_w hw 240 rfl) (own_w hw 241 rfl) (own_w hw 242 rfl) (own_w hw 243 rfl) (own_w hw 244 rfl) (own_w hw 245 rfl) (own_w hw 246 rfl) (own_w hw 117 rfl) (own_w hw 247 rfl) (own_w hw 118 rfl) (by decide) fq319 (argsL := [(.int (0 : Int32))]) (rest := []) (own_gtN_0 l Z a0 hw b312 ar312 b275 b283 b293 h314 S318.old fq316 fq317) all0 (by decide +kernel : parseMethodDescriptor "(I)Ljava/lang/Object;" = some ⟨[.int], some (.object "java/lang/Object")⟩) rfl rfl rfl at_139 (by decide) (Nat.le_of_ble_eq_true rfl) (by decide) (by decide) (fun T322 h322 v322 S322 K322 q322 => ?_)
      obtain ⟨rfl, rfl⟩ := q322
      show own_F p e below s Z _ _ _ _ _ (T322.setTop (mkF m 144 #[.val (.int p0), .val (.int p1), .val (.int p2), .val (.int p3), .val (.int p4), .val (.int (3 : Int32)), .val (.int (0 : Int32)), .val (.ref b272), .val .null, .val (.ref b304), .val (.ref b314), .val (.ref b312), .unset] [(.ref b275)]))
      have fq324 := ((fq309.keep K312).keep K314)
      refine own_cast S322 (own_w hw 248 rfl) (Ins.self fq324) at_144 (fun T323 S323 => ?_)
      show own_F p e below s Z _ _ _ _ _ (T323.setTop (mkF m 147 #[.val (.int p0), .val (.int p1), .val (.int p2), .val (.int p3), .val (.int p4), .val (.int (3 : Int32)), .val (.int (0 : Int32)), .val (.ref b272), .val .null, .val (.ref b304), .val (.ref b314), .val (.ref b312), .unset] [(.ref b275)]))
      have fq325 := ((((((((F275.keep K280 (ninS (ne_exa fq324 ((fq305.keep K312).keep K314) (by decide)) nin0)).keep K283 nin0).keep K290 (ninS (ne_exa fq324 ((fq305.keep K312).keep K314) (by decide)) (ninS (ne_exa fq324 (((V302.exa.ext E304).keep K312).keep K314) (by decide)) nin0))).keep K293 nin0).keep K301 (ninS (ne_exa fq324 ((fq305.keep K312).keep K314) (by decide)) (ninS (ne_exa fq324 (((V302.exa.ext E304).keep K312).keep K314) (by decide)) nin0))).ext E304).keep K312 (ninS (ne_exa fq324 (fq313.keep K314) (by decide)) nin0)).keep K314 nin0)
      refine own_callV S323 (y := (⟨"java/lang/Integer", "intValue", "()I"⟩ : MethodName)) (y' := (⟨"java/lang/Integer", "intValue", "()I"⟩ : MethodName)) (own_w hw 250 rfl) (own_w hw 251 rfl) (own_nf S323 (own_w hw 253 rfl)) (own_w hw 253 rfl) (own_w hw 252 rfl) (own_w hw 254 rfl) (own_w hw 144 rfl) (by decide) fq324 (argsL := []) (rest := []) (own_intV l Z a0 hw b275 p1 h314 S323.old fq325) all0 (by decide +kernel : parseMethodDescriptor "()I" = some ⟨[], some .int⟩) rfl rfl rfl at_147 (by decide) (Nat.le_of_ble_eq_true rfl) (by decide) (by decide) (fun T326 h326 v326 S326 K326 q326 => ?_)
      obtain ⟨rfl, rfl⟩ := q326
      show own_F p e below s Z _ _ _ _ _ (T326.setTop (mkF m 150 #[.val (.int p0), .val (.int p1), .val (.int p2), .val (.int p3), .val (.int p4), .val (.int (3 : Int32)), .val (.int (0 : Int32)), .val (.ref b272), .val .null, .val (.ref b304), .val (.ref b314), .val (.ref b312), .unset] [(.int p1)]))
      refine own_F.of (fun _ => XS.iloadN S326.here S326.hx rfl (S326.dec at_150) rfl) ?_
      show own_F p e below s Z _ _ _ _ _ (T326.setTop (mkF m 151 #[.val (.int p0), .val (.int p1), .val (.int p2), .val (.int p3), .val (.int p4), .val (.int (3 : Int32)), .val (.int (0 : Int32)), .val (.ref b272), .val .null, .val (.ref b304), .val (.ref b314), .val (.ref b312), .unset] [(.int p1), (.int p1)]))
      refine own_icmp S326 156 at_151 (by decide) (by decide) (fun (hc151_327 : p1 = p1) => ?_) (fun (hc151_327 : ¬ (p1 = p1)) => False.elim (hc151_327 rfl))
      show own_F p e below s Z _ _ _ _ _ (T326.setTop (mkF m 156 #[.val (.int p0), .val (.int p1), .val (.int p2), .val (.int p3), .val (.int p4), .val (.int (3 : Int32)), .val (.int (0 : Int32)), .val (.ref b272), .val .null, .val (.ref b304), .val (.ref b314), .val (.ref b312), .unset] []))
      refine own_F.of (fun _ => XS.iload S326.here S326.hx rfl (S326.dec at_156) rfl) ?_
      show own_F p e below s Z _ _ _ _ _ (T326.setTop (mkF m 158 #[.val (.int p0), .val (.int p1), .val (.int p2), .val (.int p3), .val (.int p4), .val (.int (3 : Int32)), .val (.int (0 : Int32)), .val (.ref b272), .val .null, .val (.ref b304), .val (.ref b314), .val (.ref b312), .unset] [(.int (3 : Int32))]))
      refine own_F.of (fun _ => XS.iconst S326.here S326.hx rfl (S326.dec at_158)) ?_
      show own_F p e below s Z _ _ _ _ _ (T326.setTop (mkF m 159 #[.val (.int p0), .val (.int p1), .val (.int p2), .val (.int p3), .val (.int p4), .val (.int (3 : Int32)), .val (.int (0 : Int32)), .val (.ref b272), .val .null, .val (.ref b304), .val (.ref b314), .val (.ref b312), .unset] [(.int (1 : Int32)), (.int (3 : Int32))]))
      refine own_icmp S326 182 at_159 (by decide) (by decide) (fun (hc159_328 : ¬ ((1 : Int32) < (3 : Int32))) => False.elim (absurd hc159_328 (by decide))) (fun (hc159_328 : (1 : Int32) < (3 : Int32)) => ?_)
      show own_F p e below s Z _ _ _ _ _ (T326.setTop (mkF m 162 #[.val (.int p0), .val (.int p1), .val (.int p2), .val (.int p3), .val (.int p4), .val (.int (3 : Int32)), .val (.int (0 : Int32)), .val (.ref b272), .val .null, .val (.ref b304), .val (.ref b314), .val (.ref b312), .unset] []))
      refine own_F.of (fun _ => XS.aload S326.here S326.hx rfl (S326.dec at_162) rfl rfl) ?_
      show own_F p e below s Z _ _ _ _ _ (T326.setTop (mkF m 164 #[.val (.int p0), .val (.int p1), .val (.int p2), .val (.int p3), .val (.int p4), .val (.int (3 : Int32)), .val (.int (0 : Int32)), .val (.ref b272), .val .null, .val (.ref b304), .val (.ref b314), .val (.ref b312), .unset] [(.ref b312)]))
      refine own_F.of (fun _ => XS.iconst S326.here S326.hx rfl (S326.dec at_164)) ?_
      show own_F p e below s Z _ _ _ _ _ (T326.setTop (mkF m 165 #[.val (.int p0), .val (.int p1), .val (.int p2), .val (.int p3), .val (.int p4), .val (.int (3 : Int32)), .val (.int (0 : Int32)), .val (.ref b272), .val .null, .val (.ref b304), .val (.ref b314), .val (.ref b312), .unset] [(.int (1 : Int32)), (.ref b312)]))
      refine own_callX S326 (y := (⟨"java/util/List", "get", "(I)Ljava/lang/Object;"⟩ : MethodName)) (y' := (⟨"java/util/ImmutableCollections$ListN", "get", "(I)Ljava/lang/Object;"⟩ : MethodName)) (own_w hw 240 rfl) (own_w hw 241 rfl) (own_w hw 242 rfl) (own_w hw 243 rfl) (own_w hw 244 rfl) (own_w hw 245 rfl) (own_w hw 246 rfl) (own_w hw 117 rfl) (own_w hw 247 rfl) (own_w hw 118 rfl) (by decide) fq319 (argsL := [(.int (1 : Int32))]) (rest := []) (own_gtN_1 l Z a0 hw b312 ar312 b275 b283 b293 h314 S326.old fq316 fq317) all0 (by decide +kernel : parseMethodDescriptor "(I)Ljava/lang/Object;" = some ⟨[.int], some (.object "java/lang/Object")⟩) rfl rfl rfl at_165 (by decide) (Nat.le_of_ble_eq_true rfl) (by decide) (by decide) (fun T329 h329 v329 S329 K329 q329 => ?_)
      obtain ⟨rfl, rfl⟩ := q329
      show own_F p e below s Z _ _ _ _ _ (T329.setTop (mkF m 170 #[.val (.int p0), .val (.int p1), .val (.int p2), .val (.int p3), .val (.int p4), .val (.int (3 : Int32)), .val (.int (0 : Int32)), .val (.ref b272), .val .null, .val (.ref b304), .val (.ref b314), .val (.ref b312), .unset] [(.ref b283)]))
      have fq331 := ((fq310.keep K312).keep K314)
      refine own_cast S329 (own_w hw 248 rfl) (Ins.self fq331) at_170 (fun T330 S330 => ?_)
      show own_F p e below s Z _ _ _ _ _ (T330.setTop (mkF m 173 #[.val (.int p0), .val (.int p1), .val (.int p2), .val (.int p3), .val (.int p4), .val (.int (3 : Int32)), .val (.int (0 : Int32)), .val (.ref b272), .val .null, .val (.ref b304), .val (.ref b314), .val (.ref b312), .unset] [(.ref b283)]))
      have fq332 := ((((((F283.keep K290 (ninS (ne_exa fq331 ((fq305.keep K312).keep K314) (by decide)) (ninS (ne_exa fq331 (((V302.exa.ext E304).keep K312).keep K314) (by decide)) nin0))).keep K293 nin0).keep K301 (ninS (ne_exa fq331 ((fq305.keep K312).keep K314) (by decide)) (ninS (ne_exa fq331 (((V302.exa.ext E304).keep K312).keep K314) (by decide)) nin0))).ext E304).keep K312 (ninS (ne_exa fq331 (fq313.keep K314) (by decide)) nin0)).keep K314 nin0)
      refine own_callV S330 (y := (⟨"java/lang/Integer", "intValue", "()I"⟩ : MethodName)) (y' := (⟨"java/lang/Integer", "intValue", "()I"⟩ : MethodName)) (own_w hw 250 rfl) (own_w hw 251 rfl) (own_nf S330 (own_w hw 253 rfl)) (own_w hw 253 rfl) (own_w hw 252 rfl) (own_w hw 254 rfl) (own_w hw 144 rfl) (by decide) fq331 (argsL := []) (rest := []) (own_intV l Z a0 hw b283 p2 h314 S330.old fq332) all0 (by decide +kernel : parseMethodDescriptor "()I" = some ⟨[], some .int⟩) rfl rfl rfl at_173 (by decide) (Nat.le_of_ble_eq_true rfl) (by decide) (by decide) (fun T333 h333 v333 S333 K333 q333 => ?_)
      obtain ⟨rfl, rfl⟩ := q333
      show own_F p e below s Z _ _ _ _ _ (T333.setTop (mkF m 176 #[.val (.int p0), .val (.int p1), .val (.int p2), .val (.int p3), .val (.int p4), .val (.int (3 : Int32)), .val (.int (0 : Int32)), .val (.ref b272), .val .null, .val (.ref b304), .val (.ref b314), .val (.ref b312), .unset] [(.int p2)]))
      refine own_F.of (fun _ => XS.iloadN S333.here S333.hx rfl (S333.dec at_176) rfl) ?_
      show own_F p e below s Z _ _ _ _ _ (T333.setTop (mkF m 177 #[.val (.int p0), .val (.int p1), .val (.int p2), .val (.int p3), .val (.int p4), .val (.int (3 : Int32)), .val (.int (0 : Int32)), .val (.ref b272), .val .null, .val (.ref b304), .val (.ref b314), .val (.ref b312), .unset] [(.int p2), (.int p2)]))
      refine own_icmp S333 182 at_177 (by decide) (by decide) (fun (hc177_334 : p2 = p2) => ?_) (fun (hc177_334 : ¬ (p2 = p2)) => False.elim (hc177_334 rfl))
      show own_F p e below s Z _ _ _ _ _ (T333.setTop (mkF m 182 #[.val (.int p0), .val (.int p1), .val (.int p2), .val (.int p3), .val (.int p4), .val (.int (3 : Int32)), .val (.int (0 : Int32)), .val (.ref b272), .val .null, .val (.ref b304), .val (.ref b314), .val (.ref b312), .unset] []))
      refine own_F.of (fun _ => XS.iload S333.here S333.hx rfl (S333.dec at_182) rfl) ?_
      show own_F p e below s Z _ _ _ _ _ (T333.setTop (mkF m 184 #[.val (.int p0), .val (.int p1), .val (.int p2), .val (.int p3), .val (.int p4), .val (.int (3 : Int32)), .val (.int (0 : Int32)), .val (.ref b272), .val .null, .val (.ref b304), .val (.ref b314), .val (.ref b312), .unset] [(.int (3 : Int32))]))
      refine own_F.of (fun _ => XS.iconst S333.here S333.hx rfl (S333.dec at_184)) ?_
      show own_F p e below s Z _ _ _ _ _ (T333.setTop (mkF m 185 #[.val (.int p0), .val (.int p1), .val (.int p2), .val (.int p3), .val (.int p4), .val (.int (3 : Int32)), .val (.int (0 : Int32)), .val (.ref b272), .val .null, .val (.ref b304), .val (.ref b314), .val (.ref b312), .unset] [(.int (2 : Int32)), (.int (3 : Int32))]))
      refine own_icmp S333 208 at_185 (by decide) (by decide) (fun (hc185_335 : ¬ ((2 : Int32) < (3 : Int32))) => False.elim (absurd hc185_335 (by decide))) (fun (hc185_335 : (2 : Int32) < (3 : Int32)) => ?_)
      show own_F p e below s Z _ _ _ _ _ (T333.setTop (mkF m 188 #[.val (.int p0), .val (.int p1), .val (.int p2), .val (.int p3), .val (.int p4), .val (.int (3 : Int32)), .val (.int (0 : Int32)), .val (.ref b272), .val .null, .val (.ref b304), .val (.ref b314), .val (.ref b312), .unset] []))
      refine own_F.of (fun _ => XS.aload S333.here S333.hx rfl (S333.dec at_188) rfl rfl) ?_
      show own_F p e below s Z _ _ _ _ _ (T333.setTop (mkF m 190 #[.val (.int p0), .val (.int p1), .val (.int p2), .val (.int p3), .val (.int p4), .val (.int (3 : Int32)), .val (.int (0 : Int32)), .val (.ref b272), .val .null, .val (.ref b304), .val (.ref b314), .val (.ref b312), .unset] [(.ref b312)]))
      refine own_F.of (fun _ => XS.iconst S333.here S333.hx rfl (S333.dec at_190)) ?_
      show own_F p e below s Z _ _ _ _ _ (T333.setTop (mkF m 191 #[.val (.int p0), .val (.int p1), .val (.int p2), .val (.int p3), .val (.int p4), .val (.int (3 : Int32)), .val (.int (0 : Int32)), .val (.ref b272), .val .null, .val (.ref b304), .val (.ref b314), .val (.ref b312), .unset] [(.int (2 : Int32)), (.ref b312)]))
      refine own_callX S333 (y := (⟨"java/util/List", "get", "(I)Ljava/lang/Object;"⟩ : MethodName)) (y' := (⟨"java/util/ImmutableCollections$ListN", "get", "(I)Ljava/lang/Object;"⟩ : MethodName)) (own_w hw 240 rfl) (own_w hw 241 rfl) (own_w hw 242 rfl) (own_w hw 243 rfl) (own_w hw 244 rfl) (own_w hw 245 rfl) (own_w hw 246 rfl) (own_w hw 117 rfl) (own_w hw 247 rfl) (own_w hw 118 rfl) (by decide) fq319 (argsL := [(.int (2 : Int32))]) (rest := []) (own_gtN_2 l Z a0 hw b312 ar312 b275 b283 b293 h314 S333.old fq316 fq317) all0 (by decide +kernel : parseMethodDescriptor "(I)Ljava/lang/Object;" = some ⟨[.int], some (.object "java/lang/Object")⟩) rfl rfl rfl at_191 (by decide) (Nat.le_of_ble_eq_true rfl) (by decide) (by decide) (fun T336 h336 v336 S336 K336 q336 => ?_)
      obtain ⟨rfl, rfl⟩ := q336
      show own_F p e below s Z _ _ _ _ _ (T336.setTop (mkF m 196 #[.val (.int p0), .val (.int p1), .val (.int p2), .val (.int p3), .val (.int p4), .val (.int (3 : Int32)), .val (.int (0 : Int32)), .val (.ref b272), .val .null, .val (.ref b304), .val (.ref b314), .val (.ref b312), .unset] [(.ref b293)]))
      have fq338 := ((fq311.keep K312).keep K314)
      refine own_cast S336 (own_w hw 248 rfl) (Ins.self fq338) at_196 (fun T337 S337 => ?_)
      show own_F p e below s Z _ _ _ _ _ (T337.setTop (mkF m 199 #[.val (.int p0), .val (.int p1), .val (.int p2), .val (.int p3), .val (.int p4), .val (.int (3 : Int32)), .val (.int (0 : Int32)), .val (.ref b272), .val .null, .val (.ref b304), .val (.ref b314), .val (.ref b312), .unset] [(.ref b293)]))
      have fq339 := ((((F293.keep K301 (ninS (ne_exa fq338 ((fq305.keep K312).keep K314) (by decide)) (ninS (ne_exa fq338 (((V302.exa.ext E304).keep K312).keep K314) (by decide)) nin0))).ext E304).keep K312 (ninS (ne_exa fq338 (fq313.keep K314) (by decide)) nin0)).keep K314 nin0)
      refine own_callV S337 (y := (⟨"java/lang/Integer", "intValue", "()I"⟩ : MethodName)) (y' := (⟨"java/lang/Integer", "intValue", "()I"⟩ : MethodName)) (own_w hw 250 rfl) (own_w hw 251 rfl) (own_nf S337 (own_w hw 253 rfl)) (own_w hw 253 rfl) (own_w hw 252 rfl) (own_w hw 254 rfl) (own_w hw 144 rfl) (by decide) fq338 (argsL := []) (rest := []) (own_intV l Z a0 hw b293 p3 h314 S337.old fq339) all0 (by decide +kernel : parseMethodDescriptor "()I" = some ⟨[], some .int⟩) rfl rfl rfl at_199 (by decide) (Nat.le_of_ble_eq_true rfl) (by decide) (by decide) (fun T340 h340 v340 S340 K340 q340 => ?_)
      obtain ⟨rfl, rfl⟩ := q340
      show own_F p e below s Z _ _ _ _ _ (T340.setTop (mkF m 202 #[.val (.int p0), .val (.int p1), .val (.int p2), .val (.int p3), .val (.int p4), .val (.int (3 : Int32)), .val (.int (0 : Int32)), .val (.ref b272), .val .null, .val (.ref b304), .val (.ref b314), .val (.ref b312), .unset] [(.int p3)]))
      refine own_F.of (fun _ => XS.iloadN S340.here S340.hx rfl (S340.dec at_202) rfl) ?_
      show own_F p e below s Z _ _ _ _ _ (T340.setTop (mkF m 203 #[.val (.int p0), .val (.int p1), .val (.int p2), .val (.int p3), .val (.int p4), .val (.int (3 : Int32)), .val (.int (0 : Int32)), .val (.ref b272), .val .null, .val (.ref b304), .val (.ref b314), .val (.ref b312), .unset] [(.int p3), (.int p3)]))
      refine own_icmp S340 208 at_203 (by decide) (by decide) (fun (hc203_341 : p3 = p3) => ?_) (fun (hc203_341 : ¬ (p3 = p3)) => False.elim (hc203_341 rfl))
      show own_F p e below s Z _ _ _ _ _ (T340.setTop (mkF m 208 #[.val (.int p0), .val (.int p1), .val (.int p2), .val (.int p3), .val (.int p4), .val (.int (3 : Int32)), .val (.int (0 : Int32)), .val (.ref b272), .val .null, .val (.ref b304), .val (.ref b314), .val (.ref b312), .unset] []))
      refine own_F.of (fun _ => XS.iload S340.here S340.hx rfl (S340.dec at_208) rfl) ?_
      show own_F p e below s Z _ _ _ _ _ (T340.setTop (mkF m 210 #[.val (.int p0), .val (.int p1), .val (.int p2), .val (.int p3), .val (.int p4), .val (.int (3 : Int32)), .val (.int (0 : Int32)), .val (.ref b272), .val .null, .val (.ref b304), .val (.ref b314), .val (.ref b312), .unset] [(.int (0 : Int32))]))
      refine own_if S340 219 at_210 (by decide) (by decide) (fun (hc210_342 : (0 : Int32) = (0 : Int32)) => ?_) (fun (hc210_342 : ¬ ((0 : Int32) = (0 : Int32))) => False.elim (absurd hc210_342 (by decide)))
      show own_F p e below s Z _ _ _ _ _ (T340.setTop (mkF m 219 #[.val (.int p0), .val (.int p1), .val (.int p2), .val (.int p3), .val (.int p4), .val (.int (3 : Int32)), .val (.int (0 : Int32)), .val (.ref b272), .val .null, .val (.ref b304), .val (.ref b314), .val (.ref b312), .unset] []))
      refine own_getS S340 (host := "") (Or.inl (own_w hw 122 rfl)) Via.refl (S_END.ext S340.old) at_219 (fun T343 S343 => ?_)
      show own_F p e below s Z _ _ _ _ _ (T343.setTop (mkF m 222 #[.val (.int p0), .val (.int p1), .val (.int p2), .val (.int p3), .val (.int p4), .val (.int (3 : Int32)), .val (.int (0 : Int32)), .val (.ref b272), .val .null, .val (.ref b304), .val (.ref b314), .val (.ref b312), .unset] [(.ref a_END)]))
      refine own_F.of (fun _ => XS.astore S343.here S343.hx rfl (S343.dec at_222) rfl rfl (l' := #[.val (.int p0), .val (.int p1), .val (.int p2), .val (.int p3), .val (.int p4), .val (.int (3 : Int32)), .val (.int (0 : Int32)), .val (.ref b272), .val .null, .val (.ref b304), .val (.ref b314), .val (.ref b312), .val (.ref a_END)]) rfl) ?_
      show own_F p e below s Z _ _ _ _ _ (T343.setTop (mkF m 224 #[.val (.int p0), .val (.int p1), .val (.int p2), .val (.int p3), .val (.int p4), .val (.int (3 : Int32)), .val (.int (0 : Int32)), .val (.ref b272), .val .null, .val (.ref b304), .val (.ref b314), .val (.ref b312), .val (.ref a_END)] []))
      refine own_F.of (fun _ => XS.aload S343.here S343.hx rfl (S343.dec at_224) rfl rfl) ?_
      show own_F p e below s Z _ _ _ _ _ (T343.setTop (mkF m 226 #[.val (.int p0), .val (.int p1), .val (.int p2), .val (.int p3), .val (.int p4), .val (.int (3 : Int32)), .val (.int (0 : Int32)), .val (.ref b272), .val .null, .val (.ref b304), .val (.ref b314), .val (.ref b312), .val (.ref a_END)] [(.ref b314)]))
      refine own_callV S343 (y := (⟨"com/example/tidemark/tidemark/PagedList", "footer", "()Lcom/example/tidemark/tidemark/PagedList$Footer;"⟩ : MethodName)) (y' := (⟨"com/example/tidemark/tidemark/PagedList", "footer", "()Lcom/example/tidemark/tidemark/PagedList$Footer;"⟩ : MethodName)) (own_w hw 123 rfl) (own_w hw 124 rfl) (own_nf S343 (own_w hw 126 rfl)) (own_w hw 126 rfl) (own_w hw 125 rfl) (own_w hw 127 rfl) (own_w hw 73 rfl) (by decide) X314 (argsL := []) (rest := []) (own_plF l Z a0 hw b314 (.ref a_END) h314 S343.old rfl Ff314) all0 (by decide +kernel : parseMethodDescriptor "()Lcom/example/tidemark/tidemark/PagedList$Footer;" = some ⟨[], some (.object "com/example/tidemark/tidemark/PagedList$Footer")⟩) rfl rfl rfl at_226 (by decide) (Nat.le_of_ble_eq_true rfl) (by decide) (by decide) (fun T344 h344 v344 S344 K344 q344 => ?_)
      obtain ⟨rfl, rfl⟩ := q344
      show own_F p e below s Z _ _ _ _ _ (T344.setTop (mkF m 229 #[.val (.int p0), .val (.int p1), .val (.int p2), .val (.int p3), .val (.int p4), .val (.int (3 : Int32)), .val (.int (0 : Int32)), .val (.ref b272), .val .null, .val (.ref b304), .val (.ref b314), .val (.ref b312), .val (.ref a_END)] [(.ref a_END)]))
      refine own_F.of (fun _ => XS.aload S344.here S344.hx rfl (S344.dec at_229) rfl rfl) ?_
      show own_F p e below s Z _ _ _ _ _ (T344.setTop (mkF m 231 #[.val (.int p0), .val (.int p1), .val (.int p2), .val (.int p3), .val (.int p4), .val (.int (3 : Int32)), .val (.int (0 : Int32)), .val (.ref b272), .val .null, .val (.ref b304), .val (.ref b314), .val (.ref b312), .val (.ref a_END)] [(.ref a_END), (.ref a_END)]))
      refine own_acmp S344 rfl rfl 236 at_231 (by decide) (by decide) (fun (hc231_345 : (Value.ref a_END) = (Value.ref a_END)) => ?_) (fun (hc231_345 : ¬ ((Value.ref a_END) = (Value.ref a_END))) => False.elim (hc231_345 rfl))
      show own_F p e below s Z _ _ _ _ _ (T344.setTop (mkF m 236 #[.val (.int p0), .val (.int p1), .val (.int p2), .val (.int p3), .val (.int p4), .val (.int (3 : Int32)), .val (.int (0 : Int32)), .val (.ref b272), .val .null, .val (.ref b304), .val (.ref b314), .val (.ref b312), .val (.ref a_END)] []))
      refine own_F.of (fun _ => XS.aload S344.here S344.hx rfl (S344.dec at_236) rfl rfl) ?_
      show own_F p e below s Z _ _ _ _ _ (T344.setTop (mkF m 238 #[.val (.int p0), .val (.int p1), .val (.int p2), .val (.int p3), .val (.int p4), .val (.int (3 : Int32)), .val (.int (0 : Int32)), .val (.ref b272), .val .null, .val (.ref b304), .val (.ref b314), .val (.ref b312), .val (.ref a_END)] [(.ref b314)]))
      refine own_callV S344 (y := (⟨"com/example/tidemark/tidemark/PagedList", "canLoadMore", "()Z"⟩ : MethodName)) (y' := (⟨"com/example/tidemark/tidemark/PagedList", "canLoadMore", "()Z"⟩ : MethodName)) (own_w hw 128 rfl) (own_w hw 129 rfl) (own_nf S344 (own_w hw 131 rfl)) (own_w hw 131 rfl) (own_w hw 130 rfl) (own_w hw 132 rfl) (own_w hw 73 rfl) (by decide) X314 (argsL := []) (rest := []) (own_canN l Z a0 hw b314 a_END a_IDLE a_FAILED h314 S344.old S_END S_IDLE S_FAILED (F_END_ordinal.ne F_IDLE_ordinal (by decide)) (F_END_ordinal.ne F_FAILED_ordinal (by decide)) Ff314) all0 (by decide +kernel : parseMethodDescriptor "()Z" = some ⟨[], some .boolean⟩) rfl rfl rfl at_238 (by decide) (Nat.le_of_ble_eq_true rfl) (by decide) (by decide) (fun T346 h346 v346 S346 K346 q346 => ?_)
      obtain ⟨rfl, rfl⟩ := q346
      show own_F p e below s Z _ _ _ _ _ (T346.setTop (mkF m 241 #[.val (.int p0), .val (.int p1), .val (.int p2), .val (.int p3), .val (.int p4), .val (.int (3 : Int32)), .val (.int (0 : Int32)), .val (.ref b272), .val .null, .val (.ref b304), .val (.ref b314), .val (.ref b312), .val (.ref a_END)] [(.int (0 : Int32))]))
      refine own_F.of (fun _ => XS.iload S346.here S346.hx rfl (S346.dec at_241) rfl) ?_
      show own_F p e below s Z _ _ _ _ _ (T346.setTop (mkF m 243 #[.val (.int p0), .val (.int p1), .val (.int p2), .val (.int p3), .val (.int p4), .val (.int (3 : Int32)), .val (.int (0 : Int32)), .val (.ref b272), .val .null, .val (.ref b304), .val (.ref b314), .val (.ref b312), .val (.ref a_END)] [(.int (0 : Int32)), (.int (0 : Int32))]))
      refine own_icmp S346 248 at_243 (by decide) (by decide) (fun (hc243_347 : (0 : Int32) = (0 : Int32)) => ?_) (fun (hc243_347 : ¬ ((0 : Int32) = (0 : Int32))) => False.elim (absurd hc243_347 (by decide)))
      show own_F p e below s Z _ _ _ _ _ (T346.setTop (mkF m 248 #[.val (.int p0), .val (.int p1), .val (.int p2), .val (.int p3), .val (.int p4), .val (.int (3 : Int32)), .val (.int (0 : Int32)), .val (.ref b272), .val .null, .val (.ref b304), .val (.ref b314), .val (.ref b312), .val (.ref a_END)] []))
      refine own_F.of (fun _ => XS.aload S346.here S346.hx rfl (S346.dec at_248) rfl rfl) ?_
      show own_F p e below s Z _ _ _ _ _ (T346.setTop (mkF m 250 #[.val (.int p0), .val (.int p1), .val (.int p2), .val (.int p3), .val (.int p4), .val (.int (3 : Int32)), .val (.int (0 : Int32)), .val (.ref b272), .val .null, .val (.ref b304), .val (.ref b314), .val (.ref b312), .val (.ref a_END)] [(.ref b314)]))
      refine own_callV S346 (y := (⟨"com/example/tidemark/tidemark/PagedList", "nextKey", "()Ljava/lang/Object;"⟩ : MethodName)) (y' := (⟨"com/example/tidemark/tidemark/PagedList", "nextKey", "()Ljava/lang/Object;"⟩ : MethodName)) (own_w hw 137 rfl) (own_w hw 138 rfl) (own_nf S346 (own_w hw 140 rfl)) (own_w hw 140 rfl) (own_w hw 139 rfl) (own_w hw 141 rfl) (own_w hw 73 rfl) (by decide) X314 (argsL := []) (rest := []) (own_plK l Z a0 hw b314 .null h314 S346.old rfl Fk314) all0 (by decide +kernel : parseMethodDescriptor "()Ljava/lang/Object;" = some ⟨[], some (.object "java/lang/Object")⟩) rfl rfl rfl at_250 (by decide) (Nat.le_of_ble_eq_true rfl) (by decide) (by decide) (fun T348 h348 v348 S348 K348 q348 => ?_)
      obtain ⟨rfl, rfl⟩ := q348
      show own_F p e below s Z _ _ _ _ _ (T348.setTop (mkF m 253 #[.val (.int p0), .val (.int p1), .val (.int p2), .val (.int p3), .val (.int p4), .val (.int (3 : Int32)), .val (.int (0 : Int32)), .val (.ref b272), .val .null, .val (.ref b304), .val (.ref b314), .val (.ref b312), .val (.ref a_END)] [.null]))
      refine own_F.of (fun _ => XS.aload S348.here S348.hx rfl (S348.dec at_253) rfl rfl) ?_
      show own_F p e below s Z _ _ _ _ _ (T348.setTop (mkF m 255 #[.val (.int p0), .val (.int p1), .val (.int p2), .val (.int p3), .val (.int p4), .val (.int (3 : Int32)), .val (.int (0 : Int32)), .val (.ref b272), .val .null, .val (.ref b304), .val (.ref b314), .val (.ref b312), .val (.ref a_END)] [.null, .null]))
      refine own_acmp S348 rfl rfl 262 at_255 (by decide) (by decide) (fun (hc255_349 : ¬ (Value.null = Value.null)) => False.elim (hc255_349 rfl)) (fun (hc255_349 : Value.null = Value.null) => ?_)
      show own_F p e below s Z _ _ _ _ _ (T348.setTop (mkF m 258 #[.val (.int p0), .val (.int p1), .val (.int p2), .val (.int p3), .val (.int p4), .val (.int (3 : Int32)), .val (.int (0 : Int32)), .val (.ref b272), .val .null, .val (.ref b304), .val (.ref b314), .val (.ref b312), .val (.ref a_END)] []))
      refine own_F.of (fun _ => XS.iconst S348.here S348.hx rfl (S348.dec at_258)) ?_
      show own_F p e below s Z _ _ _ _ _ (T348.setTop (mkF m 259 #[.val (.int p0), .val (.int p1), .val (.int p2), .val (.int p3), .val (.int p4), .val (.int (3 : Int32)), .val (.int (0 : Int32)), .val (.ref b272), .val .null, .val (.ref b304), .val (.ref b314), .val (.ref b312), .val (.ref a_END)] [(.int (1 : Int32))]))
      refine own_F.of (fun _ => XS.goto S348.here S348.hx rfl (pc0 := 259) (pc' := 263) rfl (S348.dec at_259) (by decide) (by decide)) ?_
      show own_F p e below s Z _ _ _ _ _ (T348.setTop (mkF m 263 #[.val (.int p0), .val (.int p1), .val (.int p2), .val (.int p3), .val (.int p4), .val (.int (3 : Int32)), .val (.int (0 : Int32)), .val (.ref b272), .val .null, .val (.ref b304), .val (.ref b314), .val (.ref b312), .val (.ref a_END)] [(.int (1 : Int32))]))
      refine own_retZ S348 (by simp) at_263 (by decide) (by decide) ?_
      rfl
    · show own_F p e below s Z _ _ _ _ _ (T0.setTop (mkF m 11 #[.val (.int p0), .val (.int p1), .val (.int p2), .val (.int p3), .val (.int p4), .val (.int (3 : Int32)), .unset, .unset, .unset, .unset, .unset, .unset, .unset] []))
      refine own_F.of (fun _ => XS.iconst S0.here S0.hx rfl (S0.dec at_11)) ?_
      show own_F p e below s Z _ _ _ _ _ (T0.setTop (mkF m 12 #[.val (.int p0), .val (.int p1), .val (.int p2), .val (.int p3), .val (.int p4), .val (.int (3 : Int32)), .unset, .unset, .unset, .unset, .unset, .unset, .unset] [(.int (1 : Int32))]))
      refine own_F.of (fun _ => XS.goto S0.here S0.hx rfl (pc0 := 12) (pc' := 16) rfl (S0.dec at_12) (by decide) (by decide)) ?_
      show own_F p e below s Z _ _ _ _ _ (T0.setTop (mkF m 16 #[.val (.int p0), .val (.int p1), .val (.int p2), .val (.int p3), .val (.int p4), .val (.int (3 : Int32)), .unset, .unset, .unset, .unset, .unset, .unset, .unset] [(.int (1 : Int32))]))
      refine own_F.of (fun _ => XS.istore S0.here S0.hx rfl (S0.dec at_16) rfl (l' := #[.val (.int p0), .val (.int p1), .val (.int p2), .val (.int p3), .val (.int p4), .val (.int (3 : Int32)), .val (.int (1 : Int32)), .unset, .unset, .unset, .unset, .unset, .unset]) rfl) ?_
      show own_F p e below s Z _ _ _ _ _ (T0.setTop (mkF m 18 #[.val (.int p0), .val (.int p1), .val (.int p2), .val (.int p3), .val (.int p4), .val (.int (3 : Int32)), .val (.int (1 : Int32)), .unset, .unset, .unset, .unset, .unset, .unset] []))
      refine own_new S0 (own_w hw 0 rfl) (own_w hw 1 rfl) (own_w hw 2 rfl) at_18 (by decide) (by decide) (fun T350 h350 b350 g350 S350 E350 A350 D350 => ?_)
      have F350_modCount : Fld Z h350 b350 "java/util/AbstractList" "modCount" "I" (.int (0 : Int32)) := (D350 (Or.inl (own_w hw 22 rfl)) (ty := .int) (by decide))
      have F350_elementData : Fld Z h350 b350 "java/util/ArrayList" "elementData" "[Ljava/lang/Object;" .null := (D350 (Or.inl (own_w hw 25 rfl)) (ty := (.array (.object "java/lang/Object"))) (by decide))
      have F350_size : Fld Z h350 b350 "java/util/ArrayList" "size" "I" (.int (0 : Int32)) := (D350 (Or.inl (own_w hw 62 rfl)) (ty := .int) (by decide))
      show own_F p e below s Z _ _ _ _ _ (T350.setTop (mkF m 21 #[.val (.int p0), .val (.int p1), .val (.int p2), .val (.int p3), .val (.int p4), .val (.int (3 : Int32)), .val (.int (1 : Int32)), .unset, .unset, .unset, .unset, .unset, .unset] [(.ref b350)]))
      refine own_F.of (fun _ => XS.dup S350.here S350.hx rfl (S350.dec at_21) rfl rfl) ?_
      show own_F p e below s Z _ _ _ _ _ (T350.setTop (mkF m 22 #[.val (.int p0), .val (.int p1), .val (.int p2), .val (.int p3), .val (.int p4), .val (.int (3 : Int32)), .val (.int (1 : Int32)), .unset, .unset, .unset, .unset, .unset, .unset] [(.ref b350), (.ref b350)]))
      refine own_callI S350 (y := (⟨"java/util/ArrayList", "<init>", "()V"⟩ : MethodName)) rfl (own_w hw 3 rfl) (own_w hw 4 rfl) (own_w hw 2 rfl) (own_w hw 5 rfl) (by decide) (argsL := []) (rest := [(.ref b350)]) (own_ALI l Z a0 hw b350 aD h350 S350.old SD AD (own_mayN S350 (Or.inr (by rw [g350]; exact S0.size))) A350 F350_modCount F350_elementData F350_size) (allS (Or.inr (by rw [g350]; exact S0.size)) all0) (by decide +kernel : parseMethodDescriptor "()V" = some ⟨[], none⟩) rfl rfl rfl at_22 (by decide) (Nat.le_of_ble_eq_true rfl) (by decide) (by decide) (fun T351 h351 v351 S351 K351 q351 => ?_)
      obtain ⟨rfl, Fm351, Fe351, Fs351⟩ := q351
      show own_F p e below s Z _ _ _ _ _ (T351.setTop (mkF m 25 #[.val (.int p0), .val (.int p1), .val (.int p2), .val (.int p3), .val (.int p4), .val (.int (3 : Int32)), .val (.int (1 : Int32)), .unset, .unset, .unset, .unset, .unset, .unset] [(.ref b350)]))
      refine own_F.of (fun _ => XS.astore S351.here S351.hx rfl (S351.dec at_25) rfl rfl (l' := #[.val (.int p0), .val (.int p1), .val (.int p2), .val (.int p3), .val (.int p4), .val (.int (3 : Int32)), .val (.int (1 : Int32)), .val (.ref b350), .unset, .unset, .unset, .unset, .unset]) rfl) ?_
      show own_F p e below s Z _ _ _ _ _ (T351.setTop (mkF m 27 #[.val (.int p0), .val (.int p1), .val (.int p2), .val (.int p3), .val (.int p4), .val (.int (3 : Int32)), .val (.int (1 : Int32)), .val (.ref b350), .unset, .unset, .unset, .unset, .unset] []))
      refine own_F.of (fun _ => XS.iload S351.here S351.hx rfl (S351.dec at_27) rfl) ?_
      show own_F p e below s Z _ _ _ _ _ (T351.setTop (mkF m 29 #[.val (.int p0), .val (.int p1), .val (.int p2), .val (.int p3), .val (.int p4), .val (.int (3 : Int32)), .val (.int (1 : Int32)), .val (.ref b350), .unset, .unset, .unset, .unset, .unset] [(.int (3 : Int32))]))
      refine own_if S351 42 at_29 (by decide) (by decide) (fun (hc29_352 : ¬ ((0 : Int32) < (3 : Int32))) => False.elim (absurd hc29_352 (by decide))) (fun (hc29_352 : (0 : Int32) < (3 : Int32)) => ?_)
      show own_F p e below s Z _ _ _ _ _ (T351.setTop (mkF m 32 #[.val (.int p0), .val (.int p1), .val (.int p2), .val (.int p3), .val (.int p4), .val (.int (3 : Int32)), .val (.int (1 : Int32)), .val (.ref b350), .unset, .unset, .unset, .unset, .unset] []))
      refine own_F.of (fun _ => XS.aload S351.here S351.hx rfl (S351.dec at_32) rfl rfl) ?_
      show own_F p e below s Z _ _ _ _ _ (T351.setTop (mkF m 34 #[.val (.int p0), .val (.int p1), .val (.int p2), .val (.int p3), .val (.int p4), .val (.int (3 : Int32)), .val (.int (1 : Int32)), .val (.ref b350), .unset, .unset, .unset, .unset, .unset] [(.ref b350)]))
      refine own_F.of (fun _ => XS.iloadN S351.here S351.hx rfl (S351.dec at_34) rfl) ?_
      show own_F p e below s Z _ _ _ _ _ (T351.setTop (mkF m 35 #[.val (.int p0), .val (.int p1), .val (.int p2), .val (.int p3), .val (.int p4), .val (.int (3 : Int32)), .val (.int (1 : Int32)), .val (.ref b350), .unset, .unset, .unset, .unset, .unset] [(.int p1), (.ref b350)]))
      refine own_callS S351 (y := (⟨"java/lang/Integer", "valueOf", "(I)Ljava/lang/Integer;"⟩ : MethodName)) (own_w hw 142 rfl) (own_w hw 143 rfl) (own_w hw 144 rfl) (own_w hw 145 rfl) (by decide) (argsL := [(.int p1)]) (rest := [(.ref b350)]) (own_vOfI l Z a0 hw p1 aCI clCI h351 S351.old SHi SCaI BXI) all0 (by decide +kernel : parseMethodDescriptor "(I)Ljava/lang/Integer;" = some ⟨[.int], some (.object "java/lang/Integer")⟩) rfl rfl rfl at_35 (by decide) (Nat.le_of_ble_eq_true rfl) (by decide) (by decide) (fun T353 h353 v353 S353 K353 q353 => ?_)
      obtain ⟨b353, rfl, X353, F353⟩ := q353
      show own_F p e below s Z _ _ _ _ _ (T353.setTop (mkF m 38 #[.val (.int p0), .val (.int p1), .val (.int p2), .val (.int p3), .val (.int p4), .val (.int (3 : Int32)), .val (.int (1 : Int32)), .val (.ref b350), .unset, .unset, .unset, .unset, .unset] [(.ref b353), (.ref b350)]))
      have fq354 := (Fe351.keep K353 nin0)
      have fq355 := (Fs351.keep K353 nin0)
      have fq356 := (Fm351.keep K353 nin0)
      have fq357 := ((A350.keep K351).keep K353)
      refine own_callV S353 (y := (⟨"java/util/ArrayList", "add", "(Ljava/lang/Object;)Z"⟩ : MethodName)) (y' := (⟨"java/util/ArrayList", "add", "(Ljava/lang/Object;)Z"⟩ : MethodName)) (own_w hw 149 rfl) (own_w hw 150 rfl) (own_nf S353 (own_w hw 152 rfl)) (own_w hw 152 rfl) (own_w hw 151 rfl) (own_w hw 153 rfl) (own_w hw 2 rfl) (by decide) fq357 (argsL := [(.ref b353)]) (rest := []) (own_add_0 l Z a0 hw b350 b353 aD (0 : Int32) h353 S353.old SD AD (own_mayN S353 (Or.inr (by rw [g350]; exact S0.size))) fq357 fq354 fq355 fq356 X353) (allS (Or.inr (by rw [g350]; exact S0.size)) all0) (by decide +kernel : parseMethodDescriptor "(Ljava/lang/Object;)Z" = some ⟨[(.object "java/lang/Object")], some .boolean⟩) rfl rfl rfl at_38 (by decide) (Nat.le_of_ble_eq_true rfl) (by decide) (by decide) (fun T358 h358 v358 S358 K358 q358 => ?_)
      obtain ⟨rfl, b358, g358, A358, Fe358, Fs358, Fm358⟩ := q358
      have V359 : own_AO Z h358 b358 [(.ref b353), .null, .null, .null, .null, .null, .null, .null, .null, .null] := A358
      show own_F p e below s Z _ _ _ _ _ (T358.setTop (mkF m 41 #[.val (.int p0), .val (.int p1), .val (.int p2), .val (.int p3), .val (.int p4), .val (.int (3 : Int32)), .val (.int (1 : Int32)), .val (.ref b350), .unset, .unset, .unset, .unset, .unset] [(.int (1 : Int32))]))
      refine own_F.of (fun _ => XS.pop S358.here S358.hx rfl (S358.dec at_41) rfl rfl) ?_
      show own_F p e below s Z _ _ _ _ _ (T358.setTop (mkF m 42 #[.val (.int p0), .val (.int p1), .val (.int p2), .val (.int p3), .val (.int p4), .val (.int (3 : Int32)), .val (.int (1 : Int32)), .val (.ref b350), .unset, .unset, .unset, .unset, .unset] []))
      refine own_F.of (fun _ => XS.iload S358.here S358.hx rfl (S358.dec at_42) rfl) ?_
      show own_F p e below s Z _ _ _ _ _ (T358.setTop (mkF m 44 #[.val (.int p0), .val (.int p1), .val (.int p2), .val (.int p3), .val (.int p4), .val (.int (3 : Int32)), .val (.int (1 : Int32)), .val (.ref b350), .unset, .unset, .unset, .unset, .unset] [(.int (3 : Int32))]))
      refine own_F.of (fun _ => XS.iconst S358.here S358.hx rfl (S358.dec at_44)) ?_
      show own_F p e below s Z _ _ _ _ _ (T358.setTop (mkF m 45 #[.val (.int p0), .val (.int p1), .val (.int p2), .val (.int p3), .val (.int p4), .val (.int (3 : Int32)), .val (.int (1 : Int32)), .val (.ref b350), .unset, .unset, .unset, .unset, .unset] [(.int (1 : Int32)), (.int (3 : Int32))]))
      refine own_icmp S358 58 at_45 (by decide) (by decide) (fun (hc45_360 : ¬ ((1 : Int32) < (3 : Int32))) => False.elim (absurd hc45_360 (by decide))) (fun (hc45_360 : (1 : Int32) < (3 : Int32)) => ?_)
      show own_F p e below s Z _ _ _ _ _ (T358.setTop (mkF m 48 #[.val (.int p0), .val (.int p1), .val (.int p2), .val (.int p3), .val (.int p4), .val (.int (3 : Int32)), .val (.int (1 : Int32)), .val (.ref b350), .unset, .unset, .unset, .unset, .unset] []))
      refine own_F.of (fun _ => XS.aload S358.here S358.hx rfl (S358.dec at_48) rfl rfl) ?_
      show own_F p e below s Z _ _ _ _ _ (T358.setTop (mkF m 50 #[.val (.int p0), .val (.int p1), .val (.int p2), .val (.int p3), .val (.int p4), .val (.int (3 : Int32)), .val (.int (1 : Int32)), .val (.ref b350), .unset, .unset, .unset, .unset, .unset] [(.ref b350)]))
      refine own_F.of (fun _ => XS.iloadN S358.here S358.hx rfl (S358.dec at_50) rfl) ?_
      show own_F p e below s Z _ _ _ _ _ (T358.setTop (mkF m 51 #[.val (.int p0), .val (.int p1), .val (.int p2), .val (.int p3), .val (.int p4), .val (.int (3 : Int32)), .val (.int (1 : Int32)), .val (.ref b350), .unset, .unset, .unset, .unset, .unset] [(.int p2), (.ref b350)]))
      refine own_callS S358 (y := (⟨"java/lang/Integer", "valueOf", "(I)Ljava/lang/Integer;"⟩ : MethodName)) (own_w hw 142 rfl) (own_w hw 143 rfl) (own_w hw 144 rfl) (own_w hw 145 rfl) (by decide) (argsL := [(.int p2)]) (rest := [(.ref b350)]) (own_vOfI l Z a0 hw p2 aCI clCI h358 S358.old SHi SCaI BXI) all0 (by decide +kernel : parseMethodDescriptor "(I)Ljava/lang/Integer;" = some ⟨[.int], some (.object "java/lang/Integer")⟩) rfl rfl rfl at_51 (by decide) (Nat.le_of_ble_eq_true rfl) (by decide) (by decide) (fun T361 h361 v361 S361 K361 q361 => ?_)
      obtain ⟨b361, rfl, X361, F361⟩ := q361
      show own_F p e below s Z _ _ _ _ _ (T361.setTop (mkF m 54 #[.val (.int p0), .val (.int p1), .val (.int p2), .val (.int p3), .val (.int p4), .val (.int (3 : Int32)), .val (.int (1 : Int32)), .val (.ref b350), .unset, .unset, .unset, .unset, .unset] [(.ref b361), (.ref b350)]))
      have fq362 := (Fe358.keep K361 nin0)
      have fq363 := (Fs358.keep K361 nin0)
      have fq364 := (Fm358.keep K361 nin0)
      have fq365 := ((fq357.keep K358).keep K361)
      have fq366 := (V359.keep K361 nin0)
      have fq367 := ((X353.keep K358).keep K361)
      refine own_callV S361 (y := (⟨"java/util/ArrayList", "add", "(Ljava/lang/Object;)Z"⟩ : MethodName)) (y' := (⟨"java/util/ArrayList", "add", "(Ljava/lang/Object;)Z"⟩ : MethodName)) (own_w hw 149 rfl) (own_w hw 150 rfl) (own_nf S361 (own_w hw 152 rfl)) (own_w hw 152 rfl) (own_w hw 151 rfl) (own_w hw 153 rfl) (own_w hw 2 rfl) (by decide) fq365 (argsL := [(.ref b361)]) (rest := []) (own_add_1 l Z a0 hw b350 b358 b353 b361 ((0 : Int32) + (1 : Int32)) h361 S361.old (own_mayN S361 (Or.inr (by rw [g350]; exact S0.size))) fq365 (own_mayN S361 (Or.inr (Nat.le_trans S353.size g358))) fq366 fq362 fq363 fq364 fq367 X361) (allS (Or.inr (by rw [g350]; exact S0.size)) (allS (Or.inr (Nat.le_trans S353.size g358)) all0)) (by decide +kernel : parseMethodDescriptor "(Ljava/lang/Object;)Z" = some ⟨[(.object "java/lang/Object")], some .boolean⟩) rfl rfl rfl at_54 (by decide) (Nat.le_of_ble_eq_true rfl) (by decide) (by decide) (fun T368 h368 v368 S368 K368 q368 => ?_)
      obtain ⟨rfl, A368, Fe368, Fs368, Fm368⟩ := q368
      have V369 : own_AO Z h368 b358 [(.ref b353), (.ref b361), .null, .null, .null, .null, .null, .null, .null, .null] := A368
      show own_F p e below s Z _ _ _ _ _ (T368.setTop (mkF m 57 #[.val (.int p0), .val (.int p1), .val (.int p2), .val (.int p3), .val (.int p4), .val (.int (3 : Int32)), .val (.int (1 : Int32)), .val (.ref b350), .unset, .unset, .unset, .unset, .unset] [(.int (1 : Int32))]))
      refine own_F.of (fun _ => XS.pop S368.here S368.hx rfl (S368.dec at_57) rfl rfl) ?_
      show own_F p e below s Z _ _ _ _ _ (T368.setTop (mkF m 58 #[.val (.int p0), .val (.int p1), .val (.int p2), .val (.int p3), .val (.int p4), .val (.int (3 : Int32)), .val (.int (1 : Int32)), .val (.ref b350), .unset, .unset, .unset, .unset, .unset] []))
      refine own_F.of (fun _ => XS.iload S368.here S368.hx rfl (S368.dec at_58) rfl) ?_
      show own_F p e below s Z _ _ _ _ _ (T368.setTop (mkF m 60 #[.val (.int p0), .val (.int p1), .val (.int p2), .val (.int p3), .val (.int p4), .val (.int (3 : Int32)), .val (.int (1 : Int32)), .val (.ref b350), .unset, .unset, .unset, .unset, .unset] [(.int (3 : Int32))]))
      refine own_F.of (fun _ => XS.iconst S368.here S368.hx rfl (S368.dec at_60)) ?_
      show own_F p e below s Z _ _ _ _ _ (T368.setTop (mkF m 61 #[.val (.int p0), .val (.int p1), .val (.int p2), .val (.int p3), .val (.int p4), .val (.int (3 : Int32)), .val (.int (1 : Int32)), .val (.ref b350), .unset, .unset, .unset, .unset, .unset] [(.int (2 : Int32)), (.int (3 : Int32))]))
      refine own_icmp S368 74 at_61 (by decide) (by decide) (fun (hc61_370 : ¬ ((2 : Int32) < (3 : Int32))) => False.elim (absurd hc61_370 (by decide))) (fun (hc61_370 : (2 : Int32) < (3 : Int32)) => ?_)
      show own_F p e below s Z _ _ _ _ _ (T368.setTop (mkF m 64 #[.val (.int p0), .val (.int p1), .val (.int p2), .val (.int p3), .val (.int p4), .val (.int (3 : Int32)), .val (.int (1 : Int32)), .val (.ref b350), .unset, .unset, .unset, .unset, .unset] []))
      refine own_F.of (fun _ => XS.aload S368.here S368.hx rfl (S368.dec at_64) rfl rfl) ?_
      show own_F p e below s Z _ _ _ _ _ (T368.setTop (mkF m 66 #[.val (.int p0), .val (.int p1), .val (.int p2), .val (.int p3), .val (.int p4), .val (.int (3 : Int32)), .val (.int (1 : Int32)), .val (.ref b350), .unset, .unset, .unset, .unset, .unset] [(.ref b350)]))
      refine own_F.of (fun _ => XS.iloadN S368.here S368.hx rfl (S368.dec at_66) rfl) ?_
      show own_F p e below s Z _ _ _ _ _ (T368.setTop (mkF m 67 #[.val (.int p0), .val (.int p1), .val (.int p2), .val (.int p3), .val (.int p4), .val (.int (3 : Int32)), .val (.int (1 : Int32)), .val (.ref b350), .unset, .unset, .unset, .unset, .unset] [(.int p3), (.ref b350)]))
      refine own_callS S368 (y := (⟨"java/lang/Integer", "valueOf", "(I)Ljava/lang/Integer;"⟩ : MethodName)) (own_w hw 142 rfl) (own_w hw 143 rfl) (own_w hw 144 rfl) (own_w hw 145 rfl) (by decide) (argsL := [(.int p3)]) (rest := [(.ref b350)]) (own_vOfI l Z a0 hw p3 aCI clCI h368 S368.old SHi SCaI BXI) all0 (by decide +kernel : parseMethodDescriptor "(I)Ljava/lang/Integer;" = some ⟨[.int], some (.object "java/lang/Integer")⟩) rfl rfl rfl at_67 (by decide) (Nat.le_of_ble_eq_true rfl) (by decide) (by decide) (fun T371 h371 v371 S371 K371 q371 => ?_)
      obtain ⟨b371, rfl, X371, F371⟩ := q371
      show own_F p e below s Z _ _ _ _ _ (T371.setTop (mkF m 70 #[.val (.int p0), .val (.int p1), .val (.int p2), .val (.int p3), .val (.int p4), .val (.int (3 : Int32)), .val (.int (1 : Int32)), .val (.ref b350), .unset, .unset, .unset, .unset, .unset] [(.ref b371), (.ref b350)]))
      have fq372 := (Fe368.keep K371 nin0)
      have fq373 := (Fs368.keep K371 nin0)
      have fq374 := (Fm368.keep K371 nin0)
      have fq375 := ((fq365.keep K368).keep K371)
      have fq376 := (V369.keep K371 nin0)
      have fq377 := ((fq367.keep K368).keep K371)
      have fq378 := ((X361.keep K368).keep K371)
      refine own_callV S371 (y := (⟨"java/util/ArrayList", "add", "(Ljava/lang/Object;)Z"⟩ : MethodName)) (y' := (⟨"java/util/ArrayList", "add", "(Ljava/lang/Object;)Z"⟩ : MethodName)) (own_w hw 149 rfl) (own_w hw 150 rfl) (own_nf S371 (own_w hw 152 rfl)) (own_w hw 152 rfl) (own_w hw 151 rfl) (own_w hw 153 rfl) (own_w hw 2 rfl) (by decide) fq375 (argsL := [(.ref b371)]) (rest := []) (own_add_2 l Z a0 hw b350 b358 b353 b361 b371 (((0 : Int32) + (1 : Int32)) + (1 : Int32)) h371 S371.old (own_mayN S371 (Or.inr (by rw [g350]; exact S0.size))) fq375 (own_mayN S371 (Or.inr (Nat.le_trans S353.size g358))) fq376 fq372 fq373 fq374 fq377 fq378 X371) (allS (Or.inr (by rw [g350]; exact S0.size)) (allS (Or.inr (Nat.le_trans S353.size g358)) all0)) (by decide +kernel : parseMethodDescriptor "(Ljava/lang/Object;)Z" = some ⟨[(.object "java/lang/Object")], some .boolean⟩) rfl rfl rfl at_70 (by decide) (Nat.le_of_ble_eq_true rfl) (by decide) (by decide) (fun T379 h379 v379 S379 K379 q379 => ?_)
      obtain ⟨rfl, A379, Fe379, Fs379, Fm379⟩ := q379
      have V380 : own_AO Z h379 b358 [(.ref b353), (.ref b361), (.ref b371), .null, .null, .null, .null, .null, .null, .null] := A379
      show own_F p e below s Z _ _ _ _ _ (T379.setTop (mkF m 73 #[.val (.int p0), .val (.int p1), .val (.int p2), .val (.int p3), .val (.int p4), .val (.int (3 : Int32)), .val (.int (1 : Int32)), .val (.ref b350), .unset, .unset, .unset, .unset, .unset] [(.int (1 : Int32))]))
      refine own_F.of (fun _ => XS.pop S379.here S379.hx rfl (S379.dec at_73) rfl rfl) ?_
      show own_F p e below s Z _ _ _ _ _ (T379.setTop (mkF m 74 #[.val (.int p0), .val (.int p1), .val (.int p2), .val (.int p3), .val (.int p4), .val (.int (3 : Int32)), .val (.int (1 : Int32)), .val (.ref b350), .unset, .unset, .unset, .unset, .unset] []))
      refine own_F.of (fun _ => XS.iload S379.here S379.hx rfl (S379.dec at_74) rfl) ?_
      show own_F p e below s Z _ _ _ _ _ (T379.setTop (mkF m 76 #[.val (.int p0), .val (.int p1), .val (.int p2), .val (.int p3), .val (.int p4), .val (.int (3 : Int32)), .val (.int (1 : Int32)), .val (.ref b350), .unset, .unset, .unset, .unset, .unset] [(.int (1 : Int32))]))
      refine own_if S379 87 at_76 (by decide) (by decide) (fun (hc76_381 : (1 : Int32) = (0 : Int32)) => False.elim (absurd hc76_381 (by decide))) (fun (hc76_381 : ¬ ((1 : Int32) = (0 : Int32))) => ?_)
      show own_F p e below s Z _ _ _ _ _ (T379.setTop (mkF m 79 #[.val (.int p0), .val (.int p1), .val (.int p2), .val (.int p3), .val (.int p4), .val (.int (3 : Int32)), .val (.int (1 : Int32)), .val (.ref b350), .unset, .unset, .unset, .unset, .unset] []))
      refine own_F.of (fun _ => XS.iload S379.here S379.hx rfl (S379.dec at_79) rfl) ?_
      show own_F p e below s Z _ _ _ _ _ (T379.setTop (mkF m 81 #[.val (.int p0), .val (.int p1), .val (.int p2), .val (.int p3), .val (.int p4), .val (.int (3 : Int32)), .val (.int (1 : Int32)), .val (.ref b350), .unset, .unset, .unset, .unset, .unset] [(.int p4)]))
      refine own_callS S379 (y := (⟨"java/lang/Integer", "valueOf", "(I)Ljava/lang/Integer;"⟩ : MethodName)) (own_w hw 142 rfl) (own_w hw 143 rfl) (own_w hw 144 rfl) (own_w hw 145 rfl) (by decide) (argsL := [(.int p4)]) (rest := []) (own_vOfI l Z a0 hw p4 aCI clCI h379 S379.old SHi SCaI BXI) all0 (by decide +kernel : parseMethodDescriptor "(I)Ljava/lang/Integer;" = some ⟨[.int], some (.object "java/lang/Integer")⟩) rfl rfl rfl at_81 (by decide) (Nat.le_of_ble_eq_true rfl) (by decide) (by decide) (fun T382 h382 v382 S382 K382 q382 => ?_)
      obtain ⟨b382, rfl, X382, F382⟩ := q382
      show own_F p e below s Z _ _ _ _ _ (T382.setTop (mkF m 84 #[.val (.int p0), .val (.int p1), .val (.int p2), .val (.int p3), .val (.int p4), .val (.int (3 : Int32)), .val (.int (1 : Int32)), .val (.ref b350), .unset, .unset, .unset, .unset, .unset] [(.ref b382)]))
      refine own_F.of (fun _ => XS.goto S382.here S382.hx rfl (pc0 := 84) (pc' := 88) rfl (S382.dec at_84) (by decide) (by decide)) ?_
      show own_F p e below s Z _ _ _ _ _ (T382.setTop (mkF m 88 #[.val (.int p0), .val (.int p1), .val (.int p2), .val (.int p3), .val (.int p4), .val (.int (3 : Int32)), .val (.int (1 : Int32)), .val (.ref b350), .unset, .unset, .unset, .unset, .unset] [(.ref b382)]))
      refine own_F.of (fun _ => XS.astore S382.here S382.hx rfl (S382.dec at_88) rfl rfl (l' := #[.val (.int p0), .val (.int p1), .val (.int p2), .val (.int p3), .val (.int p4), .val (.int (3 : Int32)), .val (.int (1 : Int32)), .val (.ref b350), .val (.ref b382), .unset, .unset, .unset, .unset]) rfl) ?_
      show own_F p e below s Z _ _ _ _ _ (T382.setTop (mkF m 90 #[.val (.int p0), .val (.int p1), .val (.int p2), .val (.int p3), .val (.int p4), .val (.int (3 : Int32)), .val (.int (1 : Int32)), .val (.ref b350), .val (.ref b382), .unset, .unset, .unset, .unset] []))
      refine own_new S382 (own_w hw 26 rfl) (own_w hw 27 rfl) (own_w hw 28 rfl) at_90 (by decide) (by decide) (fun T383 h383 b383 g383 S383 E383 A383 D383 => ?_)
      have F383_items : Fld Z h383 b383 "com/example/tidemark/tidemark/Page" "items" "Ljava/util/List;" .null := (D383 (Or.inr (own_w hw 68 rfl)) (ty := (.object "java/util/List")) (by decide))
      have F383_nextKey : Fld Z h383 b383 "com/example/tidemark/tidemark/Page" "nextKey" "Ljava/lang/Object;" .null := (D383 (Or.inr (own_w hw 70 rfl)) (ty := (.object "java/lang/Object")) (by decide))
      show own_F p e below s Z _ _ _ _ _ (T383.setTop (mkF m 93 #[.val (.int p0), .val (.int p1), .val (.int p2), .val (.int p3), .val (.int p4), .val (.int (3 : Int32)), .val (.int (1 : Int32)), .val (.ref b350), .val (.ref b382), .unset, .unset, .unset, .unset] [(.ref b383)]))
      refine own_F.of (fun _ => XS.dup S383.here S383.hx rfl (S383.dec at_93) rfl rfl) ?_
      show own_F p e below s Z _ _ _ _ _ (T383.setTop (mkF m 94 #[.val (.int p0), .val (.int p1), .val (.int p2), .val (.int p3), .val (.int p4), .val (.int (3 : Int32)), .val (.int (1 : Int32)), .val (.ref b350), .val (.ref b382), .unset, .unset, .unset, .unset] [(.ref b383), (.ref b383)]))
      refine own_F.of (fun _ => XS.aload S383.here S383.hx rfl (S383.dec at_94) rfl rfl) ?_
      show own_F p e below s Z _ _ _ _ _ (T383.setTop (mkF m 96 #[.val (.int p0), .val (.int p1), .val (.int p2), .val (.int p3), .val (.int p4), .val (.int (3 : Int32)), .val (.int (1 : Int32)), .val (.ref b350), .val (.ref b382), .unset, .unset, .unset, .unset] [(.ref b350), (.ref b383), (.ref b383)]))
      refine own_F.of (fun _ => XS.aload S383.here S383.hx rfl (S383.dec at_96) rfl rfl) ?_
      show own_F p e below s Z _ _ _ _ _ (T383.setTop (mkF m 98 #[.val (.int p0), .val (.int p1), .val (.int p2), .val (.int p3), .val (.int p4), .val (.int (3 : Int32)), .val (.int (1 : Int32)), .val (.ref b350), .val (.ref b382), .unset, .unset, .unset, .unset] [(.ref b382), (.ref b350), (.ref b383), (.ref b383)]))
      have fq384 := (((fq375.keep K379).keep K382).ext E383)
      have fq385 := ((Fs379.keep K382 nin0).ext E383)
      have fq386 := ((Fe379.keep K382 nin0).ext E383)
      have fq387 := ((V380.keep K382 nin0).ext E383)
      have fq388 := (((fq377.keep K379).keep K382).ext E383)
      have fq389 := (((fq378.keep K379).keep K382).ext E383)
      have fq390 := (((X371.keep K379).keep K382).ext E383)
      refine own_callI S383 (y := (⟨"com/example/tidemark/tidemark/Page", "<init>", "(Ljava/util/List;Ljava/lang/Object;)V"⟩ : MethodName)) rfl (own_w hw 29 rfl) (own_w hw 30 rfl) (own_w hw 28 rfl) (own_w hw 31 rfl) (by decide) (argsL := [(.ref b350), (.ref b382)]) (rest := [(.ref b383)]) (own_Page3 l Z a0 hw b383 b350 (.ref b382) b358 b353 b361 b371 aM mO h383 S383.old rfl SM MO (own_mayN S383 (Or.inr (by rw [g383]; exact S382.size))) A383 F383_items F383_nextKey fq384 fq385 fq386 fq387 fq388 fq389 fq390) (allS (Or.inr (by rw [g383]; exact S382.size)) all0) (by decide +kernel : parseMethodDescriptor "(Ljava/util/List;Ljava/lang/Object;)V" = some ⟨[(.object "java/util/List"), (.object "java/lang/Object")], none⟩) rfl rfl rfl at_98 (by decide) (Nat.le_of_ble_eq_true rfl) (by decide) (by decide) (fun T391 h391 v391 S391 K391 q391 => ?_)
      obtain ⟨rfl, b391, Fi391, Fk391, ar391, X391, P391, R391, U391⟩ := q391
      show own_F p e below s Z _ _ _ _ _ (T391.setTop (mkF m 101 #[.val (.int p0), .val (.int p1), .val (.int p2), .val (.int p3), .val (.int p4), .val (.int (3 : Int32)), .val (.int (1 : Int32)), .val (.ref b350), .val (.ref b382), .unset, .unset, .unset, .unset] [(.ref b383)]))
      refine own_F.of (fun _ => XS.astore S391.here S391.hx rfl (S391.dec at_101) rfl rfl (l' := #[.val (.int p0), .val (.int p1), .val (.int p2), .val (.int p3), .val (.int p4), .val (.int (3 : Int32)), .val (.int (1 : Int32)), .val (.ref b350), .val (.ref b382), .val (.ref b383), .unset, .unset, .unset]) rfl) ?_
      show own_F p e below s Z _ _ _ _ _ (T391.setTop (mkF m 103 #[.val (.int p0), .val (.int p1), .val (.int p2), .val (.int p3), .val (.int p4), .val (.int (3 : Int32)), .val (.int (1 : Int32)), .val (.ref b350), .val (.ref b382), .val (.ref b383), .unset, .unset, .unset] []))
      refine own_F.of (fun _ => XS.aload S391.here S391.hx rfl (S391.dec at_103) rfl rfl) ?_
      show own_F p e below s Z _ _ _ _ _ (T391.setTop (mkF m 105 #[.val (.int p0), .val (.int p1), .val (.int p2), .val (.int p3), .val (.int p4), .val (.int (3 : Int32)), .val (.int (1 : Int32)), .val (.ref b350), .val (.ref b382), .val (.ref b383), .unset, .unset, .unset] [(.ref b383)]))
      have fq392 := (A383.keep K391)
      refine own_callS S391 (y := (⟨"com/example/tidemark/tidemark/PagedList", "first", "(Lcom/example/tidemark/tidemark/Page;)Lcom/example/tidemark/tidemark/PagedList;"⟩ : MethodName)) (own_w hw 71 rfl) (own_w hw 72 rfl) (own_w hw 73 rfl) (own_w hw 74 rfl) (by decide) (argsL := [(.ref b383)]) (rest := []) (own_firstR l Z a0 hw b383 b391 b382 a_END a_IDLE a_FAILED h391 S391.old S_END S_IDLE S_FAILED fq392 Fi391 Fk391) all0 (by decide +kernel : parseMethodDescriptor "(Lcom/example/tidemark/tidemark/Page;)Lcom/example/tidemark/tidemark/PagedList;" = some ⟨[(.object "com/example/tidemark/tidemark/Page")], some (.object "com/example/tidemark/tidemark/PagedList")⟩) rfl rfl rfl at_105 (by decide) (Nat.le_of_ble_eq_true rfl) (by decide) (by decide) (fun T393 h393 v393 S393 K393 q393 => ?_)
      obtain ⟨b393, rfl, X393, Fi393, Ff393, Fk393⟩ := q393
      show own_F p e below s Z _ _ _ _ _ (T393.setTop (mkF m 108 #[.val (.int p0), .val (.int p1), .val (.int p2), .val (.int p3), .val (.int p4), .val (.int (3 : Int32)), .val (.int (1 : Int32)), .val (.ref b350), .val (.ref b382), .val (.ref b383), .unset, .unset, .unset] [(.ref b393)]))
      refine own_F.of (fun _ => XS.astore S393.here S393.hx rfl (S393.dec at_108) rfl rfl (l' := #[.val (.int p0), .val (.int p1), .val (.int p2), .val (.int p3), .val (.int p4), .val (.int (3 : Int32)), .val (.int (1 : Int32)), .val (.ref b350), .val (.ref b382), .val (.ref b383), .val (.ref b393), .unset, .unset]) rfl) ?_
      show own_F p e below s Z _ _ _ _ _ (T393.setTop (mkF m 110 #[.val (.int p0), .val (.int p1), .val (.int p2), .val (.int p3), .val (.int p4), .val (.int (3 : Int32)), .val (.int (1 : Int32)), .val (.ref b350), .val (.ref b382), .val (.ref b383), .val (.ref b393), .unset, .unset] []))
      refine own_F.of (fun _ => XS.aload S393.here S393.hx rfl (S393.dec at_110) rfl rfl) ?_
      show own_F p e below s Z _ _ _ _ _ (T393.setTop (mkF m 112 #[.val (.int p0), .val (.int p1), .val (.int p2), .val (.int p3), .val (.int p4), .val (.int (3 : Int32)), .val (.int (1 : Int32)), .val (.ref b350), .val (.ref b382), .val (.ref b383), .val (.ref b393), .unset, .unset] [(.ref b393)]))
      refine own_callV S393 (y := (⟨"com/example/tidemark/tidemark/PagedList", "items", "()Ljava/util/List;"⟩ : MethodName)) (y' := (⟨"com/example/tidemark/tidemark/PagedList", "items", "()Ljava/util/List;"⟩ : MethodName)) (own_w hw 105 rfl) (own_w hw 106 rfl) (own_nf S393 (own_w hw 108 rfl)) (own_w hw 108 rfl) (own_w hw 107 rfl) (own_w hw 109 rfl) (own_w hw 73 rfl) (by decide) X393 (argsL := []) (rest := []) (own_plI l Z a0 hw b393 (.ref b391) h393 S393.old rfl Fi393) all0 (by decide +kernel : parseMethodDescriptor "()Ljava/util/List;" = some ⟨[], some (.object "java/util/List")⟩) rfl rfl rfl at_112 (by decide) (Nat.le_of_ble_eq_true rfl) (by decide) (by decide) (fun T394 h394 v394 S394 K394 q394 => ?_)
      obtain ⟨rfl, rfl⟩ := q394
      show own_F p e below s Z _ _ _ _ _ (T394.setTop (mkF m 115 #[.val (.int p0), .val (.int p1), .val (.int p2), .val (.int p3), .val (.int p4), .val (.int (3 : Int32)), .val (.int (1 : Int32)), .val (.ref b350), .val (.ref b382), .val (.ref b383), .val (.ref b393), .unset, .unset] [(.ref b391)]))
      refine own_F.of (fun _ => XS.astore S394.here S394.hx rfl (S394.dec at_115) rfl rfl (l' := #[.val (.int p0), .val (.int p1), .val (.int p2), .val (.int p3), .val (.int p4), .val (.int (3 : Int32)), .val (.int (1 : Int32)), .val (.ref b350), .val (.ref b382), .val (.ref b383), .val (.ref b393), .val (.ref b391), .unset]) rfl) ?_
      show own_F p e below s Z _ _ _ _ _ (T394.setTop (mkF m 117 #[.val (.int p0), .val (.int p1), .val (.int p2), .val (.int p3), .val (.int p4), .val (.int (3 : Int32)), .val (.int (1 : Int32)), .val (.ref b350), .val (.ref b382), .val (.ref b383), .val (.ref b393), .val (.ref b391), .unset] []))
      refine own_F.of (fun _ => XS.aload S394.here S394.hx rfl (S394.dec at_117) rfl rfl) ?_
      show own_F p e below s Z _ _ _ _ _ (T394.setTop (mkF m 119 #[.val (.int p0), .val (.int p1), .val (.int p2), .val (.int p3), .val (.int p4), .val (.int (3 : Int32)), .val (.int (1 : Int32)), .val (.ref b350), .val (.ref b382), .val (.ref b383), .val (.ref b393), .val (.ref b391), .unset] [(.ref b391)]))
      have fq395 := (P391.keep K393 nin0)
      have fq396 := (R391.keep K393 nin0)
      have fq398 := (X391.keep K393)
      refine own_callX S394 (y := (⟨"java/util/List", "size", "()I"⟩ : MethodName)) (y' := (⟨"java/util/ImmutableCollections$ListN", "size", "()I"⟩ : MethodName)) (own_w hw 110 rfl) (own_w hw 111 rfl) (own_w hw 112 rfl) (own_w hw 113 rfl) (own_w hw 114 rfl) (own_w hw 115 rfl) (own_w hw 116 rfl) (own_w hw 117 rfl) (own_w hw 119 rfl) (own_w hw 118 rfl) (by decide) fq398 (argsL := []) (rest := []) (own_szN3 l Z a0 hw b391 ar391 b353 b361 b371 h393 S394.old fq395 fq396.A) all0 (by decide +kernel : parseMethodDescriptor "()I" = some ⟨[], some .int⟩) rfl rfl rfl at_119 (by decide) (Nat.le_of_ble_eq_true rfl) (by decide) (by decide) (fun T397 h397 v397 S397 K397 q397 => ?_)
      obtain ⟨rfl, rfl⟩ := q397
      show own_F p e below s Z _ _ _ _ _ (T397.setTop (mkF m 124 #[.val (.int p0), .val (.int p1), .val (.int p2), .val (.int p3), .val (.int p4), .val (.int (3 : Int32)), .val (.int (1 : Int32)), .val (.ref b350), .val (.ref b382), .val (.ref b383), .val (.ref b393), .val (.ref b391), .unset] [(.int (3 : Int32))]))
      refine own_F.of (fun _ => XS.iload S397.here S397.hx rfl (S397.dec at_124) rfl) ?_
      show own_F p e below s Z _ _ _ _ _ (T397.setTop (mkF m 126 #[.val (.int p0), .val (.int p1), .val (.int p2), .val (.int p3), .val (.int p4), .val (.int (3 : Int32)), .val (.int (1 : Int32)), .val (.ref b350), .val (.ref b382), .val (.ref b383), .val (.ref b393), .val (.ref b391), .unset] [(.int (3 : Int32)), (.int (3 : Int32))]))
      refine own_icmp S397 131 at_126 (by decide) (by decide) (fun (hc126_399 : (3 : Int32) = (3 : Int32)) => ?_) (fun (hc126_399 : ¬ ((3 : Int32) = (3 : Int32))) => False.elim (absurd hc126_399 (by decide)))
      show own_F p e below s Z _ _ _ _ _ (T397.setTop (mkF m 131 #[.val (.int p0), .val (.int p1), .val (.int p2), .val (.int p3), .val (.int p4), .val (.int (3 : Int32)), .val (.int (1 : Int32)), .val (.ref b350), .val (.ref b382), .val (.ref b383), .val (.ref b393), .val (.ref b391), .unset] []))
      refine own_F.of (fun _ => XS.iload S397.here S397.hx rfl (S397.dec at_131) rfl) ?_
      show own_F p e below s Z _ _ _ _ _ (T397.setTop (mkF m 133 #[.val (.int p0), .val (.int p1), .val (.int p2), .val (.int p3), .val (.int p4), .val (.int (3 : Int32)), .val (.int (1 : Int32)), .val (.ref b350), .val (.ref b382), .val (.ref b383), .val (.ref b393), .val (.ref b391), .unset] [(.int (3 : Int32))]))
      refine own_if S397 156 at_133 (by decide) (by decide) (fun (hc133_400 : ¬ ((0 : Int32) < (3 : Int32))) => False.elim (absurd hc133_400 (by decide))) (fun (hc133_400 : (0 : Int32) < (3 : Int32)) => ?_)
      show own_F p e below s Z _ _ _ _ _ (T397.setTop (mkF m 136 #[.val (.int p0), .val (.int p1), .val (.int p2), .val (.int p3), .val (.int p4), .val (.int (3 : Int32)), .val (.int (1 : Int32)), .val (.ref b350), .val (.ref b382), .val (.ref b383), .val (.ref b393), .val (.ref b391), .unset] []))
      refine own_F.of (fun _ => XS.aload S397.here S397.hx rfl (S397.dec at_136) rfl rfl) ?_
      show own_F p e below s Z _ _ _ _ _ (T397.setTop (mkF m 138 #[.val (.int p0), .val (.int p1), .val (.int p2), .val (.int p3), .val (.int p4), .val (.int (3 : Int32)), .val (.int (1 : Int32)), .val (.ref b350), .val (.ref b382), .val (.ref b383), .val (.ref b393), .val (.ref b391), .unset] [(.ref b391)]))
      refine own_F.of (fun _ => XS.iconst S397.here S397.hx rfl (S397.dec at_138)) ?_
      show own_F p e below s Z _ _ _ _ _ (T397.setTop (mkF m 139 #[.val (.int p0), .val (.int p1), .val (.int p2), .val (.int p3), .val (.int p4), .val (.int (3 : Int32)), .val (.int (1 : Int32)), .val (.ref b350), .val (.ref b382), .val (.ref b383), .val (.ref b393), .val (.ref b391), .unset] [(.int (0 : Int32)), (.ref b391)]))
      refine own_callX S397 (y := (⟨"java/util/List", "get", "(I)Ljava/lang/Object;"⟩ : MethodName)) (y' := (⟨"java/util/ImmutableCollections$ListN", "get", "(I)Ljava/lang/Object;"⟩ : MethodName)) (own_w hw 240 rfl) (own_w hw 241 rfl) (own_w hw 242 rfl) (own_w hw 243 rfl) (own_w hw 244 rfl) (own_w hw 245 rfl) (own_w hw 246 rfl) (own_w hw 117 rfl) (own_w hw 247 rfl) (own_w hw 118 rfl) (by decide) fq398 (argsL := [(.int (0 : Int32))]) (rest := []) (own_gtN_0 l Z a0 hw b391 ar391 b353 b361 b371 h393 S397.old fq395 fq396) all0 (by decide +kernel : parseMethodDescriptor "(I)Ljava/lang/Object;" = some ⟨[.int], some (.object "java/lang/Object")⟩) rfl rfl rfl at_139 (by decide) (Nat.le_of_ble_eq_true rfl) (by decide) (by decide) (fun T401 h401 v401 S401 K401 q401 => ?_)
      obtain ⟨rfl, rfl⟩ := q401
      show own_F p e below s Z _ _ _ _ _ (T401.setTop (mkF m 144 #[.val (.int p0), .val (.int p1), .val (.int p2), .val (.int p3), .val (.int p4), .val (.int (3 : Int32)), .val (.int (1 : Int32)), .val (.ref b350), .val (.ref b382), .val (.ref b383), .val (.ref b393), .val (.ref b391), .unset] [(.ref b353)]))
      have fq403 := ((fq388.keep K391).keep K393)
      refine own_cast S401 (own_w hw 248 rfl) (Ins.self fq403) at_144 (fun T402 S402 => ?_)
      show own_F p e below s Z _ _ _ _ _ (T402.setTop (mkF m 147 #[.val (.int p0), .val (.int p1), .val (.int p2), .val (.int p3), .val (.int p4), .val (.int (3 : Int32)), .val (.int (1 : Int32)), .val (.ref b350), .val (.ref b382), .val (.ref b383), .val (.ref b393), .val (.ref b391), .unset] [(.ref b353)]))
      have fq404 := (((((((((F353.keep K358 (ninS (ne_exa fq403 ((fq384.keep K391).keep K393) (by decide)) nin0)).keep K361 nin0).keep K368 (ninS (ne_exa fq403 ((fq384.keep K391).keep K393) (by decide)) (ninS (ne_exa fq403 ((((V380.exa.keep K382).ext E383).keep K391).keep K393) (by decide)) nin0))).keep K371 nin0).keep K379 (ninS (ne_exa fq403 ((fq384.keep K391).keep K393) (by decide)) (ninS (ne_exa fq403 ((((V380.exa.keep K382).ext E383).keep K391).keep K393) (by decide)) nin0))).keep K382 nin0).ext E383).keep K391 (ninS (ne_exa fq403 (fq392.keep K393) (by decide)) nin0)).keep K393 nin0)
      refine own_callV S402 (y := (⟨"java/lang/Integer", "intValue", "()I"⟩ : MethodName)) (y' := (⟨"java/lang/Integer", "intValue", "()I"⟩ : MethodName)) (own_w hw 250 rfl) (own_w hw 251 rfl) (own_nf S402 (own_w hw 253 rfl)) (own_w hw 253 rfl) (own_w hw 252 rfl) (own_w hw 254 rfl) (own_w hw 144 rfl) (by decide) fq403 (argsL := []) (rest := []) (own_intV l Z a0 hw b353 p1 h393 S402.old fq404) all0 (by decide +kernel : parseMethodDescriptor "()I" = some ⟨[], some .int⟩) rfl rfl rfl at_147 (by decide) (Nat.le_of_ble_eq_true rfl) (by decide) (by decide) (fun T405 h405 v405 S405 K405 q405 => ?_)
      obtain ⟨rfl, rfl⟩ := q405
      show own_F p e below s Z _ _ _ _ _ (T405.setTop (mkF m 150 #[.val (.int p0), .val (.int p1), .val (.int p2), .val (.int p3), .val (.int p4), .val (.int (3 : Int32)), .val (.int (1 : Int32)), .val (.ref b350), .val (.ref b382), .val (.ref b383), .val (.ref b393), .val (.ref b391), .unset] [(.int p1)]))
      refine own_F.of (fun _ => XS.iloadN S405.here S405.hx rfl (S405.dec at_150) rfl) ?_
      show own_F p e below s Z _ _ _ _ _ (T405.setTop (mkF m 151 #[.val (.int p0), .val (.int p1), .val (.int p2), .val (.int p3), .val (.int p4), .val (.int (3 : Int32)), .val (.int (1 : Int32)), .val (.ref b350), .val (.ref b382), .val (.ref b383), .val (.ref b393), .val (.ref b391), .unset] [(.int p1), (.int p1)]))
      refine own_icmp S405 156 at_151 (by decide) (by decide) (fun (hc151_406 : p1 = p1) => ?_) (fun (hc151_406 : ¬ (p1 = p1)) => False.elim (hc151_406 rfl))
      show own_F p e below s Z _ _ _ _ _ (T405.setTop (mkF m 156 #[.val (.int p0), .val (.int p1), .val (.int p2), .val (.int p3), .val (.int p4), .val (.int (3 : Int32)), .val (.int (1 : Int32)), .val (.ref b350), .val (.ref b382), .val (.ref b383), .val (.ref b393), .val (.ref b391), .unset] []))
      refine own_F.of (fun _ => XS.iload S405.here S405.hx rfl (S405.dec at_156) rfl) ?_
      show own_F p e below s Z _ _ _ _ _ (T405.setTop (mkF m 158 #[.val (.int p0), .val (.int p1), .val (.int p2), .val (.int p3), .val (.int p4), .val (.int (3 : Int32)), .val (.int (1 : Int32)), .val (.ref b350), .val (.ref b382), .val (.ref b383), .val (.ref b393), .val (.ref b391), .unset] [(.int (3 : Int32))]))
      refine own_F.of (fun _ => XS.iconst S405.here S405.hx rfl (S405.dec at_158)) ?_
      show own_F p e below s Z _ _ _ _ _ (T405.setTop (mkF m 159 #[.val (.int p0), .val (.int p1), .val (.int p2), .val (.int p3), .val (.int p4), .val (.int (3 : Int32)), .val (.int (1 : Int32)), .val (.ref b350), .val (.ref b382), .val (.ref b383), .val (.ref b393), .val (.ref b391), .unset] [(.int (1 : Int32)), (.int (3 : Int32))]))
      refine own_icmp S405 182 at_159 (by decide) (by decide) (fun (hc159_407 : ¬ ((1 : Int32) < (3 : Int32))) => False.elim (absurd hc159_407 (by decide))) (fun (hc159_407 : (1 : Int32) < (3 : Int32)) => ?_)
      show own_F p e below s Z _ _ _ _ _ (T405.setTop (mkF m 162 #[.val (.int p0), .val (.int p1), .val (.int p2), .val (.int p3), .val (.int p4), .val (.int (3 : Int32)), .val (.int (1 : Int32)), .val (.ref b350), .val (.ref b382), .val (.ref b383), .val (.ref b393), .val (.ref b391), .unset] []))
      refine own_F.of (fun _ => XS.aload S405.here S405.hx rfl (S405.dec at_162) rfl rfl) ?_
      show own_F p e below s Z _ _ _ _ _ (T405.setTop (mkF m 164 #[.val (.int p0), .val (.int p1), .val (.int p2), .val (.int p3), .val (.int p4), .val (.int (3 : Int32)), .val (.int (1 : Int32)), .val (.ref b350), .val (.ref b382), .val (.ref b383), .val (.ref b393), .val (.ref b391), .unset] [(.ref b391)]))
      refine own_F.of (fun _ => XS.iconst S405.here S405.hx rfl (S405.dec at_164)) ?_
      show own_F p e below s Z _ _ _ _ _ (T405.setTop (mkF m 165 #[.val (.int p0), .val (.int p1), .val (.int p2), .val (.int p3), .val (.int p4), .val (.int (3 : Int32)), .val (.int (1 : Int32)), .val (.ref b350), .val (.ref b382), .val (.ref b383), .val (.ref b393), .val (.ref b391), .unset] [(.int (1 : Int32)), (.ref b391)]))
      refine own_callX S405 (y := (⟨"java/util/List", "get", "(I)Ljava/lang/Object;"⟩ : MethodName)) (y' := (⟨"java/util/ImmutableCollections$ListN", "get", "(I)Ljava/lang/Object;"⟩ : MethodName)) (own_w hw 240 rfl) (own_w hw 241 rfl) (own_w hw 242 rfl) (own_w hw 243 rfl) (own_w hw 244 rfl) (own_w hw 245 rfl) (own_w hw 246 rfl) (own_w hw 117 rfl) (own_w hw 247 rfl) (own_w hw 118 rfl) (by decide) fq398 (argsL := [(.int (1 : Int32))]) (rest := []) (own_gtN_1 l Z a0 hw b391 ar391 b353 b361 b371 h393 S405.old fq395 fq396) all0 (by decide +kernel : parseMethodDescriptor "(I)Ljava/lang/Object;" = some ⟨[.int], some (.object "java/lang/Object")⟩) rfl rfl rfl at_165 (by decide) (Nat.le_of_ble_eq_true rfl) (by decide) (by decide) (fun T408 h408 v408 S408 K408 q408 => ?_)
      obtain ⟨rfl, rfl⟩ := q408
      show own_F p e below s Z _ _ _ _ _ (T408.setTop (mkF m 170 #[.val (.int p0), .val (.int p1), .val (.int p2), .val (.int p3), .val (.int p4), .val (.int (3 : Int32)), .val (.int (1 : Int32)), .val (.ref b350), .val (.ref b382), .val (.ref b383), .val (.ref b393), .val (.ref b391), .unset] [(.ref b361)]))
      have fq410 := ((fq389.keep K391).keep K393)
      refine own_cast S408 (own_w hw 248 rfl) (Ins.self fq410) at_170 (fun T409 S409 => ?_)
      show own_F p e below s Z _ _ _ _ _ (T409.setTop (mkF m 173 #[.val (.int p0), .val (.int p1), .val (.int p2), .val (.int p3), .val (.int p4), .val (.int (3 : Int32)), .val (.int (1 : Int32)), .val (.ref b350), .val (.ref b382), .val (.ref b383), .val (.ref b393), .val (.ref b391), .unset] [(.ref b361)]))
      have fq411 := (((((((F361.keep K368 (ninS (ne_exa fq410 ((fq384.keep K391).keep K393) (by decide)) (ninS (ne_exa fq410 ((((V380.exa.keep K382).ext E383).keep K391).keep K393) (by decide)) nin0))).keep K371 nin0).keep K379 (ninS (ne_exa fq410 ((fq384.keep K391).keep K393) (by decide)) (ninS (ne_exa fq410 ((((V380.exa.keep K382).ext E383).keep K391).keep K393) (by decide)) nin0))).keep K382 nin0).ext E383).keep K391 (ninS (ne_exa fq410 (fq392.keep K393) (by decide)) nin0)).keep K393 nin0)
      refine own_callV S409 (y := (⟨"java/lang/Integer", "intValue", "()I"⟩ : MethodName)) (y' := (⟨"java/lang/Integer", "intValue", "()I"⟩ : MethodName)) (own_w hw 250 rfl) (own_w hw 251 rfl) (own_nf S409 (own_w hw 253 rfl)) (own_w hw 253 rfl) (own_w hw 252 rfl) (own_w hw 254 rfl) (own_w hw 144 rfl) (by decide) fq410 (argsL := []) (rest := []) (own_intV l Z a0 hw b361 p2 h393 S409.old fq411) all0 (by decide +kernel : parseMethodDescriptor "()I" = some ⟨[], some .int⟩) rfl rfl rfl at_173 (by decide) (Nat.le_of_ble_eq_true rfl) (by decide) (by decide) (fun T412 h412 v412 S412 K412 q412 => ?_)
      obtain ⟨rfl, rfl⟩ := q412
      show own_F p e below s Z _ _ _ _ _ (T412.setTop (mkF m 176 #[.val (.int p0), .val (.int p1), .val (.int p2), .val (.int p3), .val (.int p4), .val (.int (3 : Int32)), .val (.int (1 : Int32)), .val (.ref b350), .val (.ref b382), .val (.ref b383), .val (.ref b393), .val (.ref b391), .unset] [(.int p2)]))
      refine own_F.of (fun _ => XS.iloadN S412.here S412.hx rfl (S412.dec at_176) rfl) ?_
      show own_F p e below s Z _ _ _ _ _ (T412.setTop (mkF m 177 #[.val (.int p0), .val (.int p1), .val (.int p2), .val (.int p3), .val (.int p4), .val (.int (3 : Int32)), .val (.int (1 : Int32)), .val (.ref b350), .val (.ref b382), .val (.ref b383), .val (.ref b393), .val (.ref b391), .unset] [(.int p2), (.int p2)]))
      refine own_icmp S412 182 at_177 (by decide) (by decide) (fun (hc177_413 : p2 = p2) => ?_) (fun (hc177_413 : ¬ (p2 = p2)) => False.elim (hc177_413 rfl))
      show own_F p e below s Z _ _ _ _ _ (T412.setTop (mkF m 182 #[.val (.int p0), .val (.int p1), .val (.int p2), .val (.int p3), .val (.int p4), .val (.int (3 : Int32)), .val (.int (1 : Int32)), .val (.ref b350), .val (.ref b382), .val (.ref b383), .val (.ref b393), .val (.ref b391), .unset] []))
      refine own_F.of (fun _ => XS.iload S412.here S412.hx rfl (S412.dec at_182) rfl) ?_
      show own_F p e below s Z _ _ _ _ _ (T412.setTop (mkF m 184 #[.val (.int p0), .val (.int p1), .val (.int p2), .val (.int p3), .val (.int p4), .val (.int (3 : Int32)), .val (.int (1 : Int32)), .val (.ref b350), .val (.ref b382), .val (.ref b383), .val (.ref b393), .val (.ref b391), .unset] [(.int (3 : Int32))]))
      refine own_F.of (fun _ => XS.iconst S412.here S412.hx rfl (S412.dec at_184)) ?_
      show own_F p e below s Z _ _ _ _ _ (T412.setTop (mkF m 185 #[.val (.int p0), .val (.int p1), .val (.int p2), .val (.int p3), .val (.int p4), .val (.int (3 : Int32)), .val (.int (1 : Int32)), .val (.ref b350), .val (.ref b382), .val (.ref b383), .val (.ref b393), .val (.ref b391), .unset] [(.int (2 : Int32)), (.int (3 : Int32))]))
      refine own_icmp S412 208 at_185 (by decide) (by decide) (fun (hc185_414 : ¬ ((2 : Int32) < (3 : Int32))) => False.elim (absurd hc185_414 (by decide))) (fun (hc185_414 : (2 : Int32) < (3 : Int32)) => ?_)
      show own_F p e below s Z _ _ _ _ _ (T412.setTop (mkF m 188 #[.val (.int p0), .val (.int p1), .val (.int p2), .val (.int p3), .val (.int p4), .val (.int (3 : Int32)), .val (.int (1 : Int32)), .val (.ref b350), .val (.ref b382), .val (.ref b383), .val (.ref b393), .val (.ref b391), .unset] []))
      refine own_F.of (fun _ => XS.aload S412.here S412.hx rfl (S412.dec at_188) rfl rfl) ?_
      show own_F p e below s Z _ _ _ _ _ (T412.setTop (mkF m 190 #[.val (.int p0), .val (.int p1), .val (.int p2), .val (.int p3), .val (.int p4), .val (.int (3 : Int32)), .val (.int (1 : Int32)), .val (.ref b350), .val (.ref b382), .val (.ref b383), .val (.ref b393), .val (.ref b391), .unset] [(.ref b391)]))
      refine own_F.of (fun _ => XS.iconst S412.here S412.hx rfl (S412.dec at_190)) ?_
      show own_F p e below s Z _ _ _ _ _ (T412.setTop (mkF m 191 #[.val (.int p0), .val (.int p1), .val (.int p2), .val (.int p3), .val (.int p4), .val (.int (3 : Int32)), .val (.int (1 : Int32)), .val (.ref b350), .val (.ref b382), .val (.ref b383), .val (.ref b393), .val (.ref b391), .unset] [(.int (2 : Int32)), (.ref b391)]))
      refine own_callX S412 (y := (⟨"java/util/List", "get", "(I)Ljava/lang/Object;"⟩ : MethodName)) (y' := (⟨"java/util/ImmutableCollections$ListN", "get", "(I)Ljava/lang/Object;"⟩ : MethodName)) (own_w hw 240 rfl) (own_w hw 241 rfl) (own_w hw 242 rfl) (own_w hw 243 rfl) (own_w hw 244 rfl) (own_w hw 245 rfl) (own_w hw 246 rfl) (own_w hw 117 rfl) (own_w hw 247 rfl) (own_w hw 118 rfl) (by decide) fq398 (argsL := [(.int (2 : Int32))]) (rest := []) (own_gtN_2 l Z a0 hw b391 ar391 b353 b361 b371 h393 S412.old fq395 fq396) all0 (by decide +kernel : parseMethodDescriptor "(I)Ljava/lang/Object;" = some ⟨[.int], some (.object "java/lang/Object")⟩) rfl rfl rfl at_191 (by decide) (Nat.le_of_ble_eq_true rfl) (by decide) (by decide) (fun T415 h415 v415 S415 K415 q415 => ?_)
      obtain ⟨rfl, rfl⟩ := q415
      show own_F p e below s Z _ _ _ _ _ (T415.setTop (mkF m 196 #[.val (.int p0), .val (.int p1), .val (.int p2), .val (.int p3), .val (.int p4), .val (.int (3 : Int32)), .val (.int (1 : Int32)), .val (.ref b350), .val (.ref b382), .val (.ref b383), .val (.ref b393), .val (.ref b391), .unset] [(.ref b371)]))
      have fq417 := ((fq390.keep K391).keep K393)
      refine own_cast S415 (own_w hw 248 rfl) (Ins.self fq417) at_196 (fun T416 S416 => ?_)
      show own_F p e below s Z _ _ _ _ _ (T416.setTop (mkF m 199 #[.val (.int p0), .val (.int p1), .val (.int p2), .val (.int p3), .val (.int p4), .val (.int (3 : Int32)), .val (.int (1 : Int32)), .val (.ref b350), .val (.ref b382), .val (.ref b383), .val (.ref b393), .val (.ref b391), .unset] [(.ref b371)]))
      have fq418 := (((((F371.keep K379 (ninS (ne_exa fq417 ((fq384.keep K391).keep K393) (by decide)) (ninS (ne_exa fq417 ((((V380.exa.keep K382).ext E383).keep K391).keep K393) (by decide)) nin0))).keep K382 nin0).ext E383).keep K391 (ninS (ne_exa fq417 (fq392.keep K393) (by decide)) nin0)).keep K393 nin0)
      refine own_callV S416 (y := (⟨"java/lang/Integer", "intValue", "()I"⟩ : MethodName)) (y' := (⟨"java/lang/Integer", "intValue", "()I"⟩ : MethodName)) (own_w hw 250 rfl) (own_w hw 251 rfl) (own_nf S416 (own_w hw 253 rfl)) (own_w hw 253 rfl) (own_w hw 252 rfl) (own_w hw 254 rfl) (own_w hw 144 rfl) (by decide) fq417 (argsL := []) (rest := []) (own_intV l Z a0 hw b371 p3 h393 S416.old fq418) all0 (by decide +kernel : parseMethodDescriptor "()I" = some ⟨[], some .int⟩) rfl rfl rfl at_199 (by decide) (Nat.le_of_ble_eq_true rfl) (by decide) (by decide) (fun T419 h419 v419 S419 K419 q419 => ?_)
      obtain ⟨rfl, rfl⟩ := q419
      show own_F p e below s Z _ _ _ _ _ (T419.setTop (mkF m 202 #[.val (.int p0), .val (.int p1), .val (.int p2), .val (.int p3), .val (.int p4), .val (.int (3 : Int32)), .val (.int (1 : Int32)), .val (.ref b350), .val (.ref b382), .val (.ref b383), .val (.ref b393), .val (.ref b391), .unset] [(.int p3)]))
      refine own_F.of (fun _ => XS.iloadN S419.here S419.hx rfl (S419.dec at_202) rfl) ?_
      show own_F p e below s Z _ _ _ _ _ (T419.setTop (mkF m 203 #[.val (.int p0), .val (.int p1), .val (.int p2), .val (.int p3), .val (.int p4), .val (.int (3 : Int32)), .val (.int (1 : Int32)), .val (.ref b350), .val (.ref b382), .val (.ref b383), .val (.ref b393), .val (.ref b391), .unset] [(.int p3), (.int p3)]))
      refine own_icmp S419 208 at_203 (by decide) (by decide) (fun (hc203_420 : p3 = p3) => ?_) (fun (hc203_420 : ¬ (p3 = p3)) => False.elim (hc203_420 rfl))
      show own_F p e below s Z _ _ _ _ _ (T419.setTop (mkF m 208 #[.val (.int p0), .val (.int p1), .val (.int p2), .val (.int p3), .val (.int p4), .val (.int (3 : Int32)), .val (.int (1 : Int32)), .val (.ref b350), .val (.ref b382), .val (.ref b383), .val (.ref b393), .val (.ref b391), .unset] []))
      refine own_F.of (fun _ => XS.iload S419.here S419.hx rfl (S419.dec at_208) rfl) ?_
      show own_F p e below s Z _ _ _ _ _ (T419.setTop (mkF m 210 #[.val (.int p0), .val (.int p1), .val (.int p2), .val (.int p3), .val (.int p4), .val (.int (3 : Int32)), .val (.int (1 : Int32)), .val (.ref b350), .val (.ref b382), .val (.ref b383), .val (.ref b393), .val (.ref b391), .unset] [(.int (1 : Int32))]))
      refine own_if S419 219 at_210 (by decide) (by decide) (fun (hc210_421 : (1 : Int32) = (0 : Int32)) => False.elim (absurd hc210_421 (by decide))) (fun (hc210_421 : ¬ ((1 : Int32) = (0 : Int32))) => ?_)
      show own_F p e below s Z _ _ _ _ _ (T419.setTop (mkF m 213 #[.val (.int p0), .val (.int p1), .val (.int p2), .val (.int p3), .val (.int p4), .val (.int (3 : Int32)), .val (.int (1 : Int32)), .val (.ref b350), .val (.ref b382), .val (.ref b383), .val (.ref b393), .val (.ref b391), .unset] []))
      refine own_getS S419 (host := "") (Or.inl (own_w hw 269 rfl)) Via.refl (S_IDLE.ext S419.old) at_213 (fun T422 S422 => ?_)
      show own_F p e below s Z _ _ _ _ _ (T422.setTop (mkF m 216 #[.val (.int p0), .val (.int p1), .val (.int p2), .val (.int p3), .val (.int p4), .val (.int (3 : Int32)), .val (.int (1 : Int32)), .val (.ref b350), .val (.ref b382), .val (.ref b383), .val (.ref b393), .val (.ref b391), .unset] [(.ref a_IDLE)]))
      refine own_F.of (fun _ => XS.goto S422.here S422.hx rfl (pc0 := 216) (pc' := 222) rfl (S422.dec at_216) (by decide) (by decide)) ?_
      show own_F p e below s Z _ _ _ _ _ (T422.setTop (mkF m 222 #[.val (.int p0), .val (.int p1), .val (.int p2), .val (.int p3), .val (.int p4), .val (.int (3 : Int32)), .val (.int (1 : Int32)), .val (.ref b350), .val (.ref b382), .val (.ref b383), .val (.ref b393), .val (.ref b391), .unset] [(.ref a_IDLE)]))
      refine own_F.of (fun _ => XS.astore S422.here S422.hx rfl (S422.dec at_222) rfl rfl (l' := #[.val (.int p0), .val (.int p1), .val (.int p2), .val (.int p3), .val (.int p4), .val (.int (3 : Int32)), .val (.int (1 : Int32)), .val (.ref b350), .val (.ref b382), .val (.ref b383), .val (.ref b393), .val (.ref b391), .val (.ref a_IDLE)]) rfl) ?_
      show own_F p e below s Z _ _ _ _ _ (T422.setTop (mkF m 224 #[.val (.int p0), .val (.int p1), .val (.int p2), .val (.int p3), .val (.int p4), .val (.int (3 : Int32)), .val (.int (1 : Int32)), .val (.ref b350), .val (.ref b382), .val (.ref b383), .val (.ref b393), .val (.ref b391), .val (.ref a_IDLE)] []))
      refine own_F.of (fun _ => XS.aload S422.here S422.hx rfl (S422.dec at_224) rfl rfl) ?_
      show own_F p e below s Z _ _ _ _ _ (T422.setTop (mkF m 226 #[.val (.int p0), .val (.int p1), .val (.int p2), .val (.int p3), .val (.int p4), .val (.int (3 : Int32)), .val (.int (1 : Int32)), .val (.ref b350), .val (.ref b382), .val (.ref b383), .val (.ref b393), .val (.ref b391), .val (.ref a_IDLE)] [(.ref b393)]))
      refine own_callV S422 (y := (⟨"com/example/tidemark/tidemark/PagedList", "footer", "()Lcom/example/tidemark/tidemark/PagedList$Footer;"⟩ : MethodName)) (y' := (⟨"com/example/tidemark/tidemark/PagedList", "footer", "()Lcom/example/tidemark/tidemark/PagedList$Footer;"⟩ : MethodName)) (own_w hw 123 rfl) (own_w hw 124 rfl) (own_nf S422 (own_w hw 126 rfl)) (own_w hw 126 rfl) (own_w hw 125 rfl) (own_w hw 127 rfl) (own_w hw 73 rfl) (by decide) X393 (argsL := []) (rest := []) (own_plF l Z a0 hw b393 (.ref a_IDLE) h393 S422.old rfl Ff393) all0 (by decide +kernel : parseMethodDescriptor "()Lcom/example/tidemark/tidemark/PagedList$Footer;" = some ⟨[], some (.object "com/example/tidemark/tidemark/PagedList$Footer")⟩) rfl rfl rfl at_226 (by decide) (Nat.le_of_ble_eq_true rfl) (by decide) (by decide) (fun T423 h423 v423 S423 K423 q423 => ?_)
      obtain ⟨rfl, rfl⟩ := q423
      show own_F p e below s Z _ _ _ _ _ (T423.setTop (mkF m 229 #[.val (.int p0), .val (.int p1), .val (.int p2), .val (.int p3), .val (.int p4), .val (.int (3 : Int32)), .val (.int (1 : Int32)), .val (.ref b350), .val (.ref b382), .val (.ref b383), .val (.ref b393), .val (.ref b391), .val (.ref a_IDLE)] [(.ref a_IDLE)]))
      refine own_F.of (fun _ => XS.aload S423.here S423.hx rfl (S423.dec at_229) rfl rfl) ?_
      show own_F p e below s Z _ _ _ _ _ (T423.setTop (mkF m 231 #[.val (.int p0), .val (.int p1), .val (.int p2), .val (.int p3), .val (.int p4), .val (.int (3 : Int32)), .val (.int (1 : Int32)), .val (.ref b350), .val (.ref b382), .val (.ref b383), .val (.ref b393), .val (.ref b391), .val (.ref a_IDLE)] [(.ref a_IDLE), (.ref a_IDLE)]))
      refine own_acmp S423 rfl rfl 236 at_231 (by decide) (by decide) (fun (hc231_424 : (Value.ref a_IDLE) = (Value.ref a_IDLE)) => ?_) (fun (hc231_424 : ¬ ((Value.ref a_IDLE) = (Value.ref a_IDLE))) => False.elim (hc231_424 rfl))
      show own_F p e below s Z _ _ _ _ _ (T423.setTop (mkF m 236 #[.val (.int p0), .val (.int p1), .val (.int p2), .val (.int p3), .val (.int p4), .val (.int (3 : Int32)), .val (.int (1 : Int32)), .val (.ref b350), .val (.ref b382), .val (.ref b383), .val (.ref b393), .val (.ref b391), .val (.ref a_IDLE)] []))
      refine own_F.of (fun _ => XS.aload S423.here S423.hx rfl (S423.dec at_236) rfl rfl) ?_
      show own_F p e below s Z _ _ _ _ _ (T423.setTop (mkF m 238 #[.val (.int p0), .val (.int p1), .val (.int p2), .val (.int p3), .val (.int p4), .val (.int (3 : Int32)), .val (.int (1 : Int32)), .val (.ref b350), .val (.ref b382), .val (.ref b383), .val (.ref b393), .val (.ref b391), .val (.ref a_IDLE)] [(.ref b393)]))
      refine own_callV S423 (y := (⟨"com/example/tidemark/tidemark/PagedList", "canLoadMore", "()Z"⟩ : MethodName)) (y' := (⟨"com/example/tidemark/tidemark/PagedList", "canLoadMore", "()Z"⟩ : MethodName)) (own_w hw 128 rfl) (own_w hw 129 rfl) (own_nf S423 (own_w hw 131 rfl)) (own_w hw 131 rfl) (own_w hw 130 rfl) (own_w hw 132 rfl) (own_w hw 73 rfl) (by decide) X393 (argsL := []) (rest := []) (own_canR l Z a0 hw b393 a_END a_IDLE a_FAILED h393 S423.old S_END S_IDLE S_FAILED Ff393) all0 (by decide +kernel : parseMethodDescriptor "()Z" = some ⟨[], some .boolean⟩) rfl rfl rfl at_238 (by decide) (Nat.le_of_ble_eq_true rfl) (by decide) (by decide) (fun T425 h425 v425 S425 K425 q425 => ?_)
      obtain ⟨rfl, rfl⟩ := q425
      show own_F p e below s Z _ _ _ _ _ (T425.setTop (mkF m 241 #[.val (.int p0), .val (.int p1), .val (.int p2), .val (.int p3), .val (.int p4), .val (.int (3 : Int32)), .val (.int (1 : Int32)), .val (.ref b350), .val (.ref b382), .val (.ref b383), .val (.ref b393), .val (.ref b391), .val (.ref a_IDLE)] [(.int (1 : Int32))]))
      refine own_F.of (fun _ => XS.iload S425.here S425.hx rfl (S425.dec at_241) rfl) ?_
      show own_F p e below s Z _ _ _ _ _ (T425.setTop (mkF m 243 #[.val (.int p0), .val (.int p1), .val (.int p2), .val (.int p3), .val (.int p4), .val (.int (3 : Int32)), .val (.int (1 : Int32)), .val (.ref b350), .val (.ref b382), .val (.ref b383), .val (.ref b393), .val (.ref b391), .val (.ref a_IDLE)] [(.int (1 : Int32)), (.int (1 : Int32))]))
      refine own_icmp S425 248 at_243 (by decide) (by decide) (fun (hc243_426 : (1 : Int32) = (1 : Int32)) => ?_) (fun (hc243_426 : ¬ ((1 : Int32) = (1 : Int32))) => False.elim (absurd hc243_426 (by decide)))
      show own_F p e below s Z _ _ _ _ _ (T425.setTop (mkF m 248 #[.val (.int p0), .val (.int p1), .val (.int p2), .val (.int p3), .val (.int p4), .val (.int (3 : Int32)), .val (.int (1 : Int32)), .val (.ref b350), .val (.ref b382), .val (.ref b383), .val (.ref b393), .val (.ref b391), .val (.ref a_IDLE)] []))
      refine own_F.of (fun _ => XS.aload S425.here S425.hx rfl (S425.dec at_248) rfl rfl) ?_
      show own_F p e below s Z _ _ _ _ _ (T425.setTop (mkF m 250 #[.val (.int p0), .val (.int p1), .val (.int p2), .val (.int p3), .val (.int p4), .val (.int (3 : Int32)), .val (.int (1 : Int32)), .val (.ref b350), .val (.ref b382), .val (.ref b383), .val (.ref b393), .val (.ref b391), .val (.ref a_IDLE)] [(.ref b393)]))
      refine own_callV S425 (y := (⟨"com/example/tidemark/tidemark/PagedList", "nextKey", "()Ljava/lang/Object;"⟩ : MethodName)) (y' := (⟨"com/example/tidemark/tidemark/PagedList", "nextKey", "()Ljava/lang/Object;"⟩ : MethodName)) (own_w hw 137 rfl) (own_w hw 138 rfl) (own_nf S425 (own_w hw 140 rfl)) (own_w hw 140 rfl) (own_w hw 139 rfl) (own_w hw 141 rfl) (own_w hw 73 rfl) (by decide) X393 (argsL := []) (rest := []) (own_plK l Z a0 hw b393 (.ref b382) h393 S425.old rfl Fk393) all0 (by decide +kernel : parseMethodDescriptor "()Ljava/lang/Object;" = some ⟨[], some (.object "java/lang/Object")⟩) rfl rfl rfl at_250 (by decide) (Nat.le_of_ble_eq_true rfl) (by decide) (by decide) (fun T427 h427 v427 S427 K427 q427 => ?_)
      obtain ⟨rfl, rfl⟩ := q427
      show own_F p e below s Z _ _ _ _ _ (T427.setTop (mkF m 253 #[.val (.int p0), .val (.int p1), .val (.int p2), .val (.int p3), .val (.int p4), .val (.int (3 : Int32)), .val (.int (1 : Int32)), .val (.ref b350), .val (.ref b382), .val (.ref b383), .val (.ref b393), .val (.ref b391), .val (.ref a_IDLE)] [(.ref b382)]))
      refine own_F.of (fun _ => XS.aload S427.here S427.hx rfl (S427.dec at_253) rfl rfl) ?_
      show own_F p e below s Z _ _ _ _ _ (T427.setTop (mkF m 255 #[.val (.int p0), .val (.int p1), .val (.int p2), .val (.int p3), .val (.int p4), .val (.int (3 : Int32)), .val (.int (1 : Int32)), .val (.ref b350), .val (.ref b382), .val (.ref b383), .val (.ref b393), .val (.ref b391), .val (.ref a_IDLE)] [(.ref b382), (.ref b382)]))
      refine own_acmp S427 rfl rfl 262 at_255 (by decide) (by decide) (fun (hc255_428 : ¬ ((Value.ref b382) = (Value.ref b382))) => False.elim (hc255_428 rfl)) (fun (hc255_428 : (Value.ref b382) = (Value.ref b382)) => ?_)
      show own_F p e below s Z _ _ _ _ _ (T427.setTop (mkF m 258 #[.val (.int p0), .val (.int p1), .val (.int p2), .val (.int p3), .val (.int p4), .val (.int (3 : Int32)), .val (.int (1 : Int32)), .val (.ref b350), .val (.ref b382), .val (.ref b383), .val (.ref b393), .val (.ref b391), .val (.ref a_IDLE)] []))
      refine own_F.of (fun _ => XS.iconst S427.here S427.hx rfl (S427.dec at_258)) ?_
      show own_F p e below s Z _ _ _ _ _ (T427.setTop (mkF m 259 #[.val (.int p0), .val (.int p1), .val (.int p2), .val (.int p3), .val (.int p4), .val (.int (3 : Int32)), .val (.int (1 : Int32)), .val (.ref b350), .val (.ref b382), .val (.ref b383), .val (.ref b393), .val (.ref b391), .val (.ref a_IDLE)] [(.int (1 : Int32))]))
      refine own_F.of (fun _ => XS.goto S427.here S427.hx rfl (pc0 := 259) (pc' := 263) rfl (S427.dec at_259) (by decide) (by decide)) ?_
      show own_F p e below s Z _ _ _ _ _ (T427.setTop (mkF m 263 #[.val (.int p0), .val (.int p1), .val (.int p2), .val (.int p3), .val (.int p4), .val (.int (3 : Int32)), .val (.int (1 : Int32)), .val (.ref b350), .val (.ref b382), .val (.ref b383), .val (.ref b393), .val (.ref b391), .val (.ref a_IDLE)] [(.int (1 : Int32))]))
      refine own_retZ S427 (by simp) at_263 (by decide) (by decide) ?_
      rfl
set_option maxRecDepth 65536 in
set_option maxHeartbeats 40000000 in
theorem comes_1 {Post : Tables → Env → Array Value → State → Outcome → State → Prop} (hpost : ∀ tb e args s v u, (limb_1_1.after args s (.returned v) u = true ∧ limb_1_2.after args s (.returned v) u = true ∧ True) → FrameEnd s (.returned v) u (Jvm.fieldLocs frame_1_writes args s ++ Jvm.arrayLocs frame_1_arrays args s ++ Jvm.staticLocs frame_1_statics s) 32 128 → Post tb e args s (.returned v) u) :
    ArmFor flags0 classFile x code maxLocals ret World_1 tables_1 room_1 Calls_1 rest_1 Pre_1 Post := by
  intro l hfl _ _ p e ha hc hk s m args below hf hA hF happ hP
  obtain ⟨hcalls, hrest, hpre⟩ := hP
  obtain ⟨-, -, -, hnamed, -, -, -, hat⟩ := (Spec.applies_iff hf).mp happ
  obtain ⟨hg, hn⟩ := and_e (Cond.before_iff.mp (show (Jvm.Cond.and given_1 narrow_1).before args s = true from hpre))
  obtain ⟨g1, g2⟩ := and_e hg
  obtain ⟨g3, g4⟩ := and_e g2
  obtain ⟨g5, g6⟩ := and_e g4
  obtain ⟨g7, g8⟩ := and_e g6
  obtain ⟨g9, g10⟩ := and_e g8
  obtain ⟨w0, w1, w2, w3, w4, rfl⟩ : ∃ w0 w1 w2 w3 w4 : Value, args = #[w0, w1, w2, w3, w4] := by
    have hs : args.size = 5 := by simpa [Cond.value, given_1] using g1
    obtain ⟨L⟩ := args
    match L, hs with
    | [w0, w1, w2, w3, w4], _ => exact ⟨w0, w1, w2, w3, w4, rfl⟩
  have hw := fun d (hd : d ∈ tables_1) => atoms_spec (ws := Jvm.Cond.code x code maxLocals ret :: tables_1) hat d (List.mem_cons_of_mem _ hd)
  have hfit : Fit s := fun {y c} hc i hi => by
    obtain ⟨ha, rfl⟩ := Array.getElem?_eq_some_iff.mp hc
    have q := List.all_eq_true.mp ((Array.all_eq_true_iff_forall_mem.mp hF) _ (Array.getElem_mem ha)) i (List.mem_range.mpr hi)
    simpa [Array.getElem?_eq_getElem hi] using q
  obtain ⟨hsets, hown0⟩ := atoms_of _ (rest_1_c_eq ▸ (show rest_1_c.before _ s = true from hrest))
  have hr0 := Cond.before_iff.mp hown0
  obtain ⟨i0, ei0⟩ := is_v g3
  obtain rfl : w0 = (.int i0) := Option.some.inj ei0
  obtain ⟨i1, ei1⟩ := is_v g5
  obtain rfl : w1 = (.int i1) := Option.some.inj ei1
  obtain ⟨i2, ei2⟩ := is_v g7
  obtain rfl : w2 = (.int i2) := Option.some.inj ei2
  obtain ⟨i3, ei3⟩ := is_v g9
  obtain rfl : w3 = (.int i3) := Option.some.inj ei3
  obtain ⟨i4, ei4⟩ := is_v g10
  obtain rfl : w4 = (.int i4) := Option.some.inj ei4
  have SHi := own_staI (Cond.before_iff.mp (hsets _ (List.mem_of_getElem? (i := 19) rfl))) (Or.inl (hsets _ (List.mem_of_getElem? (i := 17) rfl)))
  have yAI := Cond.before_iff.mp (hsets _ (List.mem_of_getElem? (i := 20) rfl))
  have yLI := Cond.before_iff.mp (hsets _ (List.mem_of_getElem? (i := 22) rfl))
  have yEI := Cond.before_iff.mp (hsets _ (List.mem_of_getElem? (i := 23) rfl))
  obtain ⟨aCI, evCI⟩ := arr_v yAI
  have SCaI := Sta.start evCI (Or.inr ⟨(own_w hw 147 rfl), (hsets _ (List.mem_of_getElem? (i := 18) rfl))⟩)
  obtain ⟨clCI, ArCI, lC1I, lC2I, -⟩ := own_A.start evCI yAI yLI
  have BXI : Bxs s aCI clCI "java/lang/Integer" "I" 256 (fun j => .int (j - 128)) := Bxs.start (fun _ => evCI) ArCI lC1I lC2I (by decide) yEI (fun X j hj hq => eqv_i (own_sub_at (i := 0) hj) hq)
  have yD := (Cond.before_iff.mp (hsets _ (List.mem_of_getElem? (i := 6) rfl)))
  obtain ⟨aD, evD⟩ := arr_v yD
  have SD := Sta.start evD (Or.inr ⟨(own_w hw 2 rfl), (hsets _ (List.mem_of_getElem? (i := 2) rfl))⟩)
  have AD := own_A0 evD yD (Cond.before_iff.mp (hsets _ (List.mem_of_getElem? (i := 8) rfl)))
  have yL := (Cond.before_iff.mp (hsets _ (List.mem_of_getElem? (i := 11) rfl)))
  obtain ⟨aL, evL⟩ := exa_v yL
  have SL := Sta.start evL (Or.inl (hsets _ (List.mem_of_getElem? (i := 10) rfl)))
  have XL := Exa.start evL yL
  have yM := (Cond.before_iff.mp (hsets _ (List.mem_of_getElem? (i := 26) rfl)))
  obtain ⟨aM, evM⟩ := exa_v yM
  have SM := Sta.start evM (Or.inl (hsets _ (List.mem_of_getElem? (i := 25) rfl)))
  have XM := Exa.start evM yM
  have yE := (Cond.before_iff.mp (hsets _ (List.mem_of_getElem? (i := 12) rfl)))
  obtain ⟨aLe, evE⟩ := arr_v yE
  have FL := own_fldR evL evE
  have AL0 := own_A0 evE yE (Cond.before_iff.mp (hsets _ (List.mem_of_getElem? (i := 14) rfl)))
  have FLn := own_fldI evL (Cond.before_iff.mp (hsets _ (List.mem_of_getElem? (i := 15) rfl)))
  obtain ⟨cO, kO, mO, q1, q2, q3, q4⟩ := hcalls.1
  have MO : Mir s "[Ljava/lang/Object;" mO := ⟨cO, kO, q1, q2, q3, q4⟩
  obtain ⟨y0, hn⟩ := and_e hn
  obtain ⟨y1, hn⟩ := and_e hn
  obtain ⟨y2, hn⟩ := and_e hn
  obtain ⟨y3, hn⟩ := and_e hn
  obtain ⟨y4, hn⟩ := and_e hn
  have y5 := hn
  obtain ⟨a_END, ev_END, S_END, X_END⟩ := own_sta y0 (own_w hw 91 rfl) (own_w hw 92 rfl)
  obtain ⟨a_IDLE, ev_IDLE, S_IDLE, X_IDLE⟩ := own_sta y1 (own_w hw 91 rfl) (own_w hw 134 rfl)
  obtain ⟨a_FAILED, ev_FAILED, S_FAILED, X_FAILED⟩ := own_sta y4 (own_w hw 91 rfl) (own_w hw 136 rfl)
  have F_END_ordinal := own_fldI ev_END y2
  have F_IDLE_ordinal := own_fldI ev_IDLE y3
  have F_FAILED_ordinal := own_fldI ev_FAILED y5
  obtain ⟨n, o, h1, h2, h3, _, L, rfl, ⟨N, K, rfl⟩, hq⟩ := own_law l s _ hw i0 i1 i2 i3 i4 aCI clCI aD aL aLe aM mO a_END a_IDLE a_FAILED s.heap (own_extRefl _) SHi SCaI BXI SD AD SL SM MO XL FL AL0 XM S_END X_END F_END_ordinal S_IDLE X_IDLE F_IDLE_ordinal S_FAILED X_FAILED F_FAILED_ordinal p e ha hc hk s m _ below hf ((Spec.applies_iff_loose hf).mp happ).1 ⟨rfl, State.Warmed39.refl s, rfl⟩ trivial
  refine ⟨n, _, h1, h2, h3, hpost _ _ _ _ _ _ ⟨Cond.after_iff.mpr rfl, Cond.after_iff.mpr (eq_i res_at (Term.int_eval (1)) rfl), trivial⟩ ⟨hq.1, hq.2.1, (hq.2.2.sift fun y hy => Or.inr (N y hy)).mono (by decide) (by decide)⟩⟩
theorem main_1_1 : Claimed_1_1 := comes_1 fun _ _ _ _ _ _ h hF => ⟨h.1, hF⟩
theorem main_1_2 : Claimed_1_2 := comes_1 fun _ _ _ _ _ _ h hF => ⟨h.2.1, hF⟩
end Jvm.Pilot.@@N@@
namespace Jvm.Pilot.@@N@@
open Jvm Jvm.ClassFile Sem Op Lib Jvm.Free Jvm.Stand Jvm.Pilot.@@N@@.Jvm.D
/-! MADE BY PROGRAM (witnessworld.py) out of the Statement's table words and the real class files: 39 classes; the members and pool entries that the words name. The judged class is class 1, her method 1. -/
namespace start1
open Jvm.ClassFile
def u (s : String) : CpInfo := .utf8 (stringToUtf16 s)
/-- a pool by its gaps: so many unusable entries, then the entry; so many at the end -/
def gap : Nat → List CpInfo → List CpInfo
  | 0, r => r
  | n + 1, r => .unusable :: gap n r
def poolList (es : List (Nat × CpInfo)) (last : Nat) : List CpInfo := es.foldr (fun e r => gap e.1 (e.2 :: r)) (gap last [])
def pool (es : List (Nat × CpInfo)) (last : Nat) : Array CpInfo := ⟨poolList es last⟩
def fileOf (pool : Array CpInfo) (this : Nat) (attrs : Array Attribute := #[]) (ms : Array MethodInfo := #[]) (fl : Nat := 33) (sup : Nat := 0) (ifs : Array Nat := #[]) (fds : Array FieldInfo := #[]) : ClassFile where
  minorVersion := 0
  majorVersion := 65
  constantPool := pool
  accessFlags := fl
  thisClass := this
  superClass := sup
  interfaces := ifs
  fields := fds
  methods := ms
  attributes := attrs
def plain (name : String) (sup : Option ClassId) : Class where
  name := name
  kind := .ordinary
  loader := none
  accessFlags := 33
  super := sup
  interfaces := #[]
  cf := none
  fields := #[]
  methods := #[]
  instanceTypes := #[]
  staticTypes := #[]
  resolved := #[]
  callSites := []
  init := .initialized
  statics := none
  mirror := none

def pool0 : Array CpInfo := pool [(5, u "<init>"), (0, u "()V"), (1, .class_ 10), (1, u "java/lang/Object"), (0, u "getClass"), (0, u "()Ljava/lang/Class;")] 111

def k0c0 : Code := { maxStack := 0, maxLocals := 1, code := object_method_1_code, exceptionTable := #[], attributes := #[] }
def k0m0 : Method := { name := "<init>", desc := "()V", sig := { parameters := [], returnType := none }, accessFlags := 1, code := some k0c0 }
def k0m1 : Method := { name := "getClass", desc := "()Ljava/lang/Class;", sig := { parameters := [], returnType := some (.object "java/lang/Class") }, accessFlags := 273, code := none }
/-- java/lang/Object -/
def k0 : Class := { plain "java/lang/Object" none with
  accessFlags := 33
  interfaces := #[]
  cf := some (fileOf pool0 8 #[] #[{ accessFlags := 1, nameIndex := 5, descriptorIndex := 6, attributes := #[] }, { accessFlags := 273, nameIndex := 11, descriptorIndex := 12, attributes := #[] }] 33 0 #[] #[])
  fields := #[]
  methods := #[k0m0, k0m1]
  instanceTypes := #[]
  staticTypes := #[]
  resolved := Array.replicate 124 none
  statics := none }

def pool1 : Array CpInfo := pool [(2, .class_ 4), (0, .nameAndType 5 6), (0, u "java/lang/Object"), (0, u "<init>"), (0, u "()V"), (0, .class_ 8), (0, u "java/util/ArrayList"), (0, .methodref 7 3), (0, .methodref 11 12), (0, .class_ 13), (0, .nameAndType 14 15), (0, u "java/lang/Integer"), (0, u "valueOf"), (0, u "(I)Ljava/lang/Integer;"), (0, .methodref 7 17), (0, .nameAndType 18 19), (0, u "add"), (0, u "(Ljava/lang/Object;)Z"), (0, .class_ 21), (0, u "com/example/tidemark/tidemark/Page"), (0, .methodref 20 23), (0, .nameAndType 5 24), (0, u "(Ljava/util/List;Ljava/lang/Object;)V"), (0, .methodref 26 27), (0, .class_ 28), (0, .nameAndType 29 30), (0, u "com/example/tidemark/tidemark/PagedList"), (0, u "first"), (0, u "(Lcom/example/tidemark/tidemark/Page;)Lcom/example/tidemark/tidemark/PagedList;"), (0, .methodref 26 32), (0, .nameAndType 33 34), (0, u "items"), (0, u "()Ljava/util/List;"), (0, .interfaceMethodref 36 37), (0, .class_ 38), (0, .nameAndType 39 40), (0, u "java/util/List"), (0, u "size"), (0, u "()I"), (0, .interfaceMethodref 36 42), (0, .nameAndType 43 44), (0, u "get"), (0, u "(I)Ljava/lang/Object;"), (0, .methodref 11 46), (0, .nameAndType 47 40), (0, u "intValue"), (0, .fieldref 49 50), (0, .class_ 51), (0, .nameAndType 52 53), (0, u "com/example/tidemark/tidemark/PagedList$Footer"), (0, u "IDLE"), (0, u "Lcom/example/tidemark/tidemark/PagedList$Footer;"), (0, .fieldref 49 55), (0, .nameAndType 56 53), (0, u "END"), (0, .methodref 26 58), (0, .nameAndType 59 60), (0, u "footer"), (0, u "()Lcom/example/tidemark/tidemark/PagedList$Footer;"), (0, .methodref 26 62), (0, .nameAndType 63 64), (0, u "canLoadMore"), (0, u "()Z"), (0, .methodref 26 66), (0, .nameAndType 67 68), (0, u "nextKey"), (0, u "()Ljava/lang/Object;"), (0, .class_ 70), (0, u "com/example/tidemark/tidemark/PagedListFirstPinLaw"), (2, u "law"), (0, u "(IIIII)Z")] 5

def k1m0 : Method := { name := "<init>", desc := "()V", sig := { parameters := [], returnType := none }, accessFlags := 2, code := none }
def k1c1 : Code := { maxStack := 4, maxLocals := 13, code := code, exceptionTable := #[], attributes := #[] }
def k1m1 : Method := { name := "law", desc := "(IIIII)Z", sig := { parameters := [.int, .int, .int, .int, .int], returnType := some .boolean }, accessFlags := 9, code := some k1c1 }
/-- com/example/tidemark/tidemark/PagedListFirstPinLaw -/
def k1 : Class := { plain "com/example/tidemark/tidemark/PagedListFirstPinLaw" (some 0) with
  accessFlags := 49
  interfaces := #[]
  cf := some (fileOf pool1 69 #[] #[{ accessFlags := 2, nameIndex := 5, descriptorIndex := 6, attributes := #[] }, { accessFlags := 9, nameIndex := 73, descriptorIndex := 74, attributes := #[] }] 49 2 #[] #[])
  fields := #[]
  methods := #[k1m0, k1m1]
  instanceTypes := #[]
  staticTypes := #[]
  resolved := Array.replicate 80 none
  statics := none }

def pool2 : Array CpInfo := pool [(8, .class_ 10), (1, u "java/lang/Iterable"), (24, .class_ 36), (0, u "java/lang/Object")] 25

/-- java/lang/Iterable -/
def k2 : Class := { plain "java/lang/Iterable" (some 0) with
  accessFlags := 1537
  interfaces := #[]
  cf := some (fileOf pool2 8 #[] #[] 1537 35 #[] #[])
  fields := #[]
  methods := #[]
  instanceTypes := #[]
  staticTypes := #[]
  resolved := Array.replicate 62 none
  statics := none }

def pool3 : Array CpInfo := pool [(10, .class_ 12), (1, u "java/util/Collection"), (0, u "toArray"), (16, u "()Z"), (29, .class_ 61), (0, u "java/lang/Object"), (0, .class_ 63), (0, u "java/lang/Iterable"), (2, u "isEmpty"), (3, u "()[Ljava/lang/Object;")] 44

def k3m0 : Method := { name := "isEmpty", desc := "()Z", sig := { parameters := [], returnType := some .boolean }, accessFlags := 1025, code := none }
def k3m1 : Method := { name := "toArray", desc := "()[Ljava/lang/Object;", sig := { parameters := [], returnType := some (.array (.object "java/lang/Object")) }, accessFlags := 1025, code := none }
/-- java/util/Collection -/
def k3 : Class := { plain "java/util/Collection" (some 0) with
  accessFlags := 1537
  interfaces := #[2]
  cf := some (fileOf pool3 10 #[] #[{ accessFlags := 1025, nameIndex := 66, descriptorIndex := 30, attributes := #[] }, { accessFlags := 1025, nameIndex := 13, descriptorIndex := 70, attributes := #[] }] 1537 60 #[62] #[])
  fields := #[]
  methods := #[k3m0, k3m1]
  instanceTypes := #[]
  staticTypes := #[]
  resolved := Array.replicate 115 none
  statics := none }

def pool4 : Array CpInfo := pool [(1, .methodref 2 3), (0, .class_ 4), (0, .nameAndType 5 6), (0, u "java/lang/Object"), (0, u "<init>"), (0, u "()V"), (1, .class_ 10), (1, u "java/util/AbstractCollection"), (66, .class_ 78), (0, u "java/util/Collection")] 81

def k4c0 : Code := { maxStack := 1, maxLocals := 1, code := jdk_22_method_1_code, exceptionTable := #[], attributes := #[] }
def k4m0 : Method := { name := "<init>", desc := "()V", sig := { parameters := [], returnType := none }, accessFlags := 4, code := some k4c0 }
/-- java/util/AbstractCollection -/
def k4 : Class := { plain "java/util/AbstractCollection" (some 0) with
  accessFlags := 1057
  interfaces := #[3]
  cf := some (fileOf pool4 8 #[] #[{ accessFlags := 4, nameIndex := 5, descriptorIndex := 6, attributes := #[] }] 1057 2 #[77] #[])
  fields := #[]
  methods := #[k4m0]
  instanceTypes := #[]
  staticTypes := #[]
  resolved := Array.replicate 160 none
  statics := none }

def pool5 : Array CpInfo := pool [(8, .class_ 10), (1, u "java/util/SequencedCollection"), (15, .class_ 27), (0, u "java/lang/Object"), (0, .class_ 29), (0, u "java/util/Collection")] 27

/-- java/util/SequencedCollection -/
def k5 : Class := { plain "java/util/SequencedCollection" (some 0) with
  accessFlags := 1537
  interfaces := #[3]
  cf := some (fileOf pool5 8 #[] #[] 1537 26 #[28] #[])
  fields := #[]
  methods := #[]
  instanceTypes := #[]
  staticTypes := #[]
  resolved := Array.replicate 57 none
  statics := none }

def pool6 : Array CpInfo := pool [(8, .class_ 10), (1, u "java/util/List"), (20, u "(Ljava/lang/Object;)V"), (16, u "<init>"), (26, u "get"), (0, u "(I)Ljava/lang/Object;"), (2, u "size"), (0, u "()I"), (7, u "of"), (1, .fieldref 91 92), (0, .class_ 93), (0, .nameAndType 94 95), (0, u "java/util/ImmutableCollections"), (0, u "EMPTY_LIST"), (0, u "Ljava/util/ImmutableCollections$ListN;"), (0, .class_ 97), (0, u "java/util/ImmutableCollections$List12"), (0, .methodref 96 99), (0, .nameAndType 48 31), (0, .methodref 96 101), (0, .nameAndType 48 102), (0, u "(Ljava/lang/Object;Ljava/lang/Object;)V"), (0, .class_ 104), (0, u "java/lang/Object"), (3, u "([Ljava/lang/Object;)Ljava/util/List;"), (0, .methodref 91 110), (0, .nameAndType 111 108), (0, u "listFromArray"), (0, .methodref 91 113), (0, .nameAndType 114 115), (0, u "listCopy"), (0, u "(Ljava/util/Collection;)Ljava/util/List;"), (3, u "()Ljava/util/List;"), (0, .class_ 121), (0, u "java/util/SequencedCollection"), (112, u "copyOf")] 16

def k6m0 : Method := { name := "size", desc := "()I", sig := { parameters := [], returnType := some .int }, accessFlags := 1025, code := none }
def k6m1 : Method := { name := "get", desc := "(I)Ljava/lang/Object;", sig := { parameters := [.int], returnType := some (.object "java/lang/Object") }, accessFlags := 1025, code := none }
def k6c2 : Code := { maxStack := 1, maxLocals := 0, code := jdk_40_method_36_code, exceptionTable := #[], attributes := #[] }
def k6m2 : Method := { name := "of", desc := "()Ljava/util/List;", sig := { parameters := [], returnType := some (.object "java/util/List") }, accessFlags := 9, code := some k6c2 }
def k6c3 : Code := { maxStack := 5, maxLocals := 2, code := jdk_40_method_47_code, exceptionTable := #[], attributes := #[] }
def k6m3 : Method := { name := "of", desc := "([Ljava/lang/Object;)Ljava/util/List;", sig := { parameters := [(.array (.object "java/lang/Object"))], returnType := some (.object "java/util/List") }, accessFlags := 137, code := some k6c3 }
def k6c4 : Code := { maxStack := 1, maxLocals := 1, code := jdk_40_method_48_code, exceptionTable := #[], attributes := #[] }
def k6m4 : Method := { name := "copyOf", desc := "(Ljava/util/Collection;)Ljava/util/List;", sig := { parameters := [(.object "java/util/Collection")], returnType := some (.object "java/util/List") }, accessFlags := 9, code := some k6c4 }
/-- java/util/List -/
def k6 : Class := { plain "java/util/List" (some 0) with
  accessFlags := 1537
  interfaces := #[5]
  cf := some (fileOf pool6 8 #[] #[{ accessFlags := 1025, nameIndex := 79, descriptorIndex := 80, attributes := #[] }, { accessFlags := 1025, nameIndex := 75, descriptorIndex := 76, attributes := #[] }, { accessFlags := 9, nameIndex := 88, descriptorIndex := 119, attributes := #[] }, { accessFlags := 137, nameIndex := 88, descriptorIndex := 108, attributes := #[] }, { accessFlags := 9, nameIndex := 234, descriptorIndex := 115, attributes := #[] }] 1537 103 #[120] #[])
  fields := #[]
  methods := #[k6m0, k6m1, k6m2, k6m3, k6m4]
  instanceTypes := #[]
  staticTypes := #[]
  resolved := Array.replicate 251 none
  statics := none }

def pool7 : Array CpInfo := pool [(1, .methodref 2 3), (0, .class_ 4), (0, .nameAndType 5 6), (0, u "java/util/AbstractCollection"), (0, u "<init>"), (0, u "()V"), (0, .fieldref 8 9), (0, .class_ 10), (0, .nameAndType 11 12), (0, u "java/util/AbstractList"), (0, u "modCount"), (0, u "I"), (64, .class_ 78), (0, u "java/util/AbstractList$Itr"), (3, .class_ 83), (0, u "java/util/AbstractList$ListItr"), (9, .class_ 94), (0, u "java/util/AbstractList$RandomAccessSubList"), (3, .class_ 99), (0, u "java/util/AbstractList$SubList"), (33, .class_ 134), (0, u "java/util/List"), (73, .class_ 209), (0, u "java/util/AbstractList$SubList$1"), (0, .class_ 211), (0, u "java/util/AbstractList$RandomAccessSpliterator")] 6

def k7c0 : Code := { maxStack := 2, maxLocals := 1, code := jdk_39_method_1_code, exceptionTable := #[], attributes := #[] }
def k7m0 : Method := { name := "<init>", desc := "()V", sig := { parameters := [], returnType := none }, accessFlags := 4, code := some k7c0 }
/-- java/util/AbstractList -/
def k7 : Class := { plain "java/util/AbstractList" (some 4) with
  accessFlags := 1057
  interfaces := #[6]
  cf := some (fileOf pool7 8 #[.nestMembers #[93, 98, 208, 210, 82, 77]] #[{ accessFlags := 4, nameIndex := 5, descriptorIndex := 6, attributes := #[] }] 1057 2 #[133] #[{ accessFlags := 132, nameIndex := 11, descriptorIndex := 12, attributes := #[] }])
  fields := #[{ name := "modCount", type := .int, accessFlags := 132, slot := 0, constantValue := 0 }]
  methods := #[k7m0]
  instanceTypes := #[.int]
  staticTypes := #[]
  resolved := Array.replicate 218 none
  statics := none }

def pool8 : Array CpInfo := pool [(1, .class_ 2), (0, u "java/util/RandomAccess"), (0, .class_ 4), (0, u "java/lang/Object")] 2

/-- java/util/RandomAccess -/
def k8 : Class := { plain "java/util/RandomAccess" (some 0) with
  accessFlags := 1537
  interfaces := #[]
  cf := some (fileOf pool8 1 #[] #[] 1537 3 #[] #[])
  fields := #[]
  methods := #[]
  instanceTypes := #[]
  staticTypes := #[]
  resolved := Array.replicate 7 none
  statics := none }

def pool9 : Array CpInfo := pool [(1, .class_ 2), (0, u "java/lang/Cloneable"), (0, .class_ 4), (0, u "java/lang/Object")] 2

/-- java/lang/Cloneable -/
def k9 : Class := { plain "java/lang/Cloneable" (some 0) with
  accessFlags := 1537
  interfaces := #[]
  cf := some (fileOf pool9 1 #[] #[] 1537 3 #[] #[])
  fields := #[]
  methods := #[]
  instanceTypes := #[]
  staticTypes := #[]
  resolved := Array.replicate 7 none
  statics := none }

def pool10 : Array CpInfo := pool [(1, .class_ 2), (0, u "java/io/Serializable"), (0, .class_ 4), (0, u "java/lang/Object")] 2

/-- java/io/Serializable -/
def k10 : Class := { plain "java/io/Serializable" (some 0) with
  accessFlags := 1537
  interfaces := #[]
  cf := some (fileOf pool10 1 #[] #[] 1537 3 #[] #[])
  fields := #[]
  methods := #[]
  instanceTypes := #[]
  staticTypes := #[]
  resolved := Array.replicate 7 none
  statics := none }

def pool11 : Array CpInfo := pool [(1, .methodref 2 3), (0, .class_ 4), (0, .nameAndType 5 6), (0, u "java/util/AbstractList"), (0, u "<init>"), (0, u "()V"), (0, .class_ 8), (0, u "java/lang/Object"), (0, .fieldref 10 11), (0, .class_ 12), (0, .nameAndType 13 14), (0, u "java/util/ArrayList"), (0, u "elementData"), (0, u "[Ljava/lang/Object;"), (2, u "EMPTY_ELEMENTDATA"), (21, .fieldref 10 40), (0, .nameAndType 41 14), (0, u "DEFAULTCAPACITY_EMPTY_ELEMENTDATA"), (4, u "toArray"), (0, u "()[Ljava/lang/Object;"), (0, .fieldref 10 49), (0, .nameAndType 50 51), (0, u "size"), (0, u "I"), (6, .class_ 60), (1, u "java/util/Arrays"), (0, u "copyOf"), (1, .fieldref 10 64), (0, .nameAndType 65 51), (0, u "modCount"), (0, .methodref 58 67), (0, .nameAndType 61 68), (0, u "([Ljava/lang/Object;I)[Ljava/lang/Object;"), (0, .methodref 10 70), (0, .nameAndType 71 72), (0, u "grow"), (0, u "(I)[Ljava/lang/Object;"), (6, .methodref 80 81), (0, .class_ 82), (0, .nameAndType 83 84), (0, u "java/lang/Math"), (0, u "max"), (0, u "(II)I"), (11, u "(Ljava/lang/Object;)Z"), (32, .methodref 10 130), (0, .nameAndType 71 47), (0, .methodref 10 132), (0, .nameAndType 133 134), (0, u "add"), (0, u "(Ljava/lang/Object;[Ljava/lang/Object;I)V"), (13, .class_ 149), (0, u "java/util/List"), (23, u "()Z"), (88, .class_ 263), (0, u "java/util/ArrayList$ListItr"), (3, .class_ 268), (0, u "java/util/ArrayList$Itr"), (7, .class_ 277), (0, u "java/util/ArrayList$SubList"), (12, .class_ 291), (0, u "java/util/ArrayList$ArrayListSpliterator"), (37, .class_ 330), (0, u "java/util/RandomAccess"), (0, .class_ 332), (0, u "java/lang/Cloneable"), (0, .class_ 334), (0, u "java/io/Serializable"), (0, u "serialVersionUID"), (0, u "J"), (3, u "DEFAULT_CAPACITY"), (22, u "isEmpty"), (136, .class_ 501), (0, u "java/util/ArrayList$SubList$2"), (0, .class_ 503), (0, u "java/util/ArrayList$SubList$1")] 5

def k11c0 : Code := { maxStack := 2, maxLocals := 1, code := jdk_38_method_2_code, exceptionTable := #[], attributes := #[] }
def k11m0 : Method := { name := "<init>", desc := "()V", sig := { parameters := [], returnType := none }, accessFlags := 1, code := some k11c0 }
def k11c1 : Code := { maxStack := 4, maxLocals := 4, code := jdk_38_method_6_code, exceptionTable := #[], attributes := #[] }
def k11m1 : Method := { name := "grow", desc := "(I)[Ljava/lang/Object;", sig := { parameters := [.int], returnType := some (.array (.object "java/lang/Object")) }, accessFlags := 2, code := some k11c1 }
def k11c2 : Code := { maxStack := 3, maxLocals := 1, code := jdk_38_method_7_code, exceptionTable := #[], attributes := #[] }
def k11m2 : Method := { name := "grow", desc := "()[Ljava/lang/Object;", sig := { parameters := [], returnType := some (.array (.object "java/lang/Object")) }, accessFlags := 2, code := some k11c2 }
def k11c3 : Code := { maxStack := 1, maxLocals := 1, code := jdk_38_method_9_code, exceptionTable := #[], attributes := #[] }
def k11m3 : Method := { name := "isEmpty", desc := "()Z", sig := { parameters := [], returnType := some .boolean }, accessFlags := 1, code := some k11c3 }
def k11c4 : Code := { maxStack := 2, maxLocals := 1, code := jdk_38_method_16_code, exceptionTable := #[], attributes := #[] }
def k11m4 : Method := { name := "toArray", desc := "()[Ljava/lang/Object;", sig := { parameters := [], returnType := some (.array (.object "java/lang/Object")) }, accessFlags := 1, code := some k11c4 }
def k11c5 : Code := { maxStack := 3, maxLocals := 4, code := jdk_38_method_24_code, exceptionTable := #[], attributes := #[] }
def k11m5 : Method := { name := "add", desc := "(Ljava/lang/Object;[Ljava/lang/Object;I)V", sig := { parameters := [(.object "java/lang/Object"), (.array (.object "java/lang/Object")), .int], returnType := none }, accessFlags := 2, code := some k11c5 }
def k11c6 : Code := { maxStack := 4, maxLocals := 2, code := jdk_38_method_25_code, exceptionTable := #[], attributes := #[] }
def k11m6 : Method := { name := "add", desc := "(Ljava/lang/Object;)Z", sig := { parameters := [(.object "java/lang/Object")], returnType := some .boolean }, accessFlags := 1, code := some k11c6 }
/-- java/util/ArrayList -/
def k11 : Class := { plain "java/util/ArrayList" (some 7) with
  accessFlags := 33
  interfaces := #[6, 8, 9, 10]
  cf := some (fileOf pool11 10 #[.nestMembers #[290, 276, 500, 502, 262, 267]] #[{ accessFlags := 1, nameIndex := 5, descriptorIndex := 6, attributes := #[] }, { accessFlags := 2, nameIndex := 71, descriptorIndex := 72, attributes := #[] }, { accessFlags := 2, nameIndex := 71, descriptorIndex := 47, attributes := #[] }, { accessFlags := 1, nameIndex := 363, descriptorIndex := 173, attributes := #[] }, { accessFlags := 1, nameIndex := 46, descriptorIndex := 47, attributes := #[] }, { accessFlags := 2, nameIndex := 133, descriptorIndex := 134, attributes := #[] }, { accessFlags := 1, nameIndex := 133, descriptorIndex := 96, attributes := #[] }] 33 2 #[148, 329, 331, 333] #[{ accessFlags := 26, nameIndex := 335, descriptorIndex := 336, attributes := #[] }, { accessFlags := 26, nameIndex := 340, descriptorIndex := 51, attributes := #[] }, { accessFlags := 26, nameIndex := 17, descriptorIndex := 14, attributes := #[] }, { accessFlags := 26, nameIndex := 41, descriptorIndex := 14, attributes := #[] }, { accessFlags := 128, nameIndex := 13, descriptorIndex := 14, attributes := #[] }, { accessFlags := 2, nameIndex := 50, descriptorIndex := 51, attributes := #[] }])
  fields := #[{ name := "serialVersionUID", type := .long, accessFlags := 26, slot := 0, constantValue := 0 }, { name := "DEFAULT_CAPACITY", type := .int, accessFlags := 26, slot := 1, constantValue := 0 }, { name := "EMPTY_ELEMENTDATA", type := (.array (.object "java/lang/Object")), accessFlags := 26, slot := 2, constantValue := 0 }, { name := "DEFAULTCAPACITY_EMPTY_ELEMENTDATA", type := (.array (.object "java/lang/Object")), accessFlags := 26, slot := 3, constantValue := 0 }, { name := "elementData", type := (.array (.object "java/lang/Object")), accessFlags := 128, slot := 1, constantValue := 0 }, { name := "size", type := .int, accessFlags := 2, slot := 2, constantValue := 0 }]
  methods := #[k11m0, k11m1, k11m2, k11m3, k11m4, k11m5, k11m6]
  instanceTypes := #[.int, (.array (.object "java/lang/Object")), .int]
  staticTypes := #[.long, .int, (.array (.object "java/lang/Object")), (.array (.object "java/lang/Object"))]
  resolved := Array.replicate 509 none
  statics := some 0 }

def pool12 : Array CpInfo := pool [(1, .methodref 2 3), (0, .class_ 4), (0, .nameAndType 5 6), (0, u "java/lang/Object"), (0, u "<init>"), (0, u "()V"), (0, .class_ 8), (0, u "java/lang/Record")] 13

def k12c0 : Code := { maxStack := 1, maxLocals := 1, code := jdk_30_method_1_code, exceptionTable := #[], attributes := #[] }
def k12m0 : Method := { name := "<init>", desc := "()V", sig := { parameters := [], returnType := none }, accessFlags := 4, code := some k12c0 }
/-- java/lang/Record -/
def k12 : Class := { plain "java/lang/Record" (some 0) with
  accessFlags := 1057
  interfaces := #[]
  cf := some (fileOf pool12 7 #[] #[{ accessFlags := 4, nameIndex := 5, descriptorIndex := 6, attributes := #[] }] 1057 2 #[] #[])
  fields := #[]
  methods := #[k12m0]
  instanceTypes := #[]
  staticTypes := #[]
  resolved := Array.replicate 22 none
  statics := none }

def pool13 : Array CpInfo := pool [(1, .methodref 2 3), (0, .class_ 4), (0, .nameAndType 5 6), (0, u "java/lang/Record"), (0, u "<init>"), (0, u "()V"), (0, .interfaceMethodref 8 9), (0, .class_ 10), (0, .nameAndType 11 12), (0, u "java/util/List"), (0, u "copyOf"), (0, u "(Ljava/util/Collection;)Ljava/util/List;"), (0, .fieldref 14 15), (0, .class_ 16), (0, .nameAndType 17 18), (0, u "com/example/tidemark/tidemark/Page"), (0, u "items"), (0, u "Ljava/util/List;"), (0, .fieldref 14 20), (0, .nameAndType 21 22), (0, u "nextKey"), (0, u "Ljava/lang/Object;"), (2, u "(Ljava/util/List;Ljava/lang/Object;)V"), (25, u "()Ljava/util/List;"), (1, u "()Ljava/lang/Object;")] 23

def k13c0 : Code := { maxStack := 2, maxLocals := 3, code := prog_22_method_1_code, exceptionTable := #[], attributes := #[] }
def k13m0 : Method := { name := "<init>", desc := "(Ljava/util/List;Ljava/lang/Object;)V", sig := { parameters := [(.object "java/util/List"), (.object "java/lang/Object")], returnType := none }, accessFlags := 1, code := some k13c0 }
def k13c1 : Code := { maxStack := 1, maxLocals := 1, code := prog_22_method_6_code, exceptionTable := #[], attributes := #[] }
def k13m1 : Method := { name := "items", desc := "()Ljava/util/List;", sig := { parameters := [], returnType := some (.object "java/util/List") }, accessFlags := 1, code := some k13c1 }
def k13c2 : Code := { maxStack := 1, maxLocals := 1, code := prog_22_method_7_code, exceptionTable := #[], attributes := #[] }
def k13m2 : Method := { name := "nextKey", desc := "()Ljava/lang/Object;", sig := { parameters := [], returnType := some (.object "java/lang/Object") }, accessFlags := 1, code := some k13c2 }
/-- com/example/tidemark/tidemark/Page -/
def k13 : Class := { plain "com/example/tidemark/tidemark/Page" (some 12) with
  accessFlags := 49
  interfaces := #[]
  cf := some (fileOf pool13 14 #[] #[{ accessFlags := 1, nameIndex := 5, descriptorIndex := 25, attributes := #[] }, { accessFlags := 1, nameIndex := 17, descriptorIndex := 51, attributes := #[] }, { accessFlags := 1, nameIndex := 21, descriptorIndex := 53, attributes := #[] }] 49 2 #[] #[{ accessFlags := 18, nameIndex := 17, descriptorIndex := 18, attributes := #[] }, { accessFlags := 18, nameIndex := 21, descriptorIndex := 22, attributes := #[] }])
  fields := #[{ name := "items", type := (.object "java/util/List"), accessFlags := 18, slot := 0, constantValue := 0 }, { name := "nextKey", type := (.object "java/lang/Object"), accessFlags := 18, slot := 1, constantValue := 0 }]
  methods := #[k13m0, k13m1, k13m2]
  instanceTypes := #[(.object "java/util/List"), (.object "java/lang/Object")]
  staticTypes := #[]
  resolved := Array.replicate 77 none
  statics := none }

def pool14 : Array CpInfo := pool [(2, .class_ 4), (1, u "java/lang/Object"), (0, u "<init>"), (0, u "()V"), (3, .class_ 11), (0, u "java/util/ImmutableCollections$List12"), (0, .class_ 13), (0, u "java/util/ImmutableCollections$ListN"), (3, u "Z"), (0, .class_ 19), (0, u "java/util/List"), (0, .interfaceMethodref 21 22), (0, .class_ 23), (0, .nameAndType 24 25), (0, u "java/util/Collection"), (0, u "isEmpty"), (0, u "()Z"), (0, .interfaceMethodref 18 27), (0, .nameAndType 28 29), (0, u "of"), (0, u "()Ljava/util/List;"), (0, .interfaceMethodref 21 31), (0, .nameAndType 32 33), (0, u "toArray"), (0, u "()[Ljava/lang/Object;"), (0, .interfaceMethodref 18 35), (0, .nameAndType 28 36), (0, u "([Ljava/lang/Object;)Ljava/util/List;"), (0, .methodref 38 39), (0, .class_ 40), (0, .nameAndType 41 42), (0, u "java/util/Objects"), (0, u "requireNonNull"), (0, u "(Ljava/lang/Object;)Ljava/lang/Object;"), (0, .methodref 12 44), (0, .nameAndType 5 45), (0, u "([Ljava/lang/Object;Z)V"), (1, .class_ 49), (1, u "java/util/ImmutableCollections"), (0, u "$assertionsDisabled"), (5, u "[Ljava/lang/Object;"), (5, u "EMPTY_LIST"), (0, u "Ljava/util/ImmutableCollections$ListN;"), (8, u "EMPTY_LIST_NULLS"), (22, u "SALT32L"), (0, u "J"), (2, u "REVERSE"), (6, u "archivedObjects"), (2, u "EMPTY"), (0, u "Ljava/lang/Object;"), (0, .class_ 112), (0, u "java/util/ImmutableCollections$SetN"), (5, u "EMPTY_SET"), (0, u "Ljava/util/ImmutableCollections$SetN;"), (0, .class_ 121), (0, u "java/util/ImmutableCollections$MapN"), (3, u "EMPTY_MAP"), (0, u "Ljava/util/ImmutableCollections$MapN;"), (4, u "EXPAND_FACTOR"), (0, u "I"), (9, u "listCopy"), (0, u "(Ljava/util/Collection;)Ljava/util/List;"), (7, u "listFromArray"), (17, .class_ 170), (0, u "java/util/ImmutableCollections$MapN$MapNIterator"), (0, .class_ 172), (0, u "java/util/ImmutableCollections$MapN$1"), (0, .class_ 174), (0, u "java/util/ImmutableCollections$Map1"), (0, .class_ 176), (0, u "java/util/ImmutableCollections$AbstractImmutableMap"), (0, .class_ 178), (0, u "java/util/ImmutableCollections$SetN$SetNIterator"), (0, .class_ 180), (0, u "java/util/ImmutableCollections$Set12"), (0, .class_ 182), (0, u "java/util/ImmutableCollections$Set12$1"), (0, .class_ 184), (0, u "java/util/ImmutableCollections$AbstractImmutableSet"), (0, .class_ 186), (0, u "java/util/ImmutableCollections$SubList"), (0, .class_ 188), (0, u "java/util/ImmutableCollections$ListItr"), (0, .class_ 190), (0, u "java/util/ImmutableCollections$AbstractImmutableList"), (0, .class_ 192), (0, u "java/util/ImmutableCollections$AbstractImmutableCollection"), (0, .class_ 194), (0, u "java/util/ImmutableCollections$Access"), (0, .class_ 196), (0, u "java/util/ImmutableCollections$Access$1")] 16

def k14m0 : Method := { name := "<init>", desc := "()V", sig := { parameters := [], returnType := none }, accessFlags := 2, code := none }
def k14c1 : Code := { maxStack := 1, maxLocals := 2, code := jdk_56_method_3_code, exceptionTable := #[], attributes := #[] }
def k14m1 : Method := { name := "listCopy", desc := "(Ljava/util/Collection;)Ljava/util/List;", sig := { parameters := [(.object "java/util/Collection")], returnType := some (.object "java/util/List") }, accessFlags := 8, code := some k14c1 }
def k14c2 : Code := { maxStack := 4, maxLocals := 3, code := jdk_56_method_4_code, exceptionTable := #[], attributes := #[] }
def k14m2 : Method := { name := "listFromArray", desc := "([Ljava/lang/Object;)Ljava/util/List;", sig := { parameters := [(.array (.object "java/lang/Object"))], returnType := some (.object "java/util/List") }, accessFlags := 136, code := some k14c2 }
/-- java/util/ImmutableCollections -/
def k14 : Class := { plain "java/util/ImmutableCollections" (some 0) with
  accessFlags := 32
  interfaces := #[]
  cf := some (fileOf pool14 47 #[.nestMembers #[120, 169, 171, 173, 175, 111, 177, 179, 181, 183, 12, 10, 185, 187, 189, 191, 193, 195]] #[{ accessFlags := 2, nameIndex := 5, descriptorIndex := 6, attributes := #[] }, { accessFlags := 8, nameIndex := 142, descriptorIndex := 143, attributes := #[] }, { accessFlags := 136, nameIndex := 151, descriptorIndex := 36, attributes := #[] }] 32 2 #[] #[{ accessFlags := 26, nameIndex := 95, descriptorIndex := 96, attributes := #[] }, { accessFlags := 26, nameIndex := 99, descriptorIndex := 17, attributes := #[] }, { accessFlags := 10, nameIndex := 106, descriptorIndex := 56, attributes := #[] }, { accessFlags := 26, nameIndex := 109, descriptorIndex := 110, attributes := #[] }, { accessFlags := 24, nameIndex := 62, descriptorIndex := 63, attributes := #[] }, { accessFlags := 24, nameIndex := 72, descriptorIndex := 63, attributes := #[] }, { accessFlags := 24, nameIndex := 118, descriptorIndex := 119, attributes := #[] }, { accessFlags := 24, nameIndex := 125, descriptorIndex := 126, attributes := #[] }, { accessFlags := 24, nameIndex := 131, descriptorIndex := 132, attributes := #[] }, { accessFlags := 4120, nameIndex := 50, descriptorIndex := 17, attributes := #[] }])
  fields := #[{ name := "SALT32L", type := .long, accessFlags := 26, slot := 0, constantValue := 0 }, { name := "REVERSE", type := .boolean, accessFlags := 26, slot := 1, constantValue := 0 }, { name := "archivedObjects", type := (.array (.object "java/lang/Object")), accessFlags := 10, slot := 2, constantValue := 0 }, { name := "EMPTY", type := (.object "java/lang/Object"), accessFlags := 26, slot := 3, constantValue := 0 }, { name := "EMPTY_LIST", type := (.object "java/util/ImmutableCollections$ListN"), accessFlags := 24, slot := 4, constantValue := 0 }, { name := "EMPTY_LIST_NULLS", type := (.object "java/util/ImmutableCollections$ListN"), accessFlags := 24, slot := 5, constantValue := 0 }, { name := "EMPTY_SET", type := (.object "java/util/ImmutableCollections$SetN"), accessFlags := 24, slot := 6, constantValue := 0 }, { name := "EMPTY_MAP", type := (.object "java/util/ImmutableCollections$MapN"), accessFlags := 24, slot := 7, constantValue := 0 }, { name := "EXPAND_FACTOR", type := .int, accessFlags := 24, slot := 8, constantValue := 0 }, { name := "$assertionsDisabled", type := .boolean, accessFlags := 4120, slot := 9, constantValue := 0 }]
  methods := #[k14m0, k14m1, k14m2]
  instanceTypes := #[]
  staticTypes := #[.long, .boolean, (.array (.object "java/lang/Object")), (.object "java/lang/Object"), (.object "java/util/ImmutableCollections$ListN"), (.object "java/util/ImmutableCollections$ListN"), (.object "java/util/ImmutableCollections$SetN"), (.object "java/util/ImmutableCollections$MapN"), .int, .boolean]
  resolved := Array.replicate 213 none
  statics := some 1 }

def pool15 : Array CpInfo := pool [(1, .methodref 2 3), (0, .class_ 4), (0, .nameAndType 5 6), (0, u "java/util/AbstractCollection"), (0, u "<init>"), (0, u "()V"), (1, .class_ 10), (1, u "java/util/ImmutableCollections"), (2, .class_ 14), (0, u "java/util/ImmutableCollections$AbstractImmutableCollection")] 41

def k15c0 : Code := { maxStack := 1, maxLocals := 1, code := jdk_47_method_1_code, exceptionTable := #[], attributes := #[] }
def k15m0 : Method := { name := "<init>", desc := "()V", sig := { parameters := [], returnType := none }, accessFlags := 0, code := some k15c0 }
/-- java/util/ImmutableCollections$AbstractImmutableCollection -/
def k15 : Class := { plain "java/util/ImmutableCollections$AbstractImmutableCollection" (some 4) with
  accessFlags := 1056
  interfaces := #[]
  cf := some (fileOf pool15 13 #[.nestHost 8] #[{ accessFlags := 0, nameIndex := 5, descriptorIndex := 6, attributes := #[] }] 1056 2 #[] #[])
  fields := #[]
  methods := #[k15m0]
  instanceTypes := #[]
  staticTypes := #[]
  resolved := Array.replicate 56 none
  statics := none }

def pool16 : Array CpInfo := pool [(1, .methodref 2 3), (0, .class_ 4), (0, .nameAndType 5 6), (0, u "java/util/ImmutableCollections$AbstractImmutableCollection"), (0, u "<init>"), (0, u "()V"), (1, .class_ 10), (1, u "java/util/ImmutableCollections"), (3, .class_ 16), (1, u "java/util/ImmutableCollections$AbstractImmutableList"), (60, .class_ 78), (0, u "java/util/List"), (45, .class_ 125), (0, u "java/util/RandomAccess")] 70

def k16c0 : Code := { maxStack := 1, maxLocals := 1, code := jdk_46_method_1_code, exceptionTable := #[], attributes := #[] }
def k16m0 : Method := { name := "<init>", desc := "()V", sig := { parameters := [], returnType := none }, accessFlags := 0, code := some k16c0 }
/-- java/util/ImmutableCollections$AbstractImmutableList -/
def k16 : Class := { plain "java/util/ImmutableCollections$AbstractImmutableList" (some 15) with
  accessFlags := 1056
  interfaces := #[6, 8]
  cf := some (fileOf pool16 14 #[.nestHost 8] #[{ accessFlags := 0, nameIndex := 5, descriptorIndex := 6, attributes := #[] }] 1056 2 #[77, 124] #[])
  fields := #[]
  methods := #[k16m0]
  instanceTypes := #[]
  staticTypes := #[]
  resolved := Array.replicate 196 none
  statics := none }

def pool17 : Array CpInfo := pool [(1, .methodref 2 3), (0, .class_ 4), (0, .nameAndType 5 6), (0, u "java/util/ImmutableCollections$AbstractImmutableList"), (0, u "<init>"), (0, u "()V"), (0, .methodref 8 9), (0, .class_ 10), (0, .nameAndType 11 12), (0, u "java/util/Objects"), (0, u "requireNonNull"), (0, u "(Ljava/lang/Object;)Ljava/lang/Object;"), (0, .fieldref 14 15), (0, .class_ 16), (0, .nameAndType 17 18), (0, u "java/util/ImmutableCollections$List12"), (0, u "e0"), (0, u "Ljava/lang/Object;"), (0, .fieldref 20 21), (0, .class_ 22), (0, .nameAndType 23 18), (0, u "java/util/ImmutableCollections"), (0, u "EMPTY"), (0, .fieldref 14 25), (0, .nameAndType 26 18), (0, u "e1"), (24, u "size"), (0, u "()I"), (17, .class_ 71), (0, u "java/io/Serializable"), (4, u "(Ljava/lang/Object;)V"), (8, u "(Ljava/lang/Object;Ljava/lang/Object;)V"), (4, u "get"), (0, u "(I)Ljava/lang/Object;")] 33

def k17c0 : Code := { maxStack := 2, maxLocals := 2, code := jdk_44_method_1_code, exceptionTable := #[], attributes := #[] }
def k17m0 : Method := { name := "<init>", desc := "(Ljava/lang/Object;)V", sig := { parameters := [(.object "java/lang/Object")], returnType := none }, accessFlags := 0, code := some k17c0 }
def k17c1 : Code := { maxStack := 2, maxLocals := 3, code := jdk_44_method_2_code, exceptionTable := #[], attributes := #[] }
def k17m1 : Method := { name := "<init>", desc := "(Ljava/lang/Object;Ljava/lang/Object;)V", sig := { parameters := [(.object "java/lang/Object"), (.object "java/lang/Object")], returnType := none }, accessFlags := 0, code := some k17c1 }
def k17c2 : Code := { maxStack := 2, maxLocals := 1, code := jdk_44_method_3_code, exceptionTable := #[], attributes := #[] }
def k17m2 : Method := { name := "size", desc := "()I", sig := { parameters := [], returnType := some .int }, accessFlags := 1, code := some k17c2 }
def k17c3 : Code := { maxStack := 2, maxLocals := 2, code := jdk_44_method_5_code, exceptionTable := #[], attributes := #[] }
def k17m3 : Method := { name := "get", desc := "(I)Ljava/lang/Object;", sig := { parameters := [.int], returnType := some (.object "java/lang/Object") }, accessFlags := 1, code := some k17c3 }
/-- java/util/ImmutableCollections$List12 -/
def k17 : Class := { plain "java/util/ImmutableCollections$List12" (some 16) with
  accessFlags := 48
  interfaces := #[10]
  cf := some (fileOf pool17 14 #[.nestHost 20] #[{ accessFlags := 0, nameIndex := 5, descriptorIndex := 76, attributes := #[] }, { accessFlags := 0, nameIndex := 5, descriptorIndex := 85, attributes := #[] }, { accessFlags := 1, nameIndex := 51, descriptorIndex := 52, attributes := #[] }, { accessFlags := 1, nameIndex := 90, descriptorIndex := 91, attributes := #[] }] 48 2 #[70] #[{ accessFlags := 18, nameIndex := 17, descriptorIndex := 18, attributes := #[] }, { accessFlags := 18, nameIndex := 26, descriptorIndex := 18, attributes := #[] }])
  fields := #[{ name := "e0", type := (.object "java/lang/Object"), accessFlags := 18, slot := 0, constantValue := 0 }, { name := "e1", type := (.object "java/lang/Object"), accessFlags := 18, slot := 1, constantValue := 0 }]
  methods := #[k17m0, k17m1, k17m2, k17m3]
  instanceTypes := #[(.object "java/lang/Object"), (.object "java/lang/Object")]
  staticTypes := #[]
  resolved := Array.replicate 125 none
  statics := none }

def pool18 : Array CpInfo := pool [(1, .methodref 2 3), (0, .class_ 4), (0, .nameAndType 5 6), (0, u "java/util/ImmutableCollections$AbstractImmutableList"), (0, u "<init>"), (0, u "()V"), (0, .fieldref 8 9), (0, .class_ 10), (0, .nameAndType 11 12), (0, u "java/util/ImmutableCollections$ListN"), (0, u "elements"), (0, u "[Ljava/lang/Object;"), (0, .fieldref 8 14), (0, .nameAndType 15 16), (0, u "allowNulls"), (0, u "Z"), (42, .class_ 60), (0, u "java/io/Serializable"), (4, u "([Ljava/lang/Object;Z)V"), (11, u "size"), (0, u "()I"), (0, u "get"), (0, u "(I)Ljava/lang/Object;"), (33, .class_ 115), (0, u "java/util/ImmutableCollections")] 3

def k18c0 : Code := { maxStack := 2, maxLocals := 3, code := jdk_45_method_1_code, exceptionTable := #[], attributes := #[] }
def k18m0 : Method := { name := "<init>", desc := "([Ljava/lang/Object;Z)V", sig := { parameters := [(.array (.object "java/lang/Object")), .boolean], returnType := none }, accessFlags := 2, code := some k18c0 }
def k18c1 : Code := { maxStack := 1, maxLocals := 1, code := jdk_45_method_3_code, exceptionTable := #[], attributes := #[] }
def k18m1 : Method := { name := "size", desc := "()I", sig := { parameters := [], returnType := some .int }, accessFlags := 1, code := some k18c1 }
def k18c2 : Code := { maxStack := 2, maxLocals := 2, code := jdk_45_method_4_code, exceptionTable := #[], attributes := #[] }
def k18m2 : Method := { name := "get", desc := "(I)Ljava/lang/Object;", sig := { parameters := [.int], returnType := some (.object "java/lang/Object") }, accessFlags := 1, code := some k18c2 }
/-- java/util/ImmutableCollections$ListN -/
def k18 : Class := { plain "java/util/ImmutableCollections$ListN" (some 16) with
  accessFlags := 48
  interfaces := #[10]
  cf := some (fileOf pool18 8 #[.nestHost 114] #[{ accessFlags := 2, nameIndex := 5, descriptorIndex := 65, attributes := #[] }, { accessFlags := 1, nameIndex := 77, descriptorIndex := 78, attributes := #[] }, { accessFlags := 1, nameIndex := 79, descriptorIndex := 80, attributes := #[] }] 48 2 #[59] #[{ accessFlags := 18, nameIndex := 11, descriptorIndex := 12, attributes := #[] }, { accessFlags := 18, nameIndex := 15, descriptorIndex := 16, attributes := #[] }])
  fields := #[{ name := "elements", type := (.array (.object "java/lang/Object")), accessFlags := 18, slot := 0, constantValue := 0 }, { name := "allowNulls", type := .boolean, accessFlags := 18, slot := 1, constantValue := 0 }]
  methods := #[k18m0, k18m1, k18m2]
  instanceTypes := #[(.array (.object "java/lang/Object")), .boolean]
  staticTypes := #[]
  resolved := Array.replicate 119 none
  statics := none }

def pool19 : Array CpInfo := pool [(1, .methodref 2 3), (0, .class_ 4), (0, .nameAndType 5 6), (0, u "java/lang/Object"), (0, u "<init>"), (0, u "()V"), (0, .fieldref 8 9), (0, .class_ 10), (0, .nameAndType 11 12), (0, u "com/example/tidemark/tidemark/PagedList"), (0, u "items"), (0, u "Ljava/util/List;"), (0, .fieldref 8 14), (0, .nameAndType 15 16), (0, u "footer"), (0, u "Lcom/example/tidemark/tidemark/PagedList$Footer;"), (0, .fieldref 8 18), (0, .nameAndType 19 20), (0, u "footerError"), (0, u "Ljava/lang/Throwable;"), (0, .fieldref 8 22), (0, .nameAndType 23 24), (0, u "nextKey"), (0, u "Ljava/lang/Object;"), (0, .methodref 26 27), (0, .class_ 28), (0, .nameAndType 11 29), (0, u "com/example/tidemark/tidemark/Page"), (0, u "()Ljava/util/List;"), (0, .methodref 26 31), (0, .nameAndType 23 32), (0, u "()Ljava/lang/Object;"), (0, .methodref 8 34), (0, .nameAndType 35 36), (0, u "restingFooter"), (0, u "(Ljava/lang/Object;)Lcom/example/tidemark/tidemark/PagedList$Footer;"), (0, .methodref 8 38), (0, .nameAndType 5 39), (0, u "(Ljava/util/List;Lcom/example/tidemark/tidemark/PagedList$Footer;Ljava/lang/Throwable;Ljava/lang/Object;)V"), (6, .fieldref 47 48), (0, .class_ 49), (0, .nameAndType 50 16), (0, u "com/example/tidemark/tidemark/PagedList$Footer"), (0, u "IDLE"), (0, .fieldref 47 52), (0, .nameAndType 53 16), (0, u "FAILED"), (34, .fieldref 47 89), (0, .nameAndType 90 16), (0, u "END"), (22, u "first"), (0, u "(Lcom/example/tidemark/tidemark/Page;)Lcom/example/tidemark/tidemark/PagedList;"), (2, u "()Lcom/example/tidemark/tidemark/PagedList$Footer;"), (2, u "canLoadMore"), (0, u "()Z")] 32

def k19c0 : Code := { maxStack := 2, maxLocals := 5, code := prog_23_method_1_code, exceptionTable := #[], attributes := #[] }
def k19m0 : Method := { name := "<init>", desc := "(Ljava/util/List;Lcom/example/tidemark/tidemark/PagedList$Footer;Ljava/lang/Throwable;Ljava/lang/Object;)V", sig := { parameters := [(.object "java/util/List"), (.object "com/example/tidemark/tidemark/PagedList$Footer"), (.object "java/lang/Throwable"), (.object "java/lang/Object")], returnType := none }, accessFlags := 2, code := some k19c0 }
def k19c1 : Code := { maxStack := 6, maxLocals := 1, code := prog_23_method_2_code, exceptionTable := #[], attributes := #[] }
def k19m1 : Method := { name := "first", desc := "(Lcom/example/tidemark/tidemark/Page;)Lcom/example/tidemark/tidemark/PagedList;", sig := { parameters := [(.object "com/example/tidemark/tidemark/Page")], returnType := some (.object "com/example/tidemark/tidemark/PagedList") }, accessFlags := 8, code := some k19c1 }
def k19c2 : Code := { maxStack := 1, maxLocals := 1, code := prog_23_method_3_code, exceptionTable := #[], attributes := #[] }
def k19m2 : Method := { name := "items", desc := "()Ljava/util/List;", sig := { parameters := [], returnType := some (.object "java/util/List") }, accessFlags := 1, code := some k19c2 }
def k19c3 : Code := { maxStack := 1, maxLocals := 1, code := prog_23_method_4_code, exceptionTable := #[], attributes := #[] }
def k19m3 : Method := { name := "footer", desc := "()Lcom/example/tidemark/tidemark/PagedList$Footer;", sig := { parameters := [], returnType := some (.object "com/example/tidemark/tidemark/PagedList$Footer") }, accessFlags := 1, code := some k19c3 }
def k19c4 : Code := { maxStack := 2, maxLocals := 1, code := prog_23_method_6_code, exceptionTable := #[], attributes := #[] }
def k19m4 : Method := { name := "canLoadMore", desc := "()Z", sig := { parameters := [], returnType := some .boolean }, accessFlags := 0, code := some k19c4 }
def k19c5 : Code := { maxStack := 1, maxLocals := 1, code := prog_23_method_7_code, exceptionTable := #[], attributes := #[] }
def k19m5 : Method := { name := "nextKey", desc := "()Ljava/lang/Object;", sig := { parameters := [], returnType := some (.object "java/lang/Object") }, accessFlags := 0, code := some k19c5 }
def k19c6 : Code := { maxStack := 1, maxLocals := 1, code := prog_23_method_12_code, exceptionTable := #[], attributes := #[] }
def k19m6 : Method := { name := "restingFooter", desc := "(Ljava/lang/Object;)Lcom/example/tidemark/tidemark/PagedList$Footer;", sig := { parameters := [(.object "java/lang/Object")], returnType := some (.object "com/example/tidemark/tidemark/PagedList$Footer") }, accessFlags := 10, code := some k19c6 }
/-- com/example/tidemark/tidemark/PagedList -/
def k19 : Class := { plain "com/example/tidemark/tidemark/PagedList" (some 0) with
  accessFlags := 49
  interfaces := #[]
  cf := some (fileOf pool19 8 #[.nestMembers #[47]] #[{ accessFlags := 2, nameIndex := 5, descriptorIndex := 39, attributes := #[] }, { accessFlags := 8, nameIndex := 113, descriptorIndex := 114, attributes := #[] }, { accessFlags := 1, nameIndex := 11, descriptorIndex := 29, attributes := #[] }, { accessFlags := 1, nameIndex := 15, descriptorIndex := 117, attributes := #[] }, { accessFlags := 0, nameIndex := 120, descriptorIndex := 121, attributes := #[] }, { accessFlags := 0, nameIndex := 23, descriptorIndex := 32, attributes := #[] }, { accessFlags := 10, nameIndex := 35, descriptorIndex := 36, attributes := #[] }] 49 2 #[] #[{ accessFlags := 18, nameIndex := 11, descriptorIndex := 12, attributes := #[] }, { accessFlags := 18, nameIndex := 15, descriptorIndex := 16, attributes := #[] }, { accessFlags := 18, nameIndex := 19, descriptorIndex := 20, attributes := #[] }, { accessFlags := 18, nameIndex := 23, descriptorIndex := 24, attributes := #[] }])
  fields := #[{ name := "items", type := (.object "java/util/List"), accessFlags := 18, slot := 0, constantValue := 0 }, { name := "footer", type := (.object "com/example/tidemark/tidemark/PagedList$Footer"), accessFlags := 18, slot := 1, constantValue := 0 }, { name := "footerError", type := (.object "java/lang/Throwable"), accessFlags := 18, slot := 2, constantValue := 0 }, { name := "nextKey", type := (.object "java/lang/Object"), accessFlags := 18, slot := 3, constantValue := 0 }]
  methods := #[k19m0, k19m1, k19m2, k19m3, k19m4, k19m5, k19m6]
  instanceTypes := #[(.object "java/util/List"), (.object "com/example/tidemark/tidemark/PagedList$Footer"), (.object "java/lang/Throwable"), (.object "java/lang/Object")]
  staticTypes := #[]
  resolved := Array.replicate 154 none
  statics := none }

def pool20 : Array CpInfo := pool [(1, .class_ 2), (0, u "java/lang/constant/Constable"), (0, .class_ 4), (0, u "java/lang/Object")] 6

/-- java/lang/constant/Constable -/
def k20 : Class := { plain "java/lang/constant/Constable" (some 0) with
  accessFlags := 1537
  interfaces := #[]
  cf := some (fileOf pool20 1 #[] #[] 1537 3 #[] #[])
  fields := #[]
  methods := #[]
  instanceTypes := #[]
  staticTypes := #[]
  resolved := Array.replicate 11 none
  statics := none }

def pool21 : Array CpInfo := pool [(1, .class_ 2), (0, u "java/lang/Comparable"), (0, .class_ 4), (0, u "java/lang/Object")] 7

/-- java/lang/Comparable -/
def k21 : Class := { plain "java/lang/Comparable" (some 0) with
  accessFlags := 1537
  interfaces := #[]
  cf := some (fileOf pool21 1 #[] #[] 1537 3 #[] #[])
  fields := #[]
  methods := #[]
  instanceTypes := #[]
  staticTypes := #[]
  resolved := Array.replicate 12 none
  statics := none }

def pool22 : Array CpInfo := pool [(2, .class_ 4), (1, u "java/lang/Enum"), (0, u "name"), (0, u "Ljava/lang/String;"), (2, u "ordinal"), (0, u "I"), (1, .class_ 14), (1, u "java/lang/Object"), (4, u "hash"), (86, .class_ 108), (1, u "java/lang/Enum$EnumDesc"), (2, .class_ 112), (0, u "java/lang/constant/Constable"), (0, .class_ 114), (0, u "java/lang/Comparable"), (0, .class_ 116), (0, u "java/io/Serializable")] 87

/-- java/lang/Enum -/
def k22 : Class := { plain "java/lang/Enum" (some 0) with
  accessFlags := 1057
  interfaces := #[20, 21, 10]
  cf := some (fileOf pool22 2 #[.nestMembers #[106]] #[] 1057 12 #[111, 113, 115] #[{ accessFlags := 18, nameIndex := 5, descriptorIndex := 6, attributes := #[] }, { accessFlags := 18, nameIndex := 9, descriptorIndex := 10, attributes := #[] }, { accessFlags := 2, nameIndex := 19, descriptorIndex := 10, attributes := #[] }])
  fields := #[{ name := "name", type := (.object "java/lang/String"), accessFlags := 18, slot := 0, constantValue := 0 }, { name := "ordinal", type := .int, accessFlags := 18, slot := 1, constantValue := 0 }, { name := "hash", type := .int, accessFlags := 2, slot := 2, constantValue := 0 }]
  methods := #[]
  instanceTypes := #[(.object "java/lang/String"), .int, .int]
  staticTypes := #[]
  resolved := Array.replicate 204 none
  statics := none }

def pool23 : Array CpInfo := pool [(1, .class_ 2), (0, u "com/example/tidemark/tidemark/PagedList$Footer"), (2, u "IDLE"), (0, u "Lcom/example/tidemark/tidemark/PagedList$Footer;"), (2, u "LOADING_MORE"), (2, u "FAILED"), (2, u "END"), (2, u "$VALUES"), (0, u "[Lcom/example/tidemark/tidemark/PagedList$Footer;"), (6, .class_ 28), (1, u "java/lang/Enum"), (27, .class_ 57), (0, u "com/example/tidemark/tidemark/PagedList")] 2

/-- com/example/tidemark/tidemark/PagedList$Footer -/
def k23 : Class := { plain "com/example/tidemark/tidemark/PagedList$Footer" (some 22) with
  accessFlags := 16433
  interfaces := #[]
  cf := some (fileOf pool23 1 #[.nestHost 56] #[] 16433 26 #[] #[{ accessFlags := 16409, nameIndex := 5, descriptorIndex := 6, attributes := #[] }, { accessFlags := 16409, nameIndex := 9, descriptorIndex := 6, attributes := #[] }, { accessFlags := 16409, nameIndex := 12, descriptorIndex := 6, attributes := #[] }, { accessFlags := 16409, nameIndex := 15, descriptorIndex := 6, attributes := #[] }, { accessFlags := 4122, nameIndex := 18, descriptorIndex := 19, attributes := #[] }])
  fields := #[{ name := "IDLE", type := (.object "com/example/tidemark/tidemark/PagedList$Footer"), accessFlags := 16409, slot := 0, constantValue := 0 }, { name := "LOADING_MORE", type := (.object "com/example/tidemark/tidemark/PagedList$Footer"), accessFlags := 16409, slot := 1, constantValue := 0 }, { name := "FAILED", type := (.object "com/example/tidemark/tidemark/PagedList$Footer"), accessFlags := 16409, slot := 2, constantValue := 0 }, { name := "END", type := (.object "com/example/tidemark/tidemark/PagedList$Footer"), accessFlags := 16409, slot := 3, constantValue := 0 }, { name := "$VALUES", type := (.array (.object "com/example/tidemark/tidemark/PagedList$Footer")), accessFlags := 4122, slot := 4, constantValue := 0 }]
  methods := #[]
  instanceTypes := #[(.object "java/lang/String"), .int, .int]
  staticTypes := #[(.object "com/example/tidemark/tidemark/PagedList$Footer"), (.object "com/example/tidemark/tidemark/PagedList$Footer"), (.object "com/example/tidemark/tidemark/PagedList$Footer"), (.object "com/example/tidemark/tidemark/PagedList$Footer"), (.array (.object "com/example/tidemark/tidemark/PagedList$Footer"))]
  resolved := Array.replicate 60 none
  statics := some 2 }

def pool24 : Array CpInfo := pool [(1, .methodref 2 3), (0, .class_ 4), (0, .nameAndType 5 6), (0, u "java/lang/Object"), (0, u "<init>"), (0, u "()V"), (1, .class_ 10), (1, u "java/lang/Number"), (2, .class_ 14), (0, u "java/io/Serializable"), (0, u "serialVersionUID"), (0, u "J")] 20

def k24c0 : Code := { maxStack := 1, maxLocals := 1, code := jdk_18_method_1_code, exceptionTable := #[], attributes := #[] }
def k24m0 : Method := { name := "<init>", desc := "()V", sig := { parameters := [], returnType := none }, accessFlags := 1, code := some k24c0 }
/-- java/lang/Number -/
def k24 : Class := { plain "java/lang/Number" (some 0) with
  accessFlags := 1057
  interfaces := #[10]
  cf := some (fileOf pool24 8 #[] #[{ accessFlags := 1, nameIndex := 5, descriptorIndex := 6, attributes := #[] }] 1057 2 #[13] #[{ accessFlags := 26, nameIndex := 15, descriptorIndex := 16, attributes := #[] }])
  fields := #[{ name := "serialVersionUID", type := .long, accessFlags := 26, slot := 0, constantValue := 0 }]
  methods := #[k24m0]
  instanceTypes := #[]
  staticTypes := #[.long]
  resolved := Array.replicate 37 none
  statics := none }

def pool25 : Array CpInfo := pool [(1, .class_ 2), (0, u "java/lang/constant/ConstantDesc"), (0, .class_ 4), (0, u "java/lang/Object")] 32

/-- java/lang/constant/ConstantDesc -/
def k25 : Class := { plain "java/lang/constant/ConstantDesc" (some 0) with
  accessFlags := 1537
  interfaces := #[]
  cf := some (fileOf pool25 1 #[] #[] 1537 3 #[] #[])
  fields := #[]
  methods := #[]
  instanceTypes := #[]
  staticTypes := #[]
  resolved := Array.replicate 37 none
  statics := none }

def pool26 : Array CpInfo := pool [(1, .class_ 2), (0, u "java/lang/Integer"), (16, u "digits"), (0, u "[C"), (46, u "<init>"), (17, u "DigitOnes"), (0, u "[B"), (2, u "DigitTens"), (10, .nameAndType 67 101), (0, u "()V"), (19, u "()I"), (65, u "valueOf"), (0, u "(I)Ljava/lang/Integer;"), (0, .class_ 190), (0, u "java/lang/Integer$IntegerCache"), (0, .fieldref 189 192), (0, .nameAndType 193 194), (0, u "high"), (0, u "I"), (0, .fieldref 189 196), (0, .nameAndType 197 198), (0, u "cache"), (0, u "[Ljava/lang/Integer;"), (0, .methodref 1 200), (0, .nameAndType 67 201), (0, u "(I)V"), (0, .methodref 203 100), (0, .class_ 204), (0, u "java/lang/Number"), (0, .fieldref 1 206), (0, .nameAndType 207 194), (0, u "value"), (5, u "intValue"), (88, u "TYPE"), (0, u "Ljava/lang/Class;"), (0, .class_ 305), (0, u "java/lang/Comparable"), (0, .class_ 307), (0, u "java/lang/constant/Constable"), (0, .class_ 309), (0, u "java/lang/constant/ConstantDesc"), (0, u "MIN_VALUE"), (1, u "MAX_VALUE"), (3, u "SIZE"), (1, u "BYTES"), (1, u "serialVersionUID"), (0, u "J")] 131

def k26c0 : Code := { maxStack := 3, maxLocals := 1, code := jdk_33_method_22_code, exceptionTable := #[], attributes := #[] }
def k26m0 : Method := { name := "valueOf", desc := "(I)Ljava/lang/Integer;", sig := { parameters := [.int], returnType := some (.object "java/lang/Integer") }, accessFlags := 9, code := some k26c0 }
def k26c1 : Code := { maxStack := 2, maxLocals := 2, code := jdk_33_method_23_code, exceptionTable := #[], attributes := #[] }
def k26m1 : Method := { name := "<init>", desc := "(I)V", sig := { parameters := [.int], returnType := none }, accessFlags := 1, code := some k26c1 }
def k26c2 : Code := { maxStack := 1, maxLocals := 1, code := jdk_33_method_27_code, exceptionTable := #[], attributes := #[] }
def k26m2 : Method := { name := "intValue", desc := "()I", sig := { parameters := [], returnType := some .int }, accessFlags := 1, code := some k26c2 }
/-- java/lang/Integer -/
def k26 : Class := { plain "java/lang/Integer" (some 24) with
  accessFlags := 49
  interfaces := #[21, 20, 25]
  cf := some (fileOf pool26 1 #[.nestMembers #[189]] #[{ accessFlags := 9, nameIndex := 187, descriptorIndex := 188, attributes := #[] }, { accessFlags := 1, nameIndex := 67, descriptorIndex := 201, attributes := #[] }, { accessFlags := 1, nameIndex := 213, descriptorIndex := 121, attributes := #[] }] 49 203 #[304, 306, 308] #[{ accessFlags := 25, nameIndex := 310, descriptorIndex := 194, attributes := #[] }, { accessFlags := 25, nameIndex := 312, descriptorIndex := 194, attributes := #[] }, { accessFlags := 25, nameIndex := 302, descriptorIndex := 303, attributes := #[] }, { accessFlags := 24, nameIndex := 19, descriptorIndex := 20, attributes := #[] }, { accessFlags := 24, nameIndex := 89, descriptorIndex := 86, attributes := #[] }, { accessFlags := 24, nameIndex := 85, descriptorIndex := 86, attributes := #[] }, { accessFlags := 18, nameIndex := 207, descriptorIndex := 194, attributes := #[] }, { accessFlags := 25, nameIndex := 316, descriptorIndex := 194, attributes := #[] }, { accessFlags := 25, nameIndex := 318, descriptorIndex := 194, attributes := #[] }, { accessFlags := 26, nameIndex := 320, descriptorIndex := 321, attributes := #[] }])
  fields := #[{ name := "MIN_VALUE", type := .int, accessFlags := 25, slot := 0, constantValue := 0 }, { name := "MAX_VALUE", type := .int, accessFlags := 25, slot := 1, constantValue := 0 }, { name := "TYPE", type := (.object "java/lang/Class"), accessFlags := 25, slot := 2, constantValue := 0 }, { name := "digits", type := (.array .char), accessFlags := 24, slot := 3, constantValue := 0 }, { name := "DigitTens", type := (.array .byte), accessFlags := 24, slot := 4, constantValue := 0 }, { name := "DigitOnes", type := (.array .byte), accessFlags := 24, slot := 5, constantValue := 0 }, { name := "value", type := .int, accessFlags := 18, slot := 0, constantValue := 0 }, { name := "SIZE", type := .int, accessFlags := 25, slot := 6, constantValue := 0 }, { name := "BYTES", type := .int, accessFlags := 25, slot := 7, constantValue := 0 }, { name := "serialVersionUID", type := .long, accessFlags := 26, slot := 8, constantValue := 0 }]
  methods := #[k26m0, k26m1, k26m2]
  instanceTypes := #[.int]
  staticTypes := #[.int, .int, (.object "java/lang/Class"), (.array .char), (.array .byte), (.array .byte), .int, .int, .long]
  resolved := Array.replicate 453 none
  statics := none }

def pool27 : Array CpInfo := pool [(2, .class_ 4), (1, u "java/lang/Object"), (0, u "<init>"), (0, u "()V"), (0, .class_ 8), (0, u "java/lang/Integer"), (7, .class_ 18), (1, u "java/lang/Integer$IntegerCache"), (0, u "$assertionsDisabled"), (0, u "Z"), (26, u "high"), (0, u "I"), (8, u "archivedCache"), (0, u "[Ljava/lang/Integer;"), (12, u "cache"), (0, u "low")] 27

def k27m0 : Method := { name := "<init>", desc := "()V", sig := { parameters := [], returnType := none }, accessFlags := 2, code := none }
/-- java/lang/Integer$IntegerCache -/
def k27 : Class := { plain "java/lang/Integer$IntegerCache" (some 0) with
  accessFlags := 48
  interfaces := #[]
  cf := some (fileOf pool27 16 #[.nestHost 7] #[{ accessFlags := 2, nameIndex := 5, descriptorIndex := 6, attributes := #[] }] 48 2 #[] #[{ accessFlags := 24, nameIndex := 72, descriptorIndex := 48, attributes := #[] }, { accessFlags := 24, nameIndex := 47, descriptorIndex := 48, attributes := #[] }, { accessFlags := 24, nameIndex := 71, descriptorIndex := 58, attributes := #[] }, { accessFlags := 8, nameIndex := 57, descriptorIndex := 58, attributes := #[] }, { accessFlags := 4120, nameIndex := 19, descriptorIndex := 20, attributes := #[] }])
  fields := #[{ name := "low", type := .int, accessFlags := 24, slot := 0, constantValue := 0 }, { name := "high", type := .int, accessFlags := 24, slot := 1, constantValue := 0 }, { name := "cache", type := (.array (.object "java/lang/Integer")), accessFlags := 24, slot := 2, constantValue := 0 }, { name := "archivedCache", type := (.array (.object "java/lang/Integer")), accessFlags := 8, slot := 3, constantValue := 0 }, { name := "$assertionsDisabled", type := .boolean, accessFlags := 4120, slot := 4, constantValue := 0 }]
  methods := #[k27m0]
  instanceTypes := #[]
  staticTypes := #[.int, .int, (.array (.object "java/lang/Integer")), (.array (.object "java/lang/Integer")), .boolean]
  resolved := Array.replicate 100 none
  statics := some 3 }

def pool28 : Array CpInfo := pool [(1, .class_ 2), (0, u "java/lang/Math"), (1, .class_ 6), (1, u "java/lang/Object"), (0, u "<init>"), (0, u "()V"), (89, .class_ 100), (1, u "java/lang/Math$RandomNumberGeneratorHolder"), (71, u "negativeZeroFloatBits"), (0, u "J"), (2, u "negativeZeroDoubleBits"), (21, u "max"), (2, u "min"), (43, u "$assertionsDisabled"), (0, u "Z"), (88, u "(II)I"), (2, u "twoToTheDoubleScaleDown"), (0, u "D"), (4, u "twoToTheDoubleScaleUp"), (9, u "E"), (3, u "PI"), (2, u "TAU"), (2, u "DEGREES_TO_RADIANS"), (0, u "RADIANS_TO_DEGREES")] 94

def k28m0 : Method := { name := "<init>", desc := "()V", sig := { parameters := [], returnType := none }, accessFlags := 2, code := none }
def k28c1 : Code := { maxStack := 2, maxLocals := 2, code := jdk_29_method_65_code, exceptionTable := #[], attributes := #[] }
def k28m1 : Method := { name := "max", desc := "(II)I", sig := { parameters := [.int, .int], returnType := some .int }, accessFlags := 9, code := some k28c1 }
def k28c2 : Code := { maxStack := 2, maxLocals := 2, code := jdk_29_method_69_code, exceptionTable := #[], attributes := #[] }
def k28m2 : Method := { name := "min", desc := "(II)I", sig := { parameters := [.int, .int], returnType := some .int }, accessFlags := 9, code := some k28c2 }
/-- java/lang/Math -/
def k28 : Class := { plain "java/lang/Math" (some 0) with
  accessFlags := 49
  interfaces := #[]
  cf := some (fileOf pool28 1 #[.nestMembers #[98]] #[{ accessFlags := 2, nameIndex := 7, descriptorIndex := 8, attributes := #[] }, { accessFlags := 9, nameIndex := 198, descriptorIndex := 335, attributes := #[] }, { accessFlags := 9, nameIndex := 201, descriptorIndex := 335, attributes := #[] }] 49 4 #[] #[{ accessFlags := 25, nameIndex := 354, descriptorIndex := 339, attributes := #[] }, { accessFlags := 25, nameIndex := 358, descriptorIndex := 339, attributes := #[] }, { accessFlags := 25, nameIndex := 361, descriptorIndex := 339, attributes := #[] }, { accessFlags := 26, nameIndex := 364, descriptorIndex := 339, attributes := #[] }, { accessFlags := 26, nameIndex := 365, descriptorIndex := 339, attributes := #[] }, { accessFlags := 26, nameIndex := 172, descriptorIndex := 173, attributes := #[] }, { accessFlags := 26, nameIndex := 176, descriptorIndex := 173, attributes := #[] }, { accessFlags := 8, nameIndex := 344, descriptorIndex := 339, attributes := #[] }, { accessFlags := 8, nameIndex := 338, descriptorIndex := 339, attributes := #[] }, { accessFlags := 4120, nameIndex := 245, descriptorIndex := 246, attributes := #[] }])
  fields := #[{ name := "E", type := .double, accessFlags := 25, slot := 0, constantValue := 0 }, { name := "PI", type := .double, accessFlags := 25, slot := 1, constantValue := 0 }, { name := "TAU", type := .double, accessFlags := 25, slot := 2, constantValue := 0 }, { name := "DEGREES_TO_RADIANS", type := .double, accessFlags := 26, slot := 3, constantValue := 0 }, { name := "RADIANS_TO_DEGREES", type := .double, accessFlags := 26, slot := 4, constantValue := 0 }, { name := "negativeZeroFloatBits", type := .long, accessFlags := 26, slot := 5, constantValue := 0 }, { name := "negativeZeroDoubleBits", type := .long, accessFlags := 26, slot := 6, constantValue := 0 }, { name := "twoToTheDoubleScaleUp", type := .double, accessFlags := 8, slot := 7, constantValue := 0 }, { name := "twoToTheDoubleScaleDown", type := .double, accessFlags := 8, slot := 8, constantValue := 0 }, { name := "$assertionsDisabled", type := .boolean, accessFlags := 4120, slot := 9, constantValue := 0 }]
  methods := #[k28m0, k28m1, k28m2]
  instanceTypes := #[]
  staticTypes := #[.double, .double, .double, .double, .double, .long, .long, .double, .double, .boolean]
  resolved := Array.replicate 460 none
  statics := none }

def pool29 : Array CpInfo := pool [(2, .class_ 4), (1, u "java/lang/Object"), (0, u "<init>"), (0, u "()V"), (7, .class_ 16), (1, u "java/util/Arrays"), (57, .class_ 76), (1, u "java/util/Arrays$NaturalOrder"), (9, .methodref 2 87), (0, .nameAndType 88 89), (0, u "getClass"), (0, u "()Ljava/lang/Class;"), (20, .class_ 111), (0, u "[Ljava/lang/Object;"), (1, .class_ 115), (1, u "java/util/Arrays$LegacyMergeSort"), (1, u "Z"), (32, .methodref 151 152), (0, .class_ 153), (0, .nameAndType 154 155), (0, u "java/lang/System"), (0, u "arraycopy"), (0, u "(Ljava/lang/Object;ILjava/lang/Object;II)V"), (144, .methodref 14 301), (0, .nameAndType 302 303), (0, u "copyOf"), (0, u "([Ljava/lang/Object;ILjava/lang/Class;)[Ljava/lang/Object;"), (0, .methodref 305 306), (0, .class_ 307), (0, .nameAndType 308 309), (0, u "java/lang/Math"), (0, u "min"), (0, u "(II)I"), (65, .class_ 376), (0, u "java/util/Arrays$ArrayList"), (68, u "$assertionsDisabled"), (269, u "MIN_ARRAY_SORT_GRAN"), (0, u "I"), (2, u "INSERTIONSORT_THRESHOLD"), (140, u "([Ljava/lang/Object;I)[Ljava/lang/Object;"), (114, .class_ 976), (0, u "java/util/Arrays$ArrayItr")] 52

def k29m0 : Method := { name := "<init>", desc := "()V", sig := { parameters := [], returnType := none }, accessFlags := 2, code := none }
def k29c1 : Code := { maxStack := 3, maxLocals := 2, code := jdk_65_method_119_code, exceptionTable := #[], attributes := #[] }
def k29m1 : Method := { name := "copyOf", desc := "([Ljava/lang/Object;I)[Ljava/lang/Object;", sig := { parameters := [(.array (.object "java/lang/Object")), .int], returnType := some (.array (.object "java/lang/Object")) }, accessFlags := 9, code := some k29c1 }
def k29c2 : Code := { maxStack := 6, maxLocals := 4, code := jdk_65_method_120_code, exceptionTable := #[], attributes := #[] }
def k29m2 : Method := { name := "copyOf", desc := "([Ljava/lang/Object;ILjava/lang/Class;)[Ljava/lang/Object;", sig := { parameters := [(.array (.object "java/lang/Object")), .int, (.object "java/lang/Class")], returnType := some (.array (.object "java/lang/Object")) }, accessFlags := 9, code := some k29c2 }
/-- java/util/Arrays -/
def k29 : Class := { plain "java/util/Arrays" (some 0) with
  accessFlags := 49
  interfaces := #[]
  cf := some (fileOf pool29 14 #[.nestMembers #[975, 375, 113, 74]] #[{ accessFlags := 2, nameIndex := 5, descriptorIndex := 6, attributes := #[] }, { accessFlags := 9, nameIndex := 302, descriptorIndex := 860, attributes := #[] }, { accessFlags := 9, nameIndex := 302, descriptorIndex := 303, attributes := #[] }] 49 2 #[] #[{ accessFlags := 26, nameIndex := 715, descriptorIndex := 716, attributes := #[] }, { accessFlags := 26, nameIndex := 719, descriptorIndex := 716, attributes := #[] }, { accessFlags := 4120, nameIndex := 445, descriptorIndex := 117, attributes := #[] }])
  fields := #[{ name := "MIN_ARRAY_SORT_GRAN", type := .int, accessFlags := 26, slot := 0, constantValue := 0 }, { name := "INSERTIONSORT_THRESHOLD", type := .int, accessFlags := 26, slot := 1, constantValue := 0 }, { name := "$assertionsDisabled", type := .boolean, accessFlags := 4120, slot := 2, constantValue := 0 }]
  methods := #[k29m0, k29m1, k29m2]
  instanceTypes := #[]
  staticTypes := #[.int, .int, .boolean]
  resolved := Array.replicate 1029 none
  statics := none }

def pool30 : Array CpInfo := pool [(2, .class_ 4), (1, u "java/lang/Object"), (0, u "<init>"), (0, u "()V"), (1, .class_ 10), (1, u "java/lang/System"), (0, u "allowSecurityManager"), (0, u "I"), (16, u "cons"), (0, u "Ljava/io/Console;"), (77, .class_ 110), (1, u "java/lang/System$CallersHolder"), (43, u "initialErrStream"), (0, u "Ljava/io/PrintStream;"), (19, u "security"), (0, u "Ljava/lang/SecurityManager;"), (31, .class_ 209), (0, u "java/lang/System$1"), (7, u "props"), (0, u "Ljava/util/Properties;"), (2, u "lineSeparator"), (0, u "Ljava/lang/String;"), (96, .class_ 321), (1, u "java/lang/System$LoggerFinder"), (5, .class_ 328), (0, u "java/lang/System$Logger"), (67, u "err"), (2, u "out"), (91, u "notSupportedJnuEncoding"), (15, u "in"), (17, u "initialIn"), (0, u "Ljava/io/InputStream;"), (35, u "bootLayer"), (0, u "Ljava/lang/ModuleLayer;"), (99, .class_ 664), (0, u "java/lang/System$2"), (9, u "NEVER"), (2, u "MAYBE"), (49, u "arraycopy"), (0, u "(Ljava/lang/Object;ILjava/lang/Object;II)V"), (72, .class_ 802), (0, u "java/lang/System$Logger$Level")] 31

def k30m0 : Method := { name := "<init>", desc := "()V", sig := { parameters := [], returnType := none }, accessFlags := 2, code := none }
def k30m1 : Method := { name := "arraycopy", desc := "(Ljava/lang/Object;ILjava/lang/Object;II)V", sig := { parameters := [(.object "java/lang/Object"), .int, (.object "java/lang/Object"), .int, .int], returnType := none }, accessFlags := 265, code := none }
/-- java/lang/System -/
def k30 : Class := { plain "java/lang/System" (some 0) with
  accessFlags := 49
  interfaces := #[]
  cf := some (fileOf pool30 8 #[.nestMembers #[319, 327, 801, 108, 663, 208]] #[{ accessFlags := 2, nameIndex := 5, descriptorIndex := 6, attributes := #[] }, { accessFlags := 265, nameIndex := 727, descriptorIndex := 728, attributes := #[] }] 49 2 #[] #[{ accessFlags := 25, nameIndex := 507, descriptorIndex := 526, attributes := #[] }, { accessFlags := 25, nameIndex := 399, descriptorIndex := 155, attributes := #[] }, { accessFlags := 25, nameIndex := 396, descriptorIndex := 155, attributes := #[] }, { accessFlags := 10, nameIndex := 525, descriptorIndex := 526, attributes := #[] }, { accessFlags := 26, nameIndex := 674, descriptorIndex := 12, attributes := #[] }, { accessFlags := 26, nameIndex := 677, descriptorIndex := 12, attributes := #[] }, { accessFlags := 10, nameIndex := 11, descriptorIndex := 12, attributes := #[] }, { accessFlags := 74, nameIndex := 175, descriptorIndex := 176, attributes := #[] }, { accessFlags := 10, nameIndex := 491, descriptorIndex := 222, attributes := #[] }, { accessFlags := 74, nameIndex := 29, descriptorIndex := 30, attributes := #[] }, { accessFlags := 74, nameIndex := 154, descriptorIndex := 155, attributes := #[] }, { accessFlags := 10, nameIndex := 217, descriptorIndex := 218, attributes := #[] }, { accessFlags := 10, nameIndex := 221, descriptorIndex := 222, attributes := #[] }, { accessFlags := 8, nameIndex := 562, descriptorIndex := 563, attributes := #[] }])
  fields := #[{ name := "in", type := (.object "java/io/InputStream"), accessFlags := 25, slot := 0, constantValue := 0 }, { name := "out", type := (.object "java/io/PrintStream"), accessFlags := 25, slot := 1, constantValue := 0 }, { name := "err", type := (.object "java/io/PrintStream"), accessFlags := 25, slot := 2, constantValue := 0 }, { name := "initialIn", type := (.object "java/io/InputStream"), accessFlags := 10, slot := 3, constantValue := 0 }, { name := "NEVER", type := .int, accessFlags := 26, slot := 4, constantValue := 0 }, { name := "MAYBE", type := .int, accessFlags := 26, slot := 5, constantValue := 0 }, { name := "allowSecurityManager", type := .int, accessFlags := 10, slot := 6, constantValue := 0 }, { name := "security", type := (.object "java/lang/SecurityManager"), accessFlags := 74, slot := 7, constantValue := 0 }, { name := "notSupportedJnuEncoding", type := (.object "java/lang/String"), accessFlags := 10, slot := 8, constantValue := 0 }, { name := "cons", type := (.object "java/io/Console"), accessFlags := 74, slot := 9, constantValue := 0 }, { name := "initialErrStream", type := (.object "java/io/PrintStream"), accessFlags := 74, slot := 10, constantValue := 0 }, { name := "props", type := (.object "java/util/Properties"), accessFlags := 10, slot := 11, constantValue := 0 }, { name := "lineSeparator", type := (.object "java/lang/String"), accessFlags := 10, slot := 12, constantValue := 0 }, { name := "bootLayer", type := (.object "java/lang/ModuleLayer"), accessFlags := 8, slot := 13, constantValue := 0 }]
  methods := #[k30m0, k30m1]
  instanceTypes := #[]
  staticTypes := #[(.object "java/io/InputStream"), (.object "java/io/PrintStream"), (.object "java/io/PrintStream"), (.object "java/io/InputStream"), .int, .int, .int, (.object "java/lang/SecurityManager"), (.object "java/lang/String"), (.object "java/io/Console"), (.object "java/io/PrintStream"), (.object "java/util/Properties"), (.object "java/lang/String"), (.object "java/lang/ModuleLayer")]
  resolved := Array.replicate 834 none
  statics := none }

def pool31 : Array CpInfo := pool [(2, .class_ 4), (1, u "java/lang/Object"), (0, u "<init>"), (0, u "()V"), (35, .class_ 44), (1, u "java/util/Objects"), (0, u "requireNonNull"), (0, u "(Ljava/lang/Object;)Ljava/lang/Object;")] 137

def k31m0 : Method := { name := "<init>", desc := "()V", sig := { parameters := [], returnType := none }, accessFlags := 2, code := none }
def k31c1 : Code := { maxStack := 2, maxLocals := 1, code := jdk_31_method_10_code, exceptionTable := #[], attributes := #[] }
def k31m1 : Method := { name := "requireNonNull", desc := "(Ljava/lang/Object;)Ljava/lang/Object;", sig := { parameters := [(.object "java/lang/Object")], returnType := some (.object "java/lang/Object") }, accessFlags := 9, code := some k31c1 }
/-- java/util/Objects -/
def k31 : Class := { plain "java/util/Objects" (some 0) with
  accessFlags := 49
  interfaces := #[]
  cf := some (fileOf pool31 42 #[] #[{ accessFlags := 2, nameIndex := 5, descriptorIndex := 6, attributes := #[] }, { accessFlags := 9, nameIndex := 45, descriptorIndex := 46, attributes := #[] }] 49 2 #[] #[])
  fields := #[]
  methods := #[k31m0, k31m1]
  instanceTypes := #[]
  staticTypes := #[]
  resolved := Array.replicate 184 none
  statics := none }

def pool32 : Array CpInfo := pool [(1, u "java/lang/Class"), (0, .class_ 1), (0, u "java/lang/Object"), (0, .class_ 3)] 3

/-- java/lang/Class -/
def k32 : Class := { plain "java/lang/Class" (some 0) with
  accessFlags := 49
  interfaces := #[]
  cf := some (fileOf pool32 2 #[] #[] 49 4 #[] #[])
  fields := #[]
  methods := #[]
  instanceTypes := #[]
  staticTypes := #[]
  resolved := Array.replicate 8 none
  statics := none }

/-- the primitive byte -/
def k33 : Class := { plain "byte" none with kind := .primitive 'B', accessFlags := 0x411 }
/-- [B -/
def k34 : Class := { plain "[B" (some 0) with kind := .array 33 .byte, interfaces := #[9, 10], accessFlags := 1041 }

/-- the primitive int -/
def k35 : Class := { plain "int" none with kind := .primitive 'I', accessFlags := 0x411 }
/-- [I -/
def k36 : Class := { plain "[I" (some 0) with kind := .array 35 .int, interfaces := #[9, 10], accessFlags := 1041 }

/-- [Ljava/lang/Integer; -/
def k37 : Class := { plain "[Ljava/lang/Integer;" (some 0) with kind := .array 26 (.object "java/lang/Integer"), interfaces := #[9, 10], accessFlags := 1041 }

/-- [Ljava/lang/Object; -/
def k38 : Class := { plain "[Ljava/lang/Object;" (some 0) with mirror := some 4, kind := .array 0 (.object "java/lang/Object"), interfaces := #[9, 10], accessFlags := 1041 }

def heap : Heap := #[{ cls := 11, slots := #[.long 0, .int 0, .ref 7, .ref 6], vm := .statics 11 },
  { cls := 14, slots := #[.long 0, .int 0, .null, .ref 266, .ref 265, .null, .null, .null, .int 0, .int 1], vm := .statics 14 },
  { cls := 23, slots := #[.ref 267, .null, .ref 268, .ref 269, .null], vm := .statics 23 },
  { cls := 27, slots := #[.int 0, .int 127, .ref 5, .null, .int 0], vm := .statics 27 },
  { cls := 32, slots := #[], vm := .mirror 38 },
  { cls := 37, slots := #[.ref 9, .ref 10, .ref 11, .ref 12, .ref 13, .ref 14, .ref 15, .ref 16, .ref 17, .ref 18, .ref 19, .ref 20, .ref 21, .ref 22, .ref 23, .ref 24, .ref 25, .ref 26, .ref 27, .ref 28, .ref 29, .ref 30, .ref 31, .ref 32, .ref 33, .ref 34, .ref 35, .ref 36, .ref 37, .ref 38, .ref 39, .ref 40, .ref 41, .ref 42, .ref 43, .ref 44, .ref 45, .ref 46, .ref 47, .ref 48, .ref 49, .ref 50, .ref 51, .ref 52, .ref 53, .ref 54, .ref 55, .ref 56, .ref 57, .ref 58, .ref 59, .ref 60, .ref 61, .ref 62, .ref 63, .ref 64, .ref 65, .ref 66, .ref 67, .ref 68, .ref 69, .ref 70, .ref 71, .ref 72, .ref 73, .ref 74, .ref 75, .ref 76, .ref 77, .ref 78, .ref 79, .ref 80, .ref 81, .ref 82, .ref 83, .ref 84, .ref 85, .ref 86, .ref 87, .ref 88, .ref 89, .ref 90, .ref 91, .ref 92, .ref 93, .ref 94, .ref 95, .ref 96, .ref 97, .ref 98, .ref 99, .ref 100, .ref 101, .ref 102, .ref 103, .ref 104, .ref 105, .ref 106, .ref 107, .ref 108, .ref 109, .ref 110, .ref 111, .ref 112, .ref 113, .ref 114, .ref 115, .ref 116, .ref 117, .ref 118, .ref 119, .ref 120, .ref 121, .ref 122, .ref 123, .ref 124, .ref 125, .ref 126, .ref 127, .ref 128, .ref 129, .ref 130, .ref 131, .ref 132, .ref 133, .ref 134, .ref 135, .ref 136, .ref 137, .ref 138, .ref 139, .ref 140, .ref 141, .ref 142, .ref 143, .ref 144, .ref 145, .ref 146, .ref 147, .ref 148, .ref 149, .ref 150, .ref 151, .ref 152, .ref 153, .ref 154, .ref 155, .ref 156, .ref 157, .ref 158, .ref 159, .ref 160, .ref 161, .ref 162, .ref 163, .ref 164, .ref 165, .ref 166, .ref 167, .ref 168, .ref 169, .ref 170, .ref 171, .ref 172, .ref 173, .ref 174, .ref 175, .ref 176, .ref 177, .ref 178, .ref 179, .ref 180, .ref 181, .ref 182, .ref 183, .ref 184, .ref 185, .ref 186, .ref 187, .ref 188, .ref 189, .ref 190, .ref 191, .ref 192, .ref 193, .ref 194, .ref 195, .ref 196, .ref 197, .ref 198, .ref 199, .ref 200, .ref 201, .ref 202, .ref 203, .ref 204, .ref 205, .ref 206, .ref 207, .ref 208, .ref 209, .ref 210, .ref 211, .ref 212, .ref 213, .ref 214, .ref 215, .ref 216, .ref 217, .ref 218, .ref 219, .ref 220, .ref 221, .ref 222, .ref 223, .ref 224, .ref 225, .ref 226, .ref 227, .ref 228, .ref 229, .ref 230, .ref 231, .ref 232, .ref 233, .ref 234, .ref 235, .ref 236, .ref 237, .ref 238, .ref 239, .ref 240, .ref 241, .ref 242, .ref 243, .ref 244, .ref 245, .ref 246, .ref 247, .ref 248, .ref 249, .ref 250, .ref 251, .ref 252, .ref 253, .ref 254, .ref 255, .ref 256, .ref 257, .ref 258, .ref 259, .ref 260, .ref 261, .ref 262, .ref 263, .ref 264], vm := .none },
  { cls := 38, slots := #[], vm := .none },
  { cls := 38, slots := #[], vm := .none },
  { cls := 38, slots := #[], vm := .none },
  { cls := 26, slots := #[.int (-128)], vm := .none },
  { cls := 26, slots := #[.int (-127)], vm := .none },
  { cls := 26, slots := #[.int (-126)], vm := .none },
  { cls := 26, slots := #[.int (-125)], vm := .none },
  { cls := 26, slots := #[.int (-124)], vm := .none },
  { cls := 26, slots := #[.int (-123)], vm := .none },
  { cls := 26, slots := #[.int (-122)], vm := .none },
  { cls := 26, slots := #[.int (-121)], vm := .none },
  { cls := 26, slots := #[.int (-120)], vm := .none },
  { cls := 26, slots := #[.int (-119)], vm := .none },
  { cls := 26, slots := #[.int (-118)], vm := .none },
  { cls := 26, slots := #[.int (-117)], vm := .none },
  { cls := 26, slots := #[.int (-116)], vm := .none },
  { cls := 26, slots := #[.int (-115)], vm := .none },
  { cls := 26, slots := #[.int (-114)], vm := .none },
  { cls := 26, slots := #[.int (-113)], vm := .none },
  { cls := 26, slots := #[.int (-112)], vm := .none },
  { cls := 26, slots := #[.int (-111)], vm := .none },
  { cls := 26, slots := #[.int (-110)], vm := .none },
  { cls := 26, slots := #[.int (-109)], vm := .none },
  { cls := 26, slots := #[.int (-108)], vm := .none },
  { cls := 26, slots := #[.int (-107)], vm := .none },
  { cls := 26, slots := #[.int (-106)], vm := .none },
  { cls := 26, slots := #[.int (-105)], vm := .none },
  { cls := 26, slots := #[.int (-104)], vm := .none },
  { cls := 26, slots := #[.int (-103)], vm := .none },
  { cls := 26, slots := #[.int (-102)], vm := .none },
  { cls := 26, slots := #[.int (-101)], vm := .none },
  { cls := 26, slots := #[.int (-100)], vm := .none },
  { cls := 26, slots := #[.int (-99)], vm := .none },
  { cls := 26, slots := #[.int (-98)], vm := .none },
  { cls := 26, slots := #[.int (-97)], vm := .none },
  { cls := 26, slots := #[.int (-96)], vm := .none },
  { cls := 26, slots := #[.int (-95)], vm := .none },
  { cls := 26, slots := #[.int (-94)], vm := .none },
  { cls := 26, slots := #[.int (-93)], vm := .none },
  { cls := 26, slots := #[.int (-92)], vm := .none },
  { cls := 26, slots := #[.int (-91)], vm := .none },
  { cls := 26, slots := #[.int (-90)], vm := .none },
  { cls := 26, slots := #[.int (-89)], vm := .none },
  { cls := 26, slots := #[.int (-88)], vm := .none },
  { cls := 26, slots := #[.int (-87)], vm := .none },
  { cls := 26, slots := #[.int (-86)], vm := .none },
  { cls := 26, slots := #[.int (-85)], vm := .none },
  { cls := 26, slots := #[.int (-84)], vm := .none },
  { cls := 26, slots := #[.int (-83)], vm := .none },
  { cls := 26, slots := #[.int (-82)], vm := .none },
  { cls := 26, slots := #[.int (-81)], vm := .none },
  { cls := 26, slots := #[.int (-80)], vm := .none },
  { cls := 26, slots := #[.int (-79)], vm := .none },
  { cls := 26, slots := #[.int (-78)], vm := .none },
  { cls := 26, slots := #[.int (-77)], vm := .none },
  { cls := 26, slots := #[.int (-76)], vm := .none },
  { cls := 26, slots := #[.int (-75)], vm := .none },
  { cls := 26, slots := #[.int (-74)], vm := .none },
  { cls := 26, slots := #[.int (-73)], vm := .none },
  { cls := 26, slots := #[.int (-72)], vm := .none },
  { cls := 26, slots := #[.int (-71)], vm := .none },
  { cls := 26, slots := #[.int (-70)], vm := .none },
  { cls := 26, slots := #[.int (-69)], vm := .none },
  { cls := 26, slots := #[.int (-68)], vm := .none },
  { cls := 26, slots := #[.int (-67)], vm := .none },
  { cls := 26, slots := #[.int (-66)], vm := .none },
  { cls := 26, slots := #[.int (-65)], vm := .none },
  { cls := 26, slots := #[.int (-64)], vm := .none },
  { cls := 26, slots := #[.int (-63)], vm := .none },
  { cls := 26, slots := #[.int (-62)], vm := .none },
  { cls := 26, slots := #[.int (-61)], vm := .none },
  { cls := 26, slots := #[.int (-60)], vm := .none },
  { cls := 26, slots := #[.int (-59)], vm := .none },
  { cls := 26, slots := #[.int (-58)], vm := .none },
  { cls := 26, slots := #[.int (-57)], vm := .none },
  { cls := 26, slots := #[.int (-56)], vm := .none },
  { cls := 26, slots := #[.int (-55)], vm := .none },
  { cls := 26, slots := #[.int (-54)], vm := .none },
  { cls := 26, slots := #[.int (-53)], vm := .none },
  { cls := 26, slots := #[.int (-52)], vm := .none },
  { cls := 26, slots := #[.int (-51)], vm := .none },
  { cls := 26, slots := #[.int (-50)], vm := .none },
  { cls := 26, slots := #[.int (-49)], vm := .none },
  { cls := 26, slots := #[.int (-48)], vm := .none },
  { cls := 26, slots := #[.int (-47)], vm := .none },
  { cls := 26, slots := #[.int (-46)], vm := .none },
  { cls := 26, slots := #[.int (-45)], vm := .none },
  { cls := 26, slots := #[.int (-44)], vm := .none },
  { cls := 26, slots := #[.int (-43)], vm := .none },
  { cls := 26, slots := #[.int (-42)], vm := .none },
  { cls := 26, slots := #[.int (-41)], vm := .none },
  { cls := 26, slots := #[.int (-40)], vm := .none },
  { cls := 26, slots := #[.int (-39)], vm := .none },
  { cls := 26, slots := #[.int (-38)], vm := .none },
  { cls := 26, slots := #[.int (-37)], vm := .none },
  { cls := 26, slots := #[.int (-36)], vm := .none },
  { cls := 26, slots := #[.int (-35)], vm := .none },
  { cls := 26, slots := #[.int (-34)], vm := .none },
  { cls := 26, slots := #[.int (-33)], vm := .none },
  { cls := 26, slots := #[.int (-32)], vm := .none },
  { cls := 26, slots := #[.int (-31)], vm := .none },
  { cls := 26, slots := #[.int (-30)], vm := .none },
  { cls := 26, slots := #[.int (-29)], vm := .none },
  { cls := 26, slots := #[.int (-28)], vm := .none },
  { cls := 26, slots := #[.int (-27)], vm := .none },
  { cls := 26, slots := #[.int (-26)], vm := .none },
  { cls := 26, slots := #[.int (-25)], vm := .none },
  { cls := 26, slots := #[.int (-24)], vm := .none },
  { cls := 26, slots := #[.int (-23)], vm := .none },
  { cls := 26, slots := #[.int (-22)], vm := .none },
  { cls := 26, slots := #[.int (-21)], vm := .none },
  { cls := 26, slots := #[.int (-20)], vm := .none },
  { cls := 26, slots := #[.int (-19)], vm := .none },
  { cls := 26, slots := #[.int (-18)], vm := .none },
  { cls := 26, slots := #[.int (-17)], vm := .none },
  { cls := 26, slots := #[.int (-16)], vm := .none },
  { cls := 26, slots := #[.int (-15)], vm := .none },
  { cls := 26, slots := #[.int (-14)], vm := .none },
  { cls := 26, slots := #[.int (-13)], vm := .none },
  { cls := 26, slots := #[.int (-12)], vm := .none },
  { cls := 26, slots := #[.int (-11)], vm := .none },
  { cls := 26, slots := #[.int (-10)], vm := .none },
  { cls := 26, slots := #[.int (-9)], vm := .none },
  { cls := 26, slots := #[.int (-8)], vm := .none },
  { cls := 26, slots := #[.int (-7)], vm := .none },
  { cls := 26, slots := #[.int (-6)], vm := .none },
  { cls := 26, slots := #[.int (-5)], vm := .none },
  { cls := 26, slots := #[.int (-4)], vm := .none },
  { cls := 26, slots := #[.int (-3)], vm := .none },
  { cls := 26, slots := #[.int (-2)], vm := .none },
  { cls := 26, slots := #[.int (-1)], vm := .none },
  { cls := 26, slots := #[.int (0)], vm := .none },
  { cls := 26, slots := #[.int (1)], vm := .none },
  { cls := 26, slots := #[.int (2)], vm := .none },
  { cls := 26, slots := #[.int (3)], vm := .none },
  { cls := 26, slots := #[.int (4)], vm := .none },
  { cls := 26, slots := #[.int (5)], vm := .none },
  { cls := 26, slots := #[.int (6)], vm := .none },
  { cls := 26, slots := #[.int (7)], vm := .none },
  { cls := 26, slots := #[.int (8)], vm := .none },
  { cls := 26, slots := #[.int (9)], vm := .none },
  { cls := 26, slots := #[.int (10)], vm := .none },
  { cls := 26, slots := #[.int (11)], vm := .none },
  { cls := 26, slots := #[.int (12)], vm := .none },
  { cls := 26, slots := #[.int (13)], vm := .none },
  { cls := 26, slots := #[.int (14)], vm := .none },
  { cls := 26, slots := #[.int (15)], vm := .none },
  { cls := 26, slots := #[.int (16)], vm := .none },
  { cls := 26, slots := #[.int (17)], vm := .none },
  { cls := 26, slots := #[.int (18)], vm := .none },
  { cls := 26, slots := #[.int (19)], vm := .none },
  { cls := 26, slots := #[.int (20)], vm := .none },
  { cls := 26, slots := #[.int (21)], vm := .none },
  { cls := 26, slots := #[.int (22)], vm := .none },
  { cls := 26, slots := #[.int (23)], vm := .none },
  { cls := 26, slots := #[.int (24)], vm := .none },
  { cls := 26, slots := #[.int (25)], vm := .none },
  { cls := 26, slots := #[.int (26)], vm := .none },
  { cls := 26, slots := #[.int (27)], vm := .none },
  { cls := 26, slots := #[.int (28)], vm := .none },
  { cls := 26, slots := #[.int (29)], vm := .none },
  { cls := 26, slots := #[.int (30)], vm := .none },
  { cls := 26, slots := #[.int (31)], vm := .none },
  { cls := 26, slots := #[.int (32)], vm := .none },
  { cls := 26, slots := #[.int (33)], vm := .none },
  { cls := 26, slots := #[.int (34)], vm := .none },
  { cls := 26, slots := #[.int (35)], vm := .none },
  { cls := 26, slots := #[.int (36)], vm := .none },
  { cls := 26, slots := #[.int (37)], vm := .none },
  { cls := 26, slots := #[.int (38)], vm := .none },
  { cls := 26, slots := #[.int (39)], vm := .none },
  { cls := 26, slots := #[.int (40)], vm := .none },
  { cls := 26, slots := #[.int (41)], vm := .none },
  { cls := 26, slots := #[.int (42)], vm := .none },
  { cls := 26, slots := #[.int (43)], vm := .none },
  { cls := 26, slots := #[.int (44)], vm := .none },
  { cls := 26, slots := #[.int (45)], vm := .none },
  { cls := 26, slots := #[.int (46)], vm := .none },
  { cls := 26, slots := #[.int (47)], vm := .none },
  { cls := 26, slots := #[.int (48)], vm := .none },
  { cls := 26, slots := #[.int (49)], vm := .none },
  { cls := 26, slots := #[.int (50)], vm := .none },
  { cls := 26, slots := #[.int (51)], vm := .none },
  { cls := 26, slots := #[.int (52)], vm := .none },
  { cls := 26, slots := #[.int (53)], vm := .none },
  { cls := 26, slots := #[.int (54)], vm := .none },
  { cls := 26, slots := #[.int (55)], vm := .none },
  { cls := 26, slots := #[.int (56)], vm := .none },
  { cls := 26, slots := #[.int (57)], vm := .none },
  { cls := 26, slots := #[.int (58)], vm := .none },
  { cls := 26, slots := #[.int (59)], vm := .none },
  { cls := 26, slots := #[.int (60)], vm := .none },
  { cls := 26, slots := #[.int (61)], vm := .none },
  { cls := 26, slots := #[.int (62)], vm := .none },
  { cls := 26, slots := #[.int (63)], vm := .none },
  { cls := 26, slots := #[.int (64)], vm := .none },
  { cls := 26, slots := #[.int (65)], vm := .none },
  { cls := 26, slots := #[.int (66)], vm := .none },
  { cls := 26, slots := #[.int (67)], vm := .none },
  { cls := 26, slots := #[.int (68)], vm := .none },
  { cls := 26, slots := #[.int (69)], vm := .none },
  { cls := 26, slots := #[.int (70)], vm := .none },
  { cls := 26, slots := #[.int (71)], vm := .none },
  { cls := 26, slots := #[.int (72)], vm := .none },
  { cls := 26, slots := #[.int (73)], vm := .none },
  { cls := 26, slots := #[.int (74)], vm := .none },
  { cls := 26, slots := #[.int (75)], vm := .none },
  { cls := 26, slots := #[.int (76)], vm := .none },
  { cls := 26, slots := #[.int (77)], vm := .none },
  { cls := 26, slots := #[.int (78)], vm := .none },
  { cls := 26, slots := #[.int (79)], vm := .none },
  { cls := 26, slots := #[.int (80)], vm := .none },
  { cls := 26, slots := #[.int (81)], vm := .none },
  { cls := 26, slots := #[.int (82)], vm := .none },
  { cls := 26, slots := #[.int (83)], vm := .none },
  { cls := 26, slots := #[.int (84)], vm := .none },
  { cls := 26, slots := #[.int (85)], vm := .none },
  { cls := 26, slots := #[.int (86)], vm := .none },
  { cls := 26, slots := #[.int (87)], vm := .none },
  { cls := 26, slots := #[.int (88)], vm := .none },
  { cls := 26, slots := #[.int (89)], vm := .none },
  { cls := 26, slots := #[.int (90)], vm := .none },
  { cls := 26, slots := #[.int (91)], vm := .none },
  { cls := 26, slots := #[.int (92)], vm := .none },
  { cls := 26, slots := #[.int (93)], vm := .none },
  { cls := 26, slots := #[.int (94)], vm := .none },
  { cls := 26, slots := #[.int (95)], vm := .none },
  { cls := 26, slots := #[.int (96)], vm := .none },
  { cls := 26, slots := #[.int (97)], vm := .none },
  { cls := 26, slots := #[.int (98)], vm := .none },
  { cls := 26, slots := #[.int (99)], vm := .none },
  { cls := 26, slots := #[.int (100)], vm := .none },
  { cls := 26, slots := #[.int (101)], vm := .none },
  { cls := 26, slots := #[.int (102)], vm := .none },
  { cls := 26, slots := #[.int (103)], vm := .none },
  { cls := 26, slots := #[.int (104)], vm := .none },
  { cls := 26, slots := #[.int (105)], vm := .none },
  { cls := 26, slots := #[.int (106)], vm := .none },
  { cls := 26, slots := #[.int (107)], vm := .none },
  { cls := 26, slots := #[.int (108)], vm := .none },
  { cls := 26, slots := #[.int (109)], vm := .none },
  { cls := 26, slots := #[.int (110)], vm := .none },
  { cls := 26, slots := #[.int (111)], vm := .none },
  { cls := 26, slots := #[.int (112)], vm := .none },
  { cls := 26, slots := #[.int (113)], vm := .none },
  { cls := 26, slots := #[.int (114)], vm := .none },
  { cls := 26, slots := #[.int (115)], vm := .none },
  { cls := 26, slots := #[.int (116)], vm := .none },
  { cls := 26, slots := #[.int (117)], vm := .none },
  { cls := 26, slots := #[.int (118)], vm := .none },
  { cls := 26, slots := #[.int (119)], vm := .none },
  { cls := 26, slots := #[.int (120)], vm := .none },
  { cls := 26, slots := #[.int (121)], vm := .none },
  { cls := 26, slots := #[.int (122)], vm := .none },
  { cls := 26, slots := #[.int (123)], vm := .none },
  { cls := 26, slots := #[.int (124)], vm := .none },
  { cls := 26, slots := #[.int (125)], vm := .none },
  { cls := 26, slots := #[.int (126)], vm := .none },
  { cls := 26, slots := #[.int (127)], vm := .none },
  { cls := 18, slots := #[.ref 8, .int 0], vm := .none },
  { cls := 0, slots := #[], vm := .none },
  { cls := 23, slots := #[.null, .int 0, .int 0], vm := .none },
  { cls := 23, slots := #[.null, .int 2, .int 0], vm := .none },
  { cls := 23, slots := #[.null, .int 3, .int 0], vm := .none }]
def classes : Array Class := #[k0, k1, k2, k3, k4, k5, k6, k7, k8, k9, k10, k11, k12, k13, k14, k15, k16, k17, k18, k19, k20, k21, k22, k23, k24, k25, k26, k27, k28, k29, k30, k31, k32, k33, k34, k35, k36, k37, k38]
def interned : List (Array UInt16 × Addr) := []
def slotsUsed : Nat := 547
def theMethod : MethodId := ⟨1, 1⟩
def args0 : Array Value := #[.int 6, .int 7, .int 8, .int 9, .int 10]
def aboutOver (below : List Frame) : State where
  vm := { classes := classes, interned := interned.toArray }
  heap := heap
  slotsUsed := slotsUsed
  threads := #[{ frames := .invoking theMethod args0 :: below }]
def below0 : List Frame := [.native { method := ⟨0, 0⟩, args := #[] }]
def about1 : State := aboutOver below0
def p0 : Program := .bare "" "" ""
def e0 : Env := launch0.env 0 0 0
theorem w_frames : about1.frames = Frame.invoking theMethod args0 :: below0 := rfl
set_option maxRecDepth 65536 in
theorem w_args : argsFit about1.vm theMethod args0 = true := by decide +kernel
set_option maxRecDepth 65536 in
theorem w_heap : heapFits about1 = true := by decide +kernel
set_option maxRecDepth 65536 in
theorem w_runnable : about1.curStatus? = some .runnable := by decide +kernel
set_option maxRecDepth 65536 in
theorem w_alone : about1.alone = true := by decide +kernel
set_option maxRecDepth 65536 in
theorem w_named : about1.methodNamed? x = some theMethod := by decide +kernel
set_option maxRecDepth 65536 in
theorem w_hears : about1.hears theMethod below0 = true := by decide +kernel
set_option maxRecDepth 65536 in
theorem w_ripe : about1.ripe theMethod args0 below0 = true := by decide +kernel
theorem w_running : about1.status = .running := rfl
set_option maxRecDepth 65536 in
theorem w_room : about1.hasRoom e0.platform room_1 = true :=
  launch0.hasRoom_least _ room_1 (by decide +kernel) (by decide +kernel) (by decide +kernel) (by decide +kernel) (by decide +kernel) (by decide +kernel)
theorem allAtoms_all (ts : List Jvm.Cond) (a : Array Jvm.Value) (st : Jvm.State) : (allAtoms ts).before a st = ts.all (fun c => c.before a st) := by
  induction ts with
  | nil => rfl
  | cons c t ih =>
    show (Jvm.Cond.and c (allAtoms t)).before a st = _
    rw [Jvm.Cond.before_and, ih, List.all_cons]
def words1 : List Jvm.Cond := Jvm.Cond.code x code maxLocals ret :: tables_1
/-- a 'code' word, met by the world's own term for the bytes: nothing is compared byte by byte -/
theorem code_word {y : MethodName} {bytes : ByteArray} {mx : Nat} {rt : Option FieldType} {a : Array Value} {s : State} {m : MethodId} {meth : Method} {c : Code} (h1 : s.methodNamed? y = some m) (h2 : s.vm.method? m = some meth) (h3 : meth.code = some c) (h4 : c.code = bytes)
    (h5 : (c.maxLocals == mx && c.exceptionTable.isEmpty && decide (c.maxStack ≤ mostOperands) && decide (meth.sig.returnType = rt) && !meth.locks && decide (parseMethodDescriptor y.desc = some meth.sig)) = true) : (Jvm.Cond.code y bytes mx rt).before a s = true := by
  simp only [Bool.and_eq_true, beq_iff_eq, Bool.not_eq_true', decide_eq_true_eq] at h5
  obtain ⟨⟨⟨⟨⟨g1, g2⟩, g3⟩, g4⟩, g5⟩, g6⟩ := h5
  simp [Cond.before, Cond.holds, Cond.value, h1, h2, h3, h4, g1, g2, g3, g4, g5, g6]
def isCode : Jvm.Cond → Bool
  | .code _ _ _ _ => true
  | _ => false
theorem all_split {L : List Jvm.Cond} {P : Jvm.Cond → Bool} (h1 : L.all (fun c => isCode c || P c) = true) (h2 : ∀ c ∈ L.filter isCode, P c = true) : L.all P = true := by
  refine List.all_eq_true.mpr fun c hc => ?_
  have h := List.all_eq_true.mp h1 c hc
  rcases Bool.eq_false_or_eq_true (isCode c) with hi | hi
  · exact h2 c (List.mem_filter.mpr ⟨hc, hi⟩)
  · simpa [hi] using h
set_option maxRecDepth 65536 in
theorem w_c0 : (Jvm.Cond.code x code maxLocals ret).before args0 about1 = true := code_word (m := ⟨1, 1⟩) (meth := k1m1) (c := k1c1) (by decide +kernel) rfl rfl rfl (by decide +kernel)
set_option maxRecDepth 65536 in
theorem w_c1 : (Jvm.Cond.code ({ cls := "java/util/ArrayList", name := "<init>", desc := "()V" } : Jvm.MethodName) jdk_38_method_2_code (1 : Nat) (Option.none : Option Jvm.ClassFile.FieldType)).before args0 about1 = true := code_word (m := ⟨11, 0⟩) (meth := k11m0) (c := k11c0) (by decide +kernel) rfl rfl rfl (by decide +kernel)
set_option maxRecDepth 65536 in
theorem w_c2 : (Jvm.Cond.code ({ cls := "java/util/AbstractList", name := "<init>", desc := "()V" } : Jvm.MethodName) jdk_39_method_1_code (1 : Nat) (Option.none : Option Jvm.ClassFile.FieldType)).before args0 about1 = true := code_word (m := ⟨7, 0⟩) (meth := k7m0) (c := k7c0) (by decide +kernel) rfl rfl rfl (by decide +kernel)
set_option maxRecDepth 65536 in
theorem w_c3 : (Jvm.Cond.code ({ cls := "java/util/AbstractCollection", name := "<init>", desc := "()V" } : Jvm.MethodName) jdk_22_method_1_code (1 : Nat) (Option.none : Option Jvm.ClassFile.FieldType)).before args0 about1 = true := code_word (m := ⟨4, 0⟩) (meth := k4m0) (c := k4c0) (by decide +kernel) rfl rfl rfl (by decide +kernel)
set_option maxRecDepth 65536 in
theorem w_c4 : (Jvm.Cond.code ({ cls := "java/lang/Object", name := "<init>", desc := "()V" } : Jvm.MethodName) object_method_1_code (1 : Nat) (Option.none : Option Jvm.ClassFile.FieldType)).before args0 about1 = true := code_word (m := ⟨0, 0⟩) (meth := k0m0) (c := k0c0) (by decide +kernel) rfl rfl rfl (by decide +kernel)
set_option maxRecDepth 65536 in
theorem w_c5 : (Jvm.Cond.code ({ cls := "com/example/tidemark/tidemark/Page", name := "<init>", desc := "(Ljava/util/List;Ljava/lang/Object;)V" } : Jvm.MethodName) prog_22_method_1_code (3 : Nat) (Option.none : Option Jvm.ClassFile.FieldType)).before args0 about1 = true := code_word (m := ⟨13, 0⟩) (meth := k13m0) (c := k13c0) (by decide +kernel) rfl rfl rfl (by decide +kernel)
set_option maxRecDepth 65536 in
theorem w_c6 : (Jvm.Cond.code ({ cls := "java/lang/Record", name := "<init>", desc := "()V" } : Jvm.MethodName) jdk_30_method_1_code (1 : Nat) (Option.none : Option Jvm.ClassFile.FieldType)).before args0 about1 = true := code_word (m := ⟨12, 0⟩) (meth := k12m0) (c := k12c0) (by decide +kernel) rfl rfl rfl (by decide +kernel)
set_option maxRecDepth 65536 in
theorem w_c7 : (Jvm.Cond.code ({ cls := "java/util/List", name := "copyOf", desc := "(Ljava/util/Collection;)Ljava/util/List;" } : Jvm.MethodName) jdk_40_method_48_code (1 : Nat) (Option.some (Jvm.ClassFile.FieldType.object "java/util/List"))).before args0 about1 = true := code_word (m := ⟨6, 4⟩) (meth := k6m4) (c := k6c4) (by decide +kernel) rfl rfl rfl (by decide +kernel)
set_option maxRecDepth 65536 in
theorem w_c8 : (Jvm.Cond.code ({ cls := "java/util/ImmutableCollections", name := "listCopy", desc := "(Ljava/util/Collection;)Ljava/util/List;" } : Jvm.MethodName) jdk_56_method_3_code (2 : Nat) (Option.some (Jvm.ClassFile.FieldType.object "java/util/List"))).before args0 about1 = true := code_word (m := ⟨14, 1⟩) (meth := k14m1) (c := k14c1) (by decide +kernel) rfl rfl rfl (by decide +kernel)
set_option maxRecDepth 65536 in
theorem w_c9 : (Jvm.Cond.code ({ cls := "java/util/ArrayList", name := "isEmpty", desc := "()Z" } : Jvm.MethodName) jdk_38_method_9_code (1 : Nat) (Option.some Jvm.ClassFile.FieldType.boolean)).before args0 about1 = true := code_word (m := ⟨11, 3⟩) (meth := k11m3) (c := k11c3) (by decide +kernel) rfl rfl rfl (by decide +kernel)
set_option maxRecDepth 65536 in
theorem w_c10 : (Jvm.Cond.code ({ cls := "java/util/List", name := "of", desc := "()Ljava/util/List;" } : Jvm.MethodName) jdk_40_method_36_code (0 : Nat) (Option.some (Jvm.ClassFile.FieldType.object "java/util/List"))).before args0 about1 = true := code_word (m := ⟨6, 2⟩) (meth := k6m2) (c := k6c2) (by decide +kernel) rfl rfl rfl (by decide +kernel)
set_option maxRecDepth 65536 in
theorem w_c11 : (Jvm.Cond.code ({ cls := "com/example/tidemark/tidemark/PagedList", name := "first", desc := "(Lcom/example/tidemark/tidemark/Page;)Lcom/example/tidemark/tidemark/PagedList;" } : Jvm.MethodName) prog_23_method_2_code (1 : Nat) (Option.some (Jvm.ClassFile.FieldType.object "com/example/tidemark/tidemark/PagedList"))).before args0 about1 = true := code_word (m := ⟨19, 1⟩) (meth := k19m1) (c := k19c1) (by decide +kernel) rfl rfl rfl (by decide +kernel)
set_option maxRecDepth 65536 in
theorem w_c12 : (Jvm.Cond.code ({ cls := "com/example/tidemark/tidemark/Page", name := "items", desc := "()Ljava/util/List;" } : Jvm.MethodName) prog_22_method_6_code (1 : Nat) (Option.some (Jvm.ClassFile.FieldType.object "java/util/List"))).before args0 about1 = true := code_word (m := ⟨13, 1⟩) (meth := k13m1) (c := k13c1) (by decide +kernel) rfl rfl rfl (by decide +kernel)
set_option maxRecDepth 65536 in
theorem w_c13 : (Jvm.Cond.code ({ cls := "com/example/tidemark/tidemark/Page", name := "nextKey", desc := "()Ljava/lang/Object;" } : Jvm.MethodName) prog_22_method_7_code (1 : Nat) (Option.some (Jvm.ClassFile.FieldType.object "java/lang/Object"))).before args0 about1 = true := code_word (m := ⟨13, 2⟩) (meth := k13m2) (c := k13c2) (by decide +kernel) rfl rfl rfl (by decide +kernel)
set_option maxRecDepth 65536 in
theorem w_c14 : (Jvm.Cond.code ({ cls := "com/example/tidemark/tidemark/PagedList", name := "restingFooter", desc := "(Ljava/lang/Object;)Lcom/example/tidemark/tidemark/PagedList$Footer;" } : Jvm.MethodName) prog_23_method_12_code (1 : Nat) (Option.some (Jvm.ClassFile.FieldType.object "com/example/tidemark/tidemark/PagedList$Footer"))).before args0 about1 = true := code_word (m := ⟨19, 6⟩) (meth := k19m6) (c := k19c6) (by decide +kernel) rfl rfl rfl (by decide +kernel)
set_option maxRecDepth 65536 in
theorem w_c15 : (Jvm.Cond.code ({ cls := "com/example/tidemark/tidemark/PagedList", name := "<init>", desc := "(Ljava/util/List;Lcom/example/tidemark/tidemark/PagedList$Footer;Ljava/lang/Throwable;Ljava/lang/Object;)V" } : Jvm.MethodName) prog_23_method_1_code (5 : Nat) (Option.none : Option Jvm.ClassFile.FieldType)).before args0 about1 = true := code_word (m := ⟨19, 0⟩) (meth := k19m0) (c := k19c0) (by decide +kernel) rfl rfl rfl (by decide +kernel)
set_option maxRecDepth 65536 in
theorem w_c16 : (Jvm.Cond.code ({ cls := "com/example/tidemark/tidemark/PagedList", name := "items", desc := "()Ljava/util/List;" } : Jvm.MethodName) prog_23_method_3_code (1 : Nat) (Option.some (Jvm.ClassFile.FieldType.object "java/util/List"))).before args0 about1 = true := code_word (m := ⟨19, 2⟩) (meth := k19m2) (c := k19c2) (by decide +kernel) rfl rfl rfl (by decide +kernel)
set_option maxRecDepth 65536 in
theorem w_c17 : (Jvm.Cond.code ({ cls := "java/util/ImmutableCollections$ListN", name := "size", desc := "()I" } : Jvm.MethodName) jdk_45_method_3_code (1 : Nat) (Option.some Jvm.ClassFile.FieldType.int)).before args0 about1 = true := code_word (m := ⟨18, 1⟩) (meth := k18m1) (c := k18c1) (by decide +kernel) rfl rfl rfl (by decide +kernel)
set_option maxRecDepth 65536 in
theorem w_c18 : (Jvm.Cond.code ({ cls := "com/example/tidemark/tidemark/PagedList", name := "footer", desc := "()Lcom/example/tidemark/tidemark/PagedList$Footer;" } : Jvm.MethodName) prog_23_method_4_code (1 : Nat) (Option.some (Jvm.ClassFile.FieldType.object "com/example/tidemark/tidemark/PagedList$Footer"))).before args0 about1 = true := code_word (m := ⟨19, 3⟩) (meth := k19m3) (c := k19c3) (by decide +kernel) rfl rfl rfl (by decide +kernel)
set_option maxRecDepth 65536 in
theorem w_c19 : (Jvm.Cond.code ({ cls := "com/example/tidemark/tidemark/PagedList", name := "canLoadMore", desc := "()Z" } : Jvm.MethodName) prog_23_method_6_code (1 : Nat) (Option.some Jvm.ClassFile.FieldType.boolean)).before args0 about1 = true := code_word (m := ⟨19, 4⟩) (meth := k19m4) (c := k19c4) (by decide +kernel) rfl rfl rfl (by decide +kernel)
set_option maxRecDepth 65536 in
theorem w_c20 : (Jvm.Cond.code ({ cls := "com/example/tidemark/tidemark/PagedList", name := "nextKey", desc := "()Ljava/lang/Object;" } : Jvm.MethodName) prog_23_method_7_code (1 : Nat) (Option.some (Jvm.ClassFile.FieldType.object "java/lang/Object"))).before args0 about1 = true := code_word (m := ⟨19, 5⟩) (meth := k19m5) (c := k19c5) (by decide +kernel) rfl rfl rfl (by decide +kernel)
set_option maxRecDepth 65536 in
theorem w_c21 : (Jvm.Cond.code ({ cls := "java/lang/Integer", name := "valueOf", desc := "(I)Ljava/lang/Integer;" } : Jvm.MethodName) jdk_33_method_22_code (1 : Nat) (Option.some (Jvm.ClassFile.FieldType.object "java/lang/Integer"))).before args0 about1 = true := code_word (m := ⟨26, 0⟩) (meth := k26m0) (c := k26c0) (by decide +kernel) rfl rfl rfl (by decide +kernel)
set_option maxRecDepth 65536 in
theorem w_c22 : (Jvm.Cond.code ({ cls := "java/util/ArrayList", name := "add", desc := "(Ljava/lang/Object;)Z" } : Jvm.MethodName) jdk_38_method_25_code (2 : Nat) (Option.some Jvm.ClassFile.FieldType.boolean)).before args0 about1 = true := code_word (m := ⟨11, 6⟩) (meth := k11m6) (c := k11c6) (by decide +kernel) rfl rfl rfl (by decide +kernel)
set_option maxRecDepth 65536 in
theorem w_c23 : (Jvm.Cond.code ({ cls := "java/util/ArrayList", name := "add", desc := "(Ljava/lang/Object;[Ljava/lang/Object;I)V" } : Jvm.MethodName) jdk_38_method_24_code (4 : Nat) (Option.none : Option Jvm.ClassFile.FieldType)).before args0 about1 = true := code_word (m := ⟨11, 5⟩) (meth := k11m5) (c := k11c5) (by decide +kernel) rfl rfl rfl (by decide +kernel)
set_option maxRecDepth 65536 in
theorem w_c24 : (Jvm.Cond.code ({ cls := "java/util/ArrayList", name := "grow", desc := "()[Ljava/lang/Object;" } : Jvm.MethodName) jdk_38_method_7_code (1 : Nat) (Option.some (Jvm.ClassFile.FieldType.array (Jvm.ClassFile.FieldType.object "java/lang/Object")))).before args0 about1 = true := code_word (m := ⟨11, 2⟩) (meth := k11m2) (c := k11c2) (by decide +kernel) rfl rfl rfl (by decide +kernel)
set_option maxRecDepth 65536 in
theorem w_c25 : (Jvm.Cond.code ({ cls := "java/util/ArrayList", name := "grow", desc := "(I)[Ljava/lang/Object;" } : Jvm.MethodName) jdk_38_method_6_code (4 : Nat) (Option.some (Jvm.ClassFile.FieldType.array (Jvm.ClassFile.FieldType.object "java/lang/Object")))).before args0 about1 = true := code_word (m := ⟨11, 1⟩) (meth := k11m1) (c := k11c1) (by decide +kernel) rfl rfl rfl (by decide +kernel)
set_option maxRecDepth 65536 in
theorem w_c26 : (Jvm.Cond.code ({ cls := "java/lang/Math", name := "max", desc := "(II)I" } : Jvm.MethodName) jdk_29_method_65_code (2 : Nat) (Option.some Jvm.ClassFile.FieldType.int)).before args0 about1 = true := code_word (m := ⟨28, 1⟩) (meth := k28m1) (c := k28c1) (by decide +kernel) rfl rfl rfl (by decide +kernel)
set_option maxRecDepth 65536 in
theorem w_c27 : (Jvm.Cond.code ({ cls := "java/util/ArrayList", name := "toArray", desc := "()[Ljava/lang/Object;" } : Jvm.MethodName) jdk_38_method_16_code (1 : Nat) (Option.some (Jvm.ClassFile.FieldType.array (Jvm.ClassFile.FieldType.object "java/lang/Object")))).before args0 about1 = true := code_word (m := ⟨11, 4⟩) (meth := k11m4) (c := k11c4) (by decide +kernel) rfl rfl rfl (by decide +kernel)
set_option maxRecDepth 65536 in
theorem w_c28 : (Jvm.Cond.code ({ cls := "java/util/Arrays", name := "copyOf", desc := "([Ljava/lang/Object;I)[Ljava/lang/Object;" } : Jvm.MethodName) jdk_65_method_119_code (2 : Nat) (Option.some (Jvm.ClassFile.FieldType.array (Jvm.ClassFile.FieldType.object "java/lang/Object")))).before args0 about1 = true := code_word (m := ⟨29, 1⟩) (meth := k29m1) (c := k29c1) (by decide +kernel) rfl rfl rfl (by decide +kernel)
set_option maxRecDepth 65536 in
theorem w_c29 : (Jvm.Cond.code ({ cls := "java/util/Arrays", name := "copyOf", desc := "([Ljava/lang/Object;ILjava/lang/Class;)[Ljava/lang/Object;" } : Jvm.MethodName) jdk_65_method_120_code (4 : Nat) (Option.some (Jvm.ClassFile.FieldType.array (Jvm.ClassFile.FieldType.object "java/lang/Object")))).before args0 about1 = true := code_word (m := ⟨29, 2⟩) (meth := k29m2) (c := k29c2) (by decide +kernel) rfl rfl rfl (by decide +kernel)
set_option maxRecDepth 65536 in
theorem w_c30 : (Jvm.Cond.code ({ cls := "java/lang/Math", name := "min", desc := "(II)I" } : Jvm.MethodName) jdk_29_method_69_code (2 : Nat) (Option.some Jvm.ClassFile.FieldType.int)).before args0 about1 = true := code_word (m := ⟨28, 2⟩) (meth := k28m2) (c := k28c2) (by decide +kernel) rfl rfl rfl (by decide +kernel)
set_option maxRecDepth 65536 in
theorem w_c31 : (Jvm.Cond.code ({ cls := "java/util/List", name := "of", desc := "([Ljava/lang/Object;)Ljava/util/List;" } : Jvm.MethodName) jdk_40_method_47_code (2 : Nat) (Option.some (Jvm.ClassFile.FieldType.object "java/util/List"))).before args0 about1 = true := code_word (m := ⟨6, 3⟩) (meth := k6m3) (c := k6c3) (by decide +kernel) rfl rfl rfl (by decide +kernel)
set_option maxRecDepth 65536 in
theorem w_c32 : (Jvm.Cond.code ({ cls := "java/util/ImmutableCollections", name := "listFromArray", desc := "([Ljava/lang/Object;)Ljava/util/List;" } : Jvm.MethodName) jdk_56_method_4_code (3 : Nat) (Option.some (Jvm.ClassFile.FieldType.object "java/util/List"))).before args0 about1 = true := code_word (m := ⟨14, 2⟩) (meth := k14m2) (c := k14c2) (by decide +kernel) rfl rfl rfl (by decide +kernel)
set_option maxRecDepth 65536 in
theorem w_c33 : (Jvm.Cond.code ({ cls := "java/util/Objects", name := "requireNonNull", desc := "(Ljava/lang/Object;)Ljava/lang/Object;" } : Jvm.MethodName) jdk_31_method_10_code (1 : Nat) (Option.some (Jvm.ClassFile.FieldType.object "java/lang/Object"))).before args0 about1 = true := code_word (m := ⟨31, 1⟩) (meth := k31m1) (c := k31c1) (by decide +kernel) rfl rfl rfl (by decide +kernel)
set_option maxRecDepth 65536 in
theorem w_c34 : (Jvm.Cond.code ({ cls := "java/util/ImmutableCollections$ListN", name := "<init>", desc := "([Ljava/lang/Object;Z)V" } : Jvm.MethodName) jdk_45_method_1_code (3 : Nat) (Option.none : Option Jvm.ClassFile.FieldType)).before args0 about1 = true := code_word (m := ⟨18, 0⟩) (meth := k18m0) (c := k18c0) (by decide +kernel) rfl rfl rfl (by decide +kernel)
set_option maxRecDepth 65536 in
theorem w_c35 : (Jvm.Cond.code ({ cls := "java/util/ImmutableCollections$AbstractImmutableList", name := "<init>", desc := "()V" } : Jvm.MethodName) jdk_46_method_1_code (1 : Nat) (Option.none : Option Jvm.ClassFile.FieldType)).before args0 about1 = true := code_word (m := ⟨16, 0⟩) (meth := k16m0) (c := k16c0) (by decide +kernel) rfl rfl rfl (by decide +kernel)
set_option maxRecDepth 65536 in
theorem w_c36 : (Jvm.Cond.code ({ cls := "java/util/ImmutableCollections$AbstractImmutableCollection", name := "<init>", desc := "()V" } : Jvm.MethodName) jdk_47_method_1_code (1 : Nat) (Option.none : Option Jvm.ClassFile.FieldType)).before args0 about1 = true := code_word (m := ⟨15, 0⟩) (meth := k15m0) (c := k15c0) (by decide +kernel) rfl rfl rfl (by decide +kernel)
set_option maxRecDepth 65536 in
theorem w_c37 : (Jvm.Cond.code ({ cls := "java/util/ImmutableCollections$ListN", name := "get", desc := "(I)Ljava/lang/Object;" } : Jvm.MethodName) jdk_45_method_4_code (2 : Nat) (Option.some (Jvm.ClassFile.FieldType.object "java/lang/Object"))).before args0 about1 = true := code_word (m := ⟨18, 2⟩) (meth := k18m2) (c := k18c2) (by decide +kernel) rfl rfl rfl (by decide +kernel)
set_option maxRecDepth 65536 in
theorem w_c38 : (Jvm.Cond.code ({ cls := "java/lang/Integer", name := "intValue", desc := "()I" } : Jvm.MethodName) jdk_33_method_27_code (1 : Nat) (Option.some Jvm.ClassFile.FieldType.int)).before args0 about1 = true := code_word (m := ⟨26, 2⟩) (meth := k26m2) (c := k26c2) (by decide +kernel) rfl rfl rfl (by decide +kernel)
set_option maxRecDepth 65536 in
theorem w_c39 : (Jvm.Cond.code ({ cls := "java/lang/Integer", name := "<init>", desc := "(I)V" } : Jvm.MethodName) jdk_33_method_23_code (2 : Nat) (Option.none : Option Jvm.ClassFile.FieldType)).before args0 about1 = true := code_word (m := ⟨26, 1⟩) (meth := k26m1) (c := k26c1) (by decide +kernel) rfl rfl rfl (by decide +kernel)
set_option maxRecDepth 65536 in
theorem w_c40 : (Jvm.Cond.code ({ cls := "java/lang/Number", name := "<init>", desc := "()V" } : Jvm.MethodName) jdk_18_method_1_code (1 : Nat) (Option.none : Option Jvm.ClassFile.FieldType)).before args0 about1 = true := code_word (m := ⟨24, 0⟩) (meth := k24m0) (c := k24c0) (by decide +kernel) rfl rfl rfl (by decide +kernel)
set_option maxRecDepth 65536 in
theorem w_c41 : (Jvm.Cond.code ({ cls := "java/util/ImmutableCollections$List12", name := "<init>", desc := "(Ljava/lang/Object;Ljava/lang/Object;)V" } : Jvm.MethodName) jdk_44_method_2_code (3 : Nat) (Option.none : Option Jvm.ClassFile.FieldType)).before args0 about1 = true := code_word (m := ⟨17, 1⟩) (meth := k17m1) (c := k17c1) (by decide +kernel) rfl rfl rfl (by decide +kernel)
set_option maxRecDepth 65536 in
theorem w_c42 : (Jvm.Cond.code ({ cls := "java/util/ImmutableCollections$List12", name := "size", desc := "()I" } : Jvm.MethodName) jdk_44_method_3_code (1 : Nat) (Option.some Jvm.ClassFile.FieldType.int)).before args0 about1 = true := code_word (m := ⟨17, 2⟩) (meth := k17m2) (c := k17c2) (by decide +kernel) rfl rfl rfl (by decide +kernel)
set_option maxRecDepth 65536 in
theorem w_c43 : (Jvm.Cond.code ({ cls := "java/util/ImmutableCollections$List12", name := "get", desc := "(I)Ljava/lang/Object;" } : Jvm.MethodName) jdk_44_method_5_code (2 : Nat) (Option.some (Jvm.ClassFile.FieldType.object "java/lang/Object"))).before args0 about1 = true := code_word (m := ⟨17, 3⟩) (meth := k17m3) (c := k17c3) (by decide +kernel) rfl rfl rfl (by decide +kernel)
set_option maxRecDepth 65536 in
theorem w_c44 : (Jvm.Cond.code ({ cls := "java/util/ImmutableCollections$List12", name := "<init>", desc := "(Ljava/lang/Object;)V" } : Jvm.MethodName) jdk_44_method_1_code (2 : Nat) (Option.none : Option Jvm.ClassFile.FieldType)).before args0 about1 = true := code_word (m := ⟨17, 0⟩) (meth := k17m0) (c := k17c0) (by decide +kernel) rfl rfl rfl (by decide +kernel)
def codes1 : List Jvm.Cond := [Jvm.Cond.code x code maxLocals ret, Jvm.Cond.code ({ cls := "java/util/ArrayList", name := "<init>", desc := "()V" } : Jvm.MethodName) jdk_38_method_2_code (1 : Nat) (Option.none : Option Jvm.ClassFile.FieldType), Jvm.Cond.code ({ cls := "java/util/AbstractList", name := "<init>", desc := "()V" } : Jvm.MethodName) jdk_39_method_1_code (1 : Nat) (Option.none : Option Jvm.ClassFile.FieldType), Jvm.Cond.code ({ cls := "java/util/AbstractCollection", name := "<init>", desc := "()V" } : Jvm.MethodName) jdk_22_method_1_code (1 : Nat) (Option.none : Option Jvm.ClassFile.FieldType), Jvm.Cond.code ({ cls := "java/lang/Object", name := "<init>", desc := "()V" } : Jvm.MethodName) object_method_1_code (1 : Nat) (Option.none : Option Jvm.ClassFile.FieldType), Jvm.Cond.code ({ cls := "com/example/tidemark/tidemark/Page", name := "<init>", desc := "(Ljava/util/List;Ljava/lang/Object;)V" } : Jvm.MethodName) prog_22_method_1_code (3 : Nat) (Option.none : Option Jvm.ClassFile.FieldType), Jvm.Cond.code ({ cls := "java/lang/Record", name := "<init>", desc := "()V" } : Jvm.MethodName) jdk_30_method_1_code (1 : Nat) (Option.none : Option Jvm.ClassFile.FieldType), Jvm.Cond.code ({ cls := "java/util/List", name := "copyOf", desc := "(Ljava/util/Collection;)Ljava/util/List;" } : Jvm.MethodName) jdk_40_method_48_code (1 : Nat) (Option.some (Jvm.ClassFile.FieldType.object "java/util/List")), Jvm.Cond.code ({ cls := "java/util/ImmutableCollections", name := "listCopy", desc := "(Ljava/util/Collection;)Ljava/util/List;" } : Jvm.MethodName) jdk_56_method_3_code (2 : Nat) (Option.some (Jvm.ClassFile.FieldType.object "java/util/List")), Jvm.Cond.code ({ cls := "java/util/ArrayList", name := "isEmpty", desc := "()Z" } : Jvm.MethodName) jdk_38_method_9_code (1 : Nat) (Option.some Jvm.ClassFile.FieldType.boolean), Jvm.Cond.code ({ cls := "java/util/List", name := "of", desc := "()Ljava/util/List;" } : Jvm.MethodName) jdk_40_method_36_code (0 : Nat) (Option.some (Jvm.ClassFile.FieldType.object "java/util/List")), Jvm.Cond.code ({ cls := "com/example/tidemark/tidemark/PagedList", name := "first", desc := "(Lcom/example/tidemark/tidemark/Page;)Lcom/example/tidemark/tidemark/PagedList;" } : Jvm.MethodName) prog_23_method_2_code (1 : Nat) (Option.some (Jvm.ClassFile.FieldType.object "com/example/tidemark/tidemark/PagedList")), Jvm.Cond.code ({ cls := "com/example/tidemark/tidemark/Page", name := "items", desc := "()Ljava/util/List;" } : Jvm.MethodName) prog_22_method_6_code (1 : Nat) (Option.some (Jvm.ClassFile.FieldType.object "java/util/List")), Jvm.Cond.code ({ cls := "com/example/tidemark/tidemark/Page", name := "nextKey", desc := "()Ljava/lang/Object;" } : Jvm.MethodName) prog_22_method_7_code (1 : Nat) (Option.some (Jvm.ClassFile.FieldType.object "java/lang/Object")), Jvm.Cond.code ({ cls := "com/example/tidemark/tidemark/PagedList", name := "restingFooter", desc := "(Ljava/lang/Object;)Lcom/example/tidemark/tidemark/PagedList$Footer;" } : Jvm.MethodName) prog_23_method_12_code (1 : Nat) (Option.some (Jvm.ClassFile.FieldType.object "com/example/tidemark/tidemark/PagedList$Footer")), Jvm.Cond.code ({ cls := "com/example/tidemark/tidemark/PagedList", name := "<init>", desc := "(Ljava/util/List;Lcom/example/tidemark/tidemark/PagedList$Footer;Ljava/lang/Throwable;Ljava/lang/Object;)V" } : Jvm.MethodName) prog_23_method_1_code (5 : Nat) (Option.none : Option Jvm.ClassFile.FieldType), Jvm.Cond.code ({ cls := "com/example/tidemark/tidemark/PagedList", name := "items", desc := "()Ljava/util/List;" } : Jvm.MethodName) prog_23_method_3_code (1 : Nat) (Option.some (Jvm.ClassFile.FieldType.object "java/util/List")), Jvm.Cond.code ({ cls := "java/util/ImmutableCollections$ListN", name := "size", desc := "()I" } : Jvm.MethodName) jdk_45_method_3_code (1 : Nat) (Option.some Jvm.ClassFile.FieldType.int), Jvm.Cond.code ({ cls := "com/example/tidemark/tidemark/PagedList", name := "footer", desc := "()Lcom/example/tidemark/tidemark/PagedList$Footer;" } : Jvm.MethodName) prog_23_method_4_code (1 : Nat) (Option.some (Jvm.ClassFile.FieldType.object "com/example/tidemark/tidemark/PagedList$Footer")), Jvm.Cond.code ({ cls := "com/example/tidemark/tidemark/PagedList", name := "canLoadMore", desc := "()Z" } : Jvm.MethodName) prog_23_method_6_code (1 : Nat) (Option.some Jvm.ClassFile.FieldType.boolean), Jvm.Cond.code ({ cls := "com/example/tidemark/tidemark/PagedList", name := "nextKey", desc := "()Ljava/lang/Object;" } : Jvm.MethodName) prog_23_method_7_code (1 : Nat) (Option.some (Jvm.ClassFile.FieldType.object "java/lang/Object")), Jvm.Cond.code ({ cls := "java/lang/Integer", name := "valueOf", desc := "(I)Ljava/lang/Integer;" } : Jvm.MethodName) jdk_33_method_22_code (1 : Nat) (Option.some (Jvm.ClassFile.FieldType.object "java/lang/Integer")), Jvm.Cond.code ({ cls := "java/util/ArrayList", name := "add", desc := "(Ljava/lang/Object;)Z" } : Jvm.MethodName) jdk_38_method_25_code (2 : Nat) (Option.some Jvm.ClassFile.FieldType.boolean), Jvm.Cond.code ({ cls := "java/util/ArrayList", name := "add", desc := "(Ljava/lang/Object;[Ljava/lang/Object;I)V" } : Jvm.MethodName) jdk_38_method_24_code (4 : Nat) (Option.none : Option Jvm.ClassFile.FieldType), Jvm.Cond.code ({ cls := "java/util/ArrayList", name := "grow", desc := "()[Ljava/lang/Object;" } : Jvm.MethodName) jdk_38_method_7_code (1 : Nat) (Option.some (Jvm.ClassFile.FieldType.array (Jvm.ClassFile.FieldType.object "java/lang/Object"))), Jvm.Cond.code ({ cls := "java/util/ArrayList", name := "grow", desc := "(I)[Ljava/lang/Object;" } : Jvm.MethodName) jdk_38_method_6_code (4 : Nat) (Option.some (Jvm.ClassFile.FieldType.array (Jvm.ClassFile.FieldType.object "java/lang/Object"))), Jvm.Cond.code ({ cls := "java/lang/Math", name := "max", desc := "(II)I" } : Jvm.MethodName) jdk_29_method_65_code (2 : Nat) (Option.some Jvm.ClassFile.FieldType.int), Jvm.Cond.code ({ cls := "java/util/ArrayList", name := "toArray", desc := "()[Ljava/lang/Object;" } : Jvm.MethodName) jdk_38_method_16_code (1 : Nat) (Option.some (Jvm.ClassFile.FieldType.array (Jvm.ClassFile.FieldType.object "java/lang/Object"))), Jvm.Cond.code ({ cls := "java/util/Arrays", name := "copyOf", desc := "([Ljava/lang/Object;I)[Ljava/lang/Object;" } : Jvm.MethodName) jdk_65_method_119_code (2 : Nat) (Option.some (Jvm.ClassFile.FieldType.array (Jvm.ClassFile.FieldType.object "java/lang/Object"))), Jvm.Cond.code ({ cls := "java/util/Arrays", name := "copyOf", desc := "([Ljava/lang/Object;ILjava/lang/Class;)[Ljava/lang/Object;" } : Jvm.MethodName) jdk_65_method_120_code (4 : Nat) (Option.some (Jvm.ClassFile.FieldType.array (Jvm.ClassFile.FieldType.object "java/lang/Object"))), Jvm.Cond.code ({ cls := "java/lang/Math", name := "min", desc := "(II)I" } : Jvm.MethodName) jdk_29_method_69_code (2 : Nat) (Option.some Jvm.ClassFile.FieldType.int), Jvm.Cond.code ({ cls := "java/util/List", name := "of", desc := "([Ljava/lang/Object;)Ljava/util/List;" } : Jvm.MethodName) jdk_40_method_47_code (2 : Nat) (Option.some (Jvm.ClassFile.FieldType.object "java/util/List")), Jvm.Cond.code ({ cls := "java/util/ImmutableCollections", name := "listFromArray", desc := "([Ljava/lang/Object;)Ljava/util/List;" } : Jvm.MethodName) jdk_56_method_4_code (3 : Nat) (Option.some (Jvm.ClassFile.FieldType.object "java/util/List")), Jvm.Cond.code ({ cls := "java/util/Objects", name := "requireNonNull", desc := "(Ljava/lang/Object;)Ljava/lang/Object;" } : Jvm.MethodName) jdk_31_method_10_code (1 : Nat) (Option.some (Jvm.ClassFile.FieldType.object "java/lang/Object")), Jvm.Cond.code ({ cls := "java/util/ImmutableCollections$ListN", name := "<init>", desc := "([Ljava/lang/Object;Z)V" } : Jvm.MethodName) jdk_45_method_1_code (3 : Nat) (Option.none : Option Jvm.ClassFile.FieldType), Jvm.Cond.code ({ cls := "java/util/ImmutableCollections$AbstractImmutableList", name := "<init>", desc := "()V" } : Jvm.MethodName) jdk_46_method_1_code (1 : Nat) (Option.none : Option Jvm.ClassFile.FieldType), Jvm.Cond.code ({ cls := "java/util/ImmutableCollections$AbstractImmutableCollection", name := "<init>", desc := "()V" } : Jvm.MethodName) jdk_47_method_1_code (1 : Nat) (Option.none : Option Jvm.ClassFile.FieldType), Jvm.Cond.code ({ cls := "java/util/ImmutableCollections$ListN", name := "get", desc := "(I)Ljava/lang/Object;" } : Jvm.MethodName) jdk_45_method_4_code (2 : Nat) (Option.some (Jvm.ClassFile.FieldType.object "java/lang/Object")), Jvm.Cond.code ({ cls := "java/lang/Integer", name := "intValue", desc := "()I" } : Jvm.MethodName) jdk_33_method_27_code (1 : Nat) (Option.some Jvm.ClassFile.FieldType.int), Jvm.Cond.code ({ cls := "java/lang/Integer", name := "<init>", desc := "(I)V" } : Jvm.MethodName) jdk_33_method_23_code (2 : Nat) (Option.none : Option Jvm.ClassFile.FieldType), Jvm.Cond.code ({ cls := "java/lang/Number", name := "<init>", desc := "()V" } : Jvm.MethodName) jdk_18_method_1_code (1 : Nat) (Option.none : Option Jvm.ClassFile.FieldType), Jvm.Cond.code ({ cls := "java/util/ImmutableCollections$List12", name := "<init>", desc := "(Ljava/lang/Object;Ljava/lang/Object;)V" } : Jvm.MethodName) jdk_44_method_2_code (3 : Nat) (Option.none : Option Jvm.ClassFile.FieldType), Jvm.Cond.code ({ cls := "java/util/ImmutableCollections$List12", name := "size", desc := "()I" } : Jvm.MethodName) jdk_44_method_3_code (1 : Nat) (Option.some Jvm.ClassFile.FieldType.int), Jvm.Cond.code ({ cls := "java/util/ImmutableCollections$List12", name := "get", desc := "(I)Ljava/lang/Object;" } : Jvm.MethodName) jdk_44_method_5_code (2 : Nat) (Option.some (Jvm.ClassFile.FieldType.object "java/lang/Object")), Jvm.Cond.code ({ cls := "java/util/ImmutableCollections$List12", name := "<init>", desc := "(Ljava/lang/Object;)V" } : Jvm.MethodName) jdk_44_method_1_code (2 : Nat) (Option.none : Option Jvm.ClassFile.FieldType)]
set_option maxRecDepth 65536 in
theorem codes_eq : words1.filter isCode = codes1 := rfl
theorem w_codes : ∀ c ∈ words1.filter isCode, c.before args0 about1 = true := by
  rw [codes_eq]
  intro c hc
  simp only [codes1, List.mem_cons, List.not_mem_nil, or_false] at hc
  rcases hc with rfl | rfl | rfl | rfl | rfl | rfl | rfl | rfl | rfl | rfl | rfl | rfl | rfl | rfl | rfl | rfl | rfl | rfl | rfl | rfl | rfl | rfl | rfl | rfl | rfl | rfl | rfl | rfl | rfl | rfl | rfl | rfl | rfl | rfl | rfl | rfl | rfl | rfl | rfl | rfl | rfl | rfl | rfl | rfl | rfl
  · exact w_c0
  · exact w_c1
  · exact w_c2
  · exact w_c3
  · exact w_c4
  · exact w_c5
  · exact w_c6
  · exact w_c7
  · exact w_c8
  · exact w_c9
  · exact w_c10
  · exact w_c11
  · exact w_c12
  · exact w_c13
  · exact w_c14
  · exact w_c15
  · exact w_c16
  · exact w_c17
  · exact w_c18
  · exact w_c19
  · exact w_c20
  · exact w_c21
  · exact w_c22
  · exact w_c23
  · exact w_c24
  · exact w_c25
  · exact w_c26
  · exact w_c27
  · exact w_c28
  · exact w_c29
  · exact w_c30
  · exact w_c31
  · exact w_c32
  · exact w_c33
  · exact w_c34
  · exact w_c35
  · exact w_c36
  · exact w_c37
  · exact w_c38
  · exact w_c39
  · exact w_c40
  · exact w_c41
  · exact w_c42
  · exact w_c43
  · exact w_c44
set_option maxRecDepth 65536 in
theorem w_t1 : (words1.take 24).all (fun c => isCode c || c.before args0 about1) = true := by decide +kernel
set_option maxRecDepth 65536 in
theorem w_t2 : ((words1.drop 24).take 24).all (fun c => isCode c || c.before args0 about1) = true := by decide +kernel
set_option maxRecDepth 65536 in
theorem w_t3 : (((words1.drop 24).drop 24).take 24).all (fun c => isCode c || c.before args0 about1) = true := by decide +kernel
set_option maxRecDepth 65536 in
theorem w_t4 : ((((words1.drop 24).drop 24).drop 24).take 24).all (fun c => isCode c || c.before args0 about1) = true := by decide +kernel
set_option maxRecDepth 65536 in
theorem w_t5 : (((((words1.drop 24).drop 24).drop 24).drop 24).take 24).all (fun c => isCode c || c.before args0 about1) = true := by decide +kernel
set_option maxRecDepth 65536 in
theorem w_t6 : ((((((words1.drop 24).drop 24).drop 24).drop 24).drop 24).take 24).all (fun c => isCode c || c.before args0 about1) = true := by decide +kernel
set_option maxRecDepth 65536 in
theorem w_t7 : (((((((words1.drop 24).drop 24).drop 24).drop 24).drop 24).drop 24).take 24).all (fun c => isCode c || c.before args0 about1) = true := by decide +kernel
set_option maxRecDepth 65536 in
theorem w_t8 : ((((((((words1.drop 24).drop 24).drop 24).drop 24).drop 24).drop 24).drop 24).take 24).all (fun c => isCode c || c.before args0 about1) = true := by decide +kernel
set_option maxRecDepth 65536 in
theorem w_t9 : (((((((((words1.drop 24).drop 24).drop 24).drop 24).drop 24).drop 24).drop 24).drop 24).take 24).all (fun c => isCode c || c.before args0 about1) = true := by decide +kernel
set_option maxRecDepth 65536 in
theorem w_t10 : ((((((((((words1.drop 24).drop 24).drop 24).drop 24).drop 24).drop 24).drop 24).drop 24).drop 24).take 24).all (fun c => isCode c || c.before args0 about1) = true := by decide +kernel
set_option maxRecDepth 65536 in
theorem w_t11 : (((((((((((words1.drop 24).drop 24).drop 24).drop 24).drop 24).drop 24).drop 24).drop 24).drop 24).drop 24).take 24).all (fun c => isCode c || c.before args0 about1) = true := by decide +kernel
set_option maxRecDepth 65536 in
theorem w_t12 : ((((((((((((words1.drop 24).drop 24).drop 24).drop 24).drop 24).drop 24).drop 24).drop 24).drop 24).drop 24).drop 24).take 24).all (fun c => isCode c || c.before args0 about1) = true := by decide +kernel
set_option maxRecDepth 65536 in
theorem w_t13 : ((((((((((((words1.drop 24).drop 24).drop 24).drop 24).drop 24).drop 24).drop 24).drop 24).drop 24).drop 24).drop 24).drop 24).all (fun c => isCode c || c.before args0 about1) = true := by decide +kernel
theorem w_tables : (allAtoms (Jvm.Cond.code x code maxLocals ret :: tables_1)).before args0 about1 = true := by
  rw [allAtoms_all]
  show words1.all (fun c => c.before args0 about1) = true
  refine all_split ?_ w_codes
  rw [← List.take_append_drop 24 words1, List.all_append, w_t1, ← List.take_append_drop 24 (words1.drop 24), List.all_append, w_t2, ← List.take_append_drop 24 ((words1.drop 24).drop 24), List.all_append, w_t3, ← List.take_append_drop 24 (((words1.drop 24).drop 24).drop 24), List.all_append, w_t4, ← List.take_append_drop 24 ((((words1.drop 24).drop 24).drop 24).drop 24), List.all_append, w_t5, ← List.take_append_drop 24 (((((words1.drop 24).drop 24).drop 24).drop 24).drop 24), List.all_append, w_t6, ← List.take_append_drop 24 ((((((words1.drop 24).drop 24).drop 24).drop 24).drop 24).drop 24), List.all_append, w_t7, ← List.take_append_drop 24 (((((((words1.drop 24).drop 24).drop 24).drop 24).drop 24).drop 24).drop 24), List.all_append, w_t8, ← List.take_append_drop 24 ((((((((words1.drop 24).drop 24).drop 24).drop 24).drop 24).drop 24).drop 24).drop 24), List.all_append, w_t9, ← List.take_append_drop 24 (((((((((words1.drop 24).drop 24).drop 24).drop 24).drop 24).drop 24).drop 24).drop 24).drop 24), List.all_append, w_t10, ← List.take_append_drop 24 ((((((((((words1.drop 24).drop 24).drop 24).drop 24).drop 24).drop 24).drop 24).drop 24).drop 24).drop 24), List.all_append, w_t11, ← List.take_append_drop 24 (((((((((((words1.drop 24).drop 24).drop 24).drop 24).drop 24).drop 24).drop 24).drop 24).drop 24).drop 24).drop 24), List.all_append, w_t12, w_t13]
  rfl
set_option maxRecDepth 65536 in
theorem w_rest : rest_1_c.before args0 about1 = true := by decide +kernel
set_option maxRecDepth 65536 in
theorem w_case : (Jvm.Cond.and given_1 narrow_1).before args0 about1 = true := by decide +kernel
theorem w_applies : (headSpec (Jvm.Cond.code x code maxLocals ret :: tables_1) room_1).applies x e0.platform about1 = true :=
  (Spec.applies_iff w_frames).mpr ⟨w_running, w_runnable, w_alone, w_named, w_hears, w_ripe, w_room, w_tables⟩
set_option maxRecDepth 65536 in
theorem atStart : AtStart classFile x code maxLocals ret World_1 tables_1 room_1 Calls_1 rest_1 Pre_1 launch0 p0 e0 about1 theMethod args0 below0 :=
  ⟨lists_1, trivial, launch0.admits_env _ _ _, launch0.least_env, fairChoices_fair.cas, fairChoices_fair.clock, w_frames, w_args, w_heap, w_applies, ⟨⟨38, k38, 4, by decide +kernel, rfl, rfl, _, rfl, rfl⟩, trivial⟩, w_rest, w_case⟩
end start1
theorem witness_1 : WitnessClaimed_1 := ⟨start1.p0, start1.e0, start1.about1, start1.theMethod, start1.args0, start1.below0, start1.atStart⟩
end Jvm.Pilot.@@N@@
