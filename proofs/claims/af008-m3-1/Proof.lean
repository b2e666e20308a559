import JvmDerived
import JvmDerived.Pilot.@@N@@Statement
import JvmDerived.Pilot.@@N@@Code
set_option linter.unusedVariables false
set_option linter.unusedSimpArgs false
namespace Jvm.Pilot.@@N@@
open Jvm Jvm.ClassFile Sem Op Lib Jvm.Free Jvm.Stand Jvm.LawKit Jvm.RoadKit Bundle Jvm.Pilot.@@N@@.Jvm.D
/-! OWN PRELUDE (the same text in every proof of this seat): the walk as a goal that goes forward -/
section OwnPrelude
variable {Z : State} {hs : Heap} {W : List Addr} {own : String} {bytes : ByteArray} {maxL : Nat} {ret : Option FieldType} {nm : String}
  {p : Program} {l : Launch} {e : Env} {R : Room} {s : State} {m : MethodId} {args : Array Value} {below : List Frame} {meth : Method} {c : Code}
  {T : State} {h : Heap} {cells slots : Nat} {k n : Nat} {Q : Option Value → Heap → Prop} {a0 : Array Value} {pc : Nat} {Ls : Array Slot} {st rest : List Value}

/-- what stays the same while one body is walked -/
def own_G (Z : State) (hs : Heap) (W : List Addr) (own : String) (bytes : ByteArray) (maxL : Nat) (ret : Option FieldType) (nm : String) (p : Program) (s : State) (m : MethodId) (meth : Method) (c : Code) : Prop :=
  p.tables.exec = Jvm.exec ∧ Z.Warmed39 s.vm ∧ s.vm.findClass own = some m.cls ∧ c.code = bytes ∧ c.maxLocals = maxL ∧ meth.sig.returnType = ret ∧ meth.locks = false ∧ meth.name = nm ∧ Ext Z.heap hs ∧ ∀ a ∈ W, Z.heap.size ≤ a
/-- where the walk stands: state T, heap h, so many cells and slots made; nothing old but W was written -/
def own_S (Z : State) (hs : Heap) (W : List Addr) (own : String) (bytes : ByteArray) (maxL : Nat) (ret : Option FieldType) (nm : String) (p : Program) (l : Launch) (e : Env) (R : Room) (s : State) (m : MethodId) (args : Array Value) (below : List Frame) (meth : Method) (c : Code)
    (T : State) (h : Heap) (cells slots : Nat) : Prop :=
  own_G Z hs W own bytes maxL ret nm p s m meth c ∧ ∃ locs, Stand p l e R s m args below meth c T locs cells slots ∧ Fr Z.heap.size locs ∧ T.heap = h ∧ Keep hs h W
/-- from A the call comes to its end, and there Q holds -/
def own_F (p : Program) (e : Env) (below : List Frame) (s : State) (Z : State) (hs : Heap) (W : List Addr) (k n : Nat) (Q : Option Value → Heap → Prop) (A : State) : Prop :=
  ∃ s₂ o, Steps p.tables e below A s₂ ∧ s₂.status = .running ∧ Ended s₂ below o ∧ ∃ v L, o = .returned v ∧ (Fr Z.heap.size L ∧ Keep hs s₂.heap W ∧ Q v s₂.heap) ∧ FrameEnd s o s₂ L k n
/-- a body's contract -/
def own_C (l : Launch) (Z : State) (y : MethodName) (bytes : ByteArray) (maxL : Nat) (ret : Option FieldType) (ws : List Jvm.Cond) (rm : Room) (W : List Addr) (as' : Array Value) (h0 : Heap) (Q : Option Value → Heap → Prop) : Prop :=
  MetFree l y (head1 (Jvm.Cond.code y bytes maxL ret :: ws) rm) (fun a U => a = as' ∧ Z.Warmed39 U.vm ∧ U.heap = h0) (fun _ _ _ _ _ => True)
    (fun _ U o U' => ∃ v L, o = .returned v ∧ (Fr Z.heap.size L ∧ Keep h0 U'.heap W ∧ Q v U'.heap) ∧ FrameEnd U o U' L rm.cells rm.slots)

theorem own_C.of {y : MethodName} {ws : List Jvm.Cond} {rm : Room} {as' : Array Value} {h0 : Heap} (hpl : plainFor y = true) (hO : Ext Z.heap h0) (hW : ∀ a ∈ W, Z.heap.size ≤ a)
    (body : ∀ p e s m below meth c T, own_S Z h0 W y.cls bytes maxL ret y.name p l e rm s m as' below meth c T h0 0 0 → own_F p e below s Z h0 W rm.cells rm.slots Q (T.setTop (entryFrame m as' maxL))) :
    own_C l Z y bytes maxL ret ws rm W as' h0 Q := by
  refine MetFree.of_bodySF hpl hisR ?_
  intro p e s m args below meth c s₁ Bd hml hP hK
  obtain ⟨rfl, hZ, hh⟩ := hP
  exact body p e s m below meth c s₁ ⟨⟨Bd.exec, hZ, findClass_of_methodNamed Bd.named, Bd.bytes, hml, Bd.returns, Bd.notSynchronized, (name_of_methodNamed Bd.named Bd.method).1, hO, hW⟩, [], Stand.of_body Bd, Fr.nil _, (by rw [← hh, Bd.state]; rfl), Keep.refl _ _⟩

theorem own_F.of {A B : State} (h : ∀ t, Steps p.tables e below B t → Steps p.tables e below A t) (f : own_F p e below s Z hs W k n Q B) : own_F p e below s Z hs W k n Q A := by
  obtain ⟨s₂, o, h1, r⟩ := f
  exact ⟨s₂, o, h _ h1, r⟩
theorem own_F.to {A B : State} (h : Steps p.tables e below A B) (f : own_F p e below s Z hs W k n Q B) : own_F p e below s Z hs W k n Q A := own_F.of (fun _ => h.trans) f
theorem own_F.cast {g g' : JFrame} (q : g = g') (f : own_F p e below s Z hs W k n Q (T.setTop g')) : own_F p e below s Z hs W k n Q (T.setTop g) := q ▸ f
theorem own_F.mono {A : State} {Q' : Option Value → Heap → Prop} (f : own_F p e below s Z hs W k n Q A) (q : ∀ v h, Q v h → Q' v h) : own_F p e below s Z hs W k n Q' A := by
  obtain ⟨s₂, o, h1, h2, h3, v, L, h4, ⟨h5, h6, h7⟩, h8⟩ := f
  exact ⟨s₂, o, h1, h2, h3, v, L, h4, ⟨h5, h6, q _ _ h7⟩, h8⟩
theorem own_C.mono {y : MethodName} {ws : List Jvm.Cond} {rm : Room} {as' : Array Value} {h0 : Heap} {Q' : Option Value → Heap → Prop} (f : own_C l Z y bytes maxL ret ws rm W as' h0 Q) (q : ∀ v h, Q v h → Q' v h) : own_C l Z y bytes maxL ret ws rm W as' h0 Q' := by
  intro p e ha hc hk s m args below hf happ hP hK
  obtain ⟨n, o, h1, h2, h3, v, L, h4, ⟨h5, h6, h7⟩, h8⟩ := f p e ha hc hk s m args below hf happ hP hK
  exact ⟨n, o, h1, h2, h3, v, L, h4, ⟨h5, h6, q _ _ h7⟩, h8⟩

theorem own_S.hx (S : own_S Z hs W own bytes maxL ret nm p l e R s m args below meth c T h cells slots) : p.tables.exec = Jvm.exec := S.1.1
theorem own_S.hZ (S : own_S Z hs W own bytes maxL ret nm p l e R s m args below meth c T h cells slots) : Z.Warmed39 s.vm := S.1.2.1
theorem own_S.hown (S : own_S Z hs W own bytes maxL ret nm p l e R s m args below meth c T h cells slots) : s.vm.findClass own = some m.cls := S.1.2.2.1
theorem own_S.hby (S : own_S Z hs W own bytes maxL ret nm p l e R s m args below meth c T h cells slots) : c.code = bytes := S.1.2.2.2.1
theorem own_S.hml (S : own_S Z hs W own bytes maxL ret nm p l e R s m args below meth c T h cells slots) : c.maxLocals = maxL := S.1.2.2.2.2.1
theorem own_S.hret (S : own_S Z hs W own bytes maxL ret nm p l e R s m args below meth c T h cells slots) : meth.sig.returnType = ret := S.1.2.2.2.2.2.1
theorem own_S.hlk (S : own_S Z hs W own bytes maxL ret nm p l e R s m args below meth c T h cells slots) : meth.locks = false := S.1.2.2.2.2.2.2.1
theorem own_S.hnm (S : own_S Z hs W own bytes maxL ret nm p l e R s m args below meth c T h cells slots) : meth.name = nm := S.1.2.2.2.2.2.2.2.1
theorem own_S.hO (S : own_S Z hs W own bytes maxL ret nm p l e R s m args below meth c T h cells slots) : Ext Z.heap hs := S.1.2.2.2.2.2.2.2.2.1
theorem own_S.hW (S : own_S Z hs W own bytes maxL ret nm p l e R s m args below meth c T h cells slots) : ∀ a ∈ W, Z.heap.size ≤ a := S.1.2.2.2.2.2.2.2.2.2
theorem own_S.keep (S : own_S Z hs W own bytes maxL ret nm p l e R s m args below meth c T h cells slots) : Keep hs h W := by obtain ⟨-, _, -, -, -, K⟩ := S; exact K
theorem own_S.size (S : own_S Z hs W own bytes maxL ret nm p l e R s m args below meth c T h cells slots) : hs.size ≤ h.size := S.keep.1
theorem own_S.old (S : own_S Z hs W own bytes maxL ret nm p l e R s m args below meth c T h cells slots) : Ext Z.heap h :=
  ⟨Nat.le_trans S.hO.1 S.size, fun x cc q => S.keep.2.1 x cc (S.hO.2 x cc q) fun r => absurd (Array.getElem?_eq_some_iff.mp q).1 (Nat.not_lt.mpr (S.hW x r))⟩
theorem own_S.here (S : own_S Z hs W own bytes maxL ret nm p l e R s m args below meth c T h cells slots) : At T m c below := by obtain ⟨-, _, X, -⟩ := S; exact X.here
theorem own_S.dec (S : own_S Z hs W own bytes maxL ret nm p l e R s m args below meth c T h cells slots) {r : Except ClassFile.DecodeError (ClassFile.Instr × Nat)} (h2 : decode bytes pc = r) : decode c.code pc = r := hb S.hby h2
theorem own_S.may (S : own_S Z hs W own bytes maxL ret nm p l e R s m args below meth c T h cells slots) {a : Addr} (q : a ∈ W ∨ hs.size ≤ a) : Z.heap.size ≤ a := q.elim (S.hW a) (Nat.le_trans S.hO.1)
theorem own_S.more (S : own_S Z hs W own bytes maxL ret nm p l e R s m args below meth c T h cells slots) {k' n' : Nat} (hk : cells ≤ k') (hn : slots ≤ n') : own_S Z hs W own bytes maxL ret nm p l e R s m args below meth c T h k' n' := by
  obtain ⟨G, locs, X, r⟩ := S
  exact ⟨G, locs, X.more hk hn, r⟩

/-! the ends -/
theorem own_S.leave (S : own_S Z hs W own bytes maxL ret nm p l e R s m args below meth c T h cells slots) {A : State} {v : Option Value} (hk : cells ≤ k) (hn : slots ≤ n) (hv : ret = none → v = none) (hq : Q v h)
    (go : ∀ (locs : List Loc) (_ : Stand p l e R s m args below meth c T locs cells slots) (fs : List Frame), (∀ (f : JFrame) (acts : List Action), f.method = m → f.locked = none → f.entered = [] → (doReturn e (T.setTop f) acts v).1 = T.setFrames fs) → Steps p.tables e below A (T.setFrames fs)) : own_F p e below s Z hs W k n Q A := by
  obtain ⟨G, locs, X, N, e0, K⟩ := S
  have hlk : meth.locks = false := own_S.hlk (⟨G, locs, X, N, e0, K⟩ : own_S Z hs W own bytes maxL ret nm p l e R s m args below meth c T h cells slots)
  have hret : meth.sig.returnType = ret := own_S.hret (⟨G, locs, X, N, e0, K⟩ : own_S Z hs W own bytes maxL ret nm p l e R s m args below meth c T h cells slots)
  obtain ⟨fs, hr, hrun, hended, hW, hsame⟩ := X.leave (v := v) (fun q => hv (hret ▸ q)) hlk
  subst e0
  exact ⟨_, _, go locs X fs hr, hrun, hended, _, _, rfl, ⟨N, K, hq⟩, ⟨_, rfl⟩, hW, hsame.mono hk hn⟩
theorem own_retV (S : own_S Z hs W own bytes maxL none nm p l e R s m args below meth c T h cells slots) (hd : decode bytes pc = .ok (.return_, 1)) (hk : cells ≤ k) (hn : slots ≤ n) (hq : Q none h) : own_F p e below s Z hs W k n Q (T.setTop (mkF m pc Ls [])) :=
  S.leave hk hn (fun _ => rfl) hq fun locs X fs hr => X.returnOut S.hx S.hret (S.dec hd) hr
theorem own_retZ {t : FieldType} (S : own_S Z hs W own bytes maxL (some t) nm p l e R s m args below meth c T h cells slots) {z : Int32} (ht : t = .boolean ∨ t = .byte ∨ t = .char ∨ t = .short) (hd : decode bytes pc = .ok (.ireturn, 1)) (hk : cells ≤ k) (hn : slots ≤ n) (hq : Q (some (.int (nar t z))) h) : own_F p e below s Z hs W k n Q (T.setTop (mkF m pc Ls (.int z :: rest))) :=
  S.leave hk hn (fun q => by cases q) hq fun locs X fs hr => retN X S.hx S.hret ht (S.dec hd) hr
theorem own_retI (S : own_S Z hs W own bytes maxL (some .int) nm p l e R s m args below meth c T h cells slots) {z : Int32} (hd : decode bytes pc = .ok (.ireturn, 1)) (hk : cells ≤ k) (hn : slots ≤ n) (hq : Q (some (.int z)) h) : own_F p e below s Z hs W k n Q (T.setTop (mkF m pc Ls (.int z :: rest))) :=
  S.leave hk hn (fun q => by cases q) hq fun locs X fs hr => retOut X S.hx S.hret rfl (Or.inl ⟨rfl, Or.inl rfl, _, rfl⟩) (S.dec hd) hr
theorem own_retJ (S : own_S Z hs W own bytes maxL (some .long) nm p l e R s m args below meth c T h cells slots) {z : Int64} (hd : decode bytes pc = .ok (.lreturn, 1)) (hk : cells ≤ k) (hn : slots ≤ n) (hq : Q (some (.long z)) h) : own_F p e below s Z hs W k n Q (T.setTop (mkF m pc Ls (.long z :: rest))) :=
  S.leave hk hn (fun q => by cases q) hq fun locs X fs hr => retOut X S.hx S.hret rfl (Or.inr (Or.inl ⟨rfl, rfl, _, rfl⟩)) (S.dec hd) hr
theorem own_retD (S : own_S Z hs W own bytes maxL (some .double) nm p l e R s m args below meth c T h cells slots) {z : UInt64} (hd : decode bytes pc = .ok (.dreturn, 1)) (hk : cells ≤ k) (hn : slots ≤ n) (hq : Q (some (.double z)) h) : own_F p e below s Z hs W k n Q (T.setTop (mkF m pc Ls (.double z :: rest))) :=
  S.leave hk hn (fun q => by cases q) hq fun locs X fs hr => retOut X S.hx S.hret rfl (Or.inr (Or.inr (Or.inl ⟨rfl, rfl, _, rfl⟩))) (S.dec hd) hr
theorem own_retA {t : FieldType} (S : own_S Z hs W own bytes maxL (some t) nm p l e R s m args below meth c T h cells slots) {w : Value} (ht : t.isReference = true) (hw : w.isRef = true) (hd : decode bytes pc = .ok (.areturn, 1)) (hk : cells ≤ k) (hn : slots ≤ n) (hq : Q (some w) h) : own_F p e below s Z hs W k n Q (T.setTop (mkF m pc Ls (w :: rest))) :=
  S.leave hk hn (fun q => by cases q) hq fun locs X fs hr => retOut X S.hx S.hret (by cases w <;> simp [Value.isRef] at hw <;> cases t <;> simp [FieldType.isReference] at ht <;> rfl) (Or.inr (Or.inr (Or.inr (Or.inr ⟨rfl, ht, hw⟩)))) (S.dec hd) hr

/-! branches -/
def own_cd : ClassFile.Cond → Int32 → Int32 → Prop
  | .eq, x, y => x = y
  | .ne, x, y => ¬ x = y
  | .lt, x, y => x < y
  | .ge, x, y => ¬ x < y
  | .gt, x, y => y < x
  | .le, x, y => ¬ y < x
theorem own_cd_t {cd : ClassFile.Cond} {x y : Int32} (q : own_cd cd x y) : if_icmp.holds cd x y = true := by
  cases cd
  · exact (teq q).1
  · exact (feq q).2
  · exact (tlt q).1
  · exact (flt q).2.1
  · exact (tlt q).2.2.1
  · exact (flt q).2.2.2
def own_cn : ClassFile.Cond → Int32 → Int32 → Prop
  | .eq, x, y => ¬ x = y
  | .ne, x, y => x = y
  | .lt, x, y => ¬ x < y
  | .ge, x, y => x < y
  | .gt, x, y => ¬ y < x
  | .le, x, y => y < x
theorem own_cd_f {cd : ClassFile.Cond} {x y : Int32} (q : own_cn cd x y) : if_icmp.holds cd x y = false := by
  cases cd
  · exact (feq q).1
  · exact (teq q).2
  · exact (flt q).1
  · exact (tlt q).2.1
  · exact (flt q).2.2.1
  · exact (tlt q).2.2.2
theorem own_cd_em (cd : ClassFile.Cond) (x y : Int32) : own_cd cd x y ∨ own_cn cd x y := by
  cases cd
  · exact Classical.em (x = y)
  · exact (Classical.em (x = y)).symm
  · exact Classical.em (x < y)
  · exact (Classical.em (x < y)).symm
  · exact Classical.em (y < x)
  · exact (Classical.em (y < x)).symm
theorem own_icmp (S : own_S Z hs W own bytes maxL ret nm p l e R s m args below meth c T h cells slots) {cd : ClassFile.Cond} {o : Int} {x y : Int32} (pc' : Nat) (hd : decode bytes pc = .ok (.if_icmp cd o, 3)) (ho : 0 ≤ (pc : Int) + o) (hp : ((pc : Int) + o).toNat = pc')
    (ft : own_cd cd x y → own_F p e below s Z hs W k n Q (T.setTop (mkF m pc' Ls rest))) (ff : own_cn cd x y → own_F p e below s Z hs W k n Q (T.setTop (mkF m (pc + 3) Ls rest))) : own_F p e below s Z hs W k n Q (T.setTop (mkF m pc Ls (.int y :: .int x :: rest))) := by
  rcases own_cd_em cd x y with q | q
  · exact own_F.of (fun _ => XS.icmpYes S.here S.hx rfl (pc0 := pc) rfl (S.dec hd) rfl (own_cd_t q) ho hp) (ft q)
  · exact own_F.of (fun _ => XS.icmpNo S.here S.hx rfl (S.dec hd) rfl (own_cd_f q)) (ff q)
theorem own_if (S : own_S Z hs W own bytes maxL ret nm p l e R s m args below meth c T h cells slots) {cd : ClassFile.Cond} {o : Int} {x : Int32} (pc' : Nat) (hd : decode bytes pc = .ok (.ifCond cd o, 3)) (ho : 0 ≤ (pc : Int) + o) (hp : ((pc : Int) + o).toNat = pc')
    (ft : own_cd cd x 0 → own_F p e below s Z hs W k n Q (T.setTop (mkF m pc' Ls rest))) (ff : own_cn cd x 0 → own_F p e below s Z hs W k n Q (T.setTop (mkF m (pc + 3) Ls rest))) : own_F p e below s Z hs W k n Q (T.setTop (mkF m pc Ls (.int x :: rest))) := by
  rcases own_cd_em cd x 0 with q | q
  · exact own_F.of (fun _ => XS.ifYes S.here S.hx rfl (pc0 := pc) rfl (S.dec hd) rfl ((if0 _ _).trans (own_cd_t q)) ho hp) (ft q)
  · exact own_F.of (fun _ => XS.ifNo S.here S.hx rfl (S.dec hd) rfl ((if0 _ _).trans (own_cd_f q))) (ff q)
def own_ac : ACond → Value → Value → Prop
  | .eq, x, y => x = y
  | .ne, x, y => ¬ x = y
def own_an : ACond → Value → Value → Prop
  | .eq, x, y => ¬ x = y
  | .ne, x, y => x = y
theorem own_acmp (S : own_S Z hs W own bytes maxL ret nm p l e R s m args below meth c T h cells slots) {cd : ACond} {o : Int} {x y : Value} (h1 : x.isRef = true) (h2 : y.isRef = true) (pc' : Nat) (hd : decode bytes pc = .ok (.if_acmp cd o, 3)) (ho : 0 ≤ (pc : Int) + o) (hp : ((pc : Int) + o).toNat = pc')
    (ft : own_ac cd x y → own_F p e below s Z hs W k n Q (T.setTop (mkF m pc' Ls rest))) (ff : own_an cd x y → own_F p e below s Z hs W k n Q (T.setTop (mkF m (pc + 3) Ls rest))) : own_F p e below s Z hs W k n Q (T.setTop (mkF m pc Ls (y :: x :: rest))) := by
  obtain ⟨locs, X, -⟩ := S.2
  cases cd <;> rcases Classical.em (x = y) with q | q
  · exact own_F.of (fun _ => Jvm.RoadKit.acmp (g := mkF m pc Ls (y :: x :: rest)) X S.hx rfl h1 h2 (pc0 := pc) (pc' := pc') (same := true) rfl (S.dec hd) rfl (decide_eq_true q) ho (by simp [acV, ← hp])) (ft q)
  · exact own_F.of (fun _ => Jvm.RoadKit.acmp (g := mkF m pc Ls (y :: x :: rest)) X S.hx rfl h1 h2 (pc0 := pc) (pc' := pc + 3) (same := false) rfl (S.dec hd) rfl (decide_eq_false q) ho (by simp [acV])) (ff q)
  · exact own_F.of (fun _ => Jvm.RoadKit.acmp (g := mkF m pc Ls (y :: x :: rest)) X S.hx rfl h1 h2 (pc0 := pc) (pc' := pc + 3) (same := true) rfl (S.dec hd) rfl (decide_eq_true q) ho (by simp [acV])) (ff q)
  · exact own_F.of (fun _ => Jvm.RoadKit.acmp (g := mkF m pc Ls (y :: x :: rest)) X S.hx rfl h1 h2 (pc0 := pc) (pc' := pc') (same := false) rfl (S.dec hd) rfl (decide_eq_false q) ho (by simp [acV, ← hp])) (ft q)

/-! the heap -/
theorem own_getF (S : own_S Z hs W own bytes maxL ret nm p l e R s m args below meth c T h cells slots) {R0 O fn d host : String} {index : Nat} (w : (Jvm.Cond.fieldLink own index R0 fn d).before a0 Z = true ∨ (Jvm.Cond.fieldLinkNest own index R0 fn d host).before a0 Z = true) (via : Via Z R0 O fn d)
    {a : Addr} {v : Value} (F : Fld Z h a O fn d v) (hd : decode bytes pc = .ok (.getfield index, 3))
    (f : ∀ T', own_S Z hs W own bytes maxL ret nm p l e R s m args below meth c T' h cells slots → own_F p e below s Z hs W k n Q (T'.setTop (mkF m (pc + 3) Ls (v :: rest)))) : own_F p e below s Z hs W k n Q (T.setTop (mkF m pc Ls (.ref a :: rest))) := by
  have S' := S
  obtain ⟨G, locs, X, N, e0, K⟩ := S
  obtain ⟨T', X', e', st⟩ := getF X S'.hx S'.hZ S'.hown w via e0 F (g := mkF m pc Ls (.ref a :: rest)) rfl rfl (S'.dec hd)
  exact own_F.of st (f T' ⟨G, locs, X', N, e', K⟩)
theorem own_getS (S : own_S Z hs W own bytes maxL ret nm p l e R s m args below meth c T h cells slots) {R0 O fn d host : String} {index : Nat} (w : (Jvm.Cond.fieldLink own index R0 fn d).before a0 Z = true ∨ (Jvm.Cond.fieldLinkNest own index R0 fn d host).before a0 Z = true) (via : Via Z R0 O fn d)
    {v : Value} (F : Sta Z h O fn d v) (hd : decode bytes pc = .ok (.getstatic index, 3))
    (f : ∀ T', own_S Z hs W own bytes maxL ret nm p l e R s m args below meth c T' h cells slots → own_F p e below s Z hs W k n Q (T'.setTop (mkF m (pc + 3) Ls (v :: st)))) : own_F p e below s Z hs W k n Q (T.setTop (mkF m pc Ls st)) := by
  have S' := S
  obtain ⟨G, locs, X, N, e0, K⟩ := S
  obtain ⟨T', X', e', st⟩ := getS2 X S'.hx S'.hZ S'.hown w via e0 F (g := mkF m pc Ls st) rfl (S'.dec hd)
  exact own_F.of st (f T' ⟨G, locs, X', N, e', K⟩)
theorem own_putF (S : own_S Z hs W own bytes maxL ret nm p l e R s m args below meth c T h cells slots) {R0 O fn d host C : String} {index kk : Nat} {ty : FieldType} (w : (Jvm.Cond.fieldLink own index R0 fn d).before a0 Z = true ∨ (Jvm.Cond.fieldLinkNest own index R0 fn d host).before a0 Z = true) (via : Via Z R0 O fn d)
    {a : Addr} {v old : Value} (F : Fld Z h a O fn d old) (E : Exa Z h a C) (L : (Jvm.Cond.lays C O fn d).before a0 Z = true ∨ ((Jvm.Cond.laysFinal C O fn d).before a0 Z = true ∧ own = O ∧ nm = "<init>")) (wi : (Jvm.Cond.instantiable C kk).before a0 Z = true)
    (hty : parseFieldDescriptor d = some ty) (hn : narrow ty v = v) (hf : fits ty v = true) (hd : decode bytes pc = .ok (.putfield index, 3)) (ok : a ∈ W ∨ hs.size ≤ a)
    (f : ∀ T' h', own_S Z hs W own bytes maxL ret nm p l e R s m args below meth c T' h' cells slots → Wr h h' a (Jvm.RoadKit.slotOf Z O fn d) v → own_F p e below s Z hs W k n Q (T'.setTop (mkF m (pc + 3) Ls rest))) : own_F p e below s Z hs W k n Q (T.setTop (mkF m pc Ls (v :: .ref a :: rest))) := by
  have S' := S
  obtain ⟨G, locs, X, N, e0, K⟩ := S
  obtain ⟨T', h', X', e', Wt, st⟩ := putF X S'.hx S'.hZ S'.hown w via e0 F E (L.imp id fun q => ⟨q.1, q.2.1, S'.hnm.trans q.2.2⟩) wi hty hn hf (g := mkF m pc Ls (v :: .ref a :: rest)) rfl rfl (S'.dec hd)
  exact own_F.of st (f T' h' ⟨G, _, X', Fr.snoc X' N (S'.may ok), e', K.wr Wt ok⟩ Wt)
theorem own_new (S : own_S Z hs W own bytes maxL ret nm p l e R s m args below meth c T h cells slots) {C : String} {index sl : Nat} (w : (Jvm.Cond.classLink own index C).before a0 Z = true) (wi : (Jvm.Cond.instantiable C sl).before a0 Z = true) (wz : (Jvm.Cond.initialized C).before a0 Z = true)
    (hd : decode bytes pc = .ok (.new index, 3)) (hc : cells + 1 ≤ R.cells) (hl : slots + sl ≤ R.slots)
    (f : ∀ T' h' a, a = h.size → own_S Z hs W own bytes maxL ret nm p l e R s m args below meth c T' h' (cells + 1) (slots + sl) → Ext h h' → Exa Z h' a C → (∀ {O fn d : String} {ty : FieldType}, Laid Z a0 C O fn d → parseFieldDescriptor d = some ty → Fld Z h' a O fn d (defaultValue ty)) →
      own_F p e below s Z hs W k n Q (T'.setTop (mkF m (pc + 3) Ls (.ref a :: st)))) : own_F p e below s Z hs W k n Q (T.setTop (mkF m pc Ls st)) := by
  have S' := S
  obtain ⟨G, locs, X, N, e0, K⟩ := S
  obtain ⟨T', h', X', e', E, A, D, -, st⟩ := newO X S'.hx S'.hZ S'.hown w wi wz e0 (g := mkF m pc Ls st) rfl (S'.dec hd) hc hl
  exact own_F.of st (f T' h' _ rfl ⟨G, _, X', N, e', K.ext E⟩ E A D)
theorem own_initO (S : own_S Z hs W own bytes maxL ret nm p l e R s m args below meth c T h cells slots) {index : Nat} (w1 : (Jvm.Cond.methodLink own index Lib.objectInit).before a0 Z = true) (w2 : (Jvm.Cond.instanceMethod Lib.objectInit).before a0 Z = true)
    (w3 : (Jvm.Cond.code Lib.objectInit ⟨#[0xb1]⟩ 1 none).before a0 Z = true) {a : Addr} (hsz : Ls.size = maxL) (hd : decode bytes pc = .ok (.invokespecial index, 3)) (hf : 1 ≤ R.frames) (hl : (rest.map fun v => v.category).sum + 12 ≤ R.locals)
    (f : ∀ T', own_S Z hs W own bytes maxL ret nm p l e R s m args below meth c T' h cells slots → own_F p e below s Z hs W k n Q (T'.setTop (mkF m (pc + 3) Ls rest))) : own_F p e below s Z hs W k n Q (T.setTop (mkF m pc Ls (.ref a :: rest))) := by
  have S' := S
  obtain ⟨G, locs, X, N, e0, K⟩ := S
  obtain ⟨T', X', e', st⟩ := initO X S'.hx S'.hZ S'.hown w1 w2 w3 e0 (g := mkF m pc Ls (.ref a :: rest)) rfl (hsz.trans S'.hml.symm) rfl (S'.dec hd) hf (W := (rest.map fun v => v.category).sum) (by show 2 * 0 + _ ≤ _; omega) hl
  exact own_F.of st (f T' ⟨G, locs, X', N, e', K⟩)

/-! calls -/
variable {index : Nat} {y y' : MethodName} {bytes' : ByteArray} {maxL' : Nat} {ret' : Option FieldType} {rm : Room} {W' : List Addr} {Q' : Option Value → Heap → Prop} {argsL : List Value} {ps : List FieldType} {rt : Option FieldType}
theorem own_callS (S : own_S Z hs W own bytes maxL ret nm p l e R s m args below meth c T h cells slots)
    (w1 : (Jvm.Cond.methodLink own index y).before a0 Z = true) (w2 : (Jvm.Cond.static y).before a0 Z = true) (w3 : (Jvm.Cond.initialized y.cls).before a0 Z = true) (w4 : (Jvm.Cond.code y bytes' maxL' ret').before a0 Z = true) (hy : y.cls ≠ "java/lang/invoke/MethodHandle" ∧ y.cls ≠ "java/lang/invoke/VarHandle")
    (C : own_C l Z y bytes' maxL' ret' [] rm W' argsL.toArray h Q') (hWW : ∀ a ∈ W', a ∈ W ∨ hs.size ≤ a) (pd : parseMethodDescriptor y.desc = some ⟨ps, rt⟩) (hlen : argsL.length = ps.length) (hsz : Ls.size = maxL) (hst : st = argsL.reverse ++ rest)
    (hd : decode bytes pc = .ok (.invokestatic index, 3)) (hfr : rm.frames + 1 ≤ R.frames) (hlo : (rest.map fun v => v.category).sum + (maxL' + 11) + rm.locals ≤ R.locals) (hc : cells + rm.cells ≤ R.cells) (hsl : slots + rm.slots ≤ R.slots)
    (f : ∀ T' h' v, own_S Z hs W own bytes maxL ret nm p l e R s m args below meth c T' h' (cells + rm.cells) (slots + rm.slots) → Keep h h' W' → Q' v h' → own_F p e below s Z hs W k n Q (T'.setTop (mkF m (pc + 3) Ls (v.toList ++ rest)))) : own_F p e below s Z hs W k n Q (T.setTop (mkF m pc Ls st)) := by
  have S' := S
  obtain ⟨G, locs, X, N, e0, K⟩ := S
  obtain ⟨v, _, ⟨T', L', k', n'⟩, -, X', ⟨Lc, hQ, h1, h2, h3⟩, st⟩ := Jvm.LawKit.callS X S'.hx (y := y) S'.hown (mvT S'.hZ w1) (mvT S'.hZ w2) (mvT S'.hZ w3) (mvT S'.hZ w4) hy (backOf (W := (rest.map fun v => v.category).sum) (Q := fun v hh L => Fr Z.heap.size L ∧ Keep h hh W' ∧ Q' v hh) C S'.hZ w4 w3 hfr hlo) (g := mkF m pc Ls st) rfl (hsz.trans S'.hml.symm) (argsL := argsL) (rest := rest) (lenOf pd hlen) hst (by show 2 * 0 + _ ≤ _; omega) (S'.dec hd) (fun _ _ => ⟨rfl, e0, hc, hsl⟩)
  dsimp only [Pt.U, Pt.locs, Pt.cells, Pt.slots] at X' h1 h2 h3 st hQ
  subst h1 h2 h3
  obtain ⟨N', K', q⟩ := hQ
  exact own_F.of st (f T' T'.heap v ⟨G, _, X', Fr.app N N', rfl, K.trans K' hWW⟩ K' q)
theorem own_callI (S : own_S Z hs W own bytes maxL ret nm p l e R s m args below meth c T h cells slots) (hy1 : y.name = "<init>")
    (w1 : (Jvm.Cond.methodLink own index y).before a0 Z = true) (w2 : (Jvm.Cond.instanceMethod y).before a0 Z = true) (w3 : (Jvm.Cond.initialized y.cls).before a0 Z = true) (w4 : (Jvm.Cond.code y bytes' maxL' none).before a0 Z = true) (hy : y.cls ≠ "java/lang/invoke/MethodHandle" ∧ y.cls ≠ "java/lang/invoke/VarHandle")
    {a : Addr} (C : own_C l Z y bytes' maxL' none [] rm W' (.ref a :: argsL).toArray h Q') (hWW : ∀ a ∈ W', a ∈ W ∨ hs.size ≤ a) (pd : parseMethodDescriptor y.desc = some ⟨ps, rt⟩) (hlen : argsL.length = ps.length) (hsz : Ls.size = maxL) (hst : st = argsL.reverse ++ .ref a :: rest)
    (hd : decode bytes pc = .ok (.invokespecial index, 3)) (hfr : rm.frames + 1 ≤ R.frames) (hlo : (rest.map fun v => v.category).sum + (maxL' + 11) + rm.locals ≤ R.locals) (hc : cells + rm.cells ≤ R.cells) (hsl : slots + rm.slots ≤ R.slots)
    (f : ∀ T' h' v, own_S Z hs W own bytes maxL ret nm p l e R s m args below meth c T' h' (cells + rm.cells) (slots + rm.slots) → Keep h h' W' → Q' v h' → own_F p e below s Z hs W k n Q (T'.setTop (mkF m (pc + 3) Ls (v.toList ++ rest)))) : own_F p e below s Z hs W k n Q (T.setTop (mkF m pc Ls st)) := by
  have S' := S
  obtain ⟨G, locs, X, N, e0, K⟩ := S
  obtain ⟨v, _, ⟨T', L', k', n'⟩, -, X', ⟨Lc, hQ, h1, h2, h3⟩, st⟩ := X.specialBack S'.hx (y := y) hy1 S'.hown (mvT S'.hZ w1) (mvT S'.hZ w2) (mvT S'.hZ w4) hy (backOf (W := (rest.map fun v => v.category).sum) (Q := fun v hh L => Fr Z.heap.size L ∧ Keep h hh W' ∧ Q' v hh) C S'.hZ w4 w3 hfr hlo) (g := mkF m pc Ls st) rfl (hsz.trans S'.hml.symm) (Steps.refl _) (a := a) (argsL := argsL) (rest := rest) (lenOf pd hlen) hst (by show 2 * 0 + _ ≤ _; omega) (S'.dec hd) (fun _ _ => ⟨rfl, e0, hc, hsl⟩)
  dsimp only [Pt.U, Pt.locs, Pt.cells, Pt.slots] at X' h1 h2 h3 st hQ
  subst h1 h2 h3
  obtain ⟨N', K', q⟩ := hQ
  exact own_F.to st (f T' T'.heap v ⟨G, _, X', Fr.app N N', rfl, K.trans K' hWW⟩ K' q)
theorem own_callV (S : own_S Z hs W own bytes maxL ret nm p l e R s m args below meth c T h cells slots) {Cn : String}
    (w1 : (Jvm.Cond.methodLink own index y).before a0 Z = true) (w2 : (Jvm.Cond.declares y).before a0 Z = true) (nf : NotFace s y) (w3 : (Jvm.Cond.selects Cn y y').before a0 Z = true) (w4 : (Jvm.Cond.instanceMethod y').before a0 Z = true) (w5 : (Jvm.Cond.code y' bytes' maxL' ret').before a0 Z = true) (w6 : (Jvm.Cond.initialized y'.cls).before a0 Z = true) (hy : y.cls ≠ "java/lang/invoke/MethodHandle" ∧ y.cls ≠ "java/lang/invoke/VarHandle")
    {a : Addr} (E : Exa Z h a Cn) (C : own_C l Z y' bytes' maxL' ret' [] rm W' (.ref a :: argsL).toArray h Q') (hWW : ∀ a ∈ W', a ∈ W ∨ hs.size ≤ a) (pd : parseMethodDescriptor y.desc = some ⟨ps, rt⟩) (hlen : argsL.length = ps.length) (hsz : Ls.size = maxL) (hst : st = argsL.reverse ++ .ref a :: rest)
    (hd : decode bytes pc = .ok (.invokevirtual index, 3)) (hfr : rm.frames + 1 ≤ R.frames) (hlo : (rest.map fun v => v.category).sum + (maxL' + 11) + rm.locals ≤ R.locals) (hc : cells + rm.cells ≤ R.cells) (hsl : slots + rm.slots ≤ R.slots)
    (f : ∀ T' h' v, own_S Z hs W own bytes maxL ret nm p l e R s m args below meth c T' h' (cells + rm.cells) (slots + rm.slots) → Keep h h' W' → Q' v h' → own_F p e below s Z hs W k n Q (T'.setTop (mkF m (pc + 3) Ls (v.toList ++ rest)))) : own_F p e below s Z hs W k n Q (T.setTop (mkF m pc Ls st)) := by
  have S' := S
  obtain ⟨G, locs, X, N, e0, K⟩ := S
  obtain ⟨cq, kq, qa, qb, qc⟩ := isOf S'.hZ e0 E
  obtain ⟨v, _, ⟨T', L', k', n'⟩, -, X', ⟨Lc, hQ, h1, h2, h3⟩, st⟩ := X.virtualBack S'.hx (y := y) (z := y') S'.hown (mvT S'.hZ w1) (mvT S'.hZ w2) nf (mvT S'.hZ w3) (mvT S'.hZ w4) hy (backOf (W := (rest.map fun v => v.category).sum) (Q := fun v hh L => Fr Z.heap.size L ∧ Keep h hh W' ∧ Q' v hh) C S'.hZ w5 w6 hfr hlo) qa qc (g := mkF m pc Ls st) rfl (hsz.trans S'.hml.symm) (Steps.refl _) (argsL := argsL) (rest := rest) (lenOf pd hlen) hst (by show 2 * 0 + _ ≤ _; omega) (S'.dec hd) (fun _ _ => ⟨rfl, e0, hc, hsl⟩)
  dsimp only [Pt.U, Pt.locs, Pt.cells, Pt.slots] at X' h1 h2 h3 st hQ
  subst h1 h2 h3
  obtain ⟨N', K', q⟩ := hQ
  exact own_F.to st (f T' T'.heap v ⟨G, _, X', Fr.app N N', rfl, K.trans K' hWW⟩ K' q)
theorem own_nf (S : own_S Z hs W own bytes maxL ret nm p l e R s m args below meth c T h cells slots) {Cn : String} (w : (Jvm.Cond.selects Cn y y).before a0 Z = true) : NotFace s y := notFace_of_selects (args := #[]) (mvT S.hZ w)
theorem own_callX (S : own_S Z hs W own bytes maxL ret nm p l e R s m args below meth c T h cells slots) {Cn : String} {cnt : Nat}
    (w1 : (Jvm.Cond.methodLink own index y).before a0 Z = true) (w2 : (Jvm.Cond.declares y).before a0 Z = true) (w7 : (Jvm.Cond.interfaceMethod y.cls y.cls y.name y.desc).before a0 Z = true) (w3 : (Jvm.Cond.selects Cn y y').before a0 Z = true) (w4 : (Jvm.Cond.instanceMethod y').before a0 Z = true) (w8 : (Jvm.Cond.publicMethod y').before a0 Z = true) (w9 : (Jvm.Cond.unhidden Cn y.name y.desc).before a0 Z = true) (w10 : (Jvm.Cond.castable Cn y.cls).before a0 Z = true)
    (w5 : (Jvm.Cond.code y' bytes' maxL' ret').before a0 Z = true) (w6 : (Jvm.Cond.initialized y'.cls).before a0 Z = true) (hy : y.cls ≠ "java/lang/invoke/MethodHandle" ∧ y.cls ≠ "java/lang/invoke/VarHandle")
    {a : Addr} (E : Exa Z h a Cn) (C : own_C l Z y' bytes' maxL' ret' [] rm W' (.ref a :: argsL).toArray h Q') (hWW : ∀ a ∈ W', a ∈ W ∨ hs.size ≤ a) (pd : parseMethodDescriptor y.desc = some ⟨ps, rt⟩) (hlen : argsL.length = ps.length) (hsz : Ls.size = maxL) (hst : st = argsL.reverse ++ .ref a :: rest)
    (hd : decode bytes pc = .ok (.invokeinterface index cnt, 5)) (hfr : rm.frames + 1 ≤ R.frames) (hlo : (rest.map fun v => v.category).sum + (maxL' + 11) + rm.locals ≤ R.locals) (hc : cells + rm.cells ≤ R.cells) (hsl : slots + rm.slots ≤ R.slots)
    (f : ∀ T' h' v, own_S Z hs W own bytes maxL ret nm p l e R s m args below meth c T' h' (cells + rm.cells) (slots + rm.slots) → Keep h h' W' → Q' v h' → own_F p e below s Z hs W k n Q (T'.setTop (mkF m (pc + 5) Ls (v.toList ++ rest)))) : own_F p e below s Z hs W k n Q (T.setTop (mkF m pc Ls st)) := by
  have S' := S
  obtain ⟨G, locs, X, N, e0, K⟩ := S
  obtain ⟨cq, kq, qa, qb, qc⟩ := isOf S'.hZ e0 E
  obtain ⟨v, _, ⟨T', L', k', n'⟩, -, X', ⟨Lc, hQ, h1, h2, h3⟩, st⟩ := X.interfaceBack S'.hx (xi := y) (y := y') S'.hown (mvT S'.hZ w1) (mvT S'.hZ w2) (mvT S'.hZ w7 (by simp [Cond.onTables, Cond.keepsFace, Cond.keeps, Cond.steady, Cond.faceAtom, hy])) (mvT S'.hZ w3) (mvT S'.hZ w4) (mvT S'.hZ w8) (mvT S'.hZ w9) (mvT S'.hZ w10) hy (backOf (W := (rest.map fun v => v.category).sum) (Q := fun v hh L => Fr Z.heap.size L ∧ Keep h hh W' ∧ Q' v hh) C S'.hZ w5 w6 hfr hlo) qa qb qc (g := mkF m pc Ls st) rfl (hsz.trans S'.hml.symm) (Steps.refl _) (argsL := argsL) (rest := rest) (lenOf pd hlen) hst (by show 2 * 0 + _ ≤ _; omega) (S'.dec hd) (fun _ _ => ⟨rfl, e0, hc, hsl⟩)
  dsimp only [Pt.U, Pt.locs, Pt.cells, Pt.slots] at X' h1 h2 h3 st hQ
  subst h1 h2 h3
  obtain ⟨N', K', q⟩ := hQ
  exact own_F.to st (f T' T'.heap v ⟨G, _, X', Fr.app N N', rfl, K.trans K' hWW⟩ K' q)
theorem own_callP (S : own_S Z hs W own bytes maxL ret nm p l e R s m args below meth c T h cells slots)
    (w1 : (Jvm.Cond.methodLink own index y).before a0 Z = true) (w2 : (Jvm.Cond.instanceMethod y).before a0 Z = true) {kk : Nat} (w3 : (Jvm.Cond.instantiable y.cls kk).before a0 Z = true) (wp : (Jvm.Cond.privateMethod y).before a0 Z = true) (w5 : (Jvm.Cond.code y bytes' maxL' ret').before a0 Z = true) (w6 : (Jvm.Cond.initialized y.cls).before a0 Z = true) (hy : y.cls ≠ "java/lang/invoke/MethodHandle" ∧ y.cls ≠ "java/lang/invoke/VarHandle")
    {a : Addr} {Cn : String} (E : Exa Z h a Cn) (C : own_C l Z y bytes' maxL' ret' [] rm W' (.ref a :: argsL).toArray h Q') (hWW : ∀ a ∈ W', a ∈ W ∨ hs.size ≤ a) (pd : parseMethodDescriptor y.desc = some ⟨ps, rt⟩) (hlen : argsL.length = ps.length) (hsz : Ls.size = maxL) (hst : st = argsL.reverse ++ .ref a :: rest)
    (hd : decode bytes pc = .ok (.invokevirtual index, 3)) (hfr : rm.frames + 1 ≤ R.frames) (hlo : (rest.map fun v => v.category).sum + (maxL' + 11) + rm.locals ≤ R.locals) (hc : cells + rm.cells ≤ R.cells) (hsl : slots + rm.slots ≤ R.slots)
    (f : ∀ T' h' v, own_S Z hs W own bytes maxL ret nm p l e R s m args below meth c T' h' (cells + rm.cells) (slots + rm.slots) → Keep h h' W' → Q' v h' → own_F p e below s Z hs W k n Q (T'.setTop (mkF m (pc + 3) Ls (v.toList ++ rest)))) : own_F p e below s Z hs W k n Q (T.setTop (mkF m pc Ls st)) := by
  have S' := S
  obtain ⟨G, locs, X, N, e0, K⟩ := S
  obtain ⟨cq, qq, qq'⟩ := E.cell
  obtain ⟨ci, ki, i1, i2, i3, i4, -⟩ := Cond.instantiable_spec (mvT (args := args) S'.hZ w3)
  have hsel : (Jvm.Cond.selects y.cls y y).before args s = true := Jvm.Stand.selects_self_of_private i1 i2 (by simp only [Bool.or_eq_false_iff] at i4; exact i4.1) (Cond.privateMethod_at (mvP S'.hZ wp (args := #[]))) (mvT S'.hZ w2) hy
  obtain ⟨v, _, ⟨T', L', k', n'⟩, -, X', ⟨Lc, hQ, h1, h2, h3⟩, st⟩ := X.privateBack S'.hx (y := y) S'.hown (mvT S'.hZ w1) (mvT S'.hZ w2) hsel (Cond.privateMethod_at (mvP S'.hZ wp (args := #[]))) (mvT S'.hZ w5) hy (backOf (W := (rest.map fun v => v.category).sum) (Q := fun v hh L => Fr Z.heap.size L ∧ Keep h hh W' ∧ Q' v hh) C S'.hZ w5 w6 hfr hlo) (g := mkF m pc Ls st) rfl (hsz.trans S'.hml.symm) (Steps.refl _) (a := a) (by rw [e0]; exact qq) qq' (argsL := argsL) (rest := rest) (lenOf pd hlen) hst (by show 2 * 0 + _ ≤ _; omega) (S'.dec hd) (fun _ _ => ⟨rfl, e0, hc, hsl⟩)
  dsimp only [Pt.U, Pt.locs, Pt.cells, Pt.slots] at X' h1 h2 h3 st hQ
  subst h1 h2 h3
  obtain ⟨N', K', q⟩ := hQ
  exact own_F.to st (f T' T'.heap v ⟨G, _, X', Fr.app N N', rfl, K.trans K' hWW⟩ K' q)
theorem own_callU (S : own_S Z hs W own bytes maxL ret nm p l e R s m args below meth c T h cells slots) {Cn owner : String}
    (w1 : (Jvm.Cond.methodLink own index y).before a0 Z = true) (w2 : (Jvm.Cond.sameMethod y.cls owner y.name y.desc).before a0 Z = true) (w7 : (Jvm.Cond.declares ⟨owner, y.name, y.desc⟩).before a0 Z = true) (hy : owner ≠ "java/lang/invoke/MethodHandle" ∧ owner ≠ "java/lang/invoke/VarHandle") (w3 : (Jvm.Cond.selects Cn y y').before a0 Z = true) (w4 : (Jvm.Cond.instanceMethod y').before a0 Z = true) (w5 : (Jvm.Cond.code y' bytes' maxL' ret').before a0 Z = true) (w6 : (Jvm.Cond.initialized y'.cls).before a0 Z = true)
    {a : Addr} (E : Exa Z h a Cn) (C : own_C l Z y' bytes' maxL' ret' [] rm W' (.ref a :: argsL).toArray h Q') (hWW : ∀ a ∈ W', a ∈ W ∨ hs.size ≤ a) (pd : parseMethodDescriptor y.desc = some ⟨ps, rt⟩) (hlen : argsL.length = ps.length) (hsz : Ls.size = maxL) (hst : st = argsL.reverse ++ .ref a :: rest)
    (hd : decode bytes pc = .ok (.invokevirtual index, 3)) (hfr : rm.frames + 1 ≤ R.frames) (hlo : (rest.map fun v => v.category).sum + (maxL' + 11) + rm.locals ≤ R.locals) (hc : cells + rm.cells ≤ R.cells) (hsl : slots + rm.slots ≤ R.slots)
    (f : ∀ T' h' v, own_S Z hs W own bytes maxL ret nm p l e R s m args below meth c T' h' (cells + rm.cells) (slots + rm.slots) → Keep h h' W' → Q' v h' → own_F p e below s Z hs W k n Q (T'.setTop (mkF m (pc + 3) Ls (v.toList ++ rest)))) : own_F p e below s Z hs W k n Q (T.setTop (mkF m pc Ls st)) := by
  have S' := S
  obtain ⟨G, locs, X, N, e0, K⟩ := S
  obtain ⟨cq, kq, qa, qb, qc⟩ := isOf S'.hZ e0 E
  obtain ⟨v, _, ⟨T', L', k', n'⟩, -, X', ⟨Lc, hQ, h1, h2, h3⟩, st⟩ := X.virtualBackUp S'.hx (x := y) (y := y') S'.hown (mvT S'.hZ w1) (mvT S'.hZ w2) (mvT S'.hZ w7) hy (mvT S'.hZ w3) (mvT S'.hZ w4) (backOf (W := (rest.map fun v => v.category).sum) (Q := fun v hh L => Fr Z.heap.size L ∧ Keep h hh W' ∧ Q' v hh) C S'.hZ w5 w6 hfr hlo) qa qc (g := mkF m pc Ls st) rfl (hsz.trans S'.hml.symm) (Steps.refl _) (argsL := argsL) (rest := rest) (lenOf pd hlen) hst (by show 2 * 0 + _ ≤ _; omega) (S'.dec hd) (fun _ _ => ⟨rfl, e0, hc, hsl⟩)
  dsimp only [Pt.U, Pt.locs, Pt.cells, Pt.slots] at X' h1 h2 h3 st hQ
  subst h1 h2 h3
  obtain ⟨N', K', q⟩ := hQ
  exact own_F.to st (f T' T'.heap v ⟨G, _, X', Fr.app N N', rfl, K.trans K' hWW⟩ K' q)
/-! casts and tests of classes -/
theorem own_cast (S : own_S Z hs W own bytes maxL ret nm p l e R s m args below meth c T h cells slots) {Kn : String} {a : Addr} (w : (Jvm.Cond.classLink own index Kn).before a0 Z = true) (F : Ins Z h a Kn true) (hd : decode bytes pc = .ok (.checkcast index, 3))
    (f : ∀ T', own_S Z hs W own bytes maxL ret nm p l e R s m args below meth c T' h cells slots → own_F p e below s Z hs W k n Q (T'.setTop (mkF m (pc + 3) Ls (.ref a :: rest)))) : own_F p e below s Z hs W k n Q (T.setTop (mkF m pc Ls (.ref a :: rest))) := by
  have S' := S
  obtain ⟨G, locs, X, N, e0, K⟩ := S
  obtain ⟨T', X', e', st⟩ := castY X S'.hx S'.hZ S'.hown w e0 F (g := mkF m pc Ls (.ref a :: rest)) rfl rfl (S'.dec hd)
  exact own_F.of st (f T' ⟨G, locs, X', N, e', K⟩)
theorem own_inst (S : own_S Z hs W own bytes maxL ret nm p l e R s m args below meth c T h cells slots) {Kn : String} {a : Addr} (w : (Jvm.Cond.classLink own index Kn).before a0 Z = true) (F : Ins Z h a Kn true) (hd : decode bytes pc = .ok (.instanceof index, 3))
    (f : ∀ T', own_S Z hs W own bytes maxL ret nm p l e R s m args below meth c T' h cells slots → own_F p e below s Z hs W k n Q (T'.setTop (mkF m (pc + 3) Ls (.int (1 : Int32) :: rest)))) : own_F p e below s Z hs W k n Q (T.setTop (mkF m pc Ls (.ref a :: rest))) := by
  have S' := S
  obtain ⟨G, locs, X, N, e0, K⟩ := S
  obtain ⟨T', X', e', st⟩ := instY X S'.hx S'.hZ S'.hown w e0 F (g := mkF m pc Ls (.ref a :: rest)) rfl rfl (S'.dec hd)
  exact own_F.of st (f T' ⟨G, locs, X', N, e', K⟩)

theorem own_instN (S : own_S Z hs W own bytes maxL ret nm p l e R s m args below meth c T h cells slots) {Kn Cn : String} {a : Addr} (w : (Jvm.Cond.classLink own index Kn).before a0 Z = true) (E : Exa Z h a Cn) (F : ∃ c t, Z.vm.findClass Cn = some c ∧ Z.vm.findClass Kn = some t ∧ Z.vm.assignable c t = false) (hd : decode bytes pc = .ok (.instanceof index, 3))
    (f : ∀ T', own_S Z hs W own bytes maxL ret nm p l e R s m args below meth c T' h cells slots → own_F p e below s Z hs W k n Q (T'.setTop (mkF m (pc + 3) Ls (.int (0 : Int32) :: rest)))) : own_F p e below s Z hs W k n Q (T.setTop (mkF m pc Ls (.ref a :: rest))) := by
  have S' := S
  obtain ⟨G, locs, X, N, e0, K⟩ := S
  obtain ⟨T', X', e', st⟩ := instNo X S'.hx S'.hZ S'.hown w e0 E F (g := mkF m pc Ls (.ref a :: rest)) rfl rfl (S'.dec hd)
  exact own_F.of st (f T' ⟨G, locs, X', N, e', K⟩)
theorem own_inst0 (S : own_S Z hs W own bytes maxL ret nm p l e R s m args below meth c T h cells slots) (hd : decode bytes pc = .ok (.instanceof index, 3))
    (f : own_F p e below s Z hs W k n Q (T.setTop (mkF m (pc + 3) Ls (.int (0 : Int32) :: rest)))) : own_F p e below s Z hs W k n Q (T.setTop (mkF m pc Ls (.null :: rest))) := by
  obtain ⟨locs, X, -⟩ := S.2
  exact own_F.of (X.instanceofNull S.hx (g := mkF m pc Ls (.null :: rest)) rfl rfl (S.dec hd)) f
theorem own_cast0 (S : own_S Z hs W own bytes maxL ret nm p l e R s m args below meth c T h cells slots) (hd : decode bytes pc = .ok (.checkcast index, 3))
    (f : own_F p e below s Z hs W k n Q (T.setTop (mkF m (pc + 3) Ls (.null :: rest)))) : own_F p e below s Z hs W k n Q (T.setTop (mkF m pc Ls (.null :: rest))) := by
  obtain ⟨locs, X, -⟩ := S.2
  exact own_F.of (X.checkcastNull S.hx (g := mkF m pc Ls (.null :: rest)) rfl rfl (S.dec hd)) f
theorem own_NSroot {O Kn : String} {i : Nat} (w : (Jvm.Cond.noSuperclass O).before a0 Z = true) (wk : (Jvm.Cond.instantiable Kn i).before a0 Z = true) (hn : O ≠ Kn) : NS Z O Kn := by
  obtain ⟨cO, kO, h1, h2, h3, -⟩ := Cond.noSuperclass_spec w
  obtain ⟨t, kt, g1, -⟩ := Cond.instantiable_spec wk
  refine ⟨cO, t, h1, g1, fun fuel => ?_⟩
  cases fuel with
  | zero => rfl
  | succ f => simp [Vm.isSubclassAux, ids_ne h1 g1 hn, h2, h3]
theorem own_NSno {Cn Sn Kn : String} {i : Nat} (w : (Jvm.Cond.superclass Cn Sn).before a0 Z = true) (wk : (Jvm.Cond.instantiable Kn i).before a0 Z = true) (q : NS Z Cn Kn) (hn : Cn ≠ Kn) : ∃ c t, Z.vm.findClass Cn = some c ∧ Z.vm.findClass Kn = some t ∧ Z.vm.assignable c t = false := by
  obtain ⟨cC, t, h0, g0, n3⟩ := q
  obtain ⟨p, kC, kp, h1, h2, h3, h4, h5, -, h7⟩ := Cond.superclass_spec h0 w
  obtain ⟨t', kt, g1, g2, g3, g4, -⟩ := Cond.instantiable_spec wk
  cases g0.symm.trans g1
  have g5 : kt.isInterface = false := by simp only [Bool.or_eq_false_iff] at g4; exact g4.1
  refine ⟨cC, t, h0, g0, ?_⟩
  show Z.vm.assignableAux (255 + 1) cC t = false
  simp [Vm.assignableAux, ids_ne h0 g0 hn, h2, g2, h5, g3, g5, Vm.isSubclass, n3]

/-! more single steps -/
theorem own_irem (S : own_S Z hs W own bytes maxL ret nm p l e R s m args below meth c T h cells slots) {x y : Int32} {t : State} (hd : decode bytes pc = .ok (.irem, 1)) (hy : y ≠ 0) (k : Steps p.tables e below (T.setTop (mkF m (pc + 1) Ls (.int (x % y) :: rest))) t) : Steps p.tables e below (T.setTop (mkF m pc Ls (.int y :: .int x :: rest))) t := by
  obtain ⟨locs, X, -⟩ := S.2
  exact iremM X S.hx (g := mkF m pc Ls (.int y :: .int x :: rest)) rfl (S.dec hd) rfl hy k
theorem own_lrem (S : own_S Z hs W own bytes maxL ret nm p l e R s m args below meth c T h cells slots) {x y : Int64} {t : State} (hd : decode bytes pc = .ok (.lrem, 1)) (hy : y ≠ 0) (k : Steps p.tables e below (T.setTop (mkF m (pc + 1) Ls (.long (x % y) :: rest))) t) : Steps p.tables e below (T.setTop (mkF m pc Ls (.long y :: .long x :: rest))) t := by
  have q : x - x / y * y = x % y := lrem_mod x y
  exact XS.lrem S.here S.hx (g := mkF m pc Ls (.long y :: .long x :: rest)) rfl (S.dec hd) rfl hy (by rw [q]; exact k)
theorem own_ldcI (S : own_S Z hs W own bytes maxL ret nm p l e R s m args below meth c T h cells slots) {i : Nat} {v : Int32} (w : (Jvm.Cond.constant own i v).before a0 Z = true) (hd : decode bytes pc = .ok (.ldc i, 2)) (f : own_F p e below s Z hs W k n Q (T.setTop (mkF m (pc + 2) Ls (.int v :: st)))) : own_F p e below s Z hs W k n Q (T.setTop (mkF m pc Ls st)) := by
  obtain ⟨locs, X, -⟩ := S.2
  exact own_F.of (X.ldcInt S.hx S.hown (mvT S.hZ w) (g := mkF m pc Ls st) rfl (S.dec hd)) f
theorem own_ldcIw (S : own_S Z hs W own bytes maxL ret nm p l e R s m args below meth c T h cells slots) {i : Nat} {v : Int32} (w : (Jvm.Cond.constant own i v).before a0 Z = true) (hd : decode bytes pc = .ok (.ldc_w i, 3)) (f : own_F p e below s Z hs W k n Q (T.setTop (mkF m (pc + 3) Ls (.int v :: st)))) : own_F p e below s Z hs W k n Q (T.setTop (mkF m pc Ls st)) := by
  obtain ⟨locs, X, -⟩ := S.2
  exact own_F.of (X.ldcwInt S.hx S.hown (mvT S.hZ w) (g := mkF m pc Ls st) rfl (S.dec hd)) f
theorem own_ldcJ (S : own_S Z hs W own bytes maxL ret nm p l e R s m args below meth c T h cells slots) {i : Nat} {v : Int64} (w : (Jvm.Cond.constantLong own i v).before a0 Z = true) (hd : decode bytes pc = .ok (.ldc2_w i, 3)) (f : own_F p e below s Z hs W k n Q (T.setTop (mkF m (pc + 3) Ls (.long v :: st)))) : own_F p e below s Z hs W k n Q (T.setTop (mkF m pc Ls st)) := by
  obtain ⟨locs, X, -⟩ := S.2
  exact own_F.of (X.ldc2Long S.hx S.hown (mvT S.hZ w) (g := mkF m pc Ls st) rfl (S.dec hd)) f
theorem own_ldcD (S : own_S Z hs W own bytes maxL ret nm p l e R s m args below meth c T h cells slots) {i : Nat} {v : UInt64} (w : (Jvm.Cond.constantDouble own i v).before a0 Z = true) (hd : decode bytes pc = .ok (.ldc2_w i, 3)) (f : own_F p e below s Z hs W k n Q (T.setTop (mkF m (pc + 3) Ls (.double v :: st)))) : own_F p e below s Z hs W k n Q (T.setTop (mkF m pc Ls st)) := by
  obtain ⟨locs, X, -⟩ := S.2
  exact own_F.of (X.ldc2DoubleC S.hx S.hown (mvT S.hZ w) (g := mkF m pc Ls st) rfl (S.dec hd)) f
theorem own_tsw (S : own_S Z hs W own bytes maxL ret nm p l e R s m args below meth c T h cells slots) {dflt low high : Int} {offs : Array Int} {len : Nat} {i : Int32} (v o : Int) (pc' : Nat) (hd : decode bytes pc = .ok (.tableswitch dflt low high offs, len)) (hv : i.toInt = v) (hin : ¬ (v < low ∨ v > high)) (hoff : offs[(v - low).toNat]? = some o) (ho : 0 ≤ (pc : Int) + o) (hp : ((pc : Int) + o).toNat = pc')
    (f : own_F p e below s Z hs W k n Q (T.setTop (mkF m pc' Ls rest))) : own_F p e below s Z hs W k n Q (T.setTop (mkF m pc Ls (.int i :: rest))) := by
  subst hv
  exact own_F.of (fun _ => XS.tswIn S.here S.hx (g := mkF m pc Ls (.int i :: rest)) rfl (pc0 := pc) (pc' := pc') rfl (S.dec hd) rfl hin hoff ho hp) f
theorem own_tswO (S : own_S Z hs W own bytes maxL ret nm p l e R s m args below meth c T h cells slots) {dflt low high : Int} {offs : Array Int} {len : Nat} {i : Int32} (v : Int) (pc' : Nat) (hd : decode bytes pc = .ok (.tableswitch dflt low high offs, len)) (hv : i.toInt = v) (hout : v < low ∨ v > high) (ho : 0 ≤ (pc : Int) + dflt) (hp : ((pc : Int) + dflt).toNat = pc')
    (f : own_F p e below s Z hs W k n Q (T.setTop (mkF m pc' Ls rest))) : own_F p e below s Z hs W k n Q (T.setTop (mkF m pc Ls (.int i :: rest))) := by
  subst hv
  exact own_F.of (fun _ => XS.tswOut S.here S.hx (g := mkF m pc Ls (.int i :: rest)) rfl (pc0 := pc) (pc' := pc') rfl (S.dec hd) rfl hout ho hp) f
theorem own_narR {ty : FieldType} {v : Value} (ht : ty.isReference = true) (hv : v.isRef = true) : narrow ty v = v := by cases v <;> simp [Value.isRef] at hv <;> cases ty <;> simp [FieldType.isReference] at ht <;> rfl
theorem own_fitR {ty : FieldType} {v : Value} (ht : ty.isReference = true) (hv : v.isRef = true) : fits ty v = true := by cases v <;> simp [Value.isRef] at hv <;> cases ty <;> simp [FieldType.isReference] at ht <;> rfl

/-! from the case's words to facts of the start -/
theorem own_extRefl (h : Heap) : Ext h h := ⟨Nat.le_refl _, fun _ _ q => q⟩
theorem own_sta {C fn d K : String} (hx : (Jvm.Cond.exactly (.static C fn d) K).value a0 Z none Z [] = some true) (w1 : (Jvm.Cond.initialized C).before a0 Z = true) (w2 : (Jvm.Cond.laysStatic C fn d).before a0 Z = true) :
    ∃ a, (Term.static C fn d).eval a0 Z none [] Z = some (.ref a) ∧ Sta Z Z.heap C fn d (.ref a) ∧ Exa Z Z.heap a K := by
  obtain ⟨a, ev⟩ := exa_v hx
  exact ⟨a, ev, Sta.start ev (Or.inr ⟨w1, w2⟩), Exa.start ev hx⟩
theorem own_fldI {t : Term} {C fn d : String} {a : Addr} {v : Int32} (ev : t.eval a0 Z none [] Z = some (.ref a)) (hx : (Jvm.Cond.eq (.field t C fn d) (.int v)).value a0 Z none Z [] = some true) : Fld Z Z.heap a C fn d (.int v) := by
  obtain ⟨x, y, h1, h2, -⟩ := cmp_v (Or.inl hx)
  have h2' : y = .int v := by simpa [Term.eval] using h2.symm
  subst h2'
  have h3 : x = .int v := by
    simp only [Jvm.Cond.value, h1, h2] at hx
    cases x <;> simp at hx
    rw [hx]
  subst h3
  refine Fld.start ?_
  simpa [Term.eval, ev] using h1
end OwnPrelude
/-! OWN: arrays by their whole contents -/
section OwnArrays
variable {Z : State} {hs : Heap} {W : List Addr} {own : String} {bytes : ByteArray} {maxL : Nat} {ret : Option FieldType} {nm : String}
  {p : Program} {l : Launch} {e : Env} {R : Room} {s : State} {m : MethodId} {args : Array Value} {below : List Frame} {meth : Method} {c : Code}
  {T : State} {h h' : Heap} {cells slots : Nat} {k n : Nat} {Q : Option Value → Heap → Prop} {a0 : Array Value} {pc : Nat} {Ls : Array Slot} {st rest : List Value} {a b : Addr} {ty : FieldType} {vs : List Value} {v : Value} {j x : Int32}

def own_A (Z : State) (h : Heap) (a : Addr) (ty : FieldType) (vs : List Value) : Prop := ∃ cl : Cell, Arr Z h a cl ty ∧ cl.slots.toList = vs ∧ vs.length < 2 ^ 31
theorem own_A.lt (F : own_A Z h a ty vs) : a < h.size := by obtain ⟨_, A, -⟩ := F; exact A.lt
theorem own_A.ext (F : own_A Z h a ty vs) (E : Ext h h') : own_A Z h' a ty vs := by obtain ⟨cl, A, r⟩ := F; exact ⟨cl, A.ext E, r⟩
theorem own_A.other {sl : Nat} {w : Value} (F : own_A Z h b ty vs) (Wt : Wr h h' a sl w) (q : b ≠ a) : own_A Z h' b ty vs := by obtain ⟨cl, A, r⟩ := F; exact ⟨cl, A.other Wt q, r⟩
theorem own_A.keep {ws : List Addr} (F : own_A Z h a ty vs) (K : Keep h h' ws) (q : a ∉ ws) : own_A Z h' a ty vs := by obtain ⟨cl, A, r⟩ := F; exact ⟨cl, ⟨K.2.1 a cl A.1 q, A.2⟩, r⟩
theorem own_A.set {i : Nat} (F : own_A Z h a ty vs) (Wt : Wr h h' a i v) : own_A Z h' a ty (vs.set i v) := by
  obtain ⟨cl, A, r1, r2⟩ := F
  subst r1
  refine ⟨cl.setSlot i v, A.same Wt, ?_, by simpa using r2⟩
  simp [Cell.setSlot]
theorem own_A.inb {cl : Cell} {vs : List Value} (r1 : cl.slots.toList = vs) (h0 : ¬ j < 0) (hv : j.toNatClampNeg < vs.length) : ¬ (j < 0 ∨ cl.slots.size ≤ j.toNatClampNeg) := by
  rintro (q | q)
  · exact h0 q
  · subst r1; simp at hv; omega
theorem own_A.get {cl : Cell} {vs : List Value} {i : Nat} (r1 : cl.slots.toList = vs) (hv : vs[i]? = some v) : cl.slots[i]? = some v := by subst r1; simpa using hv
theorem own_A.ix {i : Nat} (hv : vs[i]? = some v) : i < vs.length := (List.getElem?_eq_some_iff.mp hv).1
theorem own_len (S : own_S Z hs W own bytes maxL ret nm p l e R s m args below meth c T h cells slots) (F : own_A Z h a ty vs) (hd : decode bytes pc = .ok (.arraylength, 1))
    (f : own_F p e below s Z hs W k n Q (T.setTop (mkF m (pc + 1) Ls (.int vs.length.toInt32 :: rest)))) : own_F p e below s Z hs W k n Q (T.setTop (mkF m pc Ls (.ref a :: rest))) := by
  have S' := S
  obtain ⟨G, locs, X, N, e0, K⟩ := S
  obtain ⟨cl, A, r1, r2⟩ := F
  have q : cl.slots.size = vs.length := by rw [← r1]; simp
  rw [← q] at f
  exact own_F.of (fun t => X.arraylength S'.hx (by rw [e0]; exact A.1) (State.isArrayOf_alike S'.hZ.alike A.2.1) (g := mkF m pc Ls (.ref a :: rest)) rfl rfl (S'.dec hd) t) f
theorem own_iald (S : own_S Z hs W own bytes maxL ret nm p l e R s m args below meth c T h cells slots) (F : own_A Z h a .int vs) (h0 : ¬ j < 0) (hv : vs[j.toNatClampNeg]? = some v) (hd : decode bytes pc = .ok (.iaload, 1))
    (f : own_F p e below s Z hs W k n Q (T.setTop (mkF m (pc + 1) Ls (v :: rest)))) : own_F p e below s Z hs W k n Q (T.setTop (mkF m pc Ls (.int j :: .ref a :: rest))) := by
  have S' := S
  obtain ⟨G, locs, X, N, e0, K⟩ := S
  obtain ⟨cl, A, r1, r2⟩ := F
  exact own_F.of (fun t => X.iaload S'.hx (by rw [e0]; exact A.1) (State.isArrayOf_alike S'.hZ.alike A.2.1) A.2.2 (own_A.inb r1 h0 (own_A.ix hv)) (own_A.get r1 hv) (g := mkF m pc Ls (.int j :: .ref a :: rest)) rfl rfl (S'.dec hd) t) f
theorem own_lald (S : own_S Z hs W own bytes maxL ret nm p l e R s m args below meth c T h cells slots) (F : own_A Z h a .long vs) (h0 : ¬ j < 0) (hv : vs[j.toNatClampNeg]? = some v) (hd : decode bytes pc = .ok (.laload, 1))
    (f : own_F p e below s Z hs W k n Q (T.setTop (mkF m (pc + 1) Ls (v :: rest)))) : own_F p e below s Z hs W k n Q (T.setTop (mkF m pc Ls (.int j :: .ref a :: rest))) := by
  have S' := S
  obtain ⟨G, locs, X, N, e0, K⟩ := S
  obtain ⟨cl, A, r1, r2⟩ := F
  exact own_F.of (fun t => X.laload S'.hx (by rw [e0]; exact A.1) (State.isArrayOf_alike S'.hZ.alike A.2.1) A.2.2 (own_A.inb r1 h0 (own_A.ix hv)) (own_A.get r1 hv) (g := mkF m pc Ls (.int j :: .ref a :: rest)) rfl rfl (S'.dec hd) t) f
theorem own_cald (S : own_S Z hs W own bytes maxL ret nm p l e R s m args below meth c T h cells slots) (F : own_A Z h a .char vs) (h0 : ¬ j < 0) (hv : vs[j.toNatClampNeg]? = some v) (hd : decode bytes pc = .ok (.caload, 1))
    (f : own_F p e below s Z hs W k n Q (T.setTop (mkF m (pc + 1) Ls (v :: rest)))) : own_F p e below s Z hs W k n Q (T.setTop (mkF m pc Ls (.int j :: .ref a :: rest))) := by
  have S' := S
  obtain ⟨G, locs, X, N, e0, K⟩ := S
  obtain ⟨cl, A, r1, r2⟩ := F
  exact own_F.of (fun t => X.caload S'.hx (by rw [e0]; exact A.1) (State.isArrayOf_alike S'.hZ.alike A.2.1) A.2.2 (own_A.inb r1 h0 (own_A.ix hv)) (own_A.get r1 hv) (g := mkF m pc Ls (.int j :: .ref a :: rest)) rfl rfl (S'.dec hd) t) f
theorem own_bald (S : own_S Z hs W own bytes maxL ret nm p l e R s m args below meth c T h cells slots) (F : own_A Z h a .byte vs) (h0 : ¬ j < 0) (hv : vs[j.toNatClampNeg]? = some v) (hd : decode bytes pc = .ok (.baload, 1))
    (f : own_F p e below s Z hs W k n Q (T.setTop (mkF m (pc + 1) Ls (v :: rest)))) : own_F p e below s Z hs W k n Q (T.setTop (mkF m pc Ls (.int j :: .ref a :: rest))) := by
  have S' := S
  obtain ⟨G, locs, X, N, e0, K⟩ := S
  obtain ⟨cl, A, r1, r2⟩ := F
  exact own_F.of (fun t => X.baloadBytes S'.hx (by rw [e0]; exact A.1) (State.isArrayOf_alike S'.hZ.alike A.2.1) A.2.2 (own_A.inb r1 h0 (own_A.ix hv)) (own_A.get r1 hv) (g := mkF m pc Ls (.int j :: .ref a :: rest)) rfl rfl (S'.dec hd) t) f
theorem own_zald (S : own_S Z hs W own bytes maxL ret nm p l e R s m args below meth c T h cells slots) (F : own_A Z h a .boolean vs) (h0 : ¬ j < 0) (hv : vs[j.toNatClampNeg]? = some v) (hd : decode bytes pc = .ok (.baload, 1))
    (f : own_F p e below s Z hs W k n Q (T.setTop (mkF m (pc + 1) Ls (v :: rest)))) : own_F p e below s Z hs W k n Q (T.setTop (mkF m pc Ls (.int j :: .ref a :: rest))) := by
  have S' := S
  obtain ⟨G, locs, X, N, e0, K⟩ := S
  obtain ⟨cl, A, r1, r2⟩ := F
  exact own_F.of (fun t => X.baloadBooleans S'.hx (by rw [e0]; exact A.1) (State.isArrayOf_alike S'.hZ.alike A.2.1) A.2.2 (own_A.inb r1 h0 (own_A.ix hv)) (own_A.get r1 hv) (g := mkF m pc Ls (.int j :: .ref a :: rest)) rfl rfl (S'.dec hd) t) f
theorem own_aald (S : own_S Z hs W own bytes maxL ret nm p l e R s m args below meth c T h cells slots) (F : own_A Z h a ty vs) (hty : ty.isReference = true) (h0 : ¬ j < 0) (hv : vs[j.toNatClampNeg]? = some v) (hd : decode bytes pc = .ok (.aaload, 1))
    (f : own_F p e below s Z hs W k n Q (T.setTop (mkF m (pc + 1) Ls (v :: rest)))) : own_F p e below s Z hs W k n Q (T.setTop (mkF m pc Ls (.int j :: .ref a :: rest))) := by
  have S' := S
  obtain ⟨G, locs, X, N, e0, K⟩ := S
  obtain ⟨cl, A, r1, r2⟩ := F
  exact own_F.of (fun t => X.aaload S'.hx (by rw [e0]; exact A.1) (State.isArrayOf_alike S'.hZ.alike A.2.1) hty A.2.2 (own_A.inb r1 h0 (own_A.ix hv)) (own_A.get r1 hv) (g := mkF m pc Ls (.int j :: .ref a :: rest)) rfl rfl (S'.dec hd) t) f
theorem own_ist (S : own_S Z hs W own bytes maxL ret nm p l e R s m args below meth c T h cells slots) (F : own_A Z h a .int vs) (h0 : ¬ j < 0) (hv : j.toNatClampNeg < vs.length) (hd : decode bytes pc = .ok (.iastore, 1)) (ok : a ∈ W ∨ hs.size ≤ a)
    (f : ∀ T' h', own_S Z hs W own bytes maxL ret nm p l e R s m args below meth c T' h' cells slots → Wr h h' a j.toNatClampNeg (.int x) → own_A Z h' a .int (vs.set j.toNatClampNeg (.int x)) → own_F p e below s Z hs W k n Q (T'.setTop (mkF m (pc + 1) Ls rest))) : own_F p e below s Z hs W k n Q (T.setTop (mkF m pc Ls (.int x :: .int j :: .ref a :: rest))) := by
  have S' := S; have F' := F
  obtain ⟨G, locs, X, N, e0, K⟩ := S
  obtain ⟨cl, A, r1, r2⟩ := F
  obtain ⟨T', h', X', e', Wt, stp⟩ := stI X S'.hx S'.hZ e0 A (own_A.inb r1 h0 hv) (g := mkF m pc Ls (.int x :: .int j :: .ref a :: rest)) rfl rfl (S'.dec hd)
  exact own_F.of stp (f T' h' ⟨G, _, X', Fr.snoc X' N (S'.may ok), e', K.wr Wt ok⟩ Wt (F'.set Wt))
theorem own_jst {x : Int64} (S : own_S Z hs W own bytes maxL ret nm p l e R s m args below meth c T h cells slots) (F : own_A Z h a .long vs) (h0 : ¬ j < 0) (hv : j.toNatClampNeg < vs.length) (hd : decode bytes pc = .ok (.lastore, 1)) (ok : a ∈ W ∨ hs.size ≤ a)
    (f : ∀ T' h', own_S Z hs W own bytes maxL ret nm p l e R s m args below meth c T' h' cells slots → Wr h h' a j.toNatClampNeg (.long x) → own_A Z h' a .long (vs.set j.toNatClampNeg (.long x)) → own_F p e below s Z hs W k n Q (T'.setTop (mkF m (pc + 1) Ls rest))) : own_F p e below s Z hs W k n Q (T.setTop (mkF m pc Ls (.long x :: .int j :: .ref a :: rest))) := by
  have S' := S; have F' := F
  obtain ⟨G, locs, X, N, e0, K⟩ := S
  obtain ⟨cl, A, r1, r2⟩ := F
  obtain ⟨T', h', X', e', Wt, stp⟩ := stJ X S'.hx S'.hZ e0 A (own_A.inb r1 h0 hv) (g := mkF m pc Ls (.long x :: .int j :: .ref a :: rest)) rfl rfl (S'.dec hd)
  exact own_F.of stp (f T' h' ⟨G, _, X', Fr.snoc X' N (S'.may ok), e', K.wr Wt ok⟩ Wt (F'.set Wt))
theorem own_cst (S : own_S Z hs W own bytes maxL ret nm p l e R s m args below meth c T h cells slots) (F : own_A Z h a .char vs) (h0 : ¬ j < 0) (hv : j.toNatClampNeg < vs.length) (hd : decode bytes pc = .ok (.castore, 1)) (ok : a ∈ W ∨ hs.size ≤ a)
    (f : ∀ T' h', own_S Z hs W own bytes maxL ret nm p l e R s m args below meth c T' h' cells slots → Wr h h' a j.toNatClampNeg (.int (nar .char x)) → own_A Z h' a .char (vs.set j.toNatClampNeg (.int (nar .char x))) → own_F p e below s Z hs W k n Q (T'.setTop (mkF m (pc + 1) Ls rest))) : own_F p e below s Z hs W k n Q (T.setTop (mkF m pc Ls (.int x :: .int j :: .ref a :: rest))) := by
  have S' := S; have F' := F
  obtain ⟨G, locs, X, N, e0, K⟩ := S
  obtain ⟨cl, A, r1, r2⟩ := F
  obtain ⟨T', h', X', e', Wt, stp⟩ := stC X S'.hx S'.hZ e0 A (own_A.inb r1 h0 hv) (g := mkF m pc Ls (.int x :: .int j :: .ref a :: rest)) rfl rfl (S'.dec hd)
  exact own_F.of stp (f T' h' ⟨G, _, X', Fr.snoc X' N (S'.may ok), e', K.wr Wt ok⟩ Wt (F'.set Wt))
theorem own_bst (S : own_S Z hs W own bytes maxL ret nm p l e R s m args below meth c T h cells slots) (F : own_A Z h a .byte vs) (h0 : ¬ j < 0) (hv : j.toNatClampNeg < vs.length) (hd : decode bytes pc = .ok (.bastore, 1)) (ok : a ∈ W ∨ hs.size ≤ a)
    (f : ∀ T' h', own_S Z hs W own bytes maxL ret nm p l e R s m args below meth c T' h' cells slots → Wr h h' a j.toNatClampNeg (.int (nar .byte x)) → own_A Z h' a .byte (vs.set j.toNatClampNeg (.int (nar .byte x))) → own_F p e below s Z hs W k n Q (T'.setTop (mkF m (pc + 1) Ls rest))) : own_F p e below s Z hs W k n Q (T.setTop (mkF m pc Ls (.int x :: .int j :: .ref a :: rest))) := by
  have S' := S; have F' := F
  obtain ⟨G, locs, X, N, e0, K⟩ := S
  obtain ⟨cl, A, r1, r2⟩ := F
  obtain ⟨T', h', X', e', Wt, stp⟩ := stB X S'.hx S'.hZ e0 A (own_A.inb r1 h0 hv) (g := mkF m pc Ls (.int x :: .int j :: .ref a :: rest)) rfl rfl (S'.dec hd)
  exact own_F.of stp (f T' h' ⟨G, _, X', Fr.snoc X' N (S'.may ok), e', K.wr Wt ok⟩ Wt (F'.set Wt))
theorem own_zst (S : own_S Z hs W own bytes maxL ret nm p l e R s m args below meth c T h cells slots) (F : own_A Z h a .boolean vs) (h0 : ¬ j < 0) (hv : j.toNatClampNeg < vs.length) (hd : decode bytes pc = .ok (.bastore, 1)) (ok : a ∈ W ∨ hs.size ≤ a)
    (f : ∀ T' h', own_S Z hs W own bytes maxL ret nm p l e R s m args below meth c T' h' cells slots → Wr h h' a j.toNatClampNeg (.int (nar .boolean x)) → own_A Z h' a .boolean (vs.set j.toNatClampNeg (.int (nar .boolean x))) → own_F p e below s Z hs W k n Q (T'.setTop (mkF m (pc + 1) Ls rest))) : own_F p e below s Z hs W k n Q (T.setTop (mkF m pc Ls (.int x :: .int j :: .ref a :: rest))) := by
  have S' := S; have F' := F
  obtain ⟨G, locs, X, N, e0, K⟩ := S
  obtain ⟨cl, A, r1, r2⟩ := F
  obtain ⟨T', h', X', e', Wt, stp⟩ := stZ X S'.hx S'.hZ e0 A (own_A.inb r1 h0 hv) (g := mkF m pc Ls (.int x :: .int j :: .ref a :: rest)) rfl rfl (S'.dec hd)
  exact own_F.of stp (f T' h' ⟨G, _, X', Fr.snoc X' N (S'.may ok), e', K.wr Wt ok⟩ Wt (F'.set Wt))
theorem own_newP (S : own_S Z hs W own bytes maxL ret nm p l e R s m args below meth c T h cells slots) {aty : ArrayType} {z : Int32} (w : (Jvm.Cond.arrayClass (newarray.typeOf aty)).before a0 Z = true) (hd : decode bytes pc = .ok (.newarray aty, 2)) (hz : ¬ z < 0) {cap : Nat} (hcap : z.toNatClampNeg ≤ cap) (hb : cap * 8 ≤ 536870912) (hc : cells + 1 ≤ R.cells) (hl : slots + cap ≤ R.slots)
    (f : ∀ T' h' a, a = h.size → own_S Z hs W own bytes maxL ret nm p l e R s m args below meth c T' h' (cells + 1) (slots + cap) → Ext h h' → own_A Z h' a (newarray.typeOf aty) (List.replicate z.toNatClampNeg (defaultValue (newarray.typeOf aty))) → own_F p e below s Z hs W k n Q (T'.setTop (mkF m (pc + 2) Ls (.ref a :: rest)))) : own_F p e below s Z hs W k n Q (T.setTop (mkF m pc Ls (.int z :: rest))) := by
  have S' := S
  obtain ⟨G, locs, X, N, e0, K⟩ := S
  obtain ⟨T', h', cA, X', e', E, A, stp⟩ := newP X S'.hx S'.hZ w e0 (g := mkF m pc Ls (.int z :: rest)) rfl (S'.dec hd) rfl hz hcap hb hc hl
  refine own_F.of stp (f T' h' _ rfl ⟨G, _, X', N, e', K.ext E⟩ E ⟨_, A, by simp [newA], ?_⟩)
  have := (back32 hz).2
  simpa using this
/-- an array that stands at the start -/
theorem own_A.start {t : Term} {z : Int32} (ev : t.eval a0 Z none [] Z = some (.ref a)) (hx : (Jvm.Cond.arrayOf t ty).value a0 Z none Z [] = some true) (hl : (Jvm.Cond.eq (.length t) (.int z)).value a0 Z none Z [] = some true) : ∃ cl : Cell, Arr Z Z.heap a cl ty ∧ cl.slots.size < 2 ^ 31 ∧ cl.slots.size.toInt32 = z ∧ Z.arrayAt? a = some cl := by
  obtain ⟨cl, A⟩ := Arr.start ev hx
  have q := A.fin (Vm.Alike.refl _)
  refine ⟨cl, A, ?_, ?_, q⟩
  all_goals
    obtain ⟨u, w, h1, h2, -⟩ := cmp_v (Or.inl hl)
    have h1' : (if cl.slots.size < 2 ^ 31 then some (Value.int cl.slots.size.toInt32) else none) = some u := by simpa [Term.eval, ev, q] using h1
    by_cases g : cl.slots.size < 2 ^ 31
    · first
        | exact g
        | (have e1 : u = .int cl.slots.size.toInt32 := by simpa [g] using h1'.symm
           have e2 : w = .int z := by simpa [Term.eval] using h2.symm
           subst e1 e2
           exact gotT (Cond.eq_ints h1 h2) hl)
    · simp [g] at h1'
end OwnArrays
/-! OWN: the caches of boxes -/
section OwnBoxes
variable {Z : State} {hs : Heap} {W : List Addr} {own : String} {bytes : ByteArray} {maxL : Nat} {ret : Option FieldType} {nm : String}
  {p : Program} {l : Launch} {e : Env} {R : Room} {s : State} {m : MethodId} {args : Array Value} {below : List Frame} {meth : Method} {c : Code}
  {T : State} {h : Heap} {cells slots : Nat} {k n : Nat} {Q : Option Value → Heap → Prop} {a0 : Array Value} {pc : Nat} {Ls : Array Slot} {st rest : List Value} {a : Addr} {j z : Int32} {K d : String} {val : Int32 → Value} {cl : Cell}
theorem own_bxald (S : own_S Z hs W own bytes maxL ret nm p l e R s m args below meth c T h cells slots) (B : Bxs Z a cl K d z val) (h0 : ¬ j < 0) (h1 : j < z) (hd : decode bytes pc = .ok (.aaload, 1))
    (f : ∀ box, Exa Z Z.heap box K → Fld Z Z.heap box K "value" d (val j) → own_F p e below s Z hs W k n Q (T.setTop (mkF m (pc + 1) Ls (.ref box :: rest)))) : own_F p e below s Z hs W k n Q (T.setTop (mkF m pc Ls (.int j :: .ref a :: rest))) := by
  have S' := S
  obtain ⟨G, locs, X, N, e0, Kp⟩ := S
  obtain ⟨A, q1, q2⟩ := B.ext S'.old
  have hin := inb_of (j := j) q1 ⟨h0, h1⟩
  obtain ⟨box, r1, r2, r3⟩ := B.2.2.2 j hin
  exact own_F.of (fun t => X.aaload S'.hx (by rw [e0]; exact A.1) (State.isArrayOf_alike S'.hZ.alike A.2.1) rfl A.2.2 hin r1 (g := mkF m pc Ls (.int j :: .ref a :: rest)) rfl rfl (S'.dec hd) t) (f box r2 r3)
theorem own_staI {C fn dd : String} {v : Int32} (hx : (Jvm.Cond.eq (.static C fn dd) (.int v)).value a0 Z none Z [] = some true) (wi : (Jvm.Cond.initializedFor C fn dd).before a0 Z = true ∨ ((Jvm.Cond.initialized C).before a0 Z = true ∧ (Jvm.Cond.laysStatic C fn dd).before a0 Z = true)) : Sta Z Z.heap C fn dd (.int v) :=
  Sta.start (eqv_i rfl hx) wi
theorem own_sub_at {i : Nat} {v : Int32} (h0 : ¬ j < 0) : (Term.sub (.index 0) (.int v)).eval a0 Z none [j.toNatClampNeg] Z = some (.int (j - v)) := by
  have h1 : (Term.index 0).eval a0 Z none [j.toNatClampNeg] Z = some (.int j) := idx_at h0
  simp only [Term.eval] at h1
  simp only [Term.eval]
  rw [h1]; rfl
end OwnBoxes
/-! OWN: arrays of objects, mirrors, copies -/
section OwnObj
variable {Z : State} {hs : Heap} {W : List Addr} {own : String} {bytes : ByteArray} {maxL : Nat} {ret : Option FieldType} {nm : String}
  {p : Program} {l : Launch} {e : Env} {R : Room} {s : State} {m : MethodId} {args : Array Value} {below : List Frame} {meth : Method} {c : Code}
  {T : State} {h h' : Heap} {cells slots : Nat} {k n : Nat} {Q : Option Value → Heap → Prop} {a0 : Array Value} {pc index : Nat} {Ls : Array Slot} {st rest : List Value} {a b : Addr} {vs ws : List Value} {v : Value} {j z : Int32}
theorem own_mvMN {y : MethodName} {host : String} (hZ : Z.Warmed39 s.vm) (w : (Jvm.Cond.methodLinkNest own index y host).before a0 Z = true) : (Jvm.Cond.methodLinkNest own index y host).before args s = true := (Cond.methodLinkNest_wide hZ w :)
def own_AO (Z : State) (h : Heap) (a : Addr) (vs : List Value) : Prop := ∃ cl : Cell, Arr Z h a cl (.object "java/lang/Object") ∧ Ovr Z cl.cls "java/lang/Object" ∧ Exa Z h a "[Ljava/lang/Object;" ∧ cl.slots.toList = vs ∧ vs.length < 2 ^ 31 ∧ ∀ v ∈ vs, v.isRef = true
theorem own_AO.A (F : own_AO Z h a vs) : own_A Z h a (.object "java/lang/Object") vs := by obtain ⟨cl, A, -, -, r1, r2, -⟩ := F; exact ⟨cl, A, r1, r2⟩
theorem own_AO.exa (F : own_AO Z h a vs) : Exa Z h a "[Ljava/lang/Object;" := by obtain ⟨_, -, -, E, -⟩ := F; exact E
theorem own_AO.lt (F : own_AO Z h a vs) : a < h.size := F.exa.lt
theorem own_AO.ext (F : own_AO Z h a vs) (E : Ext h h') : own_AO Z h' a vs := by obtain ⟨cl, A, O, X, r⟩ := F; exact ⟨cl, A.ext E, O, X.ext E, r⟩
theorem own_AO.other {sl : Nat} {w : Value} (F : own_AO Z h b vs) (Wt : Wr h h' a sl w) (q : b ≠ a) : own_AO Z h' b vs := by obtain ⟨cl, A, O, X, r⟩ := F; exact ⟨cl, A.other Wt q, O, X.wr Wt, r⟩
theorem own_AO.keep {ws : List Addr} (F : own_AO Z h a vs) (K : Keep h h' ws) (q : a ∉ ws) : own_AO Z h' a vs := by obtain ⟨cl, A, O, X, r⟩ := F; exact ⟨cl, ⟨K.2.1 a cl A.1 q, A.2⟩, O, X.keep K, r⟩
theorem own_AO.set {i : Nat} (F : own_AO Z h a vs) (Wt : Wr h h' a i v) (hv : v.isRef = true) : own_AO Z h' a (vs.set i v) := by
  obtain ⟨cl, A, O, X, r1, r2, r3⟩ := F
  subst r1
  refine ⟨cl.setSlot i v, A.same Wt, O, X.wr Wt, by simp [Cell.setSlot], by simpa using r2, fun u hu => ?_⟩
  rcases List.mem_or_eq_of_mem_set hu with q | q
  · exact r3 u q
  · exact q ▸ hv
theorem own_anew (S : own_S Z hs W own bytes maxL ret nm p l e R s m args below meth c T h cells slots) (w1 : (Jvm.Cond.classLink own index "java/lang/Object").before a0 Z = true) (w2 : (Jvm.Cond.arrayOver (.object "java/lang/Object")).before a0 Z = true) (hd : decode bytes pc = .ok (.anewarray index, 3)) (hz : ¬ z < 0) {cap : Nat} (hcap : z.toNatClampNeg ≤ cap) (hb : cap * 8 ≤ 536870912) (hc : cells + 1 ≤ R.cells) (hl : slots + cap ≤ R.slots)
    (f : ∀ T' h' a, a = h.size → own_S Z hs W own bytes maxL ret nm p l e R s m args below meth c T' h' (cells + 1) (slots + cap) → Ext h h' → own_AO Z h' a (List.replicate z.toNatClampNeg .null) → own_F p e below s Z hs W k n Q (T'.setTop (mkF m (pc + 3) Ls (.ref a :: rest)))) : own_F p e below s Z hs W k n Q (T.setTop (mkF m pc Ls (.int z :: rest))) := by
  have S' := S
  obtain ⟨G, locs, X, N, e0, K⟩ := S
  obtain ⟨T', h', cA, X', e', E, A, Ex, O, stp⟩ := newRE X S'.hx S'.hZ S'.hown w1 w2 e0 (g := mkF m pc Ls (.int z :: rest)) rfl (S'.dec hd) rfl hz hcap hb hc hl (ad := "[Ljava/lang/Object;") rfl
  refine own_F.of stp (f T' h' _ rfl ⟨G, _, X', N, e', K.ext E⟩ E ⟨_, A, O, Ex, by simp [newA, defaultValue], ?_, fun u hu => ?_⟩)
  · have := (back32 hz).2
    simpa using this
  · rw [List.eq_of_mem_replicate hu]; rfl
theorem own_aast (S : own_S Z hs W own bytes maxL ret nm p l e R s m args below meth c T h cells slots) (F : own_AO Z h a vs) (h0 : ¬ j < 0) (hv : j.toNatClampNeg < vs.length) (I : Ins Z h b "java/lang/Object" true) (hd : decode bytes pc = .ok (.aastore, 1)) (ok : a ∈ W ∨ hs.size ≤ a)
    (f : ∀ T' h', own_S Z hs W own bytes maxL ret nm p l e R s m args below meth c T' h' cells slots → Wr h h' a j.toNatClampNeg (.ref b) → own_AO Z h' a (vs.set j.toNatClampNeg (.ref b)) → own_F p e below s Z hs W k n Q (T'.setTop (mkF m (pc + 1) Ls rest))) : own_F p e below s Z hs W k n Q (T.setTop (mkF m pc Ls (.ref b :: .int j :: .ref a :: rest))) := by
  have S' := S; have F' := F
  obtain ⟨G, locs, X, N, e0, K⟩ := S
  obtain ⟨cl, A, O, Ex, r1, r2, r3⟩ := F
  obtain ⟨T', h', X', e', Wt, stp⟩ := stR X S'.hx S'.hZ e0 A (own_A.inb r1 h0 hv) rfl (Sto.of A O I) (g := mkF m pc Ls (.ref b :: .int j :: .ref a :: rest)) rfl rfl (S'.dec hd)
  exact own_F.of stp (f T' h' ⟨G, _, X', Fr.snoc X' N (S'.may ok), e', K.wr Wt ok⟩ Wt (F'.set Wt rfl))
theorem own_sto (F : own_AO Z h a vs) (I : Ins Z h b "java/lang/Object" true) : Sto Z h a (.ref b) := by obtain ⟨cl, A, O, -⟩ := F; exact Sto.of A O I
theorem own_AO.arv (F : own_AO Z h a vs) : ∃ kk, Arv Z h a kk (.object "java/lang/Object") vs.length.toInt32 vs .null ∧ Ovr Z kk "java/lang/Object" ∧ vs.length.toInt32.toNatClampNeg = vs.length := by
  obtain ⟨cl, A, O, Ex, r1, r2, r3⟩ := F
  subst r1
  have w1 : cl.slots.toList.length.toInt32.toNatClampNeg = cl.slots.toList.length := by simpa using Int32.toNatClampNeg_ofNat_of_lt (n := cl.slots.toList.length) r2
  refine ⟨cl.cls, ⟨cl, A, rfl, ?_, fun q => ?_, fun i hi => ?_, fun i hi => ?_⟩, O, w1⟩
  · rw [w1]; simp
  · have := idx_in (i := cl.slots.toList.length) (n := 2 ^ 31 - 1 + 1) (by omega)
    by_cases q0 : cl.slots.toList.length < 2147483647
    · exact idx_in (i := cl.slots.toList.length) (n := 2147483647) q0 (by decide) (Or.inl q)
    · have e1 : cl.slots.toList.length = 2147483647 := by omega
      rw [e1] at q; exact absurd q (by decide)
  · simp [List.getD_eq_getElem?_getD, Array.getElem?_eq_getElem hi]
  · have hm : cl.slots.toList.getD i .null ∈ cl.slots.toList := by
      have hi' : i < cl.slots.toList.length := by simpa using hi
      rw [List.getD_eq_getElem?_getD, List.getElem?_eq_getElem hi']; exact List.getElem_mem hi'
    exact own_fitR rfl (r3 _ hm)
theorem own_AO.of_arv {kk : ClassId} {zz : Int32} (A : Arv Z h a kk (.object "java/lang/Object") zz vs .null) (O : Ovr Z kk "java/lang/Object") (Ex : Exa Z h a "[Ljava/lang/Object;") (hl : zz.toNatClampNeg = vs.length) (h31 : vs.length < 2 ^ 31) (hr : ∀ v ∈ vs, v.isRef = true) : own_AO Z h a vs := by
  obtain ⟨cl, Ar, q1, q2, q3, H, -⟩ := A
  refine ⟨cl, Ar, q1 ▸ O, Ex, List.ext_getElem? fun i => ?_, h31, hr⟩
  have hsz : cl.slots.size = vs.length := q2.trans hl
  by_cases hi : i < vs.length
  · have w := H i (by omega)
    rw [Array.getElem?_toList, w, List.getD_eq_getElem?_getD, List.getElem?_eq_getElem hi]; rfl
  · rw [List.getElem?_eq_none (by simpa [hsz] using hi), List.getElem?_eq_none (by omega)]
/-- System.arraycopy(a, 0, b, 0, j) between two arrays of objects -/
theorem own_copy (S : own_S Z hs W own bytes maxL ret nm p l e R s m args below meth c T h cells slots) (w1 : (Jvm.Cond.methodLink own index Jvm.Stand.acN).before a0 Z = true) (w2 : (Jvm.Cond.native Jvm.Stand.acN).before a0 Z = true) (w3 : (Jvm.Cond.static Jvm.Stand.acN).before a0 Z = true) (w4 : (Jvm.Cond.initialized "java/lang/System").before a0 Z = true)
    (F : own_AO Z h a vs) (F' : own_AO Z h b ws) (h0 : ¬ j < 0) (h1 : j.toNatClampNeg ≤ vs.length) (h2 : j.toNatClampNeg ≤ ws.length) (us : List Value) (hu : us = (List.range j.toNatClampNeg).map fun i => vs.getD i .null) (hsto : StoL Z h b us) (ok : b ∈ W ∨ hs.size ≤ b)
    (hsz : Ls.size = maxL) (hd : decode bytes pc = .ok (.invokestatic index, 3)) (hf : 1 ≤ R.frames) (hlo : (rest.map fun v => v.category).sum + (nativeFrameWords "java/lang/System" "arraycopy" 5 + 11) ≤ R.locals)
    (f : ∀ T' h', own_S Z hs W own bytes maxL ret nm p l e R s m args below meth c T' h' cells slots → Keep h h' [b] → own_AO Z h' b (us ++ ws.drop j.toNatClampNeg) → own_F p e below s Z hs W k n Q (T'.setTop (mkF m (pc + 3) Ls rest))) :
    own_F p e below s Z hs W k n Q (T.setTop (mkF m pc Ls (.int j :: .int (0 : Int32) :: .ref b :: .int (0 : Int32) :: .ref a :: rest))) := by
  have S' := S
  obtain ⟨G, locs, X, N, e0, K⟩ := S
  obtain ⟨k1, A1, O1, l1⟩ := F.arv
  obtain ⟨k2, A2, O2, l2⟩ := F'.arv
  have z0 : (0 : Int32).toNatClampNeg = 0 := rfl
  obtain ⟨T', h', L, X', e', N', K', A', stp⟩ := cpA X S'.hx S'.hZ S'.hown w1 w2 w3 w4 e0 A1 A2 (Or.inr ⟨rfl, rfl, hsto⟩) (sp := 0) (dp := 0) (nn := j) (by decide) (by decide) h0 (by rw [l1, z0]; omega) (by rw [l2, z0]; omega) (by rw [hu, z0]; simp) (by rw [z0]; omega) N (S'.may ok) (g := mkF m pc Ls (.int j :: .int (0 : Int32) :: .ref b :: .int (0 : Int32) :: .ref a :: rest)) rfl (hsz.trans S'.hml.symm) rfl (S'.dec hd) hf (W := (rest.map fun v => v.category).sum) (by show 2 * 0 + _ ≤ _; omega) hlo
  have lu : us.length = j.toNatClampNeg := by rw [hu]; simp
  have l31 : ws.length < 2 ^ 31 := by obtain ⟨_, -, -, -, -, r, -⟩ := F'; exact r
  refine own_F.of stp (f T' h' ⟨G, L, X', N', e', K.trans K' (allS ok all0)⟩ K' (own_AO.of_arv (zz := ws.length.toInt32) ?_ O2 (F'.exa.keep K') ?_ ?_ ?_))
  · rw [z0] at A'; simpa using A'
  · rw [l2]; simp [lu]; omega
  · simp [lu]; omega
  · intro v hv
    rcases List.mem_append.mp hv with q | q
    · rw [hu] at q
      obtain ⟨i, hi, rfl⟩ := List.mem_map.mp q
      obtain ⟨_, -, -, -, -, -, r3⟩ := F
      have hi' : i < vs.length := by have := List.mem_range.mp hi; omega
      rw [List.getD_eq_getElem?_getD, List.getElem?_eq_getElem hi']; exact r3 _ (List.getElem_mem hi')
    · obtain ⟨_, -, -, -, -, -, r3⟩ := F'
      exact r3 v (List.mem_of_mem_drop q)
theorem own_gcls (S : own_S Z hs W own bytes maxL ret nm p l e R s m args below meth c T h cells slots) {Cn : String} {mr : Addr} (w1 : (Jvm.Cond.methodLink own index ⟨"java/lang/Object", "getClass", "()Ljava/lang/Class;"⟩).before a0 Z = true) (w2 : (Jvm.Cond.declares ⟨"java/lang/Object", "getClass", "()Ljava/lang/Class;"⟩).before a0 Z = true) (w3 : (Jvm.Cond.noSuperclass "java/lang/Object").before a0 Z = true) (w4 : (Jvm.Cond.selects Cn ⟨"java/lang/Object", "getClass", "()Ljava/lang/Class;"⟩ ⟨"java/lang/Object", "getClass", "()Ljava/lang/Class;"⟩).before a0 Z = true)
    (w5 : (Jvm.Cond.instanceMethod ⟨"java/lang/Object", "getClass", "()Ljava/lang/Class;"⟩).before a0 Z = true) (w6 : (Jvm.Cond.native ⟨"java/lang/Object", "getClass", "()Ljava/lang/Class;"⟩).before a0 Z = true) (E : Exa Z h a Cn) (M : Mir Z Cn mr) (hsz : Ls.size = maxL) (hd : decode bytes pc = .ok (.invokevirtual index, 3)) (hf : 1 ≤ R.frames) (hl : (rest.map fun v => v.category).sum + (nativeFrameWords "java/lang/Object" "getClass" 1 + 11) ≤ R.locals)
    (f : ∀ T', own_S Z hs W own bytes maxL ret nm p l e R s m args below meth c T' h cells slots → own_F p e below s Z hs W k n Q (T'.setTop (mkF m (pc + 3) Ls (.ref mr :: rest)))) : own_F p e below s Z hs W k n Q (T.setTop (mkF m pc Ls (.ref a :: rest))) := by
  have S' := S
  obtain ⟨G, locs, X, N, e0, K⟩ := S
  obtain ⟨T', X', e', stp⟩ := gcls X S'.hx S'.hZ S'.hown w1 w2 w3 w4 w5 w6 e0 E M (g := mkF m pc Ls (.ref a :: rest)) rfl (hsz.trans S'.hml.symm) rfl (S'.dec hd) hf (W := (rest.map fun v => v.category).sum) (by show 2 * 0 + _ ≤ _; omega) hl
  exact own_F.of stp (f T' ⟨G, locs, X', N, e', K⟩)
theorem own_ldcM (S : own_S Z hs W own bytes maxL ret nm p l e R s m args below meth c T h cells slots) {Cn : String} {mr : Addr} (w : (Jvm.Cond.classLink own index Cn).before a0 Z = true) (M : Mir Z Cn mr) (hd : decode bytes pc = .ok (.ldc index, 2))
    (f : ∀ T', own_S Z hs W own bytes maxL ret nm p l e R s m args below meth c T' h cells slots → own_F p e below s Z hs W k n Q (T'.setTop (mkF m (pc + 2) Ls (.ref mr :: st)))) : own_F p e below s Z hs W k n Q (T.setTop (mkF m pc Ls st)) := by
  have S' := S
  obtain ⟨G, locs, X, N, e0, K⟩ := S
  obtain ⟨cc, kc, m1, m2, m3, -⟩ := M
  obtain ⟨k', q, ek⟩ := S'.hZ.alike.2.2 _ _ m2
  obtain ⟨vm', X', stp⟩ := X.ldcMirror S'.hx S'.hown (mvT S'.hZ w) (a := mr) (by simp [Term.eval, S'.hZ.alike.findClass, m1, q, show k'.mirror = some mr by rw [ek]; exact m3]) (g := mkF m pc Ls st) rfl (S'.dec hd)
  exact own_F.of stp (f _ ⟨G, locs, X', N, e0, K⟩)
/-- a constructor of a nest mate -/
theorem own_callN {y : MethodName} {bytes' : ByteArray} {maxL' : Nat} {rm : Room} {W' : List Addr} {Q' : Option Value → Heap → Prop} {argsL : List Value} {ps : List FieldType} {rt : Option FieldType} {host : String} (S : own_S Z hs W own bytes maxL ret nm p l e R s m args below meth c T h cells slots) (hy1 : y.name = "<init>")
    (w1 : (Jvm.Cond.methodLinkNest own index y host).before a0 Z = true) (w2 : (Jvm.Cond.instanceMethod y).before a0 Z = true) (w3 : (Jvm.Cond.initialized y.cls).before a0 Z = true) (w4 : (Jvm.Cond.code y bytes' maxL' none).before a0 Z = true) (hy : y.cls ≠ "java/lang/invoke/MethodHandle" ∧ y.cls ≠ "java/lang/invoke/VarHandle")
    {a : Addr} (C : own_C l Z y bytes' maxL' none [] rm W' (.ref a :: argsL).toArray h Q') (hWW : ∀ a ∈ W', a ∈ W ∨ hs.size ≤ a) (pd : parseMethodDescriptor y.desc = some ⟨ps, rt⟩) (hlen : argsL.length = ps.length) (hsz : Ls.size = maxL) (hst : st = argsL.reverse ++ .ref a :: rest)
    (hd : decode bytes pc = .ok (.invokespecial index, 3)) (hfr : rm.frames + 1 ≤ R.frames) (hlo : (rest.map fun v => v.category).sum + (maxL' + 11) + rm.locals ≤ R.locals) (hc : cells + rm.cells ≤ R.cells) (hsl : slots + rm.slots ≤ R.slots)
    (f : ∀ T' h' v, own_S Z hs W own bytes maxL ret nm p l e R s m args below meth c T' h' (cells + rm.cells) (slots + rm.slots) → Keep h h' W' → Q' v h' → own_F p e below s Z hs W k n Q (T'.setTop (mkF m (pc + 3) Ls (v.toList ++ rest)))) : own_F p e below s Z hs W k n Q (T.setTop (mkF m pc Ls st)) := by
  have S' := S
  obtain ⟨G, locs, X, N, e0, K⟩ := S
  obtain ⟨v, _, ⟨T', L', k', n'⟩, -, X', ⟨Lc, hQ, h1, h2, h3⟩, st⟩ := X.specialBackNest S'.hx (y := y) hy1 S'.hown (own_mvMN S'.hZ w1) (mvT S'.hZ w2) (mvT S'.hZ w4) hy (backOf (W := (rest.map fun v => v.category).sum) (Q := fun v hh L => Fr Z.heap.size L ∧ Keep h hh W' ∧ Q' v hh) C S'.hZ w4 w3 hfr hlo) (g := mkF m pc Ls st) rfl (hsz.trans S'.hml.symm) (Steps.refl _) (a := a) (argsL := argsL) (rest := rest) (lenOf pd hlen) hst (by show 2 * 0 + _ ≤ _; omega) (S'.dec hd) (fun _ _ => ⟨rfl, e0, hc, hsl⟩)
  dsimp only [Pt.U, Pt.locs, Pt.cells, Pt.slots] at X' h1 h2 h3 st hQ
  subst h1 h2 h3
  obtain ⟨N', K', q⟩ := hQ
  exact own_F.to st (f T' T'.heap v ⟨G, _, X', Fr.app N N', rfl, K.trans K' hWW⟩ K' q)
end OwnObj

theorem own_w {a0 : Array Value} {Z : State} (hw : ∀ d ∈ tables_1, d.before a0 Z = true) {d : Jvm.Cond} (i : Nat) (q : tables_1[i]? = some d) : d.before a0 Z = true := hw _ (List.mem_of_getElem? q)

theorem own_mayN {Z : State} {hs : Heap} {W : List Addr} {own : String} {bytes : ByteArray} {maxL : Nat} {ret : Option FieldType} {nm : String} {p : Program} {l : Launch} {e : Env} {R : Room} {s : State} {m : MethodId} {args : Array Value} {below : List Frame} {meth : Method} {c : Code} {T : State} {h : Heap} {cells slots : Nat}
    (S : own_S Z hs W own bytes maxL ret nm p l e R s m args below meth c T h cells slots) {a : Addr} (q : a ∈ W ∨ hs.size ≤ a) : Z.heap.size ≤ a := S.may q

theorem own_and3 (x : Int32) : (x &&& (3 : Int32)) = (0 : Int32) ∨ (x &&& (3 : Int32)) = (1 : Int32) ∨ (x &&& (3 : Int32)) = (2 : Int32) ∨ (x &&& (3 : Int32)) = (3 : Int32) := by
  have h := c_mask x 3 2 (by decide) rfl
  have e : ∀ k : Int32, (x &&& 3).toInt = k.toInt → (x &&& 3) = k := fun k => Int32.toInt_inj.mp
  have h1 : (x &&& 3).toInt = 0 ∨ (x &&& 3).toInt = 1 ∨ (x &&& 3).toInt = 2 ∨ (x &&& 3).toInt = 3 := by
    rw [h]; have := Int.emod_nonneg x.toInt (b := ((2 ^ 2 : Nat) : Int)) (by decide); have := Int.emod_lt_of_pos x.toInt (b := ((2 ^ 2 : Nat) : Int)) (by decide); omega
  rcases h1 with q | q | q | q
  · exact Or.inl (e 0 q)
  · exact Or.inr (Or.inl (e 1 q))
  · exact Or.inr (Or.inr (Or.inl (e 2 q)))
  · exact Or.inr (Or.inr (Or.inr (e 3 q)))

theorem own_A0 {Z : State} {a0 : Array Value} {a : Addr} {t : Term} {ty : FieldType} (ev : t.eval a0 Z none [] Z = some (.ref a)) (hx : (Jvm.Cond.arrayOf t ty).value a0 Z none Z [] = some true) (hl : (Jvm.Cond.eq (.length t) (.int 0)).value a0 Z none Z [] = some true) : own_A Z Z.heap a ty [] := by
  obtain ⟨cl, A, h1, h2, -⟩ := own_A.start ev hx hl
  have e : cl.slots.size = 0 := by
    have w1 : cl.slots.size.toInt32.toNatClampNeg = cl.slots.size := by simpa using Int32.toNatClampNeg_ofNat_of_lt (n := cl.slots.size) h1
    rw [h2] at w1; exact w1.symm
  exact ⟨cl, A, by simpa using e, by decide⟩
theorem own_fldR {Z : State} {a0 : Array Value} {a b : Addr} {t : Term} {C fn d : String} (ev : t.eval a0 Z none [] Z = some (.ref a)) (hx : (Term.field t C fn d).eval a0 Z none [] Z = some (.ref b)) : Fld Z Z.heap a C fn d (.ref b) := by
  refine Fld.start ?_
  simpa [Term.eval, ev] using hx

theorem own_AO.neL {Z : State} {h : Heap} {a b : Addr} {vs ws : List Value} (F : own_AO Z h a vs) (G : own_AO Z h b ws) (q : vs.length ≠ ws.length) : a ≠ b := by
  rintro rfl
  obtain ⟨cl, A, -, -, r, -⟩ := F; obtain ⟨cl', A', -, -, r', -⟩ := G
  have := A.1.symm.trans A'.1; cases this; exact q (by rw [← r, ← r'])

theorem d32_0 : decode jdk_18_method_1_code 0 = .ok (.aload_n 0, 1) := by decide +kernel
theorem d32_1 : decode jdk_18_method_1_code 1 = .ok (.invokespecial 1, 3) := by decide +kernel
theorem d32_4 : decode jdk_18_method_1_code 4 = .ok (.return_, 1) := by decide +kernel
theorem pn32 : plainFor (⟨"java/lang/Number", "<init>", "()V"⟩ : MethodName) = true := plainFor_of_name (by first | (simp [plainName, overriddenIn]; done) | decide +kernel)
set_option maxRecDepth 65536 in
set_option maxHeartbeats 40000000 in
theorem own_NumInit (l : Launch) (Z : State) (a0 : Array Value) (hw : ∀ d ∈ tables_1, d.before a0 Z = true) (a1 : Addr) (h0 : Heap) (hO : Ext Z.heap h0) :
    own_C l Z (⟨"java/lang/Number", "<init>", "()V"⟩ : MethodName) jdk_18_method_1_code 1 none [] ({ frames := 1, cells := 0, slots := 0, locals := 12 } : Room) [] #[(.ref a1)] h0 (fun v h => v = none ∧ h0 = h) := by
  refine own_C.of pn32 hO all0 ?_
  intro p e s m below meth c T0 S0
  refine own_F.cast (by first | (simp [entryFrame, mkF, argsToLocals, Value.category]; done) | rfl : entryFrame m #[(.ref a1)] 1 = mkF m 0 #[.val (.ref a1)] []) ?_
  show own_F p e below s Z _ _ _ _ _ (T0.setTop (mkF m 0 #[.val (.ref a1)] []))
  refine own_F.of (fun _ => XS.aloadN S0.here S0.hx rfl (S0.dec d32_0) rfl rfl) ?_
  show own_F p e below s Z _ _ _ _ _ (T0.setTop (mkF m 1 #[.val (.ref a1)] [(.ref a1)]))
  refine own_initO S0 (own_w hw 223 rfl) (own_w hw 26 rfl) (own_w hw 27 rfl) rfl d32_1 (by decide) (Nat.le_of_ble_eq_true rfl) (fun T1 S1 => ?_)
  show own_F p e below s Z _ _ _ _ _ (T1.setTop (mkF m 4 #[.val (.ref a1)] []))
  refine own_retV S1 d32_4 (by decide) (by decide) ?_
  exact ⟨rfl, rfl⟩
theorem d31_0 : decode jdk_33_method_23_code 0 = .ok (.aload_n 0, 1) := by decide +kernel
theorem d31_1 : decode jdk_33_method_23_code 1 = .ok (.invokespecial 202, 3) := by decide +kernel
theorem d31_4 : decode jdk_33_method_23_code 4 = .ok (.aload_n 0, 1) := by decide +kernel
theorem d31_5 : decode jdk_33_method_23_code 5 = .ok (.iload_n 1, 1) := by decide +kernel
theorem d31_6 : decode jdk_33_method_23_code 6 = .ok (.putfield 205, 3) := by decide +kernel
theorem d31_9 : decode jdk_33_method_23_code 9 = .ok (.return_, 1) := by decide +kernel
theorem pn31 : plainFor (⟨"java/lang/Integer", "<init>", "(I)V"⟩ : MethodName) = true := plainFor_of_name (by first | (simp [plainName, overriddenIn]; done) | decide +kernel)
set_option maxRecDepth 65536 in
set_option maxHeartbeats 40000000 in
theorem own_BoxInitI (l : Launch) (Z : State) (a0 : Array Value) (hw : ∀ d ∈ tables_1, d.before a0 Z = true) (a1 : Addr) (p2 : Int32) (x0 : Int32) (h0 : Heap) (hO : Ext Z.heap h0) (ga : Z.heap.size ≤ a1) (E_a1 : Exa Z h0 a1 "java/lang/Integer") (F_value : Fld Z h0 a1 "java/lang/Integer" "value" "I" (.int x0)) :
    own_C l Z (⟨"java/lang/Integer", "<init>", "(I)V"⟩ : MethodName) jdk_33_method_23_code 2 none [] ({ frames := 2, cells := 0, slots := 0, locals := 24 } : Room) [a1] #[(.ref a1), (.int p2)] h0 (fun v h => v = none ∧ Fld Z h a1 "java/lang/Integer" "value" "I" (.int p2)) := by
  refine own_C.of pn31 hO (allS ga all0) ?_
  intro p e s m below meth c T0 S0
  refine own_F.cast (by first | (simp [entryFrame, mkF, argsToLocals, Value.category]; done) | rfl : entryFrame m #[(.ref a1), (.int p2)] 2 = mkF m 0 #[.val (.ref a1), .val (.int p2)] []) ?_
  show own_F p e below s Z _ _ _ _ _ (T0.setTop (mkF m 0 #[.val (.ref a1), .val (.int p2)] []))
  refine own_F.of (fun _ => XS.aloadN S0.here S0.hx rfl (S0.dec d31_0) rfl rfl) ?_
  show own_F p e below s Z _ _ _ _ _ (T0.setTop (mkF m 1 #[.val (.ref a1), .val (.int p2)] [(.ref a1)]))
  refine own_callI S0 (y := (⟨"java/lang/Number", "<init>", "()V"⟩ : MethodName)) rfl (own_w hw 217 rfl) (own_w hw 218 rfl) (own_w hw 221 rfl) (own_w hw 222 rfl) (by decide) (argsL := []) (rest := []) (own_NumInit l Z a0 hw a1 h0 S0.old) all0 (by decide +kernel : parseMethodDescriptor "()V" = some ⟨[], none⟩) rfl rfl rfl d31_1 (by decide) (Nat.le_of_ble_eq_true rfl) (by decide) (by decide) (fun T1 h1 v1 S1 K1 q1 => ?_)
  obtain ⟨rfl, rfl⟩ := q1
  show own_F p e below s Z _ _ _ _ _ (T1.setTop (mkF m 4 #[.val (.ref a1), .val (.int p2)] []))
  refine own_F.of (fun _ => XS.aloadN S1.here S1.hx rfl (S1.dec d31_4) rfl rfl) ?_
  refine own_F.of (fun _ => XS.iloadN S1.here S1.hx rfl (S1.dec d31_5) rfl) ?_
  show own_F p e below s Z _ _ _ _ _ (T1.setTop (mkF m 6 #[.val (.ref a1), .val (.int p2)] [(.int p2), (.ref a1)]))
  refine own_putF S1 (host := "") (Or.inl (own_w hw 146 rfl)) Via.refl F_value E_a1 (Or.inr ⟨(own_w hw 147 rfl), rfl, rfl⟩) (own_w hw 213 rfl) (ty := .int) (by decide) rfl rfl d31_6 (Or.inl (List.mem_of_getElem? (i := 0) rfl)) (fun T2 h2 S2 W2 => ?_)
  have Fw2 := F_value.same W2
  show own_F p e below s Z _ _ _ _ _ (T2.setTop (mkF m 9 #[.val (.ref a1), .val (.int p2)] []))
  refine own_retV S2 d31_9 (by decide) (by decide) ?_
  exact ⟨rfl, Fw2⟩
theorem d1_0 : decode jdk_33_method_22_code 0 = .ok (.iload_n 0, 1) := by decide +kernel
theorem d1_1 : decode jdk_33_method_22_code 1 = .ok (.bipush (-128), 2) := by decide +kernel
theorem d1_3 : decode jdk_33_method_22_code 3 = .ok (.if_icmp .lt 20, 3) := by decide +kernel
theorem d1_6 : decode jdk_33_method_22_code 6 = .ok (.iload_n 0, 1) := by decide +kernel
theorem d1_7 : decode jdk_33_method_22_code 7 = .ok (.getstatic 191, 3) := by decide +kernel
theorem d1_10 : decode jdk_33_method_22_code 10 = .ok (.if_icmp .gt 13, 3) := by decide +kernel
theorem d1_13 : decode jdk_33_method_22_code 13 = .ok (.getstatic 195, 3) := by decide +kernel
theorem d1_16 : decode jdk_33_method_22_code 16 = .ok (.iload_n 0, 1) := by decide +kernel
theorem d1_17 : decode jdk_33_method_22_code 17 = .ok (.sipush 128, 3) := by decide +kernel
theorem d1_20 : decode jdk_33_method_22_code 20 = .ok (.iadd, 1) := by decide +kernel
theorem d1_21 : decode jdk_33_method_22_code 21 = .ok (.aaload, 1) := by decide +kernel
theorem d1_22 : decode jdk_33_method_22_code 22 = .ok (.areturn, 1) := by decide +kernel
theorem d1_23 : decode jdk_33_method_22_code 23 = .ok (.new 1, 3) := by decide +kernel
theorem d1_26 : decode jdk_33_method_22_code 26 = .ok (.dup, 1) := by decide +kernel
theorem d1_27 : decode jdk_33_method_22_code 27 = .ok (.iload_n 0, 1) := by decide +kernel
theorem d1_28 : decode jdk_33_method_22_code 28 = .ok (.invokespecial 199, 3) := by decide +kernel
theorem d1_31 : decode jdk_33_method_22_code 31 = .ok (.areturn, 1) := by decide +kernel
theorem pn1 : plainFor (⟨"java/lang/Integer", "valueOf", "(I)Ljava/lang/Integer;"⟩ : MethodName) = true := plainFor_of_name (by first | (simp [plainName, overriddenIn]; done) | decide +kernel)
theorem own_eqFI {Z : State} {h : Heap} {a : Addr} {x y : Int32} (q : x = y) (F : Fld Z h a "java/lang/Integer" "value" "I" (.int x)) : Fld Z h a "java/lang/Integer" "value" "I" (.int y) := q ▸ F
theorem own_bxI0 {x : Int32} (h1 : ¬ x < -128) (h2 : ¬ 127 < x) : ¬ x + 128 < 0 ∧ x + 128 < 256 ∧ x + 128 - 128 = x := by
  have a1 := c_iadd x 128
  rw [Int32.lt_iff_toInt_lt] at h1 h2
  have e1 : (128 : Int32).toInt = 128 := rfl
  have e2 : (-128 : Int32).toInt = -128 := rfl
  have e3 : (127 : Int32).toInt = 127 := rfl
  have e4 : (256 : Int32).toInt = 256 := rfl
  have e5 : (0 : Int32).toInt = 0 := rfl
  have r1 := rng32 x
  have r2 := rng32 (x + 128)
  refine ⟨?_, ?_, ?_⟩
  · rw [Int32.lt_iff_toInt_lt]; omega
  · rw [Int32.lt_iff_toInt_lt]; omega
  · exact Int32.add_sub_cancel x 128
set_option maxRecDepth 65536 in
set_option maxHeartbeats 40000000 in
theorem own_vOfI (l : Launch) (Z : State) (a0 : Array Value) (hw : ∀ d ∈ tables_1, d.before a0 Z = true) (p1 : Int32) (aC : Addr) (clC : Cell) (h0 : Heap) (hO : Ext Z.heap h0) (SHi : Sta Z Z.heap "java/lang/Integer$IntegerCache" "high" "I" (.int 127)) (SCa : Sta Z Z.heap "java/lang/Integer$IntegerCache" "cache" "[Ljava/lang/Integer;" (.ref aC)) (BX : Bxs Z aC clC "java/lang/Integer" "I" 256 (fun j => .int (j - 128))) :
    own_C l Z (⟨"java/lang/Integer", "valueOf", "(I)Ljava/lang/Integer;"⟩ : MethodName) jdk_33_method_22_code 1 (some (.object "java/lang/Integer")) [] ({ frames := 3, cells := 1, slots := 1, locals := 42 } : Room) [] #[(.int p1)] h0 (fun v h => ∃ b, v = some (.ref b) ∧ Exa Z h b "java/lang/Integer" ∧ Fld Z h b "java/lang/Integer" "value" "I" (.int p1)) := by
  refine own_C.of pn1 hO all0 ?_
  intro p e s m below meth c T0 S0
  refine own_F.cast (by first | (simp [entryFrame, mkF, argsToLocals, Value.category]; done) | rfl : entryFrame m #[(.int p1)] 1 = mkF m 0 #[.val (.int p1)] []) ?_
  show own_F p e below s Z _ _ _ _ _ (T0.setTop (mkF m 0 #[.val (.int p1)] []))
  refine own_F.of (fun _ => XS.iloadN S0.here S0.hx rfl (S0.dec d1_0) rfl) ?_
  refine own_F.of (fun _ => XS.bipush S0.here S0.hx rfl (S0.dec d1_1)) ?_
  show own_F p e below s Z _ _ _ _ _ (T0.setTop (mkF m 3 #[.val (.int p1)] [(.int (-128 : Int32)), (.int p1)]))
  refine own_icmp S0 23 d1_3 (by decide) (by decide) (fun (hc3_1 : p1 < (-128 : Int32)) => ?_) (fun (hc3_1 : ¬ (p1 < (-128 : Int32))) => ?_)
  · show own_F p e below s Z _ _ _ _ _ (T0.setTop (mkF m 23 #[.val (.int p1)] []))
    refine own_new S0 (own_w hw 212 rfl) (own_w hw 213 rfl) (own_w hw 2 rfl) d1_23 (by decide) (by decide) (fun T2 h2 b2 g2 S2 E2 A2 D2 => ?_)
    have F2_value : Fld Z h2 b2 "java/lang/Integer" "value" "I" (.int (0 : Int32)) := (D2 (Or.inr (own_w hw 147 rfl)) (ty := .int) (by decide))
    show own_F p e below s Z _ _ _ _ _ (T2.setTop (mkF m 26 #[.val (.int p1)] [(.ref b2)]))
    refine own_F.of (fun _ => XS.dup S2.here S2.hx rfl (S2.dec d1_26) rfl rfl) ?_
    refine own_F.of (fun _ => XS.iloadN S2.here S2.hx rfl (S2.dec d1_27) rfl) ?_
    show own_F p e below s Z _ _ _ _ _ (T2.setTop (mkF m 28 #[.val (.int p1)] [(.int p1), (.ref b2), (.ref b2)]))
    refine own_callI S2 (y := (⟨"java/lang/Integer", "<init>", "(I)V"⟩ : MethodName)) rfl (own_w hw 214 rfl) (own_w hw 215 rfl) (own_w hw 2 rfl) (own_w hw 216 rfl) (by decide) (argsL := [(.int p1)]) (rest := [(.ref b2)]) (own_BoxInitI l Z a0 hw b2 p1 _ h2 S2.old (own_mayN S2 (Or.inr (by rw [g2]; exact S0.size))) A2 F2_value) (allS (Or.inr (by rw [g2]; exact S0.size)) all0) (by decide +kernel : parseMethodDescriptor "(I)V" = some ⟨[.int], none⟩) rfl rfl rfl d1_28 (by decide) (Nat.le_of_ble_eq_true rfl) (by decide) (by decide) (fun T3 h3 v3 S3 K3 q3 => ?_)
    obtain ⟨rfl, F3⟩ := q3
    show own_F p e below s Z _ _ _ _ _ (T3.setTop (mkF m 31 #[.val (.int p1)] [(.ref b2)]))
    have fq4 := (A2.keep K3)
    refine own_retA S3 rfl rfl d1_31 (by decide) (by decide) ?_
    exact ⟨_, rfl, fq4, F3⟩
  · show own_F p e below s Z _ _ _ _ _ (T0.setTop (mkF m 6 #[.val (.int p1)] []))
    refine own_F.of (fun _ => XS.iloadN S0.here S0.hx rfl (S0.dec d1_6) rfl) ?_
    show own_F p e below s Z _ _ _ _ _ (T0.setTop (mkF m 7 #[.val (.int p1)] [(.int p1)]))
    refine own_getS S0 (host := "") (Or.inl (own_w hw 4 rfl)) Via.refl (SHi.ext S0.old) d1_7 (fun T5 S5 => ?_)
    show own_F p e below s Z _ _ _ _ _ (T5.setTop (mkF m 10 #[.val (.int p1)] [(.int (127 : Int32)), (.int p1)]))
    refine own_icmp S5 23 d1_10 (by decide) (by decide) (fun (hc10_6 : (127 : Int32) < p1) => ?_) (fun (hc10_6 : ¬ ((127 : Int32) < p1)) => ?_)
    · show own_F p e below s Z _ _ _ _ _ (T5.setTop (mkF m 23 #[.val (.int p1)] []))
      refine own_new S5 (own_w hw 212 rfl) (own_w hw 213 rfl) (own_w hw 2 rfl) d1_23 (by decide) (by decide) (fun T7 h7 b7 g7 S7 E7 A7 D7 => ?_)
      have F7_value : Fld Z h7 b7 "java/lang/Integer" "value" "I" (.int (0 : Int32)) := (D7 (Or.inr (own_w hw 147 rfl)) (ty := .int) (by decide))
      show own_F p e below s Z _ _ _ _ _ (T7.setTop (mkF m 26 #[.val (.int p1)] [(.ref b7)]))
      refine own_F.of (fun _ => XS.dup S7.here S7.hx rfl (S7.dec d1_26) rfl rfl) ?_
      refine own_F.of (fun _ => XS.iloadN S7.here S7.hx rfl (S7.dec d1_27) rfl) ?_
      show own_F p e below s Z _ _ _ _ _ (T7.setTop (mkF m 28 #[.val (.int p1)] [(.int p1), (.ref b7), (.ref b7)]))
      refine own_callI S7 (y := (⟨"java/lang/Integer", "<init>", "(I)V"⟩ : MethodName)) rfl (own_w hw 214 rfl) (own_w hw 215 rfl) (own_w hw 2 rfl) (own_w hw 216 rfl) (by decide) (argsL := [(.int p1)]) (rest := [(.ref b7)]) (own_BoxInitI l Z a0 hw b7 p1 _ h7 S7.old (own_mayN S7 (Or.inr (by rw [g7]; exact S5.size))) A7 F7_value) (allS (Or.inr (by rw [g7]; exact S5.size)) all0) (by decide +kernel : parseMethodDescriptor "(I)V" = some ⟨[.int], none⟩) rfl rfl rfl d1_28 (by decide) (Nat.le_of_ble_eq_true rfl) (by decide) (by decide) (fun T8 h8 v8 S8 K8 q8 => ?_)
      obtain ⟨rfl, F8⟩ := q8
      show own_F p e below s Z _ _ _ _ _ (T8.setTop (mkF m 31 #[.val (.int p1)] [(.ref b7)]))
      have fq9 := (A7.keep K8)
      refine own_retA S8 rfl rfl d1_31 (by decide) (by decide) ?_
      exact ⟨_, rfl, fq9, F8⟩
    · show own_F p e below s Z _ _ _ _ _ (T5.setTop (mkF m 13 #[.val (.int p1)] []))
      refine own_getS S5 (host := "") (Or.inl (own_w hw 6 rfl)) Via.refl (SCa.ext S5.old) d1_13 (fun T10 S10 => ?_)
      show own_F p e below s Z _ _ _ _ _ (T10.setTop (mkF m 16 #[.val (.int p1)] [(.ref aC)]))
      refine own_F.of (fun _ => XS.iloadN S10.here S10.hx rfl (S10.dec d1_16) rfl) ?_
      refine own_F.of (fun _ => XS.sipush S10.here S10.hx rfl (S10.dec d1_17)) ?_
      show own_F p e below s Z _ _ _ _ _ (T10.setTop (mkF m 20 #[.val (.int p1)] [(.int (128 : Int32)), (.int p1), (.ref aC)]))
      refine own_F.of (fun _ => XS.iadd S10.here S10.hx rfl (S10.dec d1_20) rfl) ?_
      show own_F p e below s Z _ _ _ _ _ (T10.setTop (mkF m 21 #[.val (.int p1)] [(.int (p1 + (128 : Int32))), (.ref aC)]))
      refine own_bxald S10 BX (own_bxI0 hc3_1 hc10_6).1 (own_bxI0 hc3_1 hc10_6).2.1 d1_21 (fun b11 X11 F11 => ?_)
      show own_F p e below s Z _ _ _ _ _ (T10.setTop (mkF m 22 #[.val (.int p1)] [(.ref b11)]))
      refine own_retA S10 rfl rfl d1_22 (by decide) (by decide) ?_
      exact ⟨_, rfl, X11.ext S10.old, own_eqFI (own_bxI0 hc3_1 hc10_6).2.2 (F11.ext S10.old)⟩
theorem d4_0 : decode jdk_22_method_1_code 0 = .ok (.aload_n 0, 1) := by decide +kernel
theorem d4_1 : decode jdk_22_method_1_code 1 = .ok (.invokespecial 1, 3) := by decide +kernel
theorem d4_4 : decode jdk_22_method_1_code 4 = .ok (.return_, 1) := by decide +kernel
theorem pn4 : plainFor (⟨"java/util/AbstractCollection", "<init>", "()V"⟩ : MethodName) = true := plainFor_of_name (by first | (simp [plainName, overriddenIn]; done) | decide +kernel)
set_option maxRecDepth 65536 in
set_option maxHeartbeats 40000000 in
theorem own_ABC (l : Launch) (Z : State) (a0 : Array Value) (hw : ∀ d ∈ tables_1, d.before a0 Z = true) (a1 : Addr) (h0 : Heap) (hO : Ext Z.heap h0) :
    own_C l Z (⟨"java/util/AbstractCollection", "<init>", "()V"⟩ : MethodName) jdk_22_method_1_code 1 none [] ({ frames := 1, cells := 0, slots := 0, locals := 12 } : Room) [] #[(.ref a1)] h0 (fun v h => v = none ∧ h0 = h) := by
  refine own_C.of pn4 hO all0 ?_
  intro p e s m below meth c T0 S0
  refine own_F.cast (by first | (simp [entryFrame, mkF, argsToLocals, Value.category]; done) | rfl : entryFrame m #[(.ref a1)] 1 = mkF m 0 #[.val (.ref a1)] []) ?_
  show own_F p e below s Z _ _ _ _ _ (T0.setTop (mkF m 0 #[.val (.ref a1)] []))
  refine own_F.of (fun _ => XS.aloadN S0.here S0.hx rfl (S0.dec d4_0) rfl rfl) ?_
  show own_F p e below s Z _ _ _ _ _ (T0.setTop (mkF m 1 #[.val (.ref a1)] [(.ref a1)]))
  refine own_initO S0 (own_w hw 25 rfl) (own_w hw 26 rfl) (own_w hw 27 rfl) rfl d4_1 (by decide) (Nat.le_of_ble_eq_true rfl) (fun T1 S1 => ?_)
  show own_F p e below s Z _ _ _ _ _ (T1.setTop (mkF m 4 #[.val (.ref a1)] []))
  refine own_retV S1 d4_4 (by decide) (by decide) ?_
  exact ⟨rfl, rfl⟩
theorem d3_0 : decode jdk_39_method_1_code 0 = .ok (.aload_n 0, 1) := by decide +kernel
theorem d3_1 : decode jdk_39_method_1_code 1 = .ok (.invokespecial 1, 3) := by decide +kernel
theorem d3_4 : decode jdk_39_method_1_code 4 = .ok (.aload_n 0, 1) := by decide +kernel
theorem d3_5 : decode jdk_39_method_1_code 5 = .ok (.iconst 0, 1) := by decide +kernel
theorem d3_6 : decode jdk_39_method_1_code 6 = .ok (.putfield 7, 3) := by decide +kernel
theorem d3_9 : decode jdk_39_method_1_code 9 = .ok (.return_, 1) := by decide +kernel
theorem pn3 : plainFor (⟨"java/util/AbstractList", "<init>", "()V"⟩ : MethodName) = true := plainFor_of_name (by first | (simp [plainName, overriddenIn]; done) | decide +kernel)
set_option maxRecDepth 65536 in
set_option maxHeartbeats 40000000 in
theorem own_ABL (l : Launch) (Z : State) (a0 : Array Value) (hw : ∀ d ∈ tables_1, d.before a0 Z = true) (a1 : Addr) (h0 : Heap) (hO : Ext Z.heap h0) (ga : Z.heap.size ≤ a1) (E_a1 : Exa Z h0 a1 "java/util/ArrayList") (F_modCount : Fld Z h0 a1 "java/util/AbstractList" "modCount" "I" (.int 0)) (F_elementData : Fld Z h0 a1 "java/util/ArrayList" "elementData" "[Ljava/lang/Object;" .null) (F_size : Fld Z h0 a1 "java/util/ArrayList" "size" "I" (.int 0)) :
    own_C l Z (⟨"java/util/AbstractList", "<init>", "()V"⟩ : MethodName) jdk_39_method_1_code 1 none [] ({ frames := 2, cells := 0, slots := 0, locals := 24 } : Room) [a1] #[(.ref a1)] h0 (fun v h => v = none ∧ Fld Z h a1 "java/util/AbstractList" "modCount" "I" (.int 0) ∧ Fld Z h a1 "java/util/ArrayList" "elementData" "[Ljava/lang/Object;" .null ∧ Fld Z h a1 "java/util/ArrayList" "size" "I" (.int 0)) := by
  refine own_C.of pn3 hO (allS ga all0) ?_
  intro p e s m below meth c T0 S0
  refine own_F.cast (by first | (simp [entryFrame, mkF, argsToLocals, Value.category]; done) | rfl : entryFrame m #[(.ref a1)] 1 = mkF m 0 #[.val (.ref a1)] []) ?_
  show own_F p e below s Z _ _ _ _ _ (T0.setTop (mkF m 0 #[.val (.ref a1)] []))
  refine own_F.of (fun _ => XS.aloadN S0.here S0.hx rfl (S0.dec d3_0) rfl rfl) ?_
  show own_F p e below s Z _ _ _ _ _ (T0.setTop (mkF m 1 #[.val (.ref a1)] [(.ref a1)]))
  refine own_callI S0 (y := (⟨"java/util/AbstractCollection", "<init>", "()V"⟩ : MethodName)) rfl (own_w hw 19 rfl) (own_w hw 20 rfl) (own_w hw 23 rfl) (own_w hw 24 rfl) (by decide) (argsL := []) (rest := []) (own_ABC l Z a0 hw a1 h0 S0.old) all0 (by decide +kernel : parseMethodDescriptor "()V" = some ⟨[], none⟩) rfl rfl rfl d3_1 (by decide) (Nat.le_of_ble_eq_true rfl) (by decide) (by decide) (fun T1 h1 v1 S1 K1 q1 => ?_)
  obtain ⟨rfl, rfl⟩ := q1
  show own_F p e below s Z _ _ _ _ _ (T1.setTop (mkF m 4 #[.val (.ref a1)] []))
  refine own_F.of (fun _ => XS.aloadN S1.here S1.hx rfl (S1.dec d3_4) rfl rfl) ?_
  refine own_F.of (fun _ => XS.iconst S1.here S1.hx rfl (S1.dec d3_5)) ?_
  show own_F p e below s Z _ _ _ _ _ (T1.setTop (mkF m 6 #[.val (.ref a1)] [(.int (0 : Int32)), (.ref a1)]))
  refine own_putF S1 (host := "") (Or.inl (own_w hw 28 rfl)) Via.refl F_modCount E_a1 (Or.inl (own_w hw 29 rfl)) (own_w hw 8 rfl) (ty := .int) (by decide) rfl rfl d3_6 (Or.inl (List.mem_of_getElem? (i := 0) rfl)) (fun T2 h2 S2 W2 => ?_)
  have Fw2 := F_modCount.same W2
  show own_F p e below s Z _ _ _ _ _ (T2.setTop (mkF m 9 #[.val (.ref a1)] []))
  have fq3 := (F_elementData.other W2 (Or.inr (slot_ne (C := "java/util/ArrayList") (Or.inl (own_w hw 32 rfl)) (Or.inl (own_w hw 29 rfl)) (by decide) (t := (.array (.object "java/lang/Object"))) (t' := .int) (by decide) (by decide))))
  have fq4 := (F_size.other W2 (Or.inr (slot_ne (C := "java/util/ArrayList") (Or.inl (own_w hw 63 rfl)) (Or.inl (own_w hw 29 rfl)) (by decide) (t := .int) (t' := .int) (by decide) (by decide))))
  refine own_retV S2 d3_9 (by decide) (by decide) ?_
  exact ⟨rfl, Fw2, fq3, fq4⟩
theorem d2_0 : decode jdk_38_method_2_code 0 = .ok (.aload_n 0, 1) := by decide +kernel
theorem d2_1 : decode jdk_38_method_2_code 1 = .ok (.invokespecial 1, 3) := by decide +kernel
theorem d2_4 : decode jdk_38_method_2_code 4 = .ok (.aload_n 0, 1) := by decide +kernel
theorem d2_5 : decode jdk_38_method_2_code 5 = .ok (.getstatic 39, 3) := by decide +kernel
theorem d2_8 : decode jdk_38_method_2_code 8 = .ok (.putfield 9, 3) := by decide +kernel
theorem d2_11 : decode jdk_38_method_2_code 11 = .ok (.return_, 1) := by decide +kernel
theorem pn2 : plainFor (⟨"java/util/ArrayList", "<init>", "()V"⟩ : MethodName) = true := plainFor_of_name (by first | (simp [plainName, overriddenIn]; done) | decide +kernel)
set_option maxRecDepth 65536 in
set_option maxHeartbeats 40000000 in
theorem own_ALI (l : Launch) (Z : State) (a0 : Array Value) (hw : ∀ d ∈ tables_1, d.before a0 Z = true) (a1 : Addr) (aD : Addr) (h0 : Heap) (hO : Ext Z.heap h0) (SD : Sta Z Z.heap "java/util/ArrayList" "DEFAULTCAPACITY_EMPTY_ELEMENTDATA" "[Ljava/lang/Object;" (.ref aD)) (AD : own_A Z Z.heap aD (.object "java/lang/Object") []) (ga : Z.heap.size ≤ a1) (E_a1 : Exa Z h0 a1 "java/util/ArrayList") (F_modCount : Fld Z h0 a1 "java/util/AbstractList" "modCount" "I" (.int 0)) (F_elementData : Fld Z h0 a1 "java/util/ArrayList" "elementData" "[Ljava/lang/Object;" .null) (F_size : Fld Z h0 a1 "java/util/ArrayList" "size" "I" (.int 0)) :
    own_C l Z (⟨"java/util/ArrayList", "<init>", "()V"⟩ : MethodName) jdk_38_method_2_code 1 none [] ({ frames := 3, cells := 0, slots := 0, locals := 36 } : Room) [a1] #[(.ref a1)] h0 (fun v h => v = none ∧ Fld Z h a1 "java/util/AbstractList" "modCount" "I" (.int 0) ∧ Fld Z h a1 "java/util/ArrayList" "elementData" "[Ljava/lang/Object;" (.ref aD) ∧ Fld Z h a1 "java/util/ArrayList" "size" "I" (.int 0)) := by
  refine own_C.of pn2 hO (allS ga all0) ?_
  intro p e s m below meth c T0 S0
  refine own_F.cast (by first | (simp [entryFrame, mkF, argsToLocals, Value.category]; done) | rfl : entryFrame m #[(.ref a1)] 1 = mkF m 0 #[.val (.ref a1)] []) ?_
  show own_F p e below s Z _ _ _ _ _ (T0.setTop (mkF m 0 #[.val (.ref a1)] []))
  refine own_F.of (fun _ => XS.aloadN S0.here S0.hx rfl (S0.dec d2_0) rfl rfl) ?_
  show own_F p e below s Z _ _ _ _ _ (T0.setTop (mkF m 1 #[.val (.ref a1)] [(.ref a1)]))
  refine own_callI S0 (y := (⟨"java/util/AbstractList", "<init>", "()V"⟩ : MethodName)) rfl (own_w hw 13 rfl) (own_w hw 14 rfl) (own_w hw 17 rfl) (own_w hw 18 rfl) (by decide) (argsL := []) (rest := []) (own_ABL l Z a0 hw a1 h0 S0.old ga E_a1 F_modCount F_elementData F_size) (allS (Or.inl (List.mem_of_getElem? (i := 0) rfl)) all0) (by decide +kernel : parseMethodDescriptor "()V" = some ⟨[], none⟩) rfl rfl rfl d2_1 (by decide) (Nat.le_of_ble_eq_true rfl) (by decide) (by decide) (fun T1 h1 v1 S1 K1 q1 => ?_)
  obtain ⟨rfl, Fm1, Fe1, Fs1⟩ := q1
  show own_F p e below s Z _ _ _ _ _ (T1.setTop (mkF m 4 #[.val (.ref a1)] []))
  refine own_F.of (fun _ => XS.aloadN S1.here S1.hx rfl (S1.dec d2_4) rfl rfl) ?_
  show own_F p e below s Z _ _ _ _ _ (T1.setTop (mkF m 5 #[.val (.ref a1)] [(.ref a1)]))
  refine own_getS S1 (host := "") (Or.inl (own_w hw 30 rfl)) Via.refl (SD.ext S1.old) d2_5 (fun T2 S2 => ?_)
  show own_F p e below s Z _ _ _ _ _ (T2.setTop (mkF m 8 #[.val (.ref a1)] [(.ref aD), (.ref a1)]))
  have fq3 := (E_a1.keep K1)
  refine own_putF S2 (host := "") (Or.inl (own_w hw 31 rfl)) Via.refl Fe1 fq3 (Or.inl (own_w hw 32 rfl)) (own_w hw 8 rfl) (ty := (.array (.object "java/lang/Object"))) (by decide) rfl rfl d2_8 (Or.inl (List.mem_of_getElem? (i := 0) rfl)) (fun T4 h4 S4 W4 => ?_)
  have Fw4 := Fe1.same W4
  show own_F p e below s Z _ _ _ _ _ (T4.setTop (mkF m 11 #[.val (.ref a1)] []))
  have fq5 := (Fm1.other W4 (Or.inr (slot_ne (C := "java/util/ArrayList") (Or.inl (own_w hw 29 rfl)) (Or.inl (own_w hw 32 rfl)) (by decide) (t := .int) (t' := (.array (.object "java/lang/Object"))) (by decide) (by decide))))
  have fq6 := (Fs1.other W4 (Or.inr (slot_ne (C := "java/util/ArrayList") (Or.inl (own_w hw 63 rfl)) (Or.inl (own_w hw 32 rfl)) (by decide) (t := .int) (t' := (.array (.object "java/lang/Object"))) (by decide) (by decide))))
  refine own_retV S4 d2_11 (by decide) (by decide) ?_
  exact ⟨rfl, fq5, Fw4, fq6⟩
theorem d17_0 : decode jdk_29_method_65_code 0 = .ok (.iload_n 0, 1) := by decide +kernel
theorem d17_1 : decode jdk_29_method_65_code 1 = .ok (.iload_n 1, 1) := by decide +kernel
theorem d17_2 : decode jdk_29_method_65_code 2 = .ok (.if_icmp .lt 7, 3) := by decide +kernel
theorem d17_5 : decode jdk_29_method_65_code 5 = .ok (.iload_n 0, 1) := by decide +kernel
theorem d17_6 : decode jdk_29_method_65_code 6 = .ok (.goto 4, 3) := by decide +kernel
theorem d17_9 : decode jdk_29_method_65_code 9 = .ok (.iload_n 1, 1) := by decide +kernel
theorem d17_10 : decode jdk_29_method_65_code 10 = .ok (.ireturn, 1) := by decide +kernel
theorem pn17 : plainFor (⟨"java/lang/Math", "max", "(II)I"⟩ : MethodName) = true := Jvm.Free.JP.mathPlain rfl (by decide +kernel)
set_option maxRecDepth 65536 in
set_option maxHeartbeats 40000000 in
theorem own_max (l : Launch) (Z : State) (a0 : Array Value) (hw : ∀ d ∈ tables_1, d.before a0 Z = true)  (h0 : Heap) (hO : Ext Z.heap h0) :
    own_C l Z (⟨"java/lang/Math", "max", "(II)I"⟩ : MethodName) jdk_29_method_65_code 2 (some .int) [] ({ frames := 0, cells := 0, slots := 0, locals := 0 } : Room) [] #[(.int (10 : Int32)), (.int (1 : Int32))] h0 (fun v h => v = some (.int 10) ∧ h0 = h) := by
  refine own_C.of pn17 hO all0 ?_
  intro p e s m below meth c T0 S0
  refine own_F.cast (by first | (simp [entryFrame, mkF, argsToLocals, Value.category]; done) | rfl : entryFrame m #[(.int (10 : Int32)), (.int (1 : Int32))] 2 = mkF m 0 #[.val (.int (10 : Int32)), .val (.int (1 : Int32))] []) ?_
  show own_F p e below s Z _ _ _ _ _ (T0.setTop (mkF m 0 #[.val (.int (10 : Int32)), .val (.int (1 : Int32))] []))
  refine own_F.of (fun _ => XS.iloadN S0.here S0.hx rfl (S0.dec d17_0) rfl) ?_
  refine own_F.of (fun _ => XS.iloadN S0.here S0.hx rfl (S0.dec d17_1) rfl) ?_
  show own_F p e below s Z _ _ _ _ _ (T0.setTop (mkF m 2 #[.val (.int (10 : Int32)), .val (.int (1 : Int32))] [(.int (1 : Int32)), (.int (10 : Int32))]))
  refine own_icmp S0 9 d17_2 (by decide) (by decide) (fun (hc2_1 : (10 : Int32) < (1 : Int32)) => False.elim (absurd hc2_1 (by decide))) (fun (hc2_1 : ¬ ((10 : Int32) < (1 : Int32))) => ?_)
  show own_F p e below s Z _ _ _ _ _ (T0.setTop (mkF m 5 #[.val (.int (10 : Int32)), .val (.int (1 : Int32))] []))
  refine own_F.of (fun _ => XS.iloadN S0.here S0.hx rfl (S0.dec d17_5) rfl) ?_
  show own_F p e below s Z _ _ _ _ _ (T0.setTop (mkF m 6 #[.val (.int (10 : Int32)), .val (.int (1 : Int32))] [(.int (10 : Int32))]))
  refine own_F.of (fun _ => XS.goto S0.here S0.hx rfl (pc0 := 6) (pc' := 10) rfl (S0.dec d17_6) (by decide) (by decide)) ?_
  show own_F p e below s Z _ _ _ _ _ (T0.setTop (mkF m 10 #[.val (.int (10 : Int32)), .val (.int (1 : Int32))] [(.int (10 : Int32))]))
  refine own_retI S0 d17_10 (by decide) (by decide) ?_
  exact ⟨rfl, rfl⟩
theorem d16_0 : decode jdk_38_method_6_code 0 = .ok (.aload_n 0, 1) := by decide +kernel
theorem d16_1 : decode jdk_38_method_6_code 1 = .ok (.getfield 9, 3) := by decide +kernel
theorem d16_4 : decode jdk_38_method_6_code 4 = .ok (.arraylength, 1) := by decide +kernel
theorem d16_5 : decode jdk_38_method_6_code 5 = .ok (.istore_n 2, 1) := by decide +kernel
theorem d16_6 : decode jdk_38_method_6_code 6 = .ok (.iload_n 2, 1) := by decide +kernel
theorem d16_7 : decode jdk_38_method_6_code 7 = .ok (.ifCond .gt 13, 3) := by decide +kernel
theorem d16_10 : decode jdk_38_method_6_code 10 = .ok (.aload_n 0, 1) := by decide +kernel
theorem d16_11 : decode jdk_38_method_6_code 11 = .ok (.getfield 9, 3) := by decide +kernel
theorem d16_14 : decode jdk_38_method_6_code 14 = .ok (.getstatic 39, 3) := by decide +kernel
theorem d16_17 : decode jdk_38_method_6_code 17 = .ok (.if_acmp .eq 28, 3) := by decide +kernel
theorem d16_20 : decode jdk_38_method_6_code 20 = .ok (.iload_n 2, 1) := by decide +kernel
theorem d16_21 : decode jdk_38_method_6_code 21 = .ok (.iload_n 1, 1) := by decide +kernel
theorem d16_22 : decode jdk_38_method_6_code 22 = .ok (.iload_n 2, 1) := by decide +kernel
theorem d16_23 : decode jdk_38_method_6_code 23 = .ok (.isub, 1) := by decide +kernel
theorem d16_24 : decode jdk_38_method_6_code 24 = .ok (.iload_n 2, 1) := by decide +kernel
theorem d16_25 : decode jdk_38_method_6_code 25 = .ok (.iconst 1, 1) := by decide +kernel
theorem d16_26 : decode jdk_38_method_6_code 26 = .ok (.ishr, 1) := by decide +kernel
theorem d16_27 : decode jdk_38_method_6_code 27 = .ok (.invokestatic 73, 3) := by decide +kernel
theorem d16_30 : decode jdk_38_method_6_code 30 = .ok (.istore_n 3, 1) := by decide +kernel
theorem d16_31 : decode jdk_38_method_6_code 31 = .ok (.aload_n 0, 1) := by decide +kernel
theorem d16_32 : decode jdk_38_method_6_code 32 = .ok (.aload_n 0, 1) := by decide +kernel
theorem d16_33 : decode jdk_38_method_6_code 33 = .ok (.getfield 9, 3) := by decide +kernel
theorem d16_36 : decode jdk_38_method_6_code 36 = .ok (.iload_n 3, 1) := by decide +kernel
theorem d16_37 : decode jdk_38_method_6_code 37 = .ok (.invokestatic 66, 3) := by decide +kernel
theorem d16_40 : decode jdk_38_method_6_code 40 = .ok (.dup_x1, 1) := by decide +kernel
theorem d16_41 : decode jdk_38_method_6_code 41 = .ok (.putfield 9, 3) := by decide +kernel
theorem d16_44 : decode jdk_38_method_6_code 44 = .ok (.areturn, 1) := by decide +kernel
theorem d16_45 : decode jdk_38_method_6_code 45 = .ok (.aload_n 0, 1) := by decide +kernel
theorem d16_46 : decode jdk_38_method_6_code 46 = .ok (.bipush 10, 2) := by decide +kernel
theorem d16_48 : decode jdk_38_method_6_code 48 = .ok (.iload_n 1, 1) := by decide +kernel
theorem d16_49 : decode jdk_38_method_6_code 49 = .ok (.invokestatic 79, 3) := by decide +kernel
theorem d16_52 : decode jdk_38_method_6_code 52 = .ok (.anewarray 7, 3) := by decide +kernel
theorem d16_55 : decode jdk_38_method_6_code 55 = .ok (.dup_x1, 1) := by decide +kernel
theorem d16_56 : decode jdk_38_method_6_code 56 = .ok (.putfield 9, 3) := by decide +kernel
theorem d16_59 : decode jdk_38_method_6_code 59 = .ok (.areturn, 1) := by decide +kernel
theorem pn16 : plainFor (⟨"java/util/ArrayList", "grow", "(I)[Ljava/lang/Object;"⟩ : MethodName) = true := plainFor_of_name (by first | (simp [plainName, overriddenIn]; done) | decide +kernel)
set_option maxRecDepth 65536 in
set_option maxHeartbeats 40000000 in
theorem own_growI (l : Launch) (Z : State) (a0 : Array Value) (hw : ∀ d ∈ tables_1, d.before a0 Z = true) (a1 : Addr) (mc : Int32) (aD : Addr) (h0 : Heap) (hO : Ext Z.heap h0) (SD : Sta Z Z.heap "java/util/ArrayList" "DEFAULTCAPACITY_EMPTY_ELEMENTDATA" "[Ljava/lang/Object;" (.ref aD)) (AD : own_A Z Z.heap aD (.object "java/lang/Object") []) (ga : Z.heap.size ≤ a1) (E_a1 : Exa Z h0 a1 "java/util/ArrayList") (F_elementData : Fld Z h0 a1 "java/util/ArrayList" "elementData" "[Ljava/lang/Object;" (.ref aD)) (F_size : Fld Z h0 a1 "java/util/ArrayList" "size" "I" (.int 0)) (F_modCount : Fld Z h0 a1 "java/util/AbstractList" "modCount" "I" (.int mc)) :
    own_C l Z (⟨"java/util/ArrayList", "grow", "(I)[Ljava/lang/Object;"⟩ : MethodName) jdk_38_method_6_code 4 (some (.array (.object "java/lang/Object"))) [] ({ frames := 1, cells := 1, slots := 10, locals := 14 } : Room) [a1] #[(.ref a1), (.int (1 : Int32))] h0 (fun v h => ∃ b, v = some (.ref b) ∧ h0.size ≤ b ∧ own_AO Z h b [.null, .null, .null, .null, .null, .null, .null, .null, .null, .null] ∧ Fld Z h a1 "java/util/ArrayList" "elementData" "[Ljava/lang/Object;" (.ref b) ∧ Fld Z h a1 "java/util/ArrayList" "size" "I" (.int 0) ∧ Fld Z h a1 "java/util/AbstractList" "modCount" "I" (.int mc)) := by
  refine own_C.of pn16 hO (allS ga all0) ?_
  intro p e s m below meth c T0 S0
  refine own_F.cast (by first | (simp [entryFrame, mkF, argsToLocals, Value.category]; done) | rfl : entryFrame m #[(.ref a1), (.int (1 : Int32))] 4 = mkF m 0 #[.val (.ref a1), .val (.int (1 : Int32)), .unset, .unset] []) ?_
  show own_F p e below s Z _ _ _ _ _ (T0.setTop (mkF m 0 #[.val (.ref a1), .val (.int (1 : Int32)), .unset, .unset] []))
  refine own_F.of (fun _ => XS.aloadN S0.here S0.hx rfl (S0.dec d16_0) rfl rfl) ?_
  show own_F p e below s Z _ _ _ _ _ (T0.setTop (mkF m 1 #[.val (.ref a1), .val (.int (1 : Int32)), .unset, .unset] [(.ref a1)]))
  refine own_getF S0 (host := "") (Or.inl (own_w hw 31 rfl)) Via.refl F_elementData d16_1 (fun T1 S1 => ?_)
  show own_F p e below s Z _ _ _ _ _ (T1.setTop (mkF m 4 #[.val (.ref a1), .val (.int (1 : Int32)), .unset, .unset] [(.ref aD)]))
  refine own_len S1 (AD.ext S1.old) d16_4 ?_
  show own_F p e below s Z _ _ _ _ _ (T1.setTop (mkF m 5 #[.val (.ref a1), .val (.int (1 : Int32)), .unset, .unset] [(.int (0 : Int32))]))
  refine own_F.of (fun _ => XS.istoreN S1.here S1.hx rfl (S1.dec d16_5) rfl (l' := #[.val (.ref a1), .val (.int (1 : Int32)), .val (.int (0 : Int32)), .unset]) rfl) ?_
  show own_F p e below s Z _ _ _ _ _ (T1.setTop (mkF m 6 #[.val (.ref a1), .val (.int (1 : Int32)), .val (.int (0 : Int32)), .unset] []))
  refine own_F.of (fun _ => XS.iloadN S1.here S1.hx rfl (S1.dec d16_6) rfl) ?_
  show own_F p e below s Z _ _ _ _ _ (T1.setTop (mkF m 7 #[.val (.ref a1), .val (.int (1 : Int32)), .val (.int (0 : Int32)), .unset] [(.int (0 : Int32))]))
  refine own_if S1 20 d16_7 (by decide) (by decide) (fun (hc7_2 : (0 : Int32) < (0 : Int32)) => False.elim (absurd hc7_2 (by decide))) (fun (hc7_2 : ¬ ((0 : Int32) < (0 : Int32))) => ?_)
  show own_F p e below s Z _ _ _ _ _ (T1.setTop (mkF m 10 #[.val (.ref a1), .val (.int (1 : Int32)), .val (.int (0 : Int32)), .unset] []))
  refine own_F.of (fun _ => XS.aloadN S1.here S1.hx rfl (S1.dec d16_10) rfl rfl) ?_
  show own_F p e below s Z _ _ _ _ _ (T1.setTop (mkF m 11 #[.val (.ref a1), .val (.int (1 : Int32)), .val (.int (0 : Int32)), .unset] [(.ref a1)]))
  refine own_getF S1 (host := "") (Or.inl (own_w hw 31 rfl)) Via.refl F_elementData d16_11 (fun T3 S3 => ?_)
  show own_F p e below s Z _ _ _ _ _ (T3.setTop (mkF m 14 #[.val (.ref a1), .val (.int (1 : Int32)), .val (.int (0 : Int32)), .unset] [(.ref aD)]))
  refine own_getS S3 (host := "") (Or.inl (own_w hw 30 rfl)) Via.refl (SD.ext S3.old) d16_14 (fun T4 S4 => ?_)
  show own_F p e below s Z _ _ _ _ _ (T4.setTop (mkF m 17 #[.val (.ref a1), .val (.int (1 : Int32)), .val (.int (0 : Int32)), .unset] [(.ref aD), (.ref aD)]))
  refine own_acmp S4 rfl rfl 45 d16_17 (by decide) (by decide) (fun (hc17_5 : (Value.ref aD) = (Value.ref aD)) => ?_) (fun (hc17_5 : ¬ ((Value.ref aD) = (Value.ref aD))) => False.elim (hc17_5 rfl))
  show own_F p e below s Z _ _ _ _ _ (T4.setTop (mkF m 45 #[.val (.ref a1), .val (.int (1 : Int32)), .val (.int (0 : Int32)), .unset] []))
  refine own_F.of (fun _ => XS.aloadN S4.here S4.hx rfl (S4.dec d16_45) rfl rfl) ?_
  refine own_F.of (fun _ => XS.bipush S4.here S4.hx rfl (S4.dec d16_46)) ?_
  refine own_F.of (fun _ => XS.iloadN S4.here S4.hx rfl (S4.dec d16_48) rfl) ?_
  show own_F p e below s Z _ _ _ _ _ (T4.setTop (mkF m 49 #[.val (.ref a1), .val (.int (1 : Int32)), .val (.int (0 : Int32)), .unset] [(.int (1 : Int32)), (.int (10 : Int32)), (.ref a1)]))
  refine own_callS S4 (y := (⟨"java/lang/Math", "max", "(II)I"⟩ : MethodName)) (own_w hw 111 rfl) (own_w hw 112 rfl) (own_w hw 113 rfl) (own_w hw 114 rfl) (by decide) (argsL := [(.int (10 : Int32)), (.int (1 : Int32))]) (rest := [(.ref a1)]) (own_max l Z a0 hw h0 S4.old) all0 (by decide +kernel : parseMethodDescriptor "(II)I" = some ⟨[.int, .int], some .int⟩) rfl rfl rfl d16_49 (by decide) (Nat.le_of_ble_eq_true rfl) (by decide) (by decide) (fun T6 h6 v6 S6 K6 q6 => ?_)
  obtain ⟨rfl, rfl⟩ := q6
  show own_F p e below s Z _ _ _ _ _ (T6.setTop (mkF m 52 #[.val (.ref a1), .val (.int (1 : Int32)), .val (.int (0 : Int32)), .unset] [(.int (10 : Int32)), (.ref a1)]))
  refine own_anew S6 (own_w hw 115 rfl) (own_w hw 116 rfl) d16_52 (by decide) (cap := 10) (by decide) (by decide) (by decide) (by decide) (fun T7 h7 b7 g7 S7 E7 A7 => ?_)
  have V8 : own_AO Z h7 b7 [.null, .null, .null, .null, .null, .null, .null, .null, .null, .null] := A7
  show own_F p e below s Z _ _ _ _ _ (T7.setTop (mkF m 55 #[.val (.ref a1), .val (.int (1 : Int32)), .val (.int (0 : Int32)), .unset] [(.ref b7), (.ref a1)]))
  refine own_F.of (fun _ => XS.dupX1 S7.here S7.hx rfl (S7.dec d16_55) rfl rfl rfl) ?_
  show own_F p e below s Z _ _ _ _ _ (T7.setTop (mkF m 56 #[.val (.ref a1), .val (.int (1 : Int32)), .val (.int (0 : Int32)), .unset] [(.ref b7), (.ref a1), (.ref b7)]))
  have fq9 := (F_elementData.ext E7)
  have fq10 := (E_a1.ext E7)
  refine own_putF S7 (host := "") (Or.inl (own_w hw 31 rfl)) Via.refl fq9 fq10 (Or.inl (own_w hw 32 rfl)) (own_w hw 8 rfl) (ty := (.array (.object "java/lang/Object"))) (by decide) rfl rfl d16_56 (Or.inl (List.mem_of_getElem? (i := 0) rfl)) (fun T11 h11 S11 W11 => ?_)
  have Fw11 := fq9.same W11
  show own_F p e below s Z _ _ _ _ _ (T11.setTop (mkF m 59 #[.val (.ref a1), .val (.int (1 : Int32)), .val (.int (0 : Int32)), .unset] [(.ref b7)]))
  have fq12 := (V8.other W11 (ne_exa V8.exa fq10 (by decide)))
  have fq13 := ((F_size.ext E7).other W11 (Or.inr (slot_ne (C := "java/util/ArrayList") (Or.inl (own_w hw 63 rfl)) (Or.inl (own_w hw 32 rfl)) (by decide) (t := .int) (t' := (.array (.object "java/lang/Object"))) (by decide) (by decide))))
  have fq14 := ((F_modCount.ext E7).other W11 (Or.inr (slot_ne (C := "java/util/ArrayList") (Or.inl (own_w hw 29 rfl)) (Or.inl (own_w hw 32 rfl)) (by decide) (t := .int) (t' := (.array (.object "java/lang/Object"))) (by decide) (by decide))))
  refine own_retA S11 rfl rfl d16_59 (by decide) (by decide) ?_
  exact ⟨_, rfl, (by rw [g7]; exact S6.size), fq12, Fw11, fq13, fq14⟩
theorem d15_0 : decode jdk_38_method_7_code 0 = .ok (.aload_n 0, 1) := by decide +kernel
theorem d15_1 : decode jdk_38_method_7_code 1 = .ok (.aload_n 0, 1) := by decide +kernel
theorem d15_2 : decode jdk_38_method_7_code 2 = .ok (.getfield 48, 3) := by decide +kernel
theorem d15_5 : decode jdk_38_method_7_code 5 = .ok (.iconst 1, 1) := by decide +kernel
theorem d15_6 : decode jdk_38_method_7_code 6 = .ok (.iadd, 1) := by decide +kernel
theorem d15_7 : decode jdk_38_method_7_code 7 = .ok (.invokevirtual 69, 3) := by decide +kernel
theorem d15_10 : decode jdk_38_method_7_code 10 = .ok (.areturn, 1) := by decide +kernel
theorem pn15 : plainFor (⟨"java/util/ArrayList", "grow", "()[Ljava/lang/Object;"⟩ : MethodName) = true := plainFor_of_name (by first | (simp [plainName, overriddenIn]; done) | decide +kernel)
set_option maxRecDepth 65536 in
set_option maxHeartbeats 40000000 in
theorem own_grow (l : Launch) (Z : State) (a0 : Array Value) (hw : ∀ d ∈ tables_1, d.before a0 Z = true) (a1 : Addr) (mc : Int32) (aD : Addr) (h0 : Heap) (hO : Ext Z.heap h0) (SD : Sta Z Z.heap "java/util/ArrayList" "DEFAULTCAPACITY_EMPTY_ELEMENTDATA" "[Ljava/lang/Object;" (.ref aD)) (AD : own_A Z Z.heap aD (.object "java/lang/Object") []) (ga : Z.heap.size ≤ a1) (E_a1 : Exa Z h0 a1 "java/util/ArrayList") (F_elementData : Fld Z h0 a1 "java/util/ArrayList" "elementData" "[Ljava/lang/Object;" (.ref aD)) (F_size : Fld Z h0 a1 "java/util/ArrayList" "size" "I" (.int 0)) (F_modCount : Fld Z h0 a1 "java/util/AbstractList" "modCount" "I" (.int mc)) :
    own_C l Z (⟨"java/util/ArrayList", "grow", "()[Ljava/lang/Object;"⟩ : MethodName) jdk_38_method_7_code 1 (some (.array (.object "java/lang/Object"))) [] ({ frames := 2, cells := 1, slots := 10, locals := 29 } : Room) [a1] #[(.ref a1)] h0 (fun v h => ∃ b, v = some (.ref b) ∧ h0.size ≤ b ∧ own_AO Z h b [.null, .null, .null, .null, .null, .null, .null, .null, .null, .null] ∧ Fld Z h a1 "java/util/ArrayList" "elementData" "[Ljava/lang/Object;" (.ref b) ∧ Fld Z h a1 "java/util/ArrayList" "size" "I" (.int 0) ∧ Fld Z h a1 "java/util/AbstractList" "modCount" "I" (.int mc)) := by
  refine own_C.of pn15 hO (allS ga all0) ?_
  intro p e s m below meth c T0 S0
  refine own_F.cast (by first | (simp [entryFrame, mkF, argsToLocals, Value.category]; done) | rfl : entryFrame m #[(.ref a1)] 1 = mkF m 0 #[.val (.ref a1)] []) ?_
  show own_F p e below s Z _ _ _ _ _ (T0.setTop (mkF m 0 #[.val (.ref a1)] []))
  refine own_F.of (fun _ => XS.aloadN S0.here S0.hx rfl (S0.dec d15_0) rfl rfl) ?_
  refine own_F.of (fun _ => XS.aloadN S0.here S0.hx rfl (S0.dec d15_1) rfl rfl) ?_
  show own_F p e below s Z _ _ _ _ _ (T0.setTop (mkF m 2 #[.val (.ref a1)] [(.ref a1), (.ref a1)]))
  refine own_getF S0 (host := "") (Or.inl (own_w hw 62 rfl)) Via.refl F_size d15_2 (fun T1 S1 => ?_)
  show own_F p e below s Z _ _ _ _ _ (T1.setTop (mkF m 5 #[.val (.ref a1)] [(.int (0 : Int32)), (.ref a1)]))
  refine own_F.of (fun _ => XS.iconst S1.here S1.hx rfl (S1.dec d15_5)) ?_
  show own_F p e below s Z _ _ _ _ _ (T1.setTop (mkF m 6 #[.val (.ref a1)] [(.int (1 : Int32)), (.int (0 : Int32)), (.ref a1)]))
  refine own_F.of (fun _ => XS.iadd S1.here S1.hx rfl (S1.dec d15_6) rfl) ?_
  show own_F p e below s Z _ _ _ _ _ (T1.setTop (mkF m 7 #[.val (.ref a1)] [(.int (1 : Int32)), (.ref a1)]))
  refine own_callP S1 (y := (⟨"java/util/ArrayList", "grow", "(I)[Ljava/lang/Object;"⟩ : MethodName)) (own_w hw 106 rfl) (own_w hw 107 rfl) (own_w hw 8 rfl) (own_w hw 108 rfl) (own_w hw 110 rfl) (own_w hw 9 rfl) (by decide) E_a1 (argsL := [(.int (1 : Int32))]) (rest := []) (own_growI l Z a0 hw a1 mc aD h0 S1.old SD AD ga E_a1 F_elementData F_size F_modCount) (allS (Or.inl (List.mem_of_getElem? (i := 0) rfl)) all0) (by decide +kernel : parseMethodDescriptor "(I)[Ljava/lang/Object;" = some ⟨[.int], some (.array (.object "java/lang/Object"))⟩) rfl rfl rfl d15_7 (by decide) (Nat.le_of_ble_eq_true rfl) (by decide) (by decide) (fun T2 h2 v2 S2 K2 q2 => ?_)
  obtain ⟨b2, rfl, hb2⟩ := q2
  show own_F p e below s Z _ _ _ _ _ (T2.setTop (mkF m 10 #[.val (.ref a1)] [(.ref b2)]))
  refine own_retA S2 rfl rfl d15_10 (by decide) (by decide) ?_
  exact ⟨_, rfl, hb2⟩
theorem d14_0 : decode jdk_38_method_24_code 0 = .ok (.iload_n 3, 1) := by decide +kernel
theorem d14_1 : decode jdk_38_method_24_code 1 = .ok (.aload_n 2, 1) := by decide +kernel
theorem d14_2 : decode jdk_38_method_24_code 2 = .ok (.arraylength, 1) := by decide +kernel
theorem d14_3 : decode jdk_38_method_24_code 3 = .ok (.if_icmp .ne 8, 3) := by decide +kernel
theorem d14_6 : decode jdk_38_method_24_code 6 = .ok (.aload_n 0, 1) := by decide +kernel
theorem d14_7 : decode jdk_38_method_24_code 7 = .ok (.invokevirtual 129, 3) := by decide +kernel
theorem d14_10 : decode jdk_38_method_24_code 10 = .ok (.astore_n 2, 1) := by decide +kernel
theorem d14_11 : decode jdk_38_method_24_code 11 = .ok (.aload_n 2, 1) := by decide +kernel
theorem d14_12 : decode jdk_38_method_24_code 12 = .ok (.iload_n 3, 1) := by decide +kernel
theorem d14_13 : decode jdk_38_method_24_code 13 = .ok (.aload_n 1, 1) := by decide +kernel
theorem d14_14 : decode jdk_38_method_24_code 14 = .ok (.aastore, 1) := by decide +kernel
theorem d14_15 : decode jdk_38_method_24_code 15 = .ok (.aload_n 0, 1) := by decide +kernel
theorem d14_16 : decode jdk_38_method_24_code 16 = .ok (.iload_n 3, 1) := by decide +kernel
theorem d14_17 : decode jdk_38_method_24_code 17 = .ok (.iconst 1, 1) := by decide +kernel
theorem d14_18 : decode jdk_38_method_24_code 18 = .ok (.iadd, 1) := by decide +kernel
theorem d14_19 : decode jdk_38_method_24_code 19 = .ok (.putfield 48, 3) := by decide +kernel
theorem d14_22 : decode jdk_38_method_24_code 22 = .ok (.return_, 1) := by decide +kernel
theorem pn14 : plainFor (⟨"java/util/ArrayList", "add", "(Ljava/lang/Object;[Ljava/lang/Object;I)V"⟩ : MethodName) = true := plainFor_of_name (by first | (simp [plainName, overriddenIn]; done) | decide +kernel)
set_option maxRecDepth 65536 in
set_option maxHeartbeats 40000000 in
theorem own_add3_0 (l : Launch) (Z : State) (a0 : Array Value) (hw : ∀ d ∈ tables_1, d.before a0 Z = true) (a1 : Addr) (e1 : Addr) (aD : Addr) (mc : Int32) (h0 : Heap) (hO : Ext Z.heap h0) (SD : Sta Z Z.heap "java/util/ArrayList" "DEFAULTCAPACITY_EMPTY_ELEMENTDATA" "[Ljava/lang/Object;" (.ref aD)) (AD : own_A Z Z.heap aD (.object "java/lang/Object") []) (ga : Z.heap.size ≤ a1) (E_a1 : Exa Z h0 a1 "java/util/ArrayList") (F_elementData : Fld Z h0 a1 "java/util/ArrayList" "elementData" "[Ljava/lang/Object;" (.ref aD)) (F_size : Fld Z h0 a1 "java/util/ArrayList" "size" "I" (.int 0)) (F_modCount : Fld Z h0 a1 "java/util/AbstractList" "modCount" "I" (.int mc)) (X_e1 : Exa Z h0 e1 "java/lang/Integer") :
    own_C l Z (⟨"java/util/ArrayList", "add", "(Ljava/lang/Object;[Ljava/lang/Object;I)V"⟩ : MethodName) jdk_38_method_24_code 4 none [] ({ frames := 3, cells := 1, slots := 10, locals := 41 } : Room) [a1] #[(.ref a1), (.ref e1), (.ref aD), (.int (0 : Int32))] h0 (fun v h => v = none ∧ ∃ b, h0.size ≤ b ∧ own_AO Z h b [(.ref e1), .null, .null, .null, .null, .null, .null, .null, .null, .null] ∧ Fld Z h a1 "java/util/ArrayList" "elementData" "[Ljava/lang/Object;" (.ref b) ∧ Fld Z h a1 "java/util/ArrayList" "size" "I" (.int 1) ∧ Fld Z h a1 "java/util/AbstractList" "modCount" "I" (.int mc)) := by
  refine own_C.of pn14 hO (allS ga all0) ?_
  intro p e s m below meth c T0 S0
  refine own_F.cast (by first | (simp [entryFrame, mkF, argsToLocals, Value.category]; done) | rfl : entryFrame m #[(.ref a1), (.ref e1), (.ref aD), (.int (0 : Int32))] 4 = mkF m 0 #[.val (.ref a1), .val (.ref e1), .val (.ref aD), .val (.int (0 : Int32))] []) ?_
  show own_F p e below s Z _ _ _ _ _ (T0.setTop (mkF m 0 #[.val (.ref a1), .val (.ref e1), .val (.ref aD), .val (.int (0 : Int32))] []))
  refine own_F.of (fun _ => XS.iloadN S0.here S0.hx rfl (S0.dec d14_0) rfl) ?_
  refine own_F.of (fun _ => XS.aloadN S0.here S0.hx rfl (S0.dec d14_1) rfl rfl) ?_
  show own_F p e below s Z _ _ _ _ _ (T0.setTop (mkF m 2 #[.val (.ref a1), .val (.ref e1), .val (.ref aD), .val (.int (0 : Int32))] [(.ref aD), (.int (0 : Int32))]))
  refine own_len S0 (AD.ext S0.old) d14_2 ?_
  show own_F p e below s Z _ _ _ _ _ (T0.setTop (mkF m 3 #[.val (.ref a1), .val (.ref e1), .val (.ref aD), .val (.int (0 : Int32))] [(.int (0 : Int32)), (.int (0 : Int32))]))
  refine own_icmp S0 11 d14_3 (by decide) (by decide) (fun (hc3_1 : ¬ ((0 : Int32) = (0 : Int32))) => False.elim (absurd hc3_1 (by decide))) (fun (hc3_1 : (0 : Int32) = (0 : Int32)) => ?_)
  show own_F p e below s Z _ _ _ _ _ (T0.setTop (mkF m 6 #[.val (.ref a1), .val (.ref e1), .val (.ref aD), .val (.int (0 : Int32))] []))
  refine own_F.of (fun _ => XS.aloadN S0.here S0.hx rfl (S0.dec d14_6) rfl rfl) ?_
  show own_F p e below s Z _ _ _ _ _ (T0.setTop (mkF m 7 #[.val (.ref a1), .val (.ref e1), .val (.ref aD), .val (.int (0 : Int32))] [(.ref a1)]))
  refine own_callP S0 (y := (⟨"java/util/ArrayList", "grow", "()[Ljava/lang/Object;"⟩ : MethodName)) (own_w hw 101 rfl) (own_w hw 102 rfl) (own_w hw 8 rfl) (own_w hw 103 rfl) (own_w hw 105 rfl) (own_w hw 9 rfl) (by decide) E_a1 (argsL := []) (rest := []) (own_grow l Z a0 hw a1 mc aD h0 S0.old SD AD ga E_a1 F_elementData F_size F_modCount) (allS (Or.inl (List.mem_of_getElem? (i := 0) rfl)) all0) (by decide +kernel : parseMethodDescriptor "()[Ljava/lang/Object;" = some ⟨[], some (.array (.object "java/lang/Object"))⟩) rfl rfl rfl d14_7 (by decide) (Nat.le_of_ble_eq_true rfl) (by decide) (by decide) (fun T2 h2 v2 S2 K2 q2 => ?_)
  obtain ⟨b2, rfl, g2, A2, Fe2, Fs2, Fm2⟩ := q2
  have V3 : own_AO Z h2 b2 [.null, .null, .null, .null, .null, .null, .null, .null, .null, .null] := A2
  show own_F p e below s Z _ _ _ _ _ (T2.setTop (mkF m 10 #[.val (.ref a1), .val (.ref e1), .val (.ref aD), .val (.int (0 : Int32))] [(.ref b2)]))
  refine own_F.of (fun _ => XS.astoreN S2.here S2.hx rfl (S2.dec d14_10) rfl rfl (l' := #[.val (.ref a1), .val (.ref e1), .val (.ref b2), .val (.int (0 : Int32))]) rfl) ?_
  show own_F p e below s Z _ _ _ _ _ (T2.setTop (mkF m 11 #[.val (.ref a1), .val (.ref e1), .val (.ref b2), .val (.int (0 : Int32))] []))
  refine own_F.of (fun _ => XS.aloadN S2.here S2.hx rfl (S2.dec d14_11) rfl rfl) ?_
  refine own_F.of (fun _ => XS.iloadN S2.here S2.hx rfl (S2.dec d14_12) rfl) ?_
  refine own_F.of (fun _ => XS.aloadN S2.here S2.hx rfl (S2.dec d14_13) rfl rfl) ?_
  show own_F p e below s Z _ _ _ _ _ (T2.setTop (mkF m 14 #[.val (.ref a1), .val (.ref e1), .val (.ref b2), .val (.int (0 : Int32))] [(.ref e1), (.int (0 : Int32)), (.ref b2)]))
  have fq5 := (X_e1.keep K2)
  refine own_aast S2 V3 (by decide) (Nat.le_of_ble_eq_true rfl) (Ins.of_exa fq5 (own_w hw 117 rfl)) d14_14 (Or.inr g2) (fun T4 h4 S4 W4 A4 => ?_)
  have V6 : own_AO Z h4 b2 [(.ref e1), .null, .null, .null, .null, .null, .null, .null, .null, .null] := A4
  show own_F p e below s Z _ _ _ _ _ (T4.setTop (mkF m 15 #[.val (.ref a1), .val (.ref e1), .val (.ref b2), .val (.int (0 : Int32))] []))
  refine own_F.of (fun _ => XS.aloadN S4.here S4.hx rfl (S4.dec d14_15) rfl rfl) ?_
  refine own_F.of (fun _ => XS.iloadN S4.here S4.hx rfl (S4.dec d14_16) rfl) ?_
  refine own_F.of (fun _ => XS.iconst S4.here S4.hx rfl (S4.dec d14_17)) ?_
  show own_F p e below s Z _ _ _ _ _ (T4.setTop (mkF m 18 #[.val (.ref a1), .val (.ref e1), .val (.ref b2), .val (.int (0 : Int32))] [(.int (1 : Int32)), (.int (0 : Int32)), (.ref a1)]))
  refine own_F.of (fun _ => XS.iadd S4.here S4.hx rfl (S4.dec d14_18) rfl) ?_
  show own_F p e below s Z _ _ _ _ _ (T4.setTop (mkF m 19 #[.val (.ref a1), .val (.ref e1), .val (.ref b2), .val (.int (0 : Int32))] [(.int (1 : Int32)), (.ref a1)]))
  have fq7 := (Fs2.other W4 (Or.inl (ne_exa ((E_a1.keep K2).wr W4) V6.exa (by decide))))
  have fq8 := ((E_a1.keep K2).wr W4)
  refine own_putF S4 (host := "") (Or.inl (own_w hw 62 rfl)) Via.refl fq7 fq8 (Or.inl (own_w hw 63 rfl)) (own_w hw 8 rfl) (ty := .int) (by decide) rfl rfl d14_19 (Or.inl (List.mem_of_getElem? (i := 0) rfl)) (fun T9 h9 S9 W9 => ?_)
  have Fw9 := fq7.same W9
  show own_F p e below s Z _ _ _ _ _ (T9.setTop (mkF m 22 #[.val (.ref a1), .val (.ref e1), .val (.ref b2), .val (.int (0 : Int32))] []))
  have fq10 := (V6.other W9 (ne_exa V6.exa fq8 (by decide)))
  have fq11 := ((Fe2.other W4 (Or.inl (ne_exa fq8 V6.exa (by decide)))).other W9 (Or.inr (slot_ne (C := "java/util/ArrayList") (Or.inl (own_w hw 32 rfl)) (Or.inl (own_w hw 63 rfl)) (by decide) (t := (.array (.object "java/lang/Object"))) (t' := .int) (by decide) (by decide))))
  have fq12 := ((Fm2.other W4 (Or.inl (ne_exa fq8 V6.exa (by decide)))).other W9 (Or.inr (slot_ne (C := "java/util/ArrayList") (Or.inl (own_w hw 29 rfl)) (Or.inl (own_w hw 63 rfl)) (by decide) (t := .int) (t' := .int) (by decide) (by decide))))
  refine own_retV S9 d14_22 (by decide) (by decide) ?_
  exact ⟨rfl, _, g2, fq10, fq11, Fw9, fq12⟩
theorem d13_0 : decode jdk_38_method_25_code 0 = .ok (.aload_n 0, 1) := by decide +kernel
theorem d13_1 : decode jdk_38_method_25_code 1 = .ok (.dup, 1) := by decide +kernel
theorem d13_2 : decode jdk_38_method_25_code 2 = .ok (.getfield 63, 3) := by decide +kernel
theorem d13_5 : decode jdk_38_method_25_code 5 = .ok (.iconst 1, 1) := by decide +kernel
theorem d13_6 : decode jdk_38_method_25_code 6 = .ok (.iadd, 1) := by decide +kernel
theorem d13_7 : decode jdk_38_method_25_code 7 = .ok (.putfield 63, 3) := by decide +kernel
theorem d13_10 : decode jdk_38_method_25_code 10 = .ok (.aload_n 0, 1) := by decide +kernel
theorem d13_11 : decode jdk_38_method_25_code 11 = .ok (.aload_n 1, 1) := by decide +kernel
theorem d13_12 : decode jdk_38_method_25_code 12 = .ok (.aload_n 0, 1) := by decide +kernel
theorem d13_13 : decode jdk_38_method_25_code 13 = .ok (.getfield 9, 3) := by decide +kernel
theorem d13_16 : decode jdk_38_method_25_code 16 = .ok (.aload_n 0, 1) := by decide +kernel
theorem d13_17 : decode jdk_38_method_25_code 17 = .ok (.getfield 48, 3) := by decide +kernel
theorem d13_20 : decode jdk_38_method_25_code 20 = .ok (.invokevirtual 131, 3) := by decide +kernel
theorem d13_23 : decode jdk_38_method_25_code 23 = .ok (.iconst 1, 1) := by decide +kernel
theorem d13_24 : decode jdk_38_method_25_code 24 = .ok (.ireturn, 1) := by decide +kernel
theorem pn13 : plainFor (⟨"java/util/ArrayList", "add", "(Ljava/lang/Object;)Z"⟩ : MethodName) = true := plainFor_of_name (by first | (simp [plainName, overriddenIn]; done) | decide +kernel)
set_option maxRecDepth 65536 in
set_option maxHeartbeats 40000000 in
theorem own_add_0 (l : Launch) (Z : State) (a0 : Array Value) (hw : ∀ d ∈ tables_1, d.before a0 Z = true) (a1 : Addr) (e1 : Addr) (aD : Addr) (mc : Int32) (h0 : Heap) (hO : Ext Z.heap h0) (SD : Sta Z Z.heap "java/util/ArrayList" "DEFAULTCAPACITY_EMPTY_ELEMENTDATA" "[Ljava/lang/Object;" (.ref aD)) (AD : own_A Z Z.heap aD (.object "java/lang/Object") []) (ga : Z.heap.size ≤ a1) (E_a1 : Exa Z h0 a1 "java/util/ArrayList") (F_elementData : Fld Z h0 a1 "java/util/ArrayList" "elementData" "[Ljava/lang/Object;" (.ref aD)) (F_size : Fld Z h0 a1 "java/util/ArrayList" "size" "I" (.int 0)) (F_modCount : Fld Z h0 a1 "java/util/AbstractList" "modCount" "I" (.int mc)) (X_e1 : Exa Z h0 e1 "java/lang/Integer") :
    own_C l Z (⟨"java/util/ArrayList", "add", "(Ljava/lang/Object;)Z"⟩ : MethodName) jdk_38_method_25_code 2 (some .boolean) [] ({ frames := 4, cells := 1, slots := 10, locals := 56 } : Room) [a1] #[(.ref a1), (.ref e1)] h0 (fun v h => v = some (.int 1) ∧ ∃ b, h0.size ≤ b ∧ own_AO Z h b [(.ref e1), .null, .null, .null, .null, .null, .null, .null, .null, .null] ∧ Fld Z h a1 "java/util/ArrayList" "elementData" "[Ljava/lang/Object;" (.ref b) ∧ Fld Z h a1 "java/util/ArrayList" "size" "I" (.int 1) ∧ Fld Z h a1 "java/util/AbstractList" "modCount" "I" (.int (mc + (1 : Int32)))) := by
  refine own_C.of pn13 hO (allS ga all0) ?_
  intro p e s m below meth c T0 S0
  refine own_F.cast (by first | (simp [entryFrame, mkF, argsToLocals, Value.category]; done) | rfl : entryFrame m #[(.ref a1), (.ref e1)] 2 = mkF m 0 #[.val (.ref a1), .val (.ref e1)] []) ?_
  show own_F p e below s Z _ _ _ _ _ (T0.setTop (mkF m 0 #[.val (.ref a1), .val (.ref e1)] []))
  refine own_F.of (fun _ => XS.aloadN S0.here S0.hx rfl (S0.dec d13_0) rfl rfl) ?_
  refine own_F.of (fun _ => XS.dup S0.here S0.hx rfl (S0.dec d13_1) rfl rfl) ?_
  show own_F p e below s Z _ _ _ _ _ (T0.setTop (mkF m 2 #[.val (.ref a1), .val (.ref e1)] [(.ref a1), (.ref a1)]))
  refine own_getF S0 (host := "") (Or.inl (own_w hw 94 rfl)) (Via.of (own_w hw 95 rfl)) F_modCount d13_2 (fun T1 S1 => ?_)
  show own_F p e below s Z _ _ _ _ _ (T1.setTop (mkF m 5 #[.val (.ref a1), .val (.ref e1)] [(.int mc), (.ref a1)]))
  refine own_F.of (fun _ => XS.iconst S1.here S1.hx rfl (S1.dec d13_5)) ?_
  show own_F p e below s Z _ _ _ _ _ (T1.setTop (mkF m 6 #[.val (.ref a1), .val (.ref e1)] [(.int (1 : Int32)), (.int mc), (.ref a1)]))
  refine own_F.of (fun _ => XS.iadd S1.here S1.hx rfl (S1.dec d13_6) rfl) ?_
  show own_F p e below s Z _ _ _ _ _ (T1.setTop (mkF m 7 #[.val (.ref a1), .val (.ref e1)] [(.int (mc + (1 : Int32))), (.ref a1)]))
  refine own_putF S1 (host := "") (Or.inl (own_w hw 94 rfl)) (Via.of (own_w hw 95 rfl)) F_modCount E_a1 (Or.inl (own_w hw 29 rfl)) (own_w hw 8 rfl) (ty := .int) (by decide) rfl rfl d13_7 (Or.inl (List.mem_of_getElem? (i := 0) rfl)) (fun T2 h2 S2 W2 => ?_)
  have Fw2 := F_modCount.same W2
  show own_F p e below s Z _ _ _ _ _ (T2.setTop (mkF m 10 #[.val (.ref a1), .val (.ref e1)] []))
  refine own_F.of (fun _ => XS.aloadN S2.here S2.hx rfl (S2.dec d13_10) rfl rfl) ?_
  refine own_F.of (fun _ => XS.aloadN S2.here S2.hx rfl (S2.dec d13_11) rfl rfl) ?_
  refine own_F.of (fun _ => XS.aloadN S2.here S2.hx rfl (S2.dec d13_12) rfl rfl) ?_
  show own_F p e below s Z _ _ _ _ _ (T2.setTop (mkF m 13 #[.val (.ref a1), .val (.ref e1)] [(.ref a1), (.ref e1), (.ref a1)]))
  have fq3 := (F_elementData.other W2 (Or.inr (slot_ne (C := "java/util/ArrayList") (Or.inl (own_w hw 32 rfl)) (Or.inl (own_w hw 29 rfl)) (by decide) (t := (.array (.object "java/lang/Object"))) (t' := .int) (by decide) (by decide))))
  refine own_getF S2 (host := "") (Or.inl (own_w hw 31 rfl)) Via.refl fq3 d13_13 (fun T4 S4 => ?_)
  show own_F p e below s Z _ _ _ _ _ (T4.setTop (mkF m 16 #[.val (.ref a1), .val (.ref e1)] [(.ref aD), (.ref e1), (.ref a1)]))
  refine own_F.of (fun _ => XS.aloadN S4.here S4.hx rfl (S4.dec d13_16) rfl rfl) ?_
  show own_F p e below s Z _ _ _ _ _ (T4.setTop (mkF m 17 #[.val (.ref a1), .val (.ref e1)] [(.ref a1), (.ref aD), (.ref e1), (.ref a1)]))
  have fq5 := (F_size.other W2 (Or.inr (slot_ne (C := "java/util/ArrayList") (Or.inl (own_w hw 63 rfl)) (Or.inl (own_w hw 29 rfl)) (by decide) (t := .int) (t' := .int) (by decide) (by decide))))
  refine own_getF S4 (host := "") (Or.inl (own_w hw 62 rfl)) Via.refl fq5 d13_17 (fun T6 S6 => ?_)
  show own_F p e below s Z _ _ _ _ _ (T6.setTop (mkF m 20 #[.val (.ref a1), .val (.ref e1)] [(.int (0 : Int32)), (.ref aD), (.ref e1), (.ref a1)]))
  have fq7 := (E_a1.wr W2)
  have fq8 := (X_e1.wr W2)
  refine own_callP S6 (y := (⟨"java/util/ArrayList", "add", "(Ljava/lang/Object;[Ljava/lang/Object;I)V"⟩ : MethodName)) (own_w hw 96 rfl) (own_w hw 97 rfl) (own_w hw 8 rfl) (own_w hw 98 rfl) (own_w hw 100 rfl) (own_w hw 9 rfl) (by decide) fq7 (argsL := [(.ref e1), (.ref aD), (.int (0 : Int32))]) (rest := []) (own_add3_0 l Z a0 hw a1 e1 aD (mc + (1 : Int32)) h2 S6.old SD AD ga fq7 fq3 fq5 Fw2 fq8) (allS (Or.inl (List.mem_of_getElem? (i := 0) rfl)) all0) (by decide +kernel : parseMethodDescriptor "(Ljava/lang/Object;[Ljava/lang/Object;I)V" = some ⟨[(.object "java/lang/Object"), (.array (.object "java/lang/Object")), .int], none⟩) rfl rfl rfl d13_20 (by decide) (Nat.le_of_ble_eq_true rfl) (by decide) (by decide) (fun T9 h9 v9 S9 K9 q9 => ?_)
  obtain ⟨rfl, b9, g9, A9, Fe9, Fs9, Fm9⟩ := q9
  show own_F p e below s Z _ _ _ _ _ (T9.setTop (mkF m 23 #[.val (.ref a1), .val (.ref e1)] []))
  refine own_F.of (fun _ => XS.iconst S9.here S9.hx rfl (S9.dec d13_23)) ?_
  show own_F p e below s Z _ _ _ _ _ (T9.setTop (mkF m 24 #[.val (.ref a1), .val (.ref e1)] [(.int (1 : Int32))]))
  refine own_retZ S9 (by simp) d13_24 (by decide) (by decide) ?_
  exact ⟨rfl, ⟨b9, (Nat.le_trans (by have := W2.size; omega) g9), A9, Fe9, Fs9, Fm9⟩⟩
set_option maxRecDepth 65536 in
set_option maxHeartbeats 40000000 in
theorem own_add3_1 (l : Launch) (Z : State) (a0 : Array Value) (hw : ∀ d ∈ tables_1, d.before a0 Z = true) (a1 aE : Addr) (e1 e2 : Addr) (mc : Int32) (h0 : Heap) (hO : Ext Z.heap h0) (ga : Z.heap.size ≤ a1) (E_a1 : Exa Z h0 a1 "java/util/ArrayList") (gE : Z.heap.size ≤ aE) (AE : own_AO Z h0 aE [(.ref e1), .null, .null, .null, .null, .null, .null, .null, .null, .null]) (F_elementData : Fld Z h0 a1 "java/util/ArrayList" "elementData" "[Ljava/lang/Object;" (.ref aE)) (F_size : Fld Z h0 a1 "java/util/ArrayList" "size" "I" (.int (1 : Int32))) (F_modCount : Fld Z h0 a1 "java/util/AbstractList" "modCount" "I" (.int mc)) (X_e1 : Exa Z h0 e1 "java/lang/Integer") (X_e2 : Exa Z h0 e2 "java/lang/Integer") :
    own_C l Z (⟨"java/util/ArrayList", "add", "(Ljava/lang/Object;[Ljava/lang/Object;I)V"⟩ : MethodName) jdk_38_method_24_code 4 none [] ({ frames := 0, cells := 0, slots := 0, locals := 0 } : Room) [a1, aE] #[(.ref a1), (.ref e2), (.ref aE), (.int (1 : Int32))] h0 (fun v h => v = none ∧ own_AO Z h aE [(.ref e1), (.ref e2), .null, .null, .null, .null, .null, .null, .null, .null] ∧ Fld Z h a1 "java/util/ArrayList" "elementData" "[Ljava/lang/Object;" (.ref aE) ∧ Fld Z h a1 "java/util/ArrayList" "size" "I" (.int (2 : Int32)) ∧ Fld Z h a1 "java/util/AbstractList" "modCount" "I" (.int mc)) := by
  refine own_C.of pn14 hO (allS ga (allS gE all0)) ?_
  intro p e s m below meth c T0 S0
  refine own_F.cast (by first | (simp [entryFrame, mkF, argsToLocals, Value.category]; done) | rfl : entryFrame m #[(.ref a1), (.ref e2), (.ref aE), (.int (1 : Int32))] 4 = mkF m 0 #[.val (.ref a1), .val (.ref e2), .val (.ref aE), .val (.int (1 : Int32))] []) ?_
  show own_F p e below s Z _ _ _ _ _ (T0.setTop (mkF m 0 #[.val (.ref a1), .val (.ref e2), .val (.ref aE), .val (.int (1 : Int32))] []))
  refine own_F.of (fun _ => XS.iloadN S0.here S0.hx rfl (S0.dec d14_0) rfl) ?_
  refine own_F.of (fun _ => XS.aloadN S0.here S0.hx rfl (S0.dec d14_1) rfl rfl) ?_
  show own_F p e below s Z _ _ _ _ _ (T0.setTop (mkF m 2 #[.val (.ref a1), .val (.ref e2), .val (.ref aE), .val (.int (1 : Int32))] [(.ref aE), (.int (1 : Int32))]))
  refine own_len S0 AE.A d14_2 ?_
  show own_F p e below s Z _ _ _ _ _ (T0.setTop (mkF m 3 #[.val (.ref a1), .val (.ref e2), .val (.ref aE), .val (.int (1 : Int32))] [(.int (10 : Int32)), (.int (1 : Int32))]))
  refine own_icmp S0 11 d14_3 (by decide) (by decide) (fun (hc3_1 : ¬ ((1 : Int32) = (10 : Int32))) => ?_) (fun (hc3_1 : (1 : Int32) = (10 : Int32)) => False.elim (absurd hc3_1 (by decide)))
  show own_F p e below s Z _ _ _ _ _ (T0.setTop (mkF m 11 #[.val (.ref a1), .val (.ref e2), .val (.ref aE), .val (.int (1 : Int32))] []))
  refine own_F.of (fun _ => XS.aloadN S0.here S0.hx rfl (S0.dec d14_11) rfl rfl) ?_
  refine own_F.of (fun _ => XS.iloadN S0.here S0.hx rfl (S0.dec d14_12) rfl) ?_
  refine own_F.of (fun _ => XS.aloadN S0.here S0.hx rfl (S0.dec d14_13) rfl rfl) ?_
  show own_F p e below s Z _ _ _ _ _ (T0.setTop (mkF m 14 #[.val (.ref a1), .val (.ref e2), .val (.ref aE), .val (.int (1 : Int32))] [(.ref e2), (.int (1 : Int32)), (.ref aE)]))
  refine own_aast S0 AE (by decide) (Nat.le_of_ble_eq_true rfl) (Ins.of_exa X_e2 (own_w hw 117 rfl)) d14_14 (Or.inl (List.mem_of_getElem? (i := 1) rfl)) (fun T2 h2 S2 W2 A2 => ?_)
  have V3 : own_AO Z h2 aE [(.ref e1), (.ref e2), .null, .null, .null, .null, .null, .null, .null, .null] := A2
  show own_F p e below s Z _ _ _ _ _ (T2.setTop (mkF m 15 #[.val (.ref a1), .val (.ref e2), .val (.ref aE), .val (.int (1 : Int32))] []))
  refine own_F.of (fun _ => XS.aloadN S2.here S2.hx rfl (S2.dec d14_15) rfl rfl) ?_
  refine own_F.of (fun _ => XS.iloadN S2.here S2.hx rfl (S2.dec d14_16) rfl) ?_
  refine own_F.of (fun _ => XS.iconst S2.here S2.hx rfl (S2.dec d14_17)) ?_
  show own_F p e below s Z _ _ _ _ _ (T2.setTop (mkF m 18 #[.val (.ref a1), .val (.ref e2), .val (.ref aE), .val (.int (1 : Int32))] [(.int (1 : Int32)), (.int (1 : Int32)), (.ref a1)]))
  refine own_F.of (fun _ => XS.iadd S2.here S2.hx rfl (S2.dec d14_18) rfl) ?_
  show own_F p e below s Z _ _ _ _ _ (T2.setTop (mkF m 19 #[.val (.ref a1), .val (.ref e2), .val (.ref aE), .val (.int (1 : Int32))] [(.int (2 : Int32)), (.ref a1)]))
  have fq4 := (F_size.other W2 (Or.inl (ne_exa (E_a1.wr W2) V3.exa (by decide))))
  have fq5 := (E_a1.wr W2)
  refine own_putF S2 (host := "") (Or.inl (own_w hw 62 rfl)) Via.refl fq4 fq5 (Or.inl (own_w hw 63 rfl)) (own_w hw 8 rfl) (ty := .int) (by decide) rfl rfl d14_19 (Or.inl (List.mem_of_getElem? (i := 0) rfl)) (fun T6 h6 S6 W6 => ?_)
  have Fw6 := fq4.same W6
  show own_F p e below s Z _ _ _ _ _ (T6.setTop (mkF m 22 #[.val (.ref a1), .val (.ref e2), .val (.ref aE), .val (.int (1 : Int32))] []))
  have fq7 := (V3.other W6 (ne_exa V3.exa fq5 (by decide)))
  have fq8 := ((F_elementData.other W2 (Or.inl (ne_exa fq5 V3.exa (by decide)))).other W6 (Or.inr (slot_ne (C := "java/util/ArrayList") (Or.inl (own_w hw 32 rfl)) (Or.inl (own_w hw 63 rfl)) (by decide) (t := (.array (.object "java/lang/Object"))) (t' := .int) (by decide) (by decide))))
  have fq9 := ((F_modCount.other W2 (Or.inl (ne_exa fq5 V3.exa (by decide)))).other W6 (Or.inr (slot_ne (C := "java/util/ArrayList") (Or.inl (own_w hw 29 rfl)) (Or.inl (own_w hw 63 rfl)) (by decide) (t := .int) (t' := .int) (by decide) (by decide))))
  refine own_retV S6 d14_22 (by decide) (by decide) ?_
  exact ⟨rfl, fq7, fq8, Fw6, fq9⟩
set_option maxRecDepth 65536 in
set_option maxHeartbeats 40000000 in
theorem own_add_1 (l : Launch) (Z : State) (a0 : Array Value) (hw : ∀ d ∈ tables_1, d.before a0 Z = true) (a1 aE : Addr) (e1 e2 : Addr) (mc : Int32) (h0 : Heap) (hO : Ext Z.heap h0) (ga : Z.heap.size ≤ a1) (E_a1 : Exa Z h0 a1 "java/util/ArrayList") (gE : Z.heap.size ≤ aE) (AE : own_AO Z h0 aE [(.ref e1), .null, .null, .null, .null, .null, .null, .null, .null, .null]) (F_elementData : Fld Z h0 a1 "java/util/ArrayList" "elementData" "[Ljava/lang/Object;" (.ref aE)) (F_size : Fld Z h0 a1 "java/util/ArrayList" "size" "I" (.int (1 : Int32))) (F_modCount : Fld Z h0 a1 "java/util/AbstractList" "modCount" "I" (.int mc)) (X_e1 : Exa Z h0 e1 "java/lang/Integer") (X_e2 : Exa Z h0 e2 "java/lang/Integer") :
    own_C l Z (⟨"java/util/ArrayList", "add", "(Ljava/lang/Object;)Z"⟩ : MethodName) jdk_38_method_25_code 2 (some .boolean) [] ({ frames := 1, cells := 0, slots := 0, locals := 15 } : Room) [a1, aE] #[(.ref a1), (.ref e2)] h0 (fun v h => v = some (.int 1) ∧ own_AO Z h aE [(.ref e1), (.ref e2), .null, .null, .null, .null, .null, .null, .null, .null] ∧ Fld Z h a1 "java/util/ArrayList" "elementData" "[Ljava/lang/Object;" (.ref aE) ∧ Fld Z h a1 "java/util/ArrayList" "size" "I" (.int (2 : Int32)) ∧ Fld Z h a1 "java/util/AbstractList" "modCount" "I" (.int (mc + (1 : Int32)))) := by
  refine own_C.of pn13 hO (allS ga (allS gE all0)) ?_
  intro p e s m below meth c T0 S0
  refine own_F.cast (by first | (simp [entryFrame, mkF, argsToLocals, Value.category]; done) | rfl : entryFrame m #[(.ref a1), (.ref e2)] 2 = mkF m 0 #[.val (.ref a1), .val (.ref e2)] []) ?_
  show own_F p e below s Z _ _ _ _ _ (T0.setTop (mkF m 0 #[.val (.ref a1), .val (.ref e2)] []))
  refine own_F.of (fun _ => XS.aloadN S0.here S0.hx rfl (S0.dec d13_0) rfl rfl) ?_
  refine own_F.of (fun _ => XS.dup S0.here S0.hx rfl (S0.dec d13_1) rfl rfl) ?_
  show own_F p e below s Z _ _ _ _ _ (T0.setTop (mkF m 2 #[.val (.ref a1), .val (.ref e2)] [(.ref a1), (.ref a1)]))
  refine own_getF S0 (host := "") (Or.inl (own_w hw 94 rfl)) (Via.of (own_w hw 95 rfl)) F_modCount d13_2 (fun T1 S1 => ?_)
  show own_F p e below s Z _ _ _ _ _ (T1.setTop (mkF m 5 #[.val (.ref a1), .val (.ref e2)] [(.int mc), (.ref a1)]))
  refine own_F.of (fun _ => XS.iconst S1.here S1.hx rfl (S1.dec d13_5)) ?_
  show own_F p e below s Z _ _ _ _ _ (T1.setTop (mkF m 6 #[.val (.ref a1), .val (.ref e2)] [(.int (1 : Int32)), (.int mc), (.ref a1)]))
  refine own_F.of (fun _ => XS.iadd S1.here S1.hx rfl (S1.dec d13_6) rfl) ?_
  show own_F p e below s Z _ _ _ _ _ (T1.setTop (mkF m 7 #[.val (.ref a1), .val (.ref e2)] [(.int (mc + (1 : Int32))), (.ref a1)]))
  refine own_putF S1 (host := "") (Or.inl (own_w hw 94 rfl)) (Via.of (own_w hw 95 rfl)) F_modCount E_a1 (Or.inl (own_w hw 29 rfl)) (own_w hw 8 rfl) (ty := .int) (by decide) rfl rfl d13_7 (Or.inl (List.mem_of_getElem? (i := 0) rfl)) (fun T2 h2 S2 W2 => ?_)
  have Fw2 := F_modCount.same W2
  show own_F p e below s Z _ _ _ _ _ (T2.setTop (mkF m 10 #[.val (.ref a1), .val (.ref e2)] []))
  refine own_F.of (fun _ => XS.aloadN S2.here S2.hx rfl (S2.dec d13_10) rfl rfl) ?_
  refine own_F.of (fun _ => XS.aloadN S2.here S2.hx rfl (S2.dec d13_11) rfl rfl) ?_
  refine own_F.of (fun _ => XS.aloadN S2.here S2.hx rfl (S2.dec d13_12) rfl rfl) ?_
  show own_F p e below s Z _ _ _ _ _ (T2.setTop (mkF m 13 #[.val (.ref a1), .val (.ref e2)] [(.ref a1), (.ref e2), (.ref a1)]))
  have fq3 := (F_elementData.other W2 (Or.inr (slot_ne (C := "java/util/ArrayList") (Or.inl (own_w hw 32 rfl)) (Or.inl (own_w hw 29 rfl)) (by decide) (t := (.array (.object "java/lang/Object"))) (t' := .int) (by decide) (by decide))))
  refine own_getF S2 (host := "") (Or.inl (own_w hw 31 rfl)) Via.refl fq3 d13_13 (fun T4 S4 => ?_)
  show own_F p e below s Z _ _ _ _ _ (T4.setTop (mkF m 16 #[.val (.ref a1), .val (.ref e2)] [(.ref aE), (.ref e2), (.ref a1)]))
  refine own_F.of (fun _ => XS.aloadN S4.here S4.hx rfl (S4.dec d13_16) rfl rfl) ?_
  show own_F p e below s Z _ _ _ _ _ (T4.setTop (mkF m 17 #[.val (.ref a1), .val (.ref e2)] [(.ref a1), (.ref aE), (.ref e2), (.ref a1)]))
  have fq5 := (F_size.other W2 (Or.inr (slot_ne (C := "java/util/ArrayList") (Or.inl (own_w hw 63 rfl)) (Or.inl (own_w hw 29 rfl)) (by decide) (t := .int) (t' := .int) (by decide) (by decide))))
  refine own_getF S4 (host := "") (Or.inl (own_w hw 62 rfl)) Via.refl fq5 d13_17 (fun T6 S6 => ?_)
  show own_F p e below s Z _ _ _ _ _ (T6.setTop (mkF m 20 #[.val (.ref a1), .val (.ref e2)] [(.int (1 : Int32)), (.ref aE), (.ref e2), (.ref a1)]))
  have fq7 := (E_a1.wr W2)
  have fq8 := (AE.other W2 (ne_exa (AE.exa.wr W2) fq7 (by decide)))
  have fq9 := (X_e1.wr W2)
  have fq10 := (X_e2.wr W2)
  refine own_callP S6 (y := (⟨"java/util/ArrayList", "add", "(Ljava/lang/Object;[Ljava/lang/Object;I)V"⟩ : MethodName)) (own_w hw 96 rfl) (own_w hw 97 rfl) (own_w hw 8 rfl) (own_w hw 98 rfl) (own_w hw 100 rfl) (own_w hw 9 rfl) (by decide) fq7 (argsL := [(.ref e2), (.ref aE), (.int (1 : Int32))]) (rest := []) (own_add3_1 l Z a0 hw a1 aE e1 e2 (mc + (1 : Int32)) h2 S6.old ga fq7 gE fq8 fq3 fq5 Fw2 fq9 fq10) (allS (Or.inl (List.mem_of_getElem? (i := 0) rfl)) (allS (Or.inl (List.mem_of_getElem? (i := 1) rfl)) all0)) (by decide +kernel : parseMethodDescriptor "(Ljava/lang/Object;[Ljava/lang/Object;I)V" = some ⟨[(.object "java/lang/Object"), (.array (.object "java/lang/Object")), .int], none⟩) rfl rfl rfl d13_20 (by decide) (Nat.le_of_ble_eq_true rfl) (by decide) (by decide) (fun T11 h11 v11 S11 K11 q11 => ?_)
  obtain ⟨rfl, A11, Fe11, Fs11, Fm11⟩ := q11
  show own_F p e below s Z _ _ _ _ _ (T11.setTop (mkF m 23 #[.val (.ref a1), .val (.ref e2)] []))
  refine own_F.of (fun _ => XS.iconst S11.here S11.hx rfl (S11.dec d13_23)) ?_
  show own_F p e below s Z _ _ _ _ _ (T11.setTop (mkF m 24 #[.val (.ref a1), .val (.ref e2)] [(.int (1 : Int32))]))
  refine own_retZ S11 (by simp) d13_24 (by decide) (by decide) ?_
  exact ⟨rfl, A11, Fe11, Fs11, Fm11⟩
set_option maxRecDepth 65536 in
set_option maxHeartbeats 40000000 in
theorem own_add3_2 (l : Launch) (Z : State) (a0 : Array Value) (hw : ∀ d ∈ tables_1, d.before a0 Z = true) (a1 aE : Addr) (e1 e2 e3 : Addr) (mc : Int32) (h0 : Heap) (hO : Ext Z.heap h0) (ga : Z.heap.size ≤ a1) (E_a1 : Exa Z h0 a1 "java/util/ArrayList") (gE : Z.heap.size ≤ aE) (AE : own_AO Z h0 aE [(.ref e1), (.ref e2), .null, .null, .null, .null, .null, .null, .null, .null]) (F_elementData : Fld Z h0 a1 "java/util/ArrayList" "elementData" "[Ljava/lang/Object;" (.ref aE)) (F_size : Fld Z h0 a1 "java/util/ArrayList" "size" "I" (.int (2 : Int32))) (F_modCount : Fld Z h0 a1 "java/util/AbstractList" "modCount" "I" (.int mc)) (X_e1 : Exa Z h0 e1 "java/lang/Integer") (X_e2 : Exa Z h0 e2 "java/lang/Integer") (X_e3 : Exa Z h0 e3 "java/lang/Integer") :
    own_C l Z (⟨"java/util/ArrayList", "add", "(Ljava/lang/Object;[Ljava/lang/Object;I)V"⟩ : MethodName) jdk_38_method_24_code 4 none [] ({ frames := 0, cells := 0, slots := 0, locals := 0 } : Room) [a1, aE] #[(.ref a1), (.ref e3), (.ref aE), (.int (2 : Int32))] h0 (fun v h => v = none ∧ own_AO Z h aE [(.ref e1), (.ref e2), (.ref e3), .null, .null, .null, .null, .null, .null, .null] ∧ Fld Z h a1 "java/util/ArrayList" "elementData" "[Ljava/lang/Object;" (.ref aE) ∧ Fld Z h a1 "java/util/ArrayList" "size" "I" (.int (3 : Int32)) ∧ Fld Z h a1 "java/util/AbstractList" "modCount" "I" (.int mc)) := by
  refine own_C.of pn14 hO (allS ga (allS gE all0)) ?_
  intro p e s m below meth c T0 S0
  refine own_F.cast (by first | (simp [entryFrame, mkF, argsToLocals, Value.category]; done) | rfl : entryFrame m #[(.ref a1), (.ref e3), (.ref aE), (.int (2 : Int32))] 4 = mkF m 0 #[.val (.ref a1), .val (.ref e3), .val (.ref aE), .val (.int (2 : Int32))] []) ?_
  show own_F p e below s Z _ _ _ _ _ (T0.setTop (mkF m 0 #[.val (.ref a1), .val (.ref e3), .val (.ref aE), .val (.int (2 : Int32))] []))
  refine own_F.of (fun _ => XS.iloadN S0.here S0.hx rfl (S0.dec d14_0) rfl) ?_
  refine own_F.of (fun _ => XS.aloadN S0.here S0.hx rfl (S0.dec d14_1) rfl rfl) ?_
  show own_F p e below s Z _ _ _ _ _ (T0.setTop (mkF m 2 #[.val (.ref a1), .val (.ref e3), .val (.ref aE), .val (.int (2 : Int32))] [(.ref aE), (.int (2 : Int32))]))
  refine own_len S0 AE.A d14_2 ?_
  show own_F p e below s Z _ _ _ _ _ (T0.setTop (mkF m 3 #[.val (.ref a1), .val (.ref e3), .val (.ref aE), .val (.int (2 : Int32))] [(.int (10 : Int32)), (.int (2 : Int32))]))
  refine own_icmp S0 11 d14_3 (by decide) (by decide) (fun (hc3_1 : ¬ ((2 : Int32) = (10 : Int32))) => ?_) (fun (hc3_1 : (2 : Int32) = (10 : Int32)) => False.elim (absurd hc3_1 (by decide)))
  show own_F p e below s Z _ _ _ _ _ (T0.setTop (mkF m 11 #[.val (.ref a1), .val (.ref e3), .val (.ref aE), .val (.int (2 : Int32))] []))
  refine own_F.of (fun _ => XS.aloadN S0.here S0.hx rfl (S0.dec d14_11) rfl rfl) ?_
  refine own_F.of (fun _ => XS.iloadN S0.here S0.hx rfl (S0.dec d14_12) rfl) ?_
  refine own_F.of (fun _ => XS.aloadN S0.here S0.hx rfl (S0.dec d14_13) rfl rfl) ?_
  show own_F p e below s Z _ _ _ _ _ (T0.setTop (mkF m 14 #[.val (.ref a1), .val (.ref e3), .val (.ref aE), .val (.int (2 : Int32))] [(.ref e3), (.int (2 : Int32)), (.ref aE)]))
  refine own_aast S0 AE (by decide) (Nat.le_of_ble_eq_true rfl) (Ins.of_exa X_e3 (own_w hw 117 rfl)) d14_14 (Or.inl (List.mem_of_getElem? (i := 1) rfl)) (fun T2 h2 S2 W2 A2 => ?_)
  have V3 : own_AO Z h2 aE [(.ref e1), (.ref e2), (.ref e3), .null, .null, .null, .null, .null, .null, .null] := A2
  show own_F p e below s Z _ _ _ _ _ (T2.setTop (mkF m 15 #[.val (.ref a1), .val (.ref e3), .val (.ref aE), .val (.int (2 : Int32))] []))
  refine own_F.of (fun _ => XS.aloadN S2.here S2.hx rfl (S2.dec d14_15) rfl rfl) ?_
  refine own_F.of (fun _ => XS.iloadN S2.here S2.hx rfl (S2.dec d14_16) rfl) ?_
  refine own_F.of (fun _ => XS.iconst S2.here S2.hx rfl (S2.dec d14_17)) ?_
  show own_F p e below s Z _ _ _ _ _ (T2.setTop (mkF m 18 #[.val (.ref a1), .val (.ref e3), .val (.ref aE), .val (.int (2 : Int32))] [(.int (1 : Int32)), (.int (2 : Int32)), (.ref a1)]))
  refine own_F.of (fun _ => XS.iadd S2.here S2.hx rfl (S2.dec d14_18) rfl) ?_
  show own_F p e below s Z _ _ _ _ _ (T2.setTop (mkF m 19 #[.val (.ref a1), .val (.ref e3), .val (.ref aE), .val (.int (2 : Int32))] [(.int (3 : Int32)), (.ref a1)]))
  have fq4 := (F_size.other W2 (Or.inl (ne_exa (E_a1.wr W2) V3.exa (by decide))))
  have fq5 := (E_a1.wr W2)
  refine own_putF S2 (host := "") (Or.inl (own_w hw 62 rfl)) Via.refl fq4 fq5 (Or.inl (own_w hw 63 rfl)) (own_w hw 8 rfl) (ty := .int) (by decide) rfl rfl d14_19 (Or.inl (List.mem_of_getElem? (i := 0) rfl)) (fun T6 h6 S6 W6 => ?_)
  have Fw6 := fq4.same W6
  show own_F p e below s Z _ _ _ _ _ (T6.setTop (mkF m 22 #[.val (.ref a1), .val (.ref e3), .val (.ref aE), .val (.int (2 : Int32))] []))
  have fq7 := (V3.other W6 (ne_exa V3.exa fq5 (by decide)))
  have fq8 := ((F_elementData.other W2 (Or.inl (ne_exa fq5 V3.exa (by decide)))).other W6 (Or.inr (slot_ne (C := "java/util/ArrayList") (Or.inl (own_w hw 32 rfl)) (Or.inl (own_w hw 63 rfl)) (by decide) (t := (.array (.object "java/lang/Object"))) (t' := .int) (by decide) (by decide))))
  have fq9 := ((F_modCount.other W2 (Or.inl (ne_exa fq5 V3.exa (by decide)))).other W6 (Or.inr (slot_ne (C := "java/util/ArrayList") (Or.inl (own_w hw 29 rfl)) (Or.inl (own_w hw 63 rfl)) (by decide) (t := .int) (t' := .int) (by decide) (by decide))))
  refine own_retV S6 d14_22 (by decide) (by decide) ?_
  exact ⟨rfl, fq7, fq8, Fw6, fq9⟩
set_option maxRecDepth 65536 in
set_option maxHeartbeats 40000000 in
theorem own_add_2 (l : Launch) (Z : State) (a0 : Array Value) (hw : ∀ d ∈ tables_1, d.before a0 Z = true) (a1 aE : Addr) (e1 e2 e3 : Addr) (mc : Int32) (h0 : Heap) (hO : Ext Z.heap h0) (ga : Z.heap.size ≤ a1) (E_a1 : Exa Z h0 a1 "java/util/ArrayList") (gE : Z.heap.size ≤ aE) (AE : own_AO Z h0 aE [(.ref e1), (.ref e2), .null, .null, .null, .null, .null, .null, .null, .null]) (F_elementData : Fld Z h0 a1 "java/util/ArrayList" "elementData" "[Ljava/lang/Object;" (.ref aE)) (F_size : Fld Z h0 a1 "java/util/ArrayList" "size" "I" (.int (2 : Int32))) (F_modCount : Fld Z h0 a1 "java/util/AbstractList" "modCount" "I" (.int mc)) (X_e1 : Exa Z h0 e1 "java/lang/Integer") (X_e2 : Exa Z h0 e2 "java/lang/Integer") (X_e3 : Exa Z h0 e3 "java/lang/Integer") :
    own_C l Z (⟨"java/util/ArrayList", "add", "(Ljava/lang/Object;)Z"⟩ : MethodName) jdk_38_method_25_code 2 (some .boolean) [] ({ frames := 1, cells := 0, slots := 0, locals := 15 } : Room) [a1, aE] #[(.ref a1), (.ref e3)] h0 (fun v h => v = some (.int 1) ∧ own_AO Z h aE [(.ref e1), (.ref e2), (.ref e3), .null, .null, .null, .null, .null, .null, .null] ∧ Fld Z h a1 "java/util/ArrayList" "elementData" "[Ljava/lang/Object;" (.ref aE) ∧ Fld Z h a1 "java/util/ArrayList" "size" "I" (.int (3 : Int32)) ∧ Fld Z h a1 "java/util/AbstractList" "modCount" "I" (.int (mc + (1 : Int32)))) := by
  refine own_C.of pn13 hO (allS ga (allS gE all0)) ?_
  intro p e s m below meth c T0 S0
  refine own_F.cast (by first | (simp [entryFrame, mkF, argsToLocals, Value.category]; done) | rfl : entryFrame m #[(.ref a1), (.ref e3)] 2 = mkF m 0 #[.val (.ref a1), .val (.ref e3)] []) ?_
  show own_F p e below s Z _ _ _ _ _ (T0.setTop (mkF m 0 #[.val (.ref a1), .val (.ref e3)] []))
  refine own_F.of (fun _ => XS.aloadN S0.here S0.hx rfl (S0.dec d13_0) rfl rfl) ?_
  refine own_F.of (fun _ => XS.dup S0.here S0.hx rfl (S0.dec d13_1) rfl rfl) ?_
  show own_F p e below s Z _ _ _ _ _ (T0.setTop (mkF m 2 #[.val (.ref a1), .val (.ref e3)] [(.ref a1), (.ref a1)]))
  refine own_getF S0 (host := "") (Or.inl (own_w hw 94 rfl)) (Via.of (own_w hw 95 rfl)) F_modCount d13_2 (fun T1 S1 => ?_)
  show own_F p e below s Z _ _ _ _ _ (T1.setTop (mkF m 5 #[.val (.ref a1), .val (.ref e3)] [(.int mc), (.ref a1)]))
  refine own_F.of (fun _ => XS.iconst S1.here S1.hx rfl (S1.dec d13_5)) ?_
  show own_F p e below s Z _ _ _ _ _ (T1.setTop (mkF m 6 #[.val (.ref a1), .val (.ref e3)] [(.int (1 : Int32)), (.int mc), (.ref a1)]))
  refine own_F.of (fun _ => XS.iadd S1.here S1.hx rfl (S1.dec d13_6) rfl) ?_
  show own_F p e below s Z _ _ _ _ _ (T1.setTop (mkF m 7 #[.val (.ref a1), .val (.ref e3)] [(.int (mc + (1 : Int32))), (.ref a1)]))
  refine own_putF S1 (host := "") (Or.inl (own_w hw 94 rfl)) (Via.of (own_w hw 95 rfl)) F_modCount E_a1 (Or.inl (own_w hw 29 rfl)) (own_w hw 8 rfl) (ty := .int) (by decide) rfl rfl d13_7 (Or.inl (List.mem_of_getElem? (i := 0) rfl)) (fun T2 h2 S2 W2 => ?_)
  have Fw2 := F_modCount.same W2
  show own_F p e below s Z _ _ _ _ _ (T2.setTop (mkF m 10 #[.val (.ref a1), .val (.ref e3)] []))
  refine own_F.of (fun _ => XS.aloadN S2.here S2.hx rfl (S2.dec d13_10) rfl rfl) ?_
  refine own_F.of (fun _ => XS.aloadN S2.here S2.hx rfl (S2.dec d13_11) rfl rfl) ?_
  refine own_F.of (fun _ => XS.aloadN S2.here S2.hx rfl (S2.dec d13_12) rfl rfl) ?_
  show own_F p e below s Z _ _ _ _ _ (T2.setTop (mkF m 13 #[.val (.ref a1), .val (.ref e3)] [(.ref a1), (.ref e3), (.ref a1)]))
  have fq3 := (F_elementData.other W2 (Or.inr (slot_ne (C := "java/util/ArrayList") (Or.inl (own_w hw 32 rfl)) (Or.inl (own_w hw 29 rfl)) (by decide) (t := (.array (.object "java/lang/Object"))) (t' := .int) (by decide) (by decide))))
  refine own_getF S2 (host := "") (Or.inl (own_w hw 31 rfl)) Via.refl fq3 d13_13 (fun T4 S4 => ?_)
  show own_F p e below s Z _ _ _ _ _ (T4.setTop (mkF m 16 #[.val (.ref a1), .val (.ref e3)] [(.ref aE), (.ref e3), (.ref a1)]))
  refine own_F.of (fun _ => XS.aloadN S4.here S4.hx rfl (S4.dec d13_16) rfl rfl) ?_
  show own_F p e below s Z _ _ _ _ _ (T4.setTop (mkF m 17 #[.val (.ref a1), .val (.ref e3)] [(.ref a1), (.ref aE), (.ref e3), (.ref a1)]))
  have fq5 := (F_size.other W2 (Or.inr (slot_ne (C := "java/util/ArrayList") (Or.inl (own_w hw 63 rfl)) (Or.inl (own_w hw 29 rfl)) (by decide) (t := .int) (t' := .int) (by decide) (by decide))))
  refine own_getF S4 (host := "") (Or.inl (own_w hw 62 rfl)) Via.refl fq5 d13_17 (fun T6 S6 => ?_)
  show own_F p e below s Z _ _ _ _ _ (T6.setTop (mkF m 20 #[.val (.ref a1), .val (.ref e3)] [(.int (2 : Int32)), (.ref aE), (.ref e3), (.ref a1)]))
  have fq7 := (E_a1.wr W2)
  have fq8 := (AE.other W2 (ne_exa (AE.exa.wr W2) fq7 (by decide)))
  have fq9 := (X_e1.wr W2)
  have fq10 := (X_e2.wr W2)
  have fq11 := (X_e3.wr W2)
  refine own_callP S6 (y := (⟨"java/util/ArrayList", "add", "(Ljava/lang/Object;[Ljava/lang/Object;I)V"⟩ : MethodName)) (own_w hw 96 rfl) (own_w hw 97 rfl) (own_w hw 8 rfl) (own_w hw 98 rfl) (own_w hw 100 rfl) (own_w hw 9 rfl) (by decide) fq7 (argsL := [(.ref e3), (.ref aE), (.int (2 : Int32))]) (rest := []) (own_add3_2 l Z a0 hw a1 aE e1 e2 e3 (mc + (1 : Int32)) h2 S6.old ga fq7 gE fq8 fq3 fq5 Fw2 fq9 fq10 fq11) (allS (Or.inl (List.mem_of_getElem? (i := 0) rfl)) (allS (Or.inl (List.mem_of_getElem? (i := 1) rfl)) all0)) (by decide +kernel : parseMethodDescriptor "(Ljava/lang/Object;[Ljava/lang/Object;I)V" = some ⟨[(.object "java/lang/Object"), (.array (.object "java/lang/Object")), .int], none⟩) rfl rfl rfl d13_20 (by decide) (Nat.le_of_ble_eq_true rfl) (by decide) (by decide) (fun T12 h12 v12 S12 K12 q12 => ?_)
  obtain ⟨rfl, A12, Fe12, Fs12, Fm12⟩ := q12
  show own_F p e below s Z _ _ _ _ _ (T12.setTop (mkF m 23 #[.val (.ref a1), .val (.ref e3)] []))
  refine own_F.of (fun _ => XS.iconst S12.here S12.hx rfl (S12.dec d13_23)) ?_
  show own_F p e below s Z _ _ _ _ _ (T12.setTop (mkF m 24 #[.val (.ref a1), .val (.ref e3)] [(.int (1 : Int32))]))
  refine own_retZ S12 (by simp) d13_24 (by decide) (by decide) ?_
  exact ⟨rfl, A12, Fe12, Fs12, Fm12⟩
set_option maxRecDepth 65536 in
set_option maxHeartbeats 40000000 in
theorem own_add3_3 (l : Launch) (Z : State) (a0 : Array Value) (hw : ∀ d ∈ tables_1, d.before a0 Z = true) (a1 aE : Addr) (e1 e2 e3 e4 : Addr) (mc : Int32) (h0 : Heap) (hO : Ext Z.heap h0) (ga : Z.heap.size ≤ a1) (E_a1 : Exa Z h0 a1 "java/util/ArrayList") (gE : Z.heap.size ≤ aE) (AE : own_AO Z h0 aE [(.ref e1), (.ref e2), (.ref e3), .null, .null, .null, .null, .null, .null, .null]) (F_elementData : Fld Z h0 a1 "java/util/ArrayList" "elementData" "[Ljava/lang/Object;" (.ref aE)) (F_size : Fld Z h0 a1 "java/util/ArrayList" "size" "I" (.int (3 : Int32))) (F_modCount : Fld Z h0 a1 "java/util/AbstractList" "modCount" "I" (.int mc)) (X_e1 : Exa Z h0 e1 "java/lang/Integer") (X_e2 : Exa Z h0 e2 "java/lang/Integer") (X_e3 : Exa Z h0 e3 "java/lang/Integer") (X_e4 : Exa Z h0 e4 "java/lang/Integer") :
    own_C l Z (⟨"java/util/ArrayList", "add", "(Ljava/lang/Object;[Ljava/lang/Object;I)V"⟩ : MethodName) jdk_38_method_24_code 4 none [] ({ frames := 0, cells := 0, slots := 0, locals := 0 } : Room) [a1, aE] #[(.ref a1), (.ref e4), (.ref aE), (.int (3 : Int32))] h0 (fun v h => v = none ∧ own_AO Z h aE [(.ref e1), (.ref e2), (.ref e3), (.ref e4), .null, .null, .null, .null, .null, .null] ∧ Fld Z h a1 "java/util/ArrayList" "elementData" "[Ljava/lang/Object;" (.ref aE) ∧ Fld Z h a1 "java/util/ArrayList" "size" "I" (.int (4 : Int32)) ∧ Fld Z h a1 "java/util/AbstractList" "modCount" "I" (.int mc)) := by
  refine own_C.of pn14 hO (allS ga (allS gE all0)) ?_
  intro p e s m below meth c T0 S0
  refine own_F.cast (by first | (simp [entryFrame, mkF, argsToLocals, Value.category]; done) | rfl : entryFrame m #[(.ref a1), (.ref e4), (.ref aE), (.int (3 : Int32))] 4 = mkF m 0 #[.val (.ref a1), .val (.ref e4), .val (.ref aE), .val (.int (3 : Int32))] []) ?_
  show own_F p e below s Z _ _ _ _ _ (T0.setTop (mkF m 0 #[.val (.ref a1), .val (.ref e4), .val (.ref aE), .val (.int (3 : Int32))] []))
  refine own_F.of (fun _ => XS.iloadN S0.here S0.hx rfl (S0.dec d14_0) rfl) ?_
  refine own_F.of (fun _ => XS.aloadN S0.here S0.hx rfl (S0.dec d14_1) rfl rfl) ?_
  show own_F p e below s Z _ _ _ _ _ (T0.setTop (mkF m 2 #[.val (.ref a1), .val (.ref e4), .val (.ref aE), .val (.int (3 : Int32))] [(.ref aE), (.int (3 : Int32))]))
  refine own_len S0 AE.A d14_2 ?_
  show own_F p e below s Z _ _ _ _ _ (T0.setTop (mkF m 3 #[.val (.ref a1), .val (.ref e4), .val (.ref aE), .val (.int (3 : Int32))] [(.int (10 : Int32)), (.int (3 : Int32))]))
  refine own_icmp S0 11 d14_3 (by decide) (by decide) (fun (hc3_1 : ¬ ((3 : Int32) = (10 : Int32))) => ?_) (fun (hc3_1 : (3 : Int32) = (10 : Int32)) => False.elim (absurd hc3_1 (by decide)))
  show own_F p e below s Z _ _ _ _ _ (T0.setTop (mkF m 11 #[.val (.ref a1), .val (.ref e4), .val (.ref aE), .val (.int (3 : Int32))] []))
  refine own_F.of (fun _ => XS.aloadN S0.here S0.hx rfl (S0.dec d14_11) rfl rfl) ?_
  refine own_F.of (fun _ => XS.iloadN S0.here S0.hx rfl (S0.dec d14_12) rfl) ?_
  refine own_F.of (fun _ => XS.aloadN S0.here S0.hx rfl (S0.dec d14_13) rfl rfl) ?_
  show own_F p e below s Z _ _ _ _ _ (T0.setTop (mkF m 14 #[.val (.ref a1), .val (.ref e4), .val (.ref aE), .val (.int (3 : Int32))] [(.ref e4), (.int (3 : Int32)), (.ref aE)]))
  refine own_aast S0 AE (by decide) (Nat.le_of_ble_eq_true rfl) (Ins.of_exa X_e4 (own_w hw 117 rfl)) d14_14 (Or.inl (List.mem_of_getElem? (i := 1) rfl)) (fun T2 h2 S2 W2 A2 => ?_)
  have V3 : own_AO Z h2 aE [(.ref e1), (.ref e2), (.ref e3), (.ref e4), .null, .null, .null, .null, .null, .null] := A2
  show own_F p e below s Z _ _ _ _ _ (T2.setTop (mkF m 15 #[.val (.ref a1), .val (.ref e4), .val (.ref aE), .val (.int (3 : Int32))] []))
  refine own_F.of (fun _ => XS.aloadN S2.here S2.hx rfl (S2.dec d14_15) rfl rfl) ?_
  refine own_F.of (fun _ => XS.iloadN S2.here S2.hx rfl (S2.dec d14_16) rfl) ?_
  refine own_F.of (fun _ => XS.iconst S2.here S2.hx rfl (S2.dec d14_17)) ?_
  show own_F p e below s Z _ _ _ _ _ (T2.setTop (mkF m 18 #[.val (.ref a1), .val (.ref e4), .val (.ref aE), .val (.int (3 : Int32))] [(.int (1 : Int32)), (.int (3 : Int32)), (.ref a1)]))
  refine own_F.of (fun _ => XS.iadd S2.here S2.hx rfl (S2.dec d14_18) rfl) ?_
  show own_F p e below s Z _ _ _ _ _ (T2.setTop (mkF m 19 #[.val (.ref a1), .val (.ref e4), .val (.ref aE), .val (.int (3 : Int32))] [(.int (4 : Int32)), (.ref a1)]))
  have fq4 := (F_size.other W2 (Or.inl (ne_exa (E_a1.wr W2) V3.exa (by decide))))
  have fq5 := (E_a1.wr W2)
  refine own_putF S2 (host := "") (Or.inl (own_w hw 62 rfl)) Via.refl fq4 fq5 (Or.inl (own_w hw 63 rfl)) (own_w hw 8 rfl) (ty := .int) (by decide) rfl rfl d14_19 (Or.inl (List.mem_of_getElem? (i := 0) rfl)) (fun T6 h6 S6 W6 => ?_)
  have Fw6 := fq4.same W6
  show own_F p e below s Z _ _ _ _ _ (T6.setTop (mkF m 22 #[.val (.ref a1), .val (.ref e4), .val (.ref aE), .val (.int (3 : Int32))] []))
  have fq7 := (V3.other W6 (ne_exa V3.exa fq5 (by decide)))
  have fq8 := ((F_elementData.other W2 (Or.inl (ne_exa fq5 V3.exa (by decide)))).other W6 (Or.inr (slot_ne (C := "java/util/ArrayList") (Or.inl (own_w hw 32 rfl)) (Or.inl (own_w hw 63 rfl)) (by decide) (t := (.array (.object "java/lang/Object"))) (t' := .int) (by decide) (by decide))))
  have fq9 := ((F_modCount.other W2 (Or.inl (ne_exa fq5 V3.exa (by decide)))).other W6 (Or.inr (slot_ne (C := "java/util/ArrayList") (Or.inl (own_w hw 29 rfl)) (Or.inl (own_w hw 63 rfl)) (by decide) (t := .int) (t' := .int) (by decide) (by decide))))
  refine own_retV S6 d14_22 (by decide) (by decide) ?_
  exact ⟨rfl, fq7, fq8, Fw6, fq9⟩
set_option maxRecDepth 65536 in
set_option maxHeartbeats 40000000 in
theorem own_add_3 (l : Launch) (Z : State) (a0 : Array Value) (hw : ∀ d ∈ tables_1, d.before a0 Z = true) (a1 aE : Addr) (e1 e2 e3 e4 : Addr) (mc : Int32) (h0 : Heap) (hO : Ext Z.heap h0) (ga : Z.heap.size ≤ a1) (E_a1 : Exa Z h0 a1 "java/util/ArrayList") (gE : Z.heap.size ≤ aE) (AE : own_AO Z h0 aE [(.ref e1), (.ref e2), (.ref e3), .null, .null, .null, .null, .null, .null, .null]) (F_elementData : Fld Z h0 a1 "java/util/ArrayList" "elementData" "[Ljava/lang/Object;" (.ref aE)) (F_size : Fld Z h0 a1 "java/util/ArrayList" "size" "I" (.int (3 : Int32))) (F_modCount : Fld Z h0 a1 "java/util/AbstractList" "modCount" "I" (.int mc)) (X_e1 : Exa Z h0 e1 "java/lang/Integer") (X_e2 : Exa Z h0 e2 "java/lang/Integer") (X_e3 : Exa Z h0 e3 "java/lang/Integer") (X_e4 : Exa Z h0 e4 "java/lang/Integer") :
    own_C l Z (⟨"java/util/ArrayList", "add", "(Ljava/lang/Object;)Z"⟩ : MethodName) jdk_38_method_25_code 2 (some .boolean) [] ({ frames := 1, cells := 0, slots := 0, locals := 15 } : Room) [a1, aE] #[(.ref a1), (.ref e4)] h0 (fun v h => v = some (.int 1) ∧ own_AO Z h aE [(.ref e1), (.ref e2), (.ref e3), (.ref e4), .null, .null, .null, .null, .null, .null] ∧ Fld Z h a1 "java/util/ArrayList" "elementData" "[Ljava/lang/Object;" (.ref aE) ∧ Fld Z h a1 "java/util/ArrayList" "size" "I" (.int (4 : Int32)) ∧ Fld Z h a1 "java/util/AbstractList" "modCount" "I" (.int (mc + (1 : Int32)))) := by
  refine own_C.of pn13 hO (allS ga (allS gE all0)) ?_
  intro p e s m below meth c T0 S0
  refine own_F.cast (by first | (simp [entryFrame, mkF, argsToLocals, Value.category]; done) | rfl : entryFrame m #[(.ref a1), (.ref e4)] 2 = mkF m 0 #[.val (.ref a1), .val (.ref e4)] []) ?_
  show own_F p e below s Z _ _ _ _ _ (T0.setTop (mkF m 0 #[.val (.ref a1), .val (.ref e4)] []))
  refine own_F.of (fun _ => XS.aloadN S0.here S0.hx rfl (S0.dec d13_0) rfl rfl) ?_
  refine own_F.of (fun _ => XS.dup S0.here S0.hx rfl (S0.dec d13_1) rfl rfl) ?_
  show own_F p e below s Z _ _ _ _ _ (T0.setTop (mkF m 2 #[.val (.ref a1), .val (.ref e4)] [(.ref a1), (.ref a1)]))
  refine own_getF S0 (host := "") (Or.inl (own_w hw 94 rfl)) (Via.of (own_w hw 95 rfl)) F_modCount d13_2 (fun T1 S1 => ?_)
  show own_F p e below s Z _ _ _ _ _ (T1.setTop (mkF m 5 #[.val (.ref a1), .val (.ref e4)] [(.int mc), (.ref a1)]))
  refine own_F.of (fun _ => XS.iconst S1.here S1.hx rfl (S1.dec d13_5)) ?_
  show own_F p e below s Z _ _ _ _ _ (T1.setTop (mkF m 6 #[.val (.ref a1), .val (.ref e4)] [(.int (1 : Int32)), (.int mc), (.ref a1)]))
  refine own_F.of (fun _ => XS.iadd S1.here S1.hx rfl (S1.dec d13_6) rfl) ?_
  show own_F p e below s Z _ _ _ _ _ (T1.setTop (mkF m 7 #[.val (.ref a1), .val (.ref e4)] [(.int (mc + (1 : Int32))), (.ref a1)]))
  refine own_putF S1 (host := "") (Or.inl (own_w hw 94 rfl)) (Via.of (own_w hw 95 rfl)) F_modCount E_a1 (Or.inl (own_w hw 29 rfl)) (own_w hw 8 rfl) (ty := .int) (by decide) rfl rfl d13_7 (Or.inl (List.mem_of_getElem? (i := 0) rfl)) (fun T2 h2 S2 W2 => ?_)
  have Fw2 := F_modCount.same W2
  show own_F p e below s Z _ _ _ _ _ (T2.setTop (mkF m 10 #[.val (.ref a1), .val (.ref e4)] []))
  refine own_F.of (fun _ => XS.aloadN S2.here S2.hx rfl (S2.dec d13_10) rfl rfl) ?_
  refine own_F.of (fun _ => XS.aloadN S2.here S2.hx rfl (S2.dec d13_11) rfl rfl) ?_
  refine own_F.of (fun _ => XS.aloadN S2.here S2.hx rfl (S2.dec d13_12) rfl rfl) ?_
  show own_F p e below s Z _ _ _ _ _ (T2.setTop (mkF m 13 #[.val (.ref a1), .val (.ref e4)] [(.ref a1), (.ref e4), (.ref a1)]))
  have fq3 := (F_elementData.other W2 (Or.inr (slot_ne (C := "java/util/ArrayList") (Or.inl (own_w hw 32 rfl)) (Or.inl (own_w hw 29 rfl)) (by decide) (t := (.array (.object "java/lang/Object"))) (t' := .int) (by decide) (by decide))))
  refine own_getF S2 (host := "") (Or.inl (own_w hw 31 rfl)) Via.refl fq3 d13_13 (fun T4 S4 => ?_)
  show own_F p e below s Z _ _ _ _ _ (T4.setTop (mkF m 16 #[.val (.ref a1), .val (.ref e4)] [(.ref aE), (.ref e4), (.ref a1)]))
  refine own_F.of (fun _ => XS.aloadN S4.here S4.hx rfl (S4.dec d13_16) rfl rfl) ?_
  show own_F p e below s Z _ _ _ _ _ (T4.setTop (mkF m 17 #[.val (.ref a1), .val (.ref e4)] [(.ref a1), (.ref aE), (.ref e4), (.ref a1)]))
  have fq5 := (F_size.other W2 (Or.inr (slot_ne (C := "java/util/ArrayList") (Or.inl (own_w hw 63 rfl)) (Or.inl (own_w hw 29 rfl)) (by decide) (t := .int) (t' := .int) (by decide) (by decide))))
  refine own_getF S4 (host := "") (Or.inl (own_w hw 62 rfl)) Via.refl fq5 d13_17 (fun T6 S6 => ?_)
  show own_F p e below s Z _ _ _ _ _ (T6.setTop (mkF m 20 #[.val (.ref a1), .val (.ref e4)] [(.int (3 : Int32)), (.ref aE), (.ref e4), (.ref a1)]))
  have fq7 := (E_a1.wr W2)
  have fq8 := (AE.other W2 (ne_exa (AE.exa.wr W2) fq7 (by decide)))
  have fq9 := (X_e1.wr W2)
  have fq10 := (X_e2.wr W2)
  have fq11 := (X_e3.wr W2)
  have fq12 := (X_e4.wr W2)
  refine own_callP S6 (y := (⟨"java/util/ArrayList", "add", "(Ljava/lang/Object;[Ljava/lang/Object;I)V"⟩ : MethodName)) (own_w hw 96 rfl) (own_w hw 97 rfl) (own_w hw 8 rfl) (own_w hw 98 rfl) (own_w hw 100 rfl) (own_w hw 9 rfl) (by decide) fq7 (argsL := [(.ref e4), (.ref aE), (.int (3 : Int32))]) (rest := []) (own_add3_3 l Z a0 hw a1 aE e1 e2 e3 e4 (mc + (1 : Int32)) h2 S6.old ga fq7 gE fq8 fq3 fq5 Fw2 fq9 fq10 fq11 fq12) (allS (Or.inl (List.mem_of_getElem? (i := 0) rfl)) (allS (Or.inl (List.mem_of_getElem? (i := 1) rfl)) all0)) (by decide +kernel : parseMethodDescriptor "(Ljava/lang/Object;[Ljava/lang/Object;I)V" = some ⟨[(.object "java/lang/Object"), (.array (.object "java/lang/Object")), .int], none⟩) rfl rfl rfl d13_20 (by decide) (Nat.le_of_ble_eq_true rfl) (by decide) (by decide) (fun T13 h13 v13 S13 K13 q13 => ?_)
  obtain ⟨rfl, A13, Fe13, Fs13, Fm13⟩ := q13
  show own_F p e below s Z _ _ _ _ _ (T13.setTop (mkF m 23 #[.val (.ref a1), .val (.ref e4)] []))
  refine own_F.of (fun _ => XS.iconst S13.here S13.hx rfl (S13.dec d13_23)) ?_
  show own_F p e below s Z _ _ _ _ _ (T13.setTop (mkF m 24 #[.val (.ref a1), .val (.ref e4)] [(.int (1 : Int32))]))
  refine own_retZ S13 (by simp) d13_24 (by decide) (by decide) ?_
  exact ⟨rfl, A13, Fe13, Fs13, Fm13⟩
theorem d29_0 : decode jdk_47_method_1_code 0 = .ok (.aload_n 0, 1) := by decide +kernel
theorem d29_1 : decode jdk_47_method_1_code 1 = .ok (.invokespecial 1, 3) := by decide +kernel
theorem d29_4 : decode jdk_47_method_1_code 4 = .ok (.return_, 1) := by decide +kernel
theorem pn29 : plainFor (⟨"java/util/ImmutableCollections$AbstractImmutableCollection", "<init>", "()V"⟩ : MethodName) = true := plainFor_of_name (by first | (simp [plainName, overriddenIn]; done) | decide +kernel)
set_option maxRecDepth 65536 in
set_option maxHeartbeats 40000000 in
theorem own_AIC (l : Launch) (Z : State) (a0 : Array Value) (hw : ∀ d ∈ tables_1, d.before a0 Z = true) (a1 : Addr) (h0 : Heap) (hO : Ext Z.heap h0) :
    own_C l Z (⟨"java/util/ImmutableCollections$AbstractImmutableCollection", "<init>", "()V"⟩ : MethodName) jdk_47_method_1_code 1 none [] ({ frames := 2, cells := 0, slots := 0, locals := 24 } : Room) [] #[(.ref a1)] h0 (fun v h => v = none ∧ h0 = h) := by
  refine own_C.of pn29 hO all0 ?_
  intro p e s m below meth c T0 S0
  refine own_F.cast (by first | (simp [entryFrame, mkF, argsToLocals, Value.category]; done) | rfl : entryFrame m #[(.ref a1)] 1 = mkF m 0 #[.val (.ref a1)] []) ?_
  show own_F p e below s Z _ _ _ _ _ (T0.setTop (mkF m 0 #[.val (.ref a1)] []))
  refine own_F.of (fun _ => XS.aloadN S0.here S0.hx rfl (S0.dec d29_0) rfl rfl) ?_
  show own_F p e below s Z _ _ _ _ _ (T0.setTop (mkF m 1 #[.val (.ref a1)] [(.ref a1)]))
  refine own_callI S0 (y := (⟨"java/util/AbstractCollection", "<init>", "()V"⟩ : MethodName)) rfl (own_w hw 200 rfl) (own_w hw 20 rfl) (own_w hw 23 rfl) (own_w hw 24 rfl) (by decide) (argsL := []) (rest := []) (own_ABC l Z a0 hw a1 h0 S0.old) all0 (by decide +kernel : parseMethodDescriptor "()V" = some ⟨[], none⟩) rfl rfl rfl d29_1 (by decide) (Nat.le_of_ble_eq_true rfl) (by decide) (by decide) (fun T1 h1 v1 S1 K1 q1 => ?_)
  obtain ⟨rfl, rfl⟩ := q1
  show own_F p e below s Z _ _ _ _ _ (T1.setTop (mkF m 4 #[.val (.ref a1)] []))
  refine own_retV S1 d29_4 (by decide) (by decide) ?_
  exact ⟨rfl, rfl⟩
theorem d28_0 : decode jdk_46_method_1_code 0 = .ok (.aload_n 0, 1) := by decide +kernel
theorem d28_1 : decode jdk_46_method_1_code 1 = .ok (.invokespecial 1, 3) := by decide +kernel
theorem d28_4 : decode jdk_46_method_1_code 4 = .ok (.return_, 1) := by decide +kernel
theorem pn28 : plainFor (⟨"java/util/ImmutableCollections$AbstractImmutableList", "<init>", "()V"⟩ : MethodName) = true := plainFor_of_name (by first | (simp [plainName, overriddenIn]; done) | decide +kernel)
set_option maxRecDepth 65536 in
set_option maxHeartbeats 40000000 in
theorem own_AIL (l : Launch) (Z : State) (a0 : Array Value) (hw : ∀ d ∈ tables_1, d.before a0 Z = true) (a1 : Addr) (h0 : Heap) (hO : Ext Z.heap h0) :
    own_C l Z (⟨"java/util/ImmutableCollections$AbstractImmutableList", "<init>", "()V"⟩ : MethodName) jdk_46_method_1_code 1 none [] ({ frames := 3, cells := 0, slots := 0, locals := 36 } : Room) [] #[(.ref a1)] h0 (fun v h => v = none ∧ h0 = h) := by
  refine own_C.of pn28 hO all0 ?_
  intro p e s m below meth c T0 S0
  refine own_F.cast (by first | (simp [entryFrame, mkF, argsToLocals, Value.category]; done) | rfl : entryFrame m #[(.ref a1)] 1 = mkF m 0 #[.val (.ref a1)] []) ?_
  show own_F p e below s Z _ _ _ _ _ (T0.setTop (mkF m 0 #[.val (.ref a1)] []))
  refine own_F.of (fun _ => XS.aloadN S0.here S0.hx rfl (S0.dec d28_0) rfl rfl) ?_
  show own_F p e below s Z _ _ _ _ _ (T0.setTop (mkF m 1 #[.val (.ref a1)] [(.ref a1)]))
  refine own_callI S0 (y := (⟨"java/util/ImmutableCollections$AbstractImmutableCollection", "<init>", "()V"⟩ : MethodName)) rfl (own_w hw 194 rfl) (own_w hw 195 rfl) (own_w hw 198 rfl) (own_w hw 199 rfl) (by decide) (argsL := []) (rest := []) (own_AIC l Z a0 hw a1 h0 S0.old) all0 (by decide +kernel : parseMethodDescriptor "()V" = some ⟨[], none⟩) rfl rfl rfl d28_1 (by decide) (Nat.le_of_ble_eq_true rfl) (by decide) (by decide) (fun T1 h1 v1 S1 K1 q1 => ?_)
  obtain ⟨rfl, rfl⟩ := q1
  show own_F p e below s Z _ _ _ _ _ (T1.setTop (mkF m 4 #[.val (.ref a1)] []))
  refine own_retV S1 d28_4 (by decide) (by decide) ?_
  exact ⟨rfl, rfl⟩
theorem d30_0 : decode jdk_31_method_10_code 0 = .ok (.aload_n 0, 1) := by decide +kernel
theorem d30_1 : decode jdk_31_method_10_code 1 = .ok (.ifnonnull 11, 3) := by decide +kernel
theorem d30_4 : decode jdk_31_method_10_code 4 = .ok (.new 84, 3) := by decide +kernel
theorem d30_7 : decode jdk_31_method_10_code 7 = .ok (.dup, 1) := by decide +kernel
theorem d30_8 : decode jdk_31_method_10_code 8 = .ok (.invokespecial 86, 3) := by decide +kernel
theorem d30_11 : decode jdk_31_method_10_code 11 = .ok (.athrow, 1) := by decide +kernel
theorem d30_12 : decode jdk_31_method_10_code 12 = .ok (.aload_n 0, 1) := by decide +kernel
theorem d30_13 : decode jdk_31_method_10_code 13 = .ok (.areturn, 1) := by decide +kernel
theorem pn30 : plainFor (⟨"java/util/Objects", "requireNonNull", "(Ljava/lang/Object;)Ljava/lang/Object;"⟩ : MethodName) = true := plainFor_of_name (by first | (simp [plainName, overriddenIn]; done) | decide +kernel)
set_option maxRecDepth 65536 in
set_option maxHeartbeats 40000000 in
theorem own_rnn (l : Launch) (Z : State) (a0 : Array Value) (hw : ∀ d ∈ tables_1, d.before a0 Z = true) (e1 : Addr) (h0 : Heap) (hO : Ext Z.heap h0) :
    own_C l Z (⟨"java/util/Objects", "requireNonNull", "(Ljava/lang/Object;)Ljava/lang/Object;"⟩ : MethodName) jdk_31_method_10_code 1 (some (.object "java/lang/Object")) [] ({ frames := 0, cells := 0, slots := 0, locals := 0 } : Room) [] #[(.ref e1)] h0 (fun v h => v = some (.ref e1) ∧ h0 = h) := by
  refine own_C.of pn30 hO all0 ?_
  intro p e s m below meth c T0 S0
  refine own_F.cast (by first | (simp [entryFrame, mkF, argsToLocals, Value.category]; done) | rfl : entryFrame m #[(.ref e1)] 1 = mkF m 0 #[.val (.ref e1)] []) ?_
  show own_F p e below s Z _ _ _ _ _ (T0.setTop (mkF m 0 #[.val (.ref e1)] []))
  refine own_F.of (fun _ => XS.aloadN S0.here S0.hx rfl (S0.dec d30_0) rfl rfl) ?_
  show own_F p e below s Z _ _ _ _ _ (T0.setTop (mkF m 1 #[.val (.ref e1)] [(.ref e1)]))
  refine own_F.of (fun _ => XS.ifnonnullYes S0.here S0.hx rfl (pc0 := 1) (pc' := 12) rfl (S0.dec d30_1) rfl (by decide) (by decide)) ?_
  show own_F p e below s Z _ _ _ _ _ (T0.setTop (mkF m 12 #[.val (.ref e1)] []))
  refine own_F.of (fun _ => XS.aloadN S0.here S0.hx rfl (S0.dec d30_12) rfl rfl) ?_
  show own_F p e below s Z _ _ _ _ _ (T0.setTop (mkF m 13 #[.val (.ref e1)] [(.ref e1)]))
  refine own_retA S0 rfl rfl d30_13 (by decide) (by decide) ?_
  exact ⟨rfl, rfl⟩
theorem d27_0 : decode jdk_44_method_1_code 0 = .ok (.aload_n 0, 1) := by decide +kernel
theorem d27_1 : decode jdk_44_method_1_code 1 = .ok (.invokespecial 1, 3) := by decide +kernel
theorem d27_4 : decode jdk_44_method_1_code 4 = .ok (.aload_n 0, 1) := by decide +kernel
theorem d27_5 : decode jdk_44_method_1_code 5 = .ok (.aload_n 1, 1) := by decide +kernel
theorem d27_6 : decode jdk_44_method_1_code 6 = .ok (.invokestatic 7, 3) := by decide +kernel
theorem d27_9 : decode jdk_44_method_1_code 9 = .ok (.putfield 13, 3) := by decide +kernel
theorem d27_12 : decode jdk_44_method_1_code 12 = .ok (.aload_n 0, 1) := by decide +kernel
theorem d27_13 : decode jdk_44_method_1_code 13 = .ok (.getstatic 19, 3) := by decide +kernel
theorem d27_16 : decode jdk_44_method_1_code 16 = .ok (.putfield 24, 3) := by decide +kernel
theorem d27_19 : decode jdk_44_method_1_code 19 = .ok (.return_, 1) := by decide +kernel
theorem pn27 : plainFor (⟨"java/util/ImmutableCollections$List12", "<init>", "(Ljava/lang/Object;)V"⟩ : MethodName) = true := plainFor_of_name (by first | (simp [plainName, overriddenIn]; done) | decide +kernel)
set_option maxRecDepth 65536 in
set_option maxHeartbeats 40000000 in
theorem own_L12_1 (l : Launch) (Z : State) (a0 : Array Value) (hw : ∀ d ∈ tables_1, d.before a0 Z = true) (a1 : Addr) (e1 : Addr) (aM : Addr) (h0 : Heap) (hO : Ext Z.heap h0) (SM : Sta Z Z.heap "java/util/ImmutableCollections" "EMPTY" "Ljava/lang/Object;" (.ref aM)) (ga : Z.heap.size ≤ a1) (E_a1 : Exa Z h0 a1 "java/util/ImmutableCollections$List12") (F_e0 : Fld Z h0 a1 "java/util/ImmutableCollections$List12" "e0" "Ljava/lang/Object;" .null) (F_e1 : Fld Z h0 a1 "java/util/ImmutableCollections$List12" "e1" "Ljava/lang/Object;" .null) :
    own_C l Z (⟨"java/util/ImmutableCollections$List12", "<init>", "(Ljava/lang/Object;)V"⟩ : MethodName) jdk_44_method_1_code 2 none [] ({ frames := 4, cells := 0, slots := 0, locals := 48 } : Room) [a1] #[(.ref a1), (.ref e1)] h0 (fun v h => v = none ∧ Fld Z h a1 "java/util/ImmutableCollections$List12" "e0" "Ljava/lang/Object;" (.ref e1) ∧ Fld Z h a1 "java/util/ImmutableCollections$List12" "e1" "Ljava/lang/Object;" (.ref aM)) := by
  refine own_C.of pn27 hO (allS ga all0) ?_
  intro p e s m below meth c T0 S0
  refine own_F.cast (by first | (simp [entryFrame, mkF, argsToLocals, Value.category]; done) | rfl : entryFrame m #[(.ref a1), (.ref e1)] 2 = mkF m 0 #[.val (.ref a1), .val (.ref e1)] []) ?_
  show own_F p e below s Z _ _ _ _ _ (T0.setTop (mkF m 0 #[.val (.ref a1), .val (.ref e1)] []))
  refine own_F.of (fun _ => XS.aloadN S0.here S0.hx rfl (S0.dec d27_0) rfl rfl) ?_
  show own_F p e below s Z _ _ _ _ _ (T0.setTop (mkF m 1 #[.val (.ref a1), .val (.ref e1)] [(.ref a1)]))
  refine own_callI S0 (y := (⟨"java/util/ImmutableCollections$AbstractImmutableList", "<init>", "()V"⟩ : MethodName)) rfl (own_w hw 188 rfl) (own_w hw 189 rfl) (own_w hw 192 rfl) (own_w hw 193 rfl) (by decide) (argsL := []) (rest := []) (own_AIL l Z a0 hw a1 h0 S0.old) all0 (by decide +kernel : parseMethodDescriptor "()V" = some ⟨[], none⟩) rfl rfl rfl d27_1 (by decide) (Nat.le_of_ble_eq_true rfl) (by decide) (by decide) (fun T1 h1 v1 S1 K1 q1 => ?_)
  obtain ⟨rfl, rfl⟩ := q1
  show own_F p e below s Z _ _ _ _ _ (T1.setTop (mkF m 4 #[.val (.ref a1), .val (.ref e1)] []))
  refine own_F.of (fun _ => XS.aloadN S1.here S1.hx rfl (S1.dec d27_4) rfl rfl) ?_
  refine own_F.of (fun _ => XS.aloadN S1.here S1.hx rfl (S1.dec d27_5) rfl rfl) ?_
  show own_F p e below s Z _ _ _ _ _ (T1.setTop (mkF m 6 #[.val (.ref a1), .val (.ref e1)] [(.ref e1), (.ref a1)]))
  refine own_callS S1 (y := (⟨"java/util/Objects", "requireNonNull", "(Ljava/lang/Object;)Ljava/lang/Object;"⟩ : MethodName)) (own_w hw 202 rfl) (own_w hw 203 rfl) (own_w hw 204 rfl) (own_w hw 205 rfl) (by decide) (argsL := [(.ref e1)]) (rest := [(.ref a1)]) (own_rnn l Z a0 hw e1 h0 S1.old) all0 (by decide +kernel : parseMethodDescriptor "(Ljava/lang/Object;)Ljava/lang/Object;" = some ⟨[(.object "java/lang/Object")], some (.object "java/lang/Object")⟩) rfl rfl rfl d27_6 (by decide) (Nat.le_of_ble_eq_true rfl) (by decide) (by decide) (fun T2 h2 v2 S2 K2 q2 => ?_)
  obtain ⟨rfl, rfl⟩ := q2
  show own_F p e below s Z _ _ _ _ _ (T2.setTop (mkF m 9 #[.val (.ref a1), .val (.ref e1)] [(.ref e1), (.ref a1)]))
  refine own_putF S2 (host := "") (Or.inl (own_w hw 206 rfl)) Via.refl F_e0 E_a1 (Or.inr ⟨(own_w hw 207 rfl), rfl, rfl⟩) (own_w hw 182 rfl) (ty := (.object "java/lang/Object")) (by decide) rfl rfl d27_9 (Or.inl (List.mem_of_getElem? (i := 0) rfl)) (fun T3 h3 S3 W3 => ?_)
  have Fw3 := F_e0.same W3
  show own_F p e below s Z _ _ _ _ _ (T3.setTop (mkF m 12 #[.val (.ref a1), .val (.ref e1)] []))
  refine own_F.of (fun _ => XS.aloadN S3.here S3.hx rfl (S3.dec d27_12) rfl rfl) ?_
  show own_F p e below s Z _ _ _ _ _ (T3.setTop (mkF m 13 #[.val (.ref a1), .val (.ref e1)] [(.ref a1)]))
  refine own_getS S3 (Or.inr (own_w hw 208 rfl)) Via.refl (SM.ext S3.old) d27_13 (fun T4 S4 => ?_)
  show own_F p e below s Z _ _ _ _ _ (T4.setTop (mkF m 16 #[.val (.ref a1), .val (.ref e1)] [(.ref aM), (.ref a1)]))
  have fq5 := (F_e1.other W3 (Or.inr (slot_ne (C := "java/util/ImmutableCollections$List12") (Or.inr (own_w hw 210 rfl)) (Or.inr (own_w hw 207 rfl)) (by decide) (t := (.object "java/lang/Object")) (t' := (.object "java/lang/Object")) (by decide) (by decide))))
  have fq6 := (E_a1.wr W3)
  refine own_putF S4 (host := "") (Or.inl (own_w hw 209 rfl)) Via.refl fq5 fq6 (Or.inr ⟨(own_w hw 210 rfl), rfl, rfl⟩) (own_w hw 182 rfl) (ty := (.object "java/lang/Object")) (by decide) rfl rfl d27_16 (Or.inl (List.mem_of_getElem? (i := 0) rfl)) (fun T7 h7 S7 W7 => ?_)
  have Fw7 := fq5.same W7
  show own_F p e below s Z _ _ _ _ _ (T7.setTop (mkF m 19 #[.val (.ref a1), .val (.ref e1)] []))
  have fq8 := (Fw3.other W7 (Or.inr (slot_ne (C := "java/util/ImmutableCollections$List12") (Or.inr (own_w hw 207 rfl)) (Or.inr (own_w hw 210 rfl)) (by decide) (t := (.object "java/lang/Object")) (t' := (.object "java/lang/Object")) (by decide) (by decide))))
  refine own_retV S7 d27_19 (by decide) (by decide) ?_
  exact ⟨rfl, fq8, Fw7⟩
theorem d38_0 : decode jdk_44_method_2_code 0 = .ok (.aload_n 0, 1) := by decide +kernel
theorem d38_1 : decode jdk_44_method_2_code 1 = .ok (.invokespecial 1, 3) := by decide +kernel
theorem d38_4 : decode jdk_44_method_2_code 4 = .ok (.aload_n 0, 1) := by decide +kernel
theorem d38_5 : decode jdk_44_method_2_code 5 = .ok (.aload_n 1, 1) := by decide +kernel
theorem d38_6 : decode jdk_44_method_2_code 6 = .ok (.invokestatic 7, 3) := by decide +kernel
theorem d38_9 : decode jdk_44_method_2_code 9 = .ok (.putfield 13, 3) := by decide +kernel
theorem d38_12 : decode jdk_44_method_2_code 12 = .ok (.aload_n 0, 1) := by decide +kernel
theorem d38_13 : decode jdk_44_method_2_code 13 = .ok (.aload_n 2, 1) := by decide +kernel
theorem d38_14 : decode jdk_44_method_2_code 14 = .ok (.invokestatic 7, 3) := by decide +kernel
theorem d38_17 : decode jdk_44_method_2_code 17 = .ok (.putfield 24, 3) := by decide +kernel
theorem d38_20 : decode jdk_44_method_2_code 20 = .ok (.return_, 1) := by decide +kernel
theorem pn38 : plainFor (⟨"java/util/ImmutableCollections$List12", "<init>", "(Ljava/lang/Object;Ljava/lang/Object;)V"⟩ : MethodName) = true := plainFor_of_name (by first | (simp [plainName, overriddenIn]; done) | decide +kernel)
set_option maxRecDepth 65536 in
set_option maxHeartbeats 40000000 in
theorem own_L12_2 (l : Launch) (Z : State) (a0 : Array Value) (hw : ∀ d ∈ tables_1, d.before a0 Z = true) (a1 : Addr) (e1 e2 : Addr) (aM : Addr) (h0 : Heap) (hO : Ext Z.heap h0) (SM : Sta Z Z.heap "java/util/ImmutableCollections" "EMPTY" "Ljava/lang/Object;" (.ref aM)) (ga : Z.heap.size ≤ a1) (E_a1 : Exa Z h0 a1 "java/util/ImmutableCollections$List12") (F_e0 : Fld Z h0 a1 "java/util/ImmutableCollections$List12" "e0" "Ljava/lang/Object;" .null) (F_e1 : Fld Z h0 a1 "java/util/ImmutableCollections$List12" "e1" "Ljava/lang/Object;" .null) :
    own_C l Z (⟨"java/util/ImmutableCollections$List12", "<init>", "(Ljava/lang/Object;Ljava/lang/Object;)V"⟩ : MethodName) jdk_44_method_2_code 3 none [] ({ frames := 4, cells := 0, slots := 0, locals := 48 } : Room) [a1] #[(.ref a1), (.ref e1), (.ref e2)] h0 (fun v h => v = none ∧ Fld Z h a1 "java/util/ImmutableCollections$List12" "e0" "Ljava/lang/Object;" (.ref e1) ∧ Fld Z h a1 "java/util/ImmutableCollections$List12" "e1" "Ljava/lang/Object;" (.ref e2)) := by
  refine own_C.of pn38 hO (allS ga all0) ?_
  intro p e s m below meth c T0 S0
  refine own_F.cast (by first | (simp [entryFrame, mkF, argsToLocals, Value.category]; done) | rfl : entryFrame m #[(.ref a1), (.ref e1), (.ref e2)] 3 = mkF m 0 #[.val (.ref a1), .val (.ref e1), .val (.ref e2)] []) ?_
  show own_F p e below s Z _ _ _ _ _ (T0.setTop (mkF m 0 #[.val (.ref a1), .val (.ref e1), .val (.ref e2)] []))
  refine own_F.of (fun _ => XS.aloadN S0.here S0.hx rfl (S0.dec d38_0) rfl rfl) ?_
  show own_F p e below s Z _ _ _ _ _ (T0.setTop (mkF m 1 #[.val (.ref a1), .val (.ref e1), .val (.ref e2)] [(.ref a1)]))
  refine own_callI S0 (y := (⟨"java/util/ImmutableCollections$AbstractImmutableList", "<init>", "()V"⟩ : MethodName)) rfl (own_w hw 188 rfl) (own_w hw 189 rfl) (own_w hw 192 rfl) (own_w hw 193 rfl) (by decide) (argsL := []) (rest := []) (own_AIL l Z a0 hw a1 h0 S0.old) all0 (by decide +kernel : parseMethodDescriptor "()V" = some ⟨[], none⟩) rfl rfl rfl d38_1 (by decide) (Nat.le_of_ble_eq_true rfl) (by decide) (by decide) (fun T1 h1 v1 S1 K1 q1 => ?_)
  obtain ⟨rfl, rfl⟩ := q1
  show own_F p e below s Z _ _ _ _ _ (T1.setTop (mkF m 4 #[.val (.ref a1), .val (.ref e1), .val (.ref e2)] []))
  refine own_F.of (fun _ => XS.aloadN S1.here S1.hx rfl (S1.dec d38_4) rfl rfl) ?_
  refine own_F.of (fun _ => XS.aloadN S1.here S1.hx rfl (S1.dec d38_5) rfl rfl) ?_
  show own_F p e below s Z _ _ _ _ _ (T1.setTop (mkF m 6 #[.val (.ref a1), .val (.ref e1), .val (.ref e2)] [(.ref e1), (.ref a1)]))
  refine own_callS S1 (y := (⟨"java/util/Objects", "requireNonNull", "(Ljava/lang/Object;)Ljava/lang/Object;"⟩ : MethodName)) (own_w hw 202 rfl) (own_w hw 203 rfl) (own_w hw 204 rfl) (own_w hw 205 rfl) (by decide) (argsL := [(.ref e1)]) (rest := [(.ref a1)]) (own_rnn l Z a0 hw e1 h0 S1.old) all0 (by decide +kernel : parseMethodDescriptor "(Ljava/lang/Object;)Ljava/lang/Object;" = some ⟨[(.object "java/lang/Object")], some (.object "java/lang/Object")⟩) rfl rfl rfl d38_6 (by decide) (Nat.le_of_ble_eq_true rfl) (by decide) (by decide) (fun T2 h2 v2 S2 K2 q2 => ?_)
  obtain ⟨rfl, rfl⟩ := q2
  show own_F p e below s Z _ _ _ _ _ (T2.setTop (mkF m 9 #[.val (.ref a1), .val (.ref e1), .val (.ref e2)] [(.ref e1), (.ref a1)]))
  refine own_putF S2 (host := "") (Or.inl (own_w hw 206 rfl)) Via.refl F_e0 E_a1 (Or.inr ⟨(own_w hw 207 rfl), rfl, rfl⟩) (own_w hw 182 rfl) (ty := (.object "java/lang/Object")) (by decide) rfl rfl d38_9 (Or.inl (List.mem_of_getElem? (i := 0) rfl)) (fun T3 h3 S3 W3 => ?_)
  have Fw3 := F_e0.same W3
  show own_F p e below s Z _ _ _ _ _ (T3.setTop (mkF m 12 #[.val (.ref a1), .val (.ref e1), .val (.ref e2)] []))
  refine own_F.of (fun _ => XS.aloadN S3.here S3.hx rfl (S3.dec d38_12) rfl rfl) ?_
  refine own_F.of (fun _ => XS.aloadN S3.here S3.hx rfl (S3.dec d38_13) rfl rfl) ?_
  show own_F p e below s Z _ _ _ _ _ (T3.setTop (mkF m 14 #[.val (.ref a1), .val (.ref e1), .val (.ref e2)] [(.ref e2), (.ref a1)]))
  refine own_callS S3 (y := (⟨"java/util/Objects", "requireNonNull", "(Ljava/lang/Object;)Ljava/lang/Object;"⟩ : MethodName)) (own_w hw 202 rfl) (own_w hw 203 rfl) (own_w hw 204 rfl) (own_w hw 205 rfl) (by decide) (argsL := [(.ref e2)]) (rest := [(.ref a1)]) (own_rnn l Z a0 hw e2 h3 S3.old) all0 (by decide +kernel : parseMethodDescriptor "(Ljava/lang/Object;)Ljava/lang/Object;" = some ⟨[(.object "java/lang/Object")], some (.object "java/lang/Object")⟩) rfl rfl rfl d38_14 (by decide) (Nat.le_of_ble_eq_true rfl) (by decide) (by decide) (fun T4 h4 v4 S4 K4 q4 => ?_)
  obtain ⟨rfl, rfl⟩ := q4
  show own_F p e below s Z _ _ _ _ _ (T4.setTop (mkF m 17 #[.val (.ref a1), .val (.ref e1), .val (.ref e2)] [(.ref e2), (.ref a1)]))
  have fq5 := (F_e1.other W3 (Or.inr (slot_ne (C := "java/util/ImmutableCollections$List12") (Or.inr (own_w hw 210 rfl)) (Or.inr (own_w hw 207 rfl)) (by decide) (t := (.object "java/lang/Object")) (t' := (.object "java/lang/Object")) (by decide) (by decide))))
  have fq6 := (E_a1.wr W3)
  refine own_putF S4 (host := "") (Or.inl (own_w hw 209 rfl)) Via.refl fq5 fq6 (Or.inr ⟨(own_w hw 210 rfl), rfl, rfl⟩) (own_w hw 182 rfl) (ty := (.object "java/lang/Object")) (by decide) rfl rfl d38_17 (Or.inl (List.mem_of_getElem? (i := 0) rfl)) (fun T7 h7 S7 W7 => ?_)
  have Fw7 := fq5.same W7
  show own_F p e below s Z _ _ _ _ _ (T7.setTop (mkF m 20 #[.val (.ref a1), .val (.ref e1), .val (.ref e2)] []))
  have fq8 := (Fw3.other W7 (Or.inr (slot_ne (C := "java/util/ImmutableCollections$List12") (Or.inr (own_w hw 207 rfl)) (Or.inr (own_w hw 210 rfl)) (by decide) (t := (.object "java/lang/Object")) (t' := (.object "java/lang/Object")) (by decide) (by decide))))
  refine own_retV S7 d38_20 (by decide) (by decide) ?_
  exact ⟨rfl, fq8, Fw7⟩
theorem d36_0 : decode jdk_45_method_1_code 0 = .ok (.aload_n 0, 1) := by decide +kernel
theorem d36_1 : decode jdk_45_method_1_code 1 = .ok (.invokespecial 1, 3) := by decide +kernel
theorem d36_4 : decode jdk_45_method_1_code 4 = .ok (.aload_n 0, 1) := by decide +kernel
theorem d36_5 : decode jdk_45_method_1_code 5 = .ok (.aload_n 1, 1) := by decide +kernel
theorem d36_6 : decode jdk_45_method_1_code 6 = .ok (.putfield 7, 3) := by decide +kernel
theorem d36_9 : decode jdk_45_method_1_code 9 = .ok (.aload_n 0, 1) := by decide +kernel
theorem d36_10 : decode jdk_45_method_1_code 10 = .ok (.iload_n 2, 1) := by decide +kernel
theorem d36_11 : decode jdk_45_method_1_code 11 = .ok (.putfield 13, 3) := by decide +kernel
theorem d36_14 : decode jdk_45_method_1_code 14 = .ok (.return_, 1) := by decide +kernel
theorem pn36 : plainFor (⟨"java/util/ImmutableCollections$ListN", "<init>", "([Ljava/lang/Object;Z)V"⟩ : MethodName) = true := plainFor_of_name (by first | (simp [plainName, overriddenIn]; done) | decide +kernel)
set_option maxRecDepth 65536 in
set_option maxHeartbeats 40000000 in
theorem own_LNI (l : Launch) (Z : State) (a0 : Array Value) (hw : ∀ d ∈ tables_1, d.before a0 Z = true) (a1 ar : Addr) (h0 : Heap) (hO : Ext Z.heap h0) (ga : Z.heap.size ≤ a1) (E_a1 : Exa Z h0 a1 "java/util/ImmutableCollections$ListN") (F_elements : Fld Z h0 a1 "java/util/ImmutableCollections$ListN" "elements" "[Ljava/lang/Object;" .null) (F_allowNulls : Fld Z h0 a1 "java/util/ImmutableCollections$ListN" "allowNulls" "Z" (.int 0)) :
    own_C l Z (⟨"java/util/ImmutableCollections$ListN", "<init>", "([Ljava/lang/Object;Z)V"⟩ : MethodName) jdk_45_method_1_code 3 none [] ({ frames := 4, cells := 0, slots := 0, locals := 48 } : Room) [a1] #[(.ref a1), (.ref ar), (.int (0 : Int32))] h0 (fun v h => v = none ∧ Fld Z h a1 "java/util/ImmutableCollections$ListN" "elements" "[Ljava/lang/Object;" (.ref ar) ∧ Fld Z h a1 "java/util/ImmutableCollections$ListN" "allowNulls" "Z" (.int 0)) := by
  refine own_C.of pn36 hO (allS ga all0) ?_
  intro p e s m below meth c T0 S0
  refine own_F.cast (by first | (simp [entryFrame, mkF, argsToLocals, Value.category]; done) | rfl : entryFrame m #[(.ref a1), (.ref ar), (.int (0 : Int32))] 3 = mkF m 0 #[.val (.ref a1), .val (.ref ar), .val (.int (0 : Int32))] []) ?_
  show own_F p e below s Z _ _ _ _ _ (T0.setTop (mkF m 0 #[.val (.ref a1), .val (.ref ar), .val (.int (0 : Int32))] []))
  refine own_F.of (fun _ => XS.aloadN S0.here S0.hx rfl (S0.dec d36_0) rfl rfl) ?_
  show own_F p e below s Z _ _ _ _ _ (T0.setTop (mkF m 1 #[.val (.ref a1), .val (.ref ar), .val (.int (0 : Int32))] [(.ref a1)]))
  refine own_callI S0 (y := (⟨"java/util/ImmutableCollections$AbstractImmutableList", "<init>", "()V"⟩ : MethodName)) rfl (own_w hw 246 rfl) (own_w hw 189 rfl) (own_w hw 192 rfl) (own_w hw 193 rfl) (by decide) (argsL := []) (rest := []) (own_AIL l Z a0 hw a1 h0 S0.old) all0 (by decide +kernel : parseMethodDescriptor "()V" = some ⟨[], none⟩) rfl rfl rfl d36_1 (by decide) (Nat.le_of_ble_eq_true rfl) (by decide) (by decide) (fun T1 h1 v1 S1 K1 q1 => ?_)
  obtain ⟨rfl, rfl⟩ := q1
  show own_F p e below s Z _ _ _ _ _ (T1.setTop (mkF m 4 #[.val (.ref a1), .val (.ref ar), .val (.int (0 : Int32))] []))
  refine own_F.of (fun _ => XS.aloadN S1.here S1.hx rfl (S1.dec d36_4) rfl rfl) ?_
  refine own_F.of (fun _ => XS.aloadN S1.here S1.hx rfl (S1.dec d36_5) rfl rfl) ?_
  show own_F p e below s Z _ _ _ _ _ (T1.setTop (mkF m 6 #[.val (.ref a1), .val (.ref ar), .val (.int (0 : Int32))] [(.ref ar), (.ref a1)]))
  refine own_putF S1 (host := "") (Or.inl (own_w hw 132 rfl)) Via.refl F_elements E_a1 (Or.inr ⟨(own_w hw 133 rfl), rfl, rfl⟩) (own_w hw 242 rfl) (ty := (.array (.object "java/lang/Object"))) (by decide) rfl rfl d36_6 (Or.inl (List.mem_of_getElem? (i := 0) rfl)) (fun T2 h2 S2 W2 => ?_)
  have Fw2 := F_elements.same W2
  show own_F p e below s Z _ _ _ _ _ (T2.setTop (mkF m 9 #[.val (.ref a1), .val (.ref ar), .val (.int (0 : Int32))] []))
  refine own_F.of (fun _ => XS.aloadN S2.here S2.hx rfl (S2.dec d36_9) rfl rfl) ?_
  refine own_F.of (fun _ => XS.iloadN S2.here S2.hx rfl (S2.dec d36_10) rfl) ?_
  show own_F p e below s Z _ _ _ _ _ (T2.setTop (mkF m 11 #[.val (.ref a1), .val (.ref ar), .val (.int (0 : Int32))] [(.int (0 : Int32)), (.ref a1)]))
  have fq3 := (F_allowNulls.other W2 (Or.inr (slot_ne (C := "java/util/ImmutableCollections$ListN") (Or.inr (own_w hw 82 rfl)) (Or.inr (own_w hw 133 rfl)) (by decide) (t := .boolean) (t' := (.array (.object "java/lang/Object"))) (by decide) (by decide))))
  have fq4 := (E_a1.wr W2)
  refine own_putF S2 (host := "") (Or.inl (own_w hw 250 rfl)) Via.refl fq3 fq4 (Or.inr ⟨(own_w hw 82 rfl), rfl, rfl⟩) (own_w hw 242 rfl) (ty := .boolean) (by decide) rfl rfl d36_11 (Or.inl (List.mem_of_getElem? (i := 0) rfl)) (fun T5 h5 S5 W5 => ?_)
  have Fw5 := fq3.same W5
  show own_F p e below s Z _ _ _ _ _ (T5.setTop (mkF m 14 #[.val (.ref a1), .val (.ref ar), .val (.int (0 : Int32))] []))
  have fq6 := (Fw2.other W5 (Or.inr (slot_ne (C := "java/util/ImmutableCollections$ListN") (Or.inr (own_w hw 133 rfl)) (Or.inr (own_w hw 82 rfl)) (by decide) (t := (.array (.object "java/lang/Object"))) (t' := .boolean) (by decide) (by decide))))
  refine own_retV S5 d36_14 (by decide) (by decide) ?_
  exact ⟨rfl, fq6, Fw5⟩
theorem d35_0 : decode jdk_56_method_4_code 0 = .ok (.aload_n 0, 1) := by decide +kernel
theorem d35_1 : decode jdk_56_method_4_code 1 = .ok (.arraylength, 1) := by decide +kernel
theorem d35_2 : decode jdk_56_method_4_code 2 = .ok (.anewarray 2, 3) := by decide +kernel
theorem d35_5 : decode jdk_56_method_4_code 5 = .ok (.astore_n 1, 1) := by decide +kernel
theorem d35_6 : decode jdk_56_method_4_code 6 = .ok (.iconst 0, 1) := by decide +kernel
theorem d35_7 : decode jdk_56_method_4_code 7 = .ok (.istore_n 2, 1) := by decide +kernel
theorem d35_8 : decode jdk_56_method_4_code 8 = .ok (.iload_n 2, 1) := by decide +kernel
theorem d35_9 : decode jdk_56_method_4_code 9 = .ok (.aload_n 0, 1) := by decide +kernel
theorem d35_10 : decode jdk_56_method_4_code 10 = .ok (.arraylength, 1) := by decide +kernel
theorem d35_11 : decode jdk_56_method_4_code 11 = .ok (.if_icmp .ge 18, 3) := by decide +kernel
theorem d35_14 : decode jdk_56_method_4_code 14 = .ok (.aload_n 1, 1) := by decide +kernel
theorem d35_15 : decode jdk_56_method_4_code 15 = .ok (.iload_n 2, 1) := by decide +kernel
theorem d35_16 : decode jdk_56_method_4_code 16 = .ok (.aload_n 0, 1) := by decide +kernel
theorem d35_17 : decode jdk_56_method_4_code 17 = .ok (.iload_n 2, 1) := by decide +kernel
theorem d35_18 : decode jdk_56_method_4_code 18 = .ok (.aaload, 1) := by decide +kernel
theorem d35_19 : decode jdk_56_method_4_code 19 = .ok (.invokestatic 37, 3) := by decide +kernel
theorem d35_22 : decode jdk_56_method_4_code 22 = .ok (.aastore, 1) := by decide +kernel
theorem d35_23 : decode jdk_56_method_4_code 23 = .ok (.iinc 2 1, 3) := by decide +kernel
theorem d35_26 : decode jdk_56_method_4_code 26 = .ok (.goto (-18), 3) := by decide +kernel
theorem d35_29 : decode jdk_56_method_4_code 29 = .ok (.new 12, 3) := by decide +kernel
theorem d35_32 : decode jdk_56_method_4_code 32 = .ok (.dup, 1) := by decide +kernel
theorem d35_33 : decode jdk_56_method_4_code 33 = .ok (.aload_n 1, 1) := by decide +kernel
theorem d35_34 : decode jdk_56_method_4_code 34 = .ok (.iconst 0, 1) := by decide +kernel
theorem d35_35 : decode jdk_56_method_4_code 35 = .ok (.invokespecial 43, 3) := by decide +kernel
theorem d35_38 : decode jdk_56_method_4_code 38 = .ok (.areturn, 1) := by decide +kernel
theorem pn35 : plainFor (⟨"java/util/ImmutableCollections", "listFromArray", "([Ljava/lang/Object;)Ljava/util/List;"⟩ : MethodName) = true := plainFor_of_name (by first | (simp [plainName, overriddenIn]; done) | decide +kernel)
set_option maxRecDepth 65536 in
set_option maxHeartbeats 40000000 in
theorem own_lfa (l : Launch) (Z : State) (a0 : Array Value) (hw : ∀ d ∈ tables_1, d.before a0 Z = true) (aA : Addr) (e1 e2 e3 : Addr) (h0 : Heap) (hO : Ext Z.heap h0) (AA : own_AO Z h0 aA [(.ref e1), (.ref e2), (.ref e3)]) (X_e1 : Exa Z h0 e1 "java/lang/Integer") (X_e2 : Exa Z h0 e2 "java/lang/Integer") (X_e3 : Exa Z h0 e3 "java/lang/Integer") :
    own_C l Z (⟨"java/util/ImmutableCollections", "listFromArray", "([Ljava/lang/Object;)Ljava/util/List;"⟩ : MethodName) jdk_56_method_4_code 3 (some (.object "java/util/List")) [] ({ frames := 5, cells := 2, slots := 5, locals := 63 } : Room) [] #[(.ref aA)] h0 (fun v h => ∃ b, v = some (.ref b) ∧ ∃ ar, Exa Z h b "java/util/ImmutableCollections$ListN" ∧ Fld Z h b "java/util/ImmutableCollections$ListN" "elements" "[Ljava/lang/Object;" (.ref ar) ∧ own_AO Z h ar [(.ref e1), (.ref e2), (.ref e3)] ∧ Fld Z h b "java/util/ImmutableCollections$ListN" "allowNulls" "Z" (.int 0)) := by
  refine own_C.of pn35 hO all0 ?_
  intro p e s m below meth c T0 S0
  refine own_F.cast (by first | (simp [entryFrame, mkF, argsToLocals, Value.category]; done) | rfl : entryFrame m #[(.ref aA)] 3 = mkF m 0 #[.val (.ref aA), .unset, .unset] []) ?_
  show own_F p e below s Z _ _ _ _ _ (T0.setTop (mkF m 0 #[.val (.ref aA), .unset, .unset] []))
  refine own_F.of (fun _ => XS.aloadN S0.here S0.hx rfl (S0.dec d35_0) rfl rfl) ?_
  show own_F p e below s Z _ _ _ _ _ (T0.setTop (mkF m 1 #[.val (.ref aA), .unset, .unset] [(.ref aA)]))
  refine own_len S0 AA.A d35_1 ?_
  show own_F p e below s Z _ _ _ _ _ (T0.setTop (mkF m 2 #[.val (.ref aA), .unset, .unset] [(.int (3 : Int32))]))
  refine own_anew S0 (own_w hw 240 rfl) (own_w hw 116 rfl) d35_2 (by decide) (cap := 3) (by decide) (by decide) (by decide) (by decide) (fun T1 h1 b1 g1 S1 E1 A1 => ?_)
  have V2 : own_AO Z h1 b1 [.null, .null, .null] := A1
  show own_F p e below s Z _ _ _ _ _ (T1.setTop (mkF m 5 #[.val (.ref aA), .unset, .unset] [(.ref b1)]))
  refine own_F.of (fun _ => XS.astoreN S1.here S1.hx rfl (S1.dec d35_5) rfl rfl (l' := #[.val (.ref aA), .val (.ref b1), .unset]) rfl) ?_
  show own_F p e below s Z _ _ _ _ _ (T1.setTop (mkF m 6 #[.val (.ref aA), .val (.ref b1), .unset] []))
  refine own_F.of (fun _ => XS.iconst S1.here S1.hx rfl (S1.dec d35_6)) ?_
  show own_F p e below s Z _ _ _ _ _ (T1.setTop (mkF m 7 #[.val (.ref aA), .val (.ref b1), .unset] [(.int (0 : Int32))]))
  refine own_F.of (fun _ => XS.istoreN S1.here S1.hx rfl (S1.dec d35_7) rfl (l' := #[.val (.ref aA), .val (.ref b1), .val (.int (0 : Int32))]) rfl) ?_
  show own_F p e below s Z _ _ _ _ _ (T1.setTop (mkF m 8 #[.val (.ref aA), .val (.ref b1), .val (.int (0 : Int32))] []))
  refine own_F.of (fun _ => XS.iloadN S1.here S1.hx rfl (S1.dec d35_8) rfl) ?_
  refine own_F.of (fun _ => XS.aloadN S1.here S1.hx rfl (S1.dec d35_9) rfl rfl) ?_
  show own_F p e below s Z _ _ _ _ _ (T1.setTop (mkF m 10 #[.val (.ref aA), .val (.ref b1), .val (.int (0 : Int32))] [(.ref aA), (.int (0 : Int32))]))
  have fq3 := (AA.ext E1)
  refine own_len S1 fq3.A d35_10 ?_
  show own_F p e below s Z _ _ _ _ _ (T1.setTop (mkF m 11 #[.val (.ref aA), .val (.ref b1), .val (.int (0 : Int32))] [(.int (3 : Int32)), (.int (0 : Int32))]))
  refine own_icmp S1 29 d35_11 (by decide) (by decide) (fun (hc11_4 : ¬ ((0 : Int32) < (3 : Int32))) => False.elim (absurd hc11_4 (by decide))) (fun (hc11_4 : (0 : Int32) < (3 : Int32)) => ?_)
  show own_F p e below s Z _ _ _ _ _ (T1.setTop (mkF m 14 #[.val (.ref aA), .val (.ref b1), .val (.int (0 : Int32))] []))
  refine own_F.of (fun _ => XS.aloadN S1.here S1.hx rfl (S1.dec d35_14) rfl rfl) ?_
  refine own_F.of (fun _ => XS.iloadN S1.here S1.hx rfl (S1.dec d35_15) rfl) ?_
  refine own_F.of (fun _ => XS.aloadN S1.here S1.hx rfl (S1.dec d35_16) rfl rfl) ?_
  refine own_F.of (fun _ => XS.iloadN S1.here S1.hx rfl (S1.dec d35_17) rfl) ?_
  show own_F p e below s Z _ _ _ _ _ (T1.setTop (mkF m 18 #[.val (.ref aA), .val (.ref b1), .val (.int (0 : Int32))] [(.int (0 : Int32)), (.ref aA), (.int (0 : Int32)), (.ref b1)]))
  refine own_aald S1 fq3.A rfl (by decide) rfl d35_18 ?_
  show own_F p e below s Z _ _ _ _ _ (T1.setTop (mkF m 19 #[.val (.ref aA), .val (.ref b1), .val (.int (0 : Int32))] [(.ref e1), (.int (0 : Int32)), (.ref b1)]))
  refine own_callS S1 (y := (⟨"java/util/Objects", "requireNonNull", "(Ljava/lang/Object;)Ljava/lang/Object;"⟩ : MethodName)) (own_w hw 241 rfl) (own_w hw 203 rfl) (own_w hw 204 rfl) (own_w hw 205 rfl) (by decide) (argsL := [(.ref e1)]) (rest := [(.int (0 : Int32)), (.ref b1)]) (own_rnn l Z a0 hw e1 h1 S1.old) all0 (by decide +kernel : parseMethodDescriptor "(Ljava/lang/Object;)Ljava/lang/Object;" = some ⟨[(.object "java/lang/Object")], some (.object "java/lang/Object")⟩) rfl rfl rfl d35_19 (by decide) (Nat.le_of_ble_eq_true rfl) (by decide) (by decide) (fun T5 h5 v5 S5 K5 q5 => ?_)
  obtain ⟨rfl, rfl⟩ := q5
  show own_F p e below s Z _ _ _ _ _ (T5.setTop (mkF m 22 #[.val (.ref aA), .val (.ref b1), .val (.int (0 : Int32))] [(.ref e1), (.int (0 : Int32)), (.ref b1)]))
  have fq7 := (X_e1.ext E1)
  refine own_aast S5 V2 (by decide) (Nat.le_of_ble_eq_true rfl) (Ins.of_exa fq7 (own_w hw 117 rfl)) d35_22 (Or.inr (by rw [g1]; exact S0.size)) (fun T6 h6 S6 W6 A6 => ?_)
  have V8 : own_AO Z h6 b1 [(.ref e1), .null, .null] := A6
  show own_F p e below s Z _ _ _ _ _ (T6.setTop (mkF m 23 #[.val (.ref aA), .val (.ref b1), .val (.int (0 : Int32))] []))
  refine own_F.of (fun _ => XS.iinc S6.here S6.hx rfl (S6.dec d35_23) rfl (l' := #[.val (.ref aA), .val (.ref b1), .val (.int (1 : Int32))]) rfl) ?_
  show own_F p e below s Z _ _ _ _ _ (T6.setTop (mkF m 26 #[.val (.ref aA), .val (.ref b1), .val (.int (1 : Int32))] []))
  refine own_F.of (fun _ => XS.goto S6.here S6.hx rfl (pc0 := 26) (pc' := 8) rfl (S6.dec d35_26) (by decide) (by decide)) ?_
  show own_F p e below s Z _ _ _ _ _ (T6.setTop (mkF m 8 #[.val (.ref aA), .val (.ref b1), .val (.int (1 : Int32))] []))
  refine own_F.of (fun _ => XS.iloadN S6.here S6.hx rfl (S6.dec d35_8) rfl) ?_
  refine own_F.of (fun _ => XS.aloadN S6.here S6.hx rfl (S6.dec d35_9) rfl rfl) ?_
  show own_F p e below s Z _ _ _ _ _ (T6.setTop (mkF m 10 #[.val (.ref aA), .val (.ref b1), .val (.int (1 : Int32))] [(.ref aA), (.int (1 : Int32))]))
  have fq9 := (fq3.other W6 (Nat.ne_of_lt (by rw [g1]; exact (AA.exa).lt)))
  refine own_len S6 fq9.A d35_10 ?_
  show own_F p e below s Z _ _ _ _ _ (T6.setTop (mkF m 11 #[.val (.ref aA), .val (.ref b1), .val (.int (1 : Int32))] [(.int (3 : Int32)), (.int (1 : Int32))]))
  refine own_icmp S6 29 d35_11 (by decide) (by decide) (fun (hc11_10 : ¬ ((1 : Int32) < (3 : Int32))) => False.elim (absurd hc11_10 (by decide))) (fun (hc11_10 : (1 : Int32) < (3 : Int32)) => ?_)
  show own_F p e below s Z _ _ _ _ _ (T6.setTop (mkF m 14 #[.val (.ref aA), .val (.ref b1), .val (.int (1 : Int32))] []))
  refine own_F.of (fun _ => XS.aloadN S6.here S6.hx rfl (S6.dec d35_14) rfl rfl) ?_
  refine own_F.of (fun _ => XS.iloadN S6.here S6.hx rfl (S6.dec d35_15) rfl) ?_
  refine own_F.of (fun _ => XS.aloadN S6.here S6.hx rfl (S6.dec d35_16) rfl rfl) ?_
  refine own_F.of (fun _ => XS.iloadN S6.here S6.hx rfl (S6.dec d35_17) rfl) ?_
  show own_F p e below s Z _ _ _ _ _ (T6.setTop (mkF m 18 #[.val (.ref aA), .val (.ref b1), .val (.int (1 : Int32))] [(.int (1 : Int32)), (.ref aA), (.int (1 : Int32)), (.ref b1)]))
  refine own_aald S6 fq9.A rfl (by decide) rfl d35_18 ?_
  show own_F p e below s Z _ _ _ _ _ (T6.setTop (mkF m 19 #[.val (.ref aA), .val (.ref b1), .val (.int (1 : Int32))] [(.ref e2), (.int (1 : Int32)), (.ref b1)]))
  refine own_callS S6 (y := (⟨"java/util/Objects", "requireNonNull", "(Ljava/lang/Object;)Ljava/lang/Object;"⟩ : MethodName)) (own_w hw 241 rfl) (own_w hw 203 rfl) (own_w hw 204 rfl) (own_w hw 205 rfl) (by decide) (argsL := [(.ref e2)]) (rest := [(.int (1 : Int32)), (.ref b1)]) (own_rnn l Z a0 hw e2 h6 S6.old) all0 (by decide +kernel : parseMethodDescriptor "(Ljava/lang/Object;)Ljava/lang/Object;" = some ⟨[(.object "java/lang/Object")], some (.object "java/lang/Object")⟩) rfl rfl rfl d35_19 (by decide) (Nat.le_of_ble_eq_true rfl) (by decide) (by decide) (fun T11 h11 v11 S11 K11 q11 => ?_)
  obtain ⟨rfl, rfl⟩ := q11
  show own_F p e below s Z _ _ _ _ _ (T11.setTop (mkF m 22 #[.val (.ref aA), .val (.ref b1), .val (.int (1 : Int32))] [(.ref e2), (.int (1 : Int32)), (.ref b1)]))
  have fq13 := ((X_e2.ext E1).wr W6)
  refine own_aast S11 V8 (by decide) (Nat.le_of_ble_eq_true rfl) (Ins.of_exa fq13 (own_w hw 117 rfl)) d35_22 (Or.inr (by rw [g1]; exact S0.size)) (fun T12 h12 S12 W12 A12 => ?_)
  have V14 : own_AO Z h12 b1 [(.ref e1), (.ref e2), .null] := A12
  show own_F p e below s Z _ _ _ _ _ (T12.setTop (mkF m 23 #[.val (.ref aA), .val (.ref b1), .val (.int (1 : Int32))] []))
  refine own_F.of (fun _ => XS.iinc S12.here S12.hx rfl (S12.dec d35_23) rfl (l' := #[.val (.ref aA), .val (.ref b1), .val (.int (2 : Int32))]) rfl) ?_
  show own_F p e below s Z _ _ _ _ _ (T12.setTop (mkF m 26 #[.val (.ref aA), .val (.ref b1), .val (.int (2 : Int32))] []))
  refine own_F.of (fun _ => XS.goto S12.here S12.hx rfl (pc0 := 26) (pc' := 8) rfl (S12.dec d35_26) (by decide) (by decide)) ?_
  show own_F p e below s Z _ _ _ _ _ (T12.setTop (mkF m 8 #[.val (.ref aA), .val (.ref b1), .val (.int (2 : Int32))] []))
  refine own_F.of (fun _ => XS.iloadN S12.here S12.hx rfl (S12.dec d35_8) rfl) ?_
  refine own_F.of (fun _ => XS.aloadN S12.here S12.hx rfl (S12.dec d35_9) rfl rfl) ?_
  show own_F p e below s Z _ _ _ _ _ (T12.setTop (mkF m 10 #[.val (.ref aA), .val (.ref b1), .val (.int (2 : Int32))] [(.ref aA), (.int (2 : Int32))]))
  have fq15 := (fq9.other W12 (Nat.ne_of_lt (by rw [g1]; exact (AA.exa).lt)))
  refine own_len S12 fq15.A d35_10 ?_
  show own_F p e below s Z _ _ _ _ _ (T12.setTop (mkF m 11 #[.val (.ref aA), .val (.ref b1), .val (.int (2 : Int32))] [(.int (3 : Int32)), (.int (2 : Int32))]))
  refine own_icmp S12 29 d35_11 (by decide) (by decide) (fun (hc11_16 : ¬ ((2 : Int32) < (3 : Int32))) => False.elim (absurd hc11_16 (by decide))) (fun (hc11_16 : (2 : Int32) < (3 : Int32)) => ?_)
  show own_F p e below s Z _ _ _ _ _ (T12.setTop (mkF m 14 #[.val (.ref aA), .val (.ref b1), .val (.int (2 : Int32))] []))
  refine own_F.of (fun _ => XS.aloadN S12.here S12.hx rfl (S12.dec d35_14) rfl rfl) ?_
  refine own_F.of (fun _ => XS.iloadN S12.here S12.hx rfl (S12.dec d35_15) rfl) ?_
  refine own_F.of (fun _ => XS.aloadN S12.here S12.hx rfl (S12.dec d35_16) rfl rfl) ?_
  refine own_F.of (fun _ => XS.iloadN S12.here S12.hx rfl (S12.dec d35_17) rfl) ?_
  show own_F p e below s Z _ _ _ _ _ (T12.setTop (mkF m 18 #[.val (.ref aA), .val (.ref b1), .val (.int (2 : Int32))] [(.int (2 : Int32)), (.ref aA), (.int (2 : Int32)), (.ref b1)]))
  refine own_aald S12 fq15.A rfl (by decide) rfl d35_18 ?_
  show own_F p e below s Z _ _ _ _ _ (T12.setTop (mkF m 19 #[.val (.ref aA), .val (.ref b1), .val (.int (2 : Int32))] [(.ref e3), (.int (2 : Int32)), (.ref b1)]))
  refine own_callS S12 (y := (⟨"java/util/Objects", "requireNonNull", "(Ljava/lang/Object;)Ljava/lang/Object;"⟩ : MethodName)) (own_w hw 241 rfl) (own_w hw 203 rfl) (own_w hw 204 rfl) (own_w hw 205 rfl) (by decide) (argsL := [(.ref e3)]) (rest := [(.int (2 : Int32)), (.ref b1)]) (own_rnn l Z a0 hw e3 h12 S12.old) all0 (by decide +kernel : parseMethodDescriptor "(Ljava/lang/Object;)Ljava/lang/Object;" = some ⟨[(.object "java/lang/Object")], some (.object "java/lang/Object")⟩) rfl rfl rfl d35_19 (by decide) (Nat.le_of_ble_eq_true rfl) (by decide) (by decide) (fun T17 h17 v17 S17 K17 q17 => ?_)
  obtain ⟨rfl, rfl⟩ := q17
  show own_F p e below s Z _ _ _ _ _ (T17.setTop (mkF m 22 #[.val (.ref aA), .val (.ref b1), .val (.int (2 : Int32))] [(.ref e3), (.int (2 : Int32)), (.ref b1)]))
  have fq19 := (((X_e3.ext E1).wr W6).wr W12)
  refine own_aast S17 V14 (by decide) (Nat.le_of_ble_eq_true rfl) (Ins.of_exa fq19 (own_w hw 117 rfl)) d35_22 (Or.inr (by rw [g1]; exact S0.size)) (fun T18 h18 S18 W18 A18 => ?_)
  have V20 : own_AO Z h18 b1 [(.ref e1), (.ref e2), (.ref e3)] := A18
  show own_F p e below s Z _ _ _ _ _ (T18.setTop (mkF m 23 #[.val (.ref aA), .val (.ref b1), .val (.int (2 : Int32))] []))
  refine own_F.of (fun _ => XS.iinc S18.here S18.hx rfl (S18.dec d35_23) rfl (l' := #[.val (.ref aA), .val (.ref b1), .val (.int (3 : Int32))]) rfl) ?_
  show own_F p e below s Z _ _ _ _ _ (T18.setTop (mkF m 26 #[.val (.ref aA), .val (.ref b1), .val (.int (3 : Int32))] []))
  refine own_F.of (fun _ => XS.goto S18.here S18.hx rfl (pc0 := 26) (pc' := 8) rfl (S18.dec d35_26) (by decide) (by decide)) ?_
  show own_F p e below s Z _ _ _ _ _ (T18.setTop (mkF m 8 #[.val (.ref aA), .val (.ref b1), .val (.int (3 : Int32))] []))
  refine own_F.of (fun _ => XS.iloadN S18.here S18.hx rfl (S18.dec d35_8) rfl) ?_
  refine own_F.of (fun _ => XS.aloadN S18.here S18.hx rfl (S18.dec d35_9) rfl rfl) ?_
  show own_F p e below s Z _ _ _ _ _ (T18.setTop (mkF m 10 #[.val (.ref aA), .val (.ref b1), .val (.int (3 : Int32))] [(.ref aA), (.int (3 : Int32))]))
  have fq21 := (fq15.other W18 (Nat.ne_of_lt (by rw [g1]; exact (AA.exa).lt)))
  refine own_len S18 fq21.A d35_10 ?_
  show own_F p e below s Z _ _ _ _ _ (T18.setTop (mkF m 11 #[.val (.ref aA), .val (.ref b1), .val (.int (3 : Int32))] [(.int (3 : Int32)), (.int (3 : Int32))]))
  refine own_icmp S18 29 d35_11 (by decide) (by decide) (fun (hc11_22 : ¬ ((3 : Int32) < (3 : Int32))) => ?_) (fun (hc11_22 : (3 : Int32) < (3 : Int32)) => False.elim (absurd hc11_22 (by decide)))
  show own_F p e below s Z _ _ _ _ _ (T18.setTop (mkF m 29 #[.val (.ref aA), .val (.ref b1), .val (.int (3 : Int32))] []))
  refine own_new S18 (own_w hw 52 rfl) (own_w hw 242 rfl) (own_w hw 130 rfl) d35_29 (by decide) (by decide) (fun T23 h23 b23 g23 S23 E23 A23 D23 => ?_)
  have F23_allowNulls : Fld Z h23 b23 "java/util/ImmutableCollections$ListN" "allowNulls" "Z" (.int (0 : Int32)) := (D23 (Or.inr (own_w hw 82 rfl)) (ty := .boolean) (by decide))
  have F23_elements : Fld Z h23 b23 "java/util/ImmutableCollections$ListN" "elements" "[Ljava/lang/Object;" .null := (D23 (Or.inr (own_w hw 133 rfl)) (ty := (.array (.object "java/lang/Object"))) (by decide))
  show own_F p e below s Z _ _ _ _ _ (T23.setTop (mkF m 32 #[.val (.ref aA), .val (.ref b1), .val (.int (3 : Int32))] [(.ref b23)]))
  refine own_F.of (fun _ => XS.dup S23.here S23.hx rfl (S23.dec d35_32) rfl rfl) ?_
  refine own_F.of (fun _ => XS.aloadN S23.here S23.hx rfl (S23.dec d35_33) rfl rfl) ?_
  refine own_F.of (fun _ => XS.iconst S23.here S23.hx rfl (S23.dec d35_34)) ?_
  show own_F p e below s Z _ _ _ _ _ (T23.setTop (mkF m 35 #[.val (.ref aA), .val (.ref b1), .val (.int (3 : Int32))] [(.int (0 : Int32)), (.ref b1), (.ref b23), (.ref b23)]))
  refine own_callN S23 (y := (⟨"java/util/ImmutableCollections$ListN", "<init>", "([Ljava/lang/Object;Z)V"⟩ : MethodName)) rfl (own_w hw 243 rfl) (own_w hw 244 rfl) (own_w hw 130 rfl) (own_w hw 245 rfl) (by decide) (argsL := [(.ref b1), (.int (0 : Int32))]) (rest := [(.ref b23)]) (own_LNI l Z a0 hw b23 b1 h23 S23.old (own_mayN S23 (Or.inr (by rw [g23]; exact S18.size))) A23 F23_elements F23_allowNulls) (allS (Or.inr (by rw [g23]; exact S18.size)) all0) (by decide +kernel : parseMethodDescriptor "([Ljava/lang/Object;Z)V" = some ⟨[(.array (.object "java/lang/Object")), .boolean], none⟩) rfl rfl rfl d35_35 (by decide) (Nat.le_of_ble_eq_true rfl) (by decide) (by decide) (fun T24 h24 v24 S24 K24 q24 => ?_)
  obtain ⟨rfl, Fe24, Fa24⟩ := q24
  show own_F p e below s Z _ _ _ _ _ (T24.setTop (mkF m 38 #[.val (.ref aA), .val (.ref b1), .val (.int (3 : Int32))] [(.ref b23)]))
  have fq25 := (A23.keep K24)
  have fq26 := ((V20.ext E23).keep K24 (ninS (ne_exa ((V20.exa.ext E23).keep K24) fq25 (by decide)) nin0))
  refine own_retA S24 rfl rfl d35_38 (by decide) (by decide) ?_
  exact ⟨_, rfl, _, fq25, Fe24, fq26, Fa24⟩
theorem d25_0 : decode jdk_29_method_69_code 0 = .ok (.iload_n 0, 1) := by decide +kernel
theorem d25_1 : decode jdk_29_method_69_code 1 = .ok (.iload_n 1, 1) := by decide +kernel
theorem d25_2 : decode jdk_29_method_69_code 2 = .ok (.if_icmp .gt 7, 3) := by decide +kernel
theorem d25_5 : decode jdk_29_method_69_code 5 = .ok (.iload_n 0, 1) := by decide +kernel
theorem d25_6 : decode jdk_29_method_69_code 6 = .ok (.goto 4, 3) := by decide +kernel
theorem d25_9 : decode jdk_29_method_69_code 9 = .ok (.iload_n 1, 1) := by decide +kernel
theorem d25_10 : decode jdk_29_method_69_code 10 = .ok (.ireturn, 1) := by decide +kernel
theorem pn25 : plainFor (⟨"java/lang/Math", "min", "(II)I"⟩ : MethodName) = true := Jvm.Free.JP.mathPlain rfl (by decide +kernel)
set_option maxRecDepth 65536 in
set_option maxHeartbeats 40000000 in
theorem own_min1 (l : Launch) (Z : State) (a0 : Array Value) (hw : ∀ d ∈ tables_1, d.before a0 Z = true)  (h0 : Heap) (hO : Ext Z.heap h0) :
    own_C l Z (⟨"java/lang/Math", "min", "(II)I"⟩ : MethodName) jdk_29_method_69_code 2 (some .int) [] ({ frames := 0, cells := 0, slots := 0, locals := 0 } : Room) [] #[(.int (10 : Int32)), (.int (1 : Int32))] h0 (fun v h => v = some (.int (1 : Int32)) ∧ h0 = h) := by
  refine own_C.of pn25 hO all0 ?_
  intro p e s m below meth c T0 S0
  refine own_F.cast (by first | (simp [entryFrame, mkF, argsToLocals, Value.category]; done) | rfl : entryFrame m #[(.int (10 : Int32)), (.int (1 : Int32))] 2 = mkF m 0 #[.val (.int (10 : Int32)), .val (.int (1 : Int32))] []) ?_
  show own_F p e below s Z _ _ _ _ _ (T0.setTop (mkF m 0 #[.val (.int (10 : Int32)), .val (.int (1 : Int32))] []))
  refine own_F.of (fun _ => XS.iloadN S0.here S0.hx rfl (S0.dec d25_0) rfl) ?_
  refine own_F.of (fun _ => XS.iloadN S0.here S0.hx rfl (S0.dec d25_1) rfl) ?_
  show own_F p e below s Z _ _ _ _ _ (T0.setTop (mkF m 2 #[.val (.int (10 : Int32)), .val (.int (1 : Int32))] [(.int (1 : Int32)), (.int (10 : Int32))]))
  refine own_icmp S0 9 d25_2 (by decide) (by decide) (fun (hc2_1 : (1 : Int32) < (10 : Int32)) => ?_) (fun (hc2_1 : ¬ ((1 : Int32) < (10 : Int32))) => False.elim (absurd hc2_1 (by decide)))
  show own_F p e below s Z _ _ _ _ _ (T0.setTop (mkF m 9 #[.val (.int (10 : Int32)), .val (.int (1 : Int32))] []))
  refine own_F.of (fun _ => XS.iloadN S0.here S0.hx rfl (S0.dec d25_9) rfl) ?_
  show own_F p e below s Z _ _ _ _ _ (T0.setTop (mkF m 10 #[.val (.int (10 : Int32)), .val (.int (1 : Int32))] [(.int (1 : Int32))]))
  refine own_retI S0 d25_10 (by decide) (by decide) ?_
  exact ⟨rfl, rfl⟩
theorem d24_0 : decode jdk_65_method_120_code 0 = .ok (.aload_n 2, 1) := by decide +kernel
theorem d24_1 : decode jdk_65_method_120_code 1 = .ok (.ldc 110, 2) := by decide +kernel
theorem d24_3 : decode jdk_65_method_120_code 3 = .ok (.if_acmp .ne 10, 3) := by decide +kernel
theorem d24_6 : decode jdk_65_method_120_code 6 = .ok (.iload_n 1, 1) := by decide +kernel
theorem d24_7 : decode jdk_65_method_120_code 7 = .ok (.anewarray 2, 3) := by decide +kernel
theorem d24_10 : decode jdk_65_method_120_code 10 = .ok (.goto 14, 3) := by decide +kernel
theorem d24_13 : decode jdk_65_method_120_code 13 = .ok (.aload_n 2, 1) := by decide +kernel
theorem d24_14 : decode jdk_65_method_120_code 14 = .ok (.invokevirtual 90, 3) := by decide +kernel
theorem d24_17 : decode jdk_65_method_120_code 17 = .ok (.iload_n 1, 1) := by decide +kernel
theorem d24_18 : decode jdk_65_method_120_code 18 = .ok (.invokestatic 95, 3) := by decide +kernel
theorem d24_21 : decode jdk_65_method_120_code 21 = .ok (.checkcast 110, 3) := by decide +kernel
theorem d24_24 : decode jdk_65_method_120_code 24 = .ok (.astore_n 3, 1) := by decide +kernel
theorem d24_25 : decode jdk_65_method_120_code 25 = .ok (.aload_n 0, 1) := by decide +kernel
theorem d24_26 : decode jdk_65_method_120_code 26 = .ok (.iconst 0, 1) := by decide +kernel
theorem d24_27 : decode jdk_65_method_120_code 27 = .ok (.aload_n 3, 1) := by decide +kernel
theorem d24_28 : decode jdk_65_method_120_code 28 = .ok (.iconst 0, 1) := by decide +kernel
theorem d24_29 : decode jdk_65_method_120_code 29 = .ok (.aload_n 0, 1) := by decide +kernel
theorem d24_30 : decode jdk_65_method_120_code 30 = .ok (.arraylength, 1) := by decide +kernel
theorem d24_31 : decode jdk_65_method_120_code 31 = .ok (.iload_n 1, 1) := by decide +kernel
theorem d24_32 : decode jdk_65_method_120_code 32 = .ok (.invokestatic 304, 3) := by decide +kernel
theorem d24_35 : decode jdk_65_method_120_code 35 = .ok (.invokestatic 150, 3) := by decide +kernel
theorem d24_38 : decode jdk_65_method_120_code 38 = .ok (.aload_n 3, 1) := by decide +kernel
theorem d24_39 : decode jdk_65_method_120_code 39 = .ok (.areturn, 1) := by decide +kernel
theorem pn24 : plainFor (⟨"java/util/Arrays", "copyOf", "([Ljava/lang/Object;ILjava/lang/Class;)[Ljava/lang/Object;"⟩ : MethodName) = true := plainFor_of_name (by first | (simp [plainName, overriddenIn]; done) | decide +kernel)
set_option maxRecDepth 65536 in
set_option maxHeartbeats 40000000 in
theorem own_cpy3_1 (l : Launch) (Z : State) (a0 : Array Value) (hw : ∀ d ∈ tables_1, d.before a0 Z = true) (aE : Addr) (e1 : Addr) (mO : Addr) (h0 : Heap) (hO : Ext Z.heap h0) (AE : own_AO Z h0 aE [(.ref e1), .null, .null, .null, .null, .null, .null, .null, .null, .null]) (X_e1 : Exa Z h0 e1 "java/lang/Integer") (MO : Mir Z "[Ljava/lang/Object;" mO) :
    own_C l Z (⟨"java/util/Arrays", "copyOf", "([Ljava/lang/Object;ILjava/lang/Class;)[Ljava/lang/Object;"⟩ : MethodName) jdk_65_method_120_code 4 (some (.array (.object "java/lang/Object"))) [] ({ frames := 1, cells := 1, slots := 1, locals := 18 } : Room) [] #[(.ref aE), (.int (1 : Int32)), (.ref mO)] h0 (fun v h => ∃ b, v = some (.ref b) ∧ own_AO Z h b [(.ref e1)]) := by
  refine own_C.of pn24 hO all0 ?_
  intro p e s m below meth c T0 S0
  refine own_F.cast (by first | (simp [entryFrame, mkF, argsToLocals, Value.category]; done) | rfl : entryFrame m #[(.ref aE), (.int (1 : Int32)), (.ref mO)] 4 = mkF m 0 #[.val (.ref aE), .val (.int (1 : Int32)), .val (.ref mO), .unset] []) ?_
  show own_F p e below s Z _ _ _ _ _ (T0.setTop (mkF m 0 #[.val (.ref aE), .val (.int (1 : Int32)), .val (.ref mO), .unset] []))
  refine own_F.of (fun _ => XS.aloadN S0.here S0.hx rfl (S0.dec d24_0) rfl rfl) ?_
  show own_F p e below s Z _ _ _ _ _ (T0.setTop (mkF m 1 #[.val (.ref aE), .val (.int (1 : Int32)), .val (.ref mO), .unset] [(.ref mO)]))
  refine own_ldcM S0 (own_w hw 169 rfl) MO d24_1 (fun T1 S1 => ?_)
  show own_F p e below s Z _ _ _ _ _ (T1.setTop (mkF m 3 #[.val (.ref aE), .val (.int (1 : Int32)), .val (.ref mO), .unset] [(.ref mO), (.ref mO)]))
  refine own_acmp S1 rfl rfl 13 d24_3 (by decide) (by decide) (fun (hc3_2 : ¬ ((Value.ref mO) = (Value.ref mO))) => False.elim (hc3_2 rfl)) (fun (hc3_2 : (Value.ref mO) = (Value.ref mO)) => ?_)
  show own_F p e below s Z _ _ _ _ _ (T1.setTop (mkF m 6 #[.val (.ref aE), .val (.int (1 : Int32)), .val (.ref mO), .unset] []))
  refine own_F.of (fun _ => XS.iloadN S1.here S1.hx rfl (S1.dec d24_6) rfl) ?_
  show own_F p e below s Z _ _ _ _ _ (T1.setTop (mkF m 7 #[.val (.ref aE), .val (.int (1 : Int32)), .val (.ref mO), .unset] [(.int (1 : Int32))]))
  refine own_anew S1 (own_w hw 170 rfl) (own_w hw 116 rfl) d24_7 (by decide) (cap := 1) (by decide) (by decide) (by decide) (by decide) (fun T3 h3 b3 g3 S3 E3 A3 => ?_)
  have V4 : own_AO Z h3 b3 [.null] := A3
  show own_F p e below s Z _ _ _ _ _ (T3.setTop (mkF m 10 #[.val (.ref aE), .val (.int (1 : Int32)), .val (.ref mO), .unset] [(.ref b3)]))
  refine own_F.of (fun _ => XS.goto S3.here S3.hx rfl (pc0 := 10) (pc' := 24) rfl (S3.dec d24_10) (by decide) (by decide)) ?_
  show own_F p e below s Z _ _ _ _ _ (T3.setTop (mkF m 24 #[.val (.ref aE), .val (.int (1 : Int32)), .val (.ref mO), .unset] [(.ref b3)]))
  refine own_F.of (fun _ => XS.astoreN S3.here S3.hx rfl (S3.dec d24_24) rfl rfl (l' := #[.val (.ref aE), .val (.int (1 : Int32)), .val (.ref mO), .val (.ref b3)]) rfl) ?_
  show own_F p e below s Z _ _ _ _ _ (T3.setTop (mkF m 25 #[.val (.ref aE), .val (.int (1 : Int32)), .val (.ref mO), .val (.ref b3)] []))
  refine own_F.of (fun _ => XS.aloadN S3.here S3.hx rfl (S3.dec d24_25) rfl rfl) ?_
  refine own_F.of (fun _ => XS.iconst S3.here S3.hx rfl (S3.dec d24_26)) ?_
  refine own_F.of (fun _ => XS.aloadN S3.here S3.hx rfl (S3.dec d24_27) rfl rfl) ?_
  refine own_F.of (fun _ => XS.iconst S3.here S3.hx rfl (S3.dec d24_28)) ?_
  refine own_F.of (fun _ => XS.aloadN S3.here S3.hx rfl (S3.dec d24_29) rfl rfl) ?_
  show own_F p e below s Z _ _ _ _ _ (T3.setTop (mkF m 30 #[.val (.ref aE), .val (.int (1 : Int32)), .val (.ref mO), .val (.ref b3)] [(.ref aE), (.int (0 : Int32)), (.ref b3), (.int (0 : Int32)), (.ref aE)]))
  have fq5 := (AE.ext E3)
  refine own_len S3 fq5.A d24_30 ?_
  show own_F p e below s Z _ _ _ _ _ (T3.setTop (mkF m 31 #[.val (.ref aE), .val (.int (1 : Int32)), .val (.ref mO), .val (.ref b3)] [(.int (10 : Int32)), (.int (0 : Int32)), (.ref b3), (.int (0 : Int32)), (.ref aE)]))
  refine own_F.of (fun _ => XS.iloadN S3.here S3.hx rfl (S3.dec d24_31) rfl) ?_
  show own_F p e below s Z _ _ _ _ _ (T3.setTop (mkF m 32 #[.val (.ref aE), .val (.int (1 : Int32)), .val (.ref mO), .val (.ref b3)] [(.int (1 : Int32)), (.int (10 : Int32)), (.int (0 : Int32)), (.ref b3), (.int (0 : Int32)), (.ref aE)]))
  refine own_callS S3 (y := (⟨"java/lang/Math", "min", "(II)I"⟩ : MethodName)) (own_w hw 171 rfl) (own_w hw 172 rfl) (own_w hw 113 rfl) (own_w hw 173 rfl) (by decide) (argsL := [(.int (10 : Int32)), (.int (1 : Int32))]) (rest := [(.int (0 : Int32)), (.ref b3), (.int (0 : Int32)), (.ref aE)]) (own_min1 l Z a0 hw h3 S3.old) all0 (by decide +kernel : parseMethodDescriptor "(II)I" = some ⟨[.int, .int], some .int⟩) rfl rfl rfl d24_32 (by decide) (Nat.le_of_ble_eq_true rfl) (by decide) (by decide) (fun T6 h6 v6 S6 K6 q6 => ?_)
  obtain ⟨rfl, rfl⟩ := q6
  show own_F p e below s Z _ _ _ _ _ (T6.setTop (mkF m 35 #[.val (.ref aE), .val (.int (1 : Int32)), .val (.ref mO), .val (.ref b3)] [(.int (1 : Int32)), (.int (0 : Int32)), (.ref b3), (.int (0 : Int32)), (.ref aE)]))
  have fq8 := (X_e1.ext E3)
  refine own_copy S6 (own_w hw 174 rfl) (own_w hw 177 rfl) (own_w hw 175 rfl) (own_w hw 176 rfl) fq5 V4 (by decide) (Nat.le_of_ble_eq_true rfl) (Nat.le_of_ble_eq_true rfl) [(.ref e1)] rfl ⟨own_sto V4 (Ins.of_exa fq8 (own_w hw 117 rfl)), trivial⟩ (Or.inr (by rw [g3]; exact S1.size)) rfl d24_35 (by decide) (Nat.le_of_ble_eq_true rfl) (fun T7 h7 S7 K7 A7 => ?_)
  have V9 : own_AO Z h7 b3 [(.ref e1)] := A7
  show own_F p e below s Z _ _ _ _ _ (T7.setTop (mkF m 38 #[.val (.ref aE), .val (.int (1 : Int32)), .val (.ref mO), .val (.ref b3)] []))
  refine own_F.of (fun _ => XS.aloadN S7.here S7.hx rfl (S7.dec d24_38) rfl rfl) ?_
  show own_F p e below s Z _ _ _ _ _ (T7.setTop (mkF m 39 #[.val (.ref aE), .val (.int (1 : Int32)), .val (.ref mO), .val (.ref b3)] [(.ref b3)]))
  refine own_retA S7 rfl rfl d24_39 (by decide) (by decide) ?_
  exact ⟨_, rfl, V9⟩
theorem d23_0 : decode jdk_65_method_119_code 0 = .ok (.aload_n 0, 1) := by decide +kernel
theorem d23_1 : decode jdk_65_method_119_code 1 = .ok (.iload_n 1, 1) := by decide +kernel
theorem d23_2 : decode jdk_65_method_119_code 2 = .ok (.aload_n 0, 1) := by decide +kernel
theorem d23_3 : decode jdk_65_method_119_code 3 = .ok (.invokevirtual 86, 3) := by decide +kernel
theorem d23_6 : decode jdk_65_method_119_code 6 = .ok (.invokestatic 300, 3) := by decide +kernel
theorem d23_9 : decode jdk_65_method_119_code 9 = .ok (.areturn, 1) := by decide +kernel
theorem pn23 : plainFor (⟨"java/util/Arrays", "copyOf", "([Ljava/lang/Object;I)[Ljava/lang/Object;"⟩ : MethodName) = true := plainFor_of_name (by first | (simp [plainName, overriddenIn]; done) | decide +kernel)
set_option maxRecDepth 65536 in
set_option maxHeartbeats 40000000 in
theorem own_cpy1 (l : Launch) (Z : State) (a0 : Array Value) (hw : ∀ d ∈ tables_1, d.before a0 Z = true) (aE : Addr) (e1 : Addr) (mO : Addr) (h0 : Heap) (hO : Ext Z.heap h0) (AE : own_AO Z h0 aE [(.ref e1), .null, .null, .null, .null, .null, .null, .null, .null, .null]) (X_e1 : Exa Z h0 e1 "java/lang/Integer") (MO : Mir Z "[Ljava/lang/Object;" mO) :
    own_C l Z (⟨"java/util/Arrays", "copyOf", "([Ljava/lang/Object;I)[Ljava/lang/Object;"⟩ : MethodName) jdk_65_method_119_code 2 (some (.array (.object "java/lang/Object"))) [] ({ frames := 2, cells := 1, slots := 1, locals := 33 } : Room) [] #[(.ref aE), (.int (1 : Int32))] h0 (fun v h => ∃ b, v = some (.ref b) ∧ own_AO Z h b [(.ref e1)]) := by
  refine own_C.of pn23 hO all0 ?_
  intro p e s m below meth c T0 S0
  refine own_F.cast (by first | (simp [entryFrame, mkF, argsToLocals, Value.category]; done) | rfl : entryFrame m #[(.ref aE), (.int (1 : Int32))] 2 = mkF m 0 #[.val (.ref aE), .val (.int (1 : Int32))] []) ?_
  show own_F p e below s Z _ _ _ _ _ (T0.setTop (mkF m 0 #[.val (.ref aE), .val (.int (1 : Int32))] []))
  refine own_F.of (fun _ => XS.aloadN S0.here S0.hx rfl (S0.dec d23_0) rfl rfl) ?_
  refine own_F.of (fun _ => XS.iloadN S0.here S0.hx rfl (S0.dec d23_1) rfl) ?_
  refine own_F.of (fun _ => XS.aloadN S0.here S0.hx rfl (S0.dec d23_2) rfl rfl) ?_
  show own_F p e below s Z _ _ _ _ _ (T0.setTop (mkF m 3 #[.val (.ref aE), .val (.int (1 : Int32))] [(.ref aE), (.int (1 : Int32)), (.ref aE)]))
  refine own_gcls S0 (own_w hw 160 rfl) (own_w hw 161 rfl) (own_w hw 51 rfl) (own_w hw 163 rfl) (own_w hw 162 rfl) (own_w hw 164 rfl) AE.exa MO rfl d23_3 (by decide) (Nat.le_of_ble_eq_true rfl) (fun T1 S1 => ?_)
  show own_F p e below s Z _ _ _ _ _ (T1.setTop (mkF m 6 #[.val (.ref aE), .val (.int (1 : Int32))] [(.ref mO), (.int (1 : Int32)), (.ref aE)]))
  refine own_callS S1 (y := (⟨"java/util/Arrays", "copyOf", "([Ljava/lang/Object;ILjava/lang/Class;)[Ljava/lang/Object;"⟩ : MethodName)) (own_w hw 166 rfl) (own_w hw 167 rfl) (own_w hw 158 rfl) (own_w hw 168 rfl) (by decide) (argsL := [(.ref aE), (.int (1 : Int32)), (.ref mO)]) (rest := []) (own_cpy3_1 l Z a0 hw aE e1 mO h0 S1.old AE X_e1 MO) all0 (by decide +kernel : parseMethodDescriptor "([Ljava/lang/Object;ILjava/lang/Class;)[Ljava/lang/Object;" = some ⟨[(.array (.object "java/lang/Object")), .int, (.object "java/lang/Class")], some (.array (.object "java/lang/Object"))⟩) rfl rfl rfl d23_6 (by decide) (Nat.le_of_ble_eq_true rfl) (by decide) (by decide) (fun T2 h2 v2 S2 K2 q2 => ?_)
  obtain ⟨b2, rfl, F2⟩ := q2
  show own_F p e below s Z _ _ _ _ _ (T2.setTop (mkF m 9 #[.val (.ref aE), .val (.int (1 : Int32))] [(.ref b2)]))
  refine own_retA S2 rfl rfl d23_9 (by decide) (by decide) ?_
  exact ⟨_, rfl, F2⟩
theorem d22_0 : decode jdk_38_method_16_code 0 = .ok (.aload_n 0, 1) := by decide +kernel
theorem d22_1 : decode jdk_38_method_16_code 1 = .ok (.getfield 9, 3) := by decide +kernel
theorem d22_4 : decode jdk_38_method_16_code 4 = .ok (.aload_n 0, 1) := by decide +kernel
theorem d22_5 : decode jdk_38_method_16_code 5 = .ok (.getfield 48, 3) := by decide +kernel
theorem d22_8 : decode jdk_38_method_16_code 8 = .ok (.invokestatic 66, 3) := by decide +kernel
theorem d22_11 : decode jdk_38_method_16_code 11 = .ok (.areturn, 1) := by decide +kernel
theorem pn22 : plainFor (⟨"java/util/ArrayList", "toArray", "()[Ljava/lang/Object;"⟩ : MethodName) = true := plainFor_of_name (by first | (simp [plainName, overriddenIn]; done) | decide +kernel)
set_option maxRecDepth 65536 in
set_option maxHeartbeats 40000000 in
theorem own_toArr1 (l : Launch) (Z : State) (a0 : Array Value) (hw : ∀ d ∈ tables_1, d.before a0 Z = true) (a1 aE : Addr) (e1 : Addr) (mO : Addr) (h0 : Heap) (hO : Ext Z.heap h0) (F_elementData : Fld Z h0 a1 "java/util/ArrayList" "elementData" "[Ljava/lang/Object;" (.ref aE)) (F_size : Fld Z h0 a1 "java/util/ArrayList" "size" "I" (.int (1 : Int32))) (AE : own_AO Z h0 aE [(.ref e1), .null, .null, .null, .null, .null, .null, .null, .null, .null]) (X_e1 : Exa Z h0 e1 "java/lang/Integer") (MO : Mir Z "[Ljava/lang/Object;" mO) :
    own_C l Z (⟨"java/util/ArrayList", "toArray", "()[Ljava/lang/Object;"⟩ : MethodName) jdk_38_method_16_code 1 (some (.array (.object "java/lang/Object"))) [] ({ frames := 3, cells := 1, slots := 1, locals := 46 } : Room) [] #[(.ref a1)] h0 (fun v h => ∃ b, v = some (.ref b) ∧ own_AO Z h b [(.ref e1)]) := by
  refine own_C.of pn22 hO all0 ?_
  intro p e s m below meth c T0 S0
  refine own_F.cast (by first | (simp [entryFrame, mkF, argsToLocals, Value.category]; done) | rfl : entryFrame m #[(.ref a1)] 1 = mkF m 0 #[.val (.ref a1)] []) ?_
  show own_F p e below s Z _ _ _ _ _ (T0.setTop (mkF m 0 #[.val (.ref a1)] []))
  refine own_F.of (fun _ => XS.aloadN S0.here S0.hx rfl (S0.dec d22_0) rfl rfl) ?_
  show own_F p e below s Z _ _ _ _ _ (T0.setTop (mkF m 1 #[.val (.ref a1)] [(.ref a1)]))
  refine own_getF S0 (host := "") (Or.inl (own_w hw 31 rfl)) Via.refl F_elementData d22_1 (fun T1 S1 => ?_)
  show own_F p e below s Z _ _ _ _ _ (T1.setTop (mkF m 4 #[.val (.ref a1)] [(.ref aE)]))
  refine own_F.of (fun _ => XS.aloadN S1.here S1.hx rfl (S1.dec d22_4) rfl rfl) ?_
  show own_F p e below s Z _ _ _ _ _ (T1.setTop (mkF m 5 #[.val (.ref a1)] [(.ref a1), (.ref aE)]))
  refine own_getF S1 (host := "") (Or.inl (own_w hw 62 rfl)) Via.refl F_size d22_5 (fun T2 S2 => ?_)
  show own_F p e below s Z _ _ _ _ _ (T2.setTop (mkF m 8 #[.val (.ref a1)] [(.int (1 : Int32)), (.ref aE)]))
  refine own_callS S2 (y := (⟨"java/util/Arrays", "copyOf", "([Ljava/lang/Object;I)[Ljava/lang/Object;"⟩ : MethodName)) (own_w hw 156 rfl) (own_w hw 157 rfl) (own_w hw 158 rfl) (own_w hw 159 rfl) (by decide) (argsL := [(.ref aE), (.int (1 : Int32))]) (rest := []) (own_cpy1 l Z a0 hw aE e1 mO h0 S2.old AE X_e1 MO) all0 (by decide +kernel : parseMethodDescriptor "([Ljava/lang/Object;I)[Ljava/lang/Object;" = some ⟨[(.array (.object "java/lang/Object")), .int], some (.array (.object "java/lang/Object"))⟩) rfl rfl rfl d22_8 (by decide) (Nat.le_of_ble_eq_true rfl) (by decide) (by decide) (fun T3 h3 v3 S3 K3 q3 => ?_)
  obtain ⟨b3, rfl, F3⟩ := q3
  show own_F p e below s Z _ _ _ _ _ (T3.setTop (mkF m 11 #[.val (.ref a1)] [(.ref b3)]))
  refine own_retA S3 rfl rfl d22_11 (by decide) (by decide) ?_
  exact ⟨_, rfl, F3⟩
theorem d26_0 : decode jdk_40_method_47_code 0 = .ok (.aload_n 0, 1) := by decide +kernel
theorem d26_1 : decode jdk_40_method_47_code 1 = .ok (.arraylength, 1) := by decide +kernel
theorem d26_2 : decode jdk_40_method_47_code 2 = .ok (.tableswitch 57 0 2 #[26, 32, 43], 26) := by decide +kernel
theorem d26_28 : decode jdk_40_method_47_code 28 = .ok (.getstatic 90, 3) := by decide +kernel
theorem d26_31 : decode jdk_40_method_47_code 31 = .ok (.astore_n 1, 1) := by decide +kernel
theorem d26_32 : decode jdk_40_method_47_code 32 = .ok (.aload_n 1, 1) := by decide +kernel
theorem d26_33 : decode jdk_40_method_47_code 33 = .ok (.areturn, 1) := by decide +kernel
theorem d26_34 : decode jdk_40_method_47_code 34 = .ok (.new 96, 3) := by decide +kernel
theorem d26_37 : decode jdk_40_method_47_code 37 = .ok (.dup, 1) := by decide +kernel
theorem d26_38 : decode jdk_40_method_47_code 38 = .ok (.aload_n 0, 1) := by decide +kernel
theorem d26_39 : decode jdk_40_method_47_code 39 = .ok (.iconst 0, 1) := by decide +kernel
theorem d26_40 : decode jdk_40_method_47_code 40 = .ok (.aaload, 1) := by decide +kernel
theorem d26_41 : decode jdk_40_method_47_code 41 = .ok (.invokespecial 98, 3) := by decide +kernel
theorem d26_44 : decode jdk_40_method_47_code 44 = .ok (.areturn, 1) := by decide +kernel
theorem d26_45 : decode jdk_40_method_47_code 45 = .ok (.new 96, 3) := by decide +kernel
theorem d26_48 : decode jdk_40_method_47_code 48 = .ok (.dup, 1) := by decide +kernel
theorem d26_49 : decode jdk_40_method_47_code 49 = .ok (.aload_n 0, 1) := by decide +kernel
theorem d26_50 : decode jdk_40_method_47_code 50 = .ok (.iconst 0, 1) := by decide +kernel
theorem d26_51 : decode jdk_40_method_47_code 51 = .ok (.aaload, 1) := by decide +kernel
theorem d26_52 : decode jdk_40_method_47_code 52 = .ok (.aload_n 0, 1) := by decide +kernel
theorem d26_53 : decode jdk_40_method_47_code 53 = .ok (.iconst 1, 1) := by decide +kernel
theorem d26_54 : decode jdk_40_method_47_code 54 = .ok (.aaload, 1) := by decide +kernel
theorem d26_55 : decode jdk_40_method_47_code 55 = .ok (.invokespecial 100, 3) := by decide +kernel
theorem d26_58 : decode jdk_40_method_47_code 58 = .ok (.areturn, 1) := by decide +kernel
theorem d26_59 : decode jdk_40_method_47_code 59 = .ok (.aload_n 0, 1) := by decide +kernel
theorem d26_60 : decode jdk_40_method_47_code 60 = .ok (.invokestatic 109, 3) := by decide +kernel
theorem d26_63 : decode jdk_40_method_47_code 63 = .ok (.areturn, 1) := by decide +kernel
theorem pn26 : plainFor (⟨"java/util/List", "of", "([Ljava/lang/Object;)Ljava/util/List;"⟩ : MethodName) = true := plainFor_of_name (by first | (simp [plainName, overriddenIn]; done) | decide +kernel)
set_option maxRecDepth 65536 in
set_option maxHeartbeats 40000000 in
theorem own_of1 (l : Launch) (Z : State) (a0 : Array Value) (hw : ∀ d ∈ tables_1, d.before a0 Z = true) (aA : Addr) (e1 : Addr) (aM : Addr) (h0 : Heap) (hO : Ext Z.heap h0) (SM : Sta Z Z.heap "java/util/ImmutableCollections" "EMPTY" "Ljava/lang/Object;" (.ref aM)) (AA : own_AO Z h0 aA [(.ref e1)]) (X_e1 : Exa Z h0 e1 "java/lang/Integer") :
    own_C l Z (⟨"java/util/List", "of", "([Ljava/lang/Object;)Ljava/util/List;"⟩ : MethodName) jdk_40_method_47_code 2 (some (.object "java/util/List")) [] ({ frames := 5, cells := 1, slots := 2, locals := 62 } : Room) [] #[(.ref aA)] h0 (fun v h => ∃ b, v = some (.ref b) ∧ Exa Z h b "java/util/ImmutableCollections$List12" ∧ Fld Z h b "java/util/ImmutableCollections$List12" "e0" "Ljava/lang/Object;" (.ref e1) ∧ Fld Z h b "java/util/ImmutableCollections$List12" "e1" "Ljava/lang/Object;" (.ref aM)) := by
  refine own_C.of pn26 hO all0 ?_
  intro p e s m below meth c T0 S0
  refine own_F.cast (by first | (simp [entryFrame, mkF, argsToLocals, Value.category]; done) | rfl : entryFrame m #[(.ref aA)] 2 = mkF m 0 #[.val (.ref aA), .unset] []) ?_
  show own_F p e below s Z _ _ _ _ _ (T0.setTop (mkF m 0 #[.val (.ref aA), .unset] []))
  refine own_F.of (fun _ => XS.aloadN S0.here S0.hx rfl (S0.dec d26_0) rfl rfl) ?_
  show own_F p e below s Z _ _ _ _ _ (T0.setTop (mkF m 1 #[.val (.ref aA), .unset] [(.ref aA)]))
  refine own_len S0 AA.A d26_1 ?_
  show own_F p e below s Z _ _ _ _ _ (T0.setTop (mkF m 2 #[.val (.ref aA), .unset] [(.int (1 : Int32))]))
  refine own_tsw S0 1 32 34 d26_2 (by decide) (by decide) (by decide) (by decide) (by decide) ?_
  show own_F p e below s Z _ _ _ _ _ (T0.setTop (mkF m 34 #[.val (.ref aA), .unset] []))
  refine own_new S0 (own_w hw 181 rfl) (own_w hw 182 rfl) (own_w hw 183 rfl) d26_34 (by decide) (by decide) (fun T1 h1 b1 g1 S1 E1 A1 D1 => ?_)
  have F1_e0 : Fld Z h1 b1 "java/util/ImmutableCollections$List12" "e0" "Ljava/lang/Object;" .null := (D1 (Or.inr (own_w hw 207 rfl)) (ty := (.object "java/lang/Object")) (by decide))
  have F1_e1 : Fld Z h1 b1 "java/util/ImmutableCollections$List12" "e1" "Ljava/lang/Object;" .null := (D1 (Or.inr (own_w hw 210 rfl)) (ty := (.object "java/lang/Object")) (by decide))
  show own_F p e below s Z _ _ _ _ _ (T1.setTop (mkF m 37 #[.val (.ref aA), .unset] [(.ref b1)]))
  refine own_F.of (fun _ => XS.dup S1.here S1.hx rfl (S1.dec d26_37) rfl rfl) ?_
  refine own_F.of (fun _ => XS.aloadN S1.here S1.hx rfl (S1.dec d26_38) rfl rfl) ?_
  refine own_F.of (fun _ => XS.iconst S1.here S1.hx rfl (S1.dec d26_39)) ?_
  show own_F p e below s Z _ _ _ _ _ (T1.setTop (mkF m 40 #[.val (.ref aA), .unset] [(.int (0 : Int32)), (.ref aA), (.ref b1), (.ref b1)]))
  have fq2 := (AA.ext E1)
  refine own_aald S1 fq2.A rfl (by decide) rfl d26_40 ?_
  show own_F p e below s Z _ _ _ _ _ (T1.setTop (mkF m 41 #[.val (.ref aA), .unset] [(.ref e1), (.ref b1), (.ref b1)]))
  refine own_callI S1 (y := (⟨"java/util/ImmutableCollections$List12", "<init>", "(Ljava/lang/Object;)V"⟩ : MethodName)) rfl (own_w hw 184 rfl) (own_w hw 185 rfl) (own_w hw 183 rfl) (own_w hw 187 rfl) (by decide) (argsL := [(.ref e1)]) (rest := [(.ref b1)]) (own_L12_1 l Z a0 hw b1 e1 aM h1 S1.old SM (own_mayN S1 (Or.inr (by rw [g1]; exact S0.size))) A1 F1_e0 F1_e1) (allS (Or.inr (by rw [g1]; exact S0.size)) all0) (by decide +kernel : parseMethodDescriptor "(Ljava/lang/Object;)V" = some ⟨[(.object "java/lang/Object")], none⟩) rfl rfl rfl d26_41 (by decide) (Nat.le_of_ble_eq_true rfl) (by decide) (by decide) (fun T3 h3 v3 S3 K3 q3 => ?_)
  obtain ⟨rfl, Fe3, Fa3⟩ := q3
  show own_F p e below s Z _ _ _ _ _ (T3.setTop (mkF m 44 #[.val (.ref aA), .unset] [(.ref b1)]))
  have fq4 := (A1.keep K3)
  refine own_retA S3 rfl rfl d26_44 (by decide) (by decide) ?_
  exact ⟨_, rfl, fq4, Fe3, Fa3⟩
set_option maxRecDepth 65536 in
set_option maxHeartbeats 40000000 in
theorem own_min2 (l : Launch) (Z : State) (a0 : Array Value) (hw : ∀ d ∈ tables_1, d.before a0 Z = true)  (h0 : Heap) (hO : Ext Z.heap h0) :
    own_C l Z (⟨"java/lang/Math", "min", "(II)I"⟩ : MethodName) jdk_29_method_69_code 2 (some .int) [] ({ frames := 0, cells := 0, slots := 0, locals := 0 } : Room) [] #[(.int (10 : Int32)), (.int (2 : Int32))] h0 (fun v h => v = some (.int (2 : Int32)) ∧ h0 = h) := by
  refine own_C.of pn25 hO all0 ?_
  intro p e s m below meth c T0 S0
  refine own_F.cast (by first | (simp [entryFrame, mkF, argsToLocals, Value.category]; done) | rfl : entryFrame m #[(.int (10 : Int32)), (.int (2 : Int32))] 2 = mkF m 0 #[.val (.int (10 : Int32)), .val (.int (2 : Int32))] []) ?_
  show own_F p e below s Z _ _ _ _ _ (T0.setTop (mkF m 0 #[.val (.int (10 : Int32)), .val (.int (2 : Int32))] []))
  refine own_F.of (fun _ => XS.iloadN S0.here S0.hx rfl (S0.dec d25_0) rfl) ?_
  refine own_F.of (fun _ => XS.iloadN S0.here S0.hx rfl (S0.dec d25_1) rfl) ?_
  show own_F p e below s Z _ _ _ _ _ (T0.setTop (mkF m 2 #[.val (.int (10 : Int32)), .val (.int (2 : Int32))] [(.int (2 : Int32)), (.int (10 : Int32))]))
  refine own_icmp S0 9 d25_2 (by decide) (by decide) (fun (hc2_1 : (2 : Int32) < (10 : Int32)) => ?_) (fun (hc2_1 : ¬ ((2 : Int32) < (10 : Int32))) => False.elim (absurd hc2_1 (by decide)))
  show own_F p e below s Z _ _ _ _ _ (T0.setTop (mkF m 9 #[.val (.int (10 : Int32)), .val (.int (2 : Int32))] []))
  refine own_F.of (fun _ => XS.iloadN S0.here S0.hx rfl (S0.dec d25_9) rfl) ?_
  show own_F p e below s Z _ _ _ _ _ (T0.setTop (mkF m 10 #[.val (.int (10 : Int32)), .val (.int (2 : Int32))] [(.int (2 : Int32))]))
  refine own_retI S0 d25_10 (by decide) (by decide) ?_
  exact ⟨rfl, rfl⟩
set_option maxRecDepth 65536 in
set_option maxHeartbeats 40000000 in
theorem own_cpy3_2 (l : Launch) (Z : State) (a0 : Array Value) (hw : ∀ d ∈ tables_1, d.before a0 Z = true) (aE : Addr) (e1 e2 : Addr) (mO : Addr) (h0 : Heap) (hO : Ext Z.heap h0) (AE : own_AO Z h0 aE [(.ref e1), (.ref e2), .null, .null, .null, .null, .null, .null, .null, .null]) (X_e1 : Exa Z h0 e1 "java/lang/Integer") (X_e2 : Exa Z h0 e2 "java/lang/Integer") (MO : Mir Z "[Ljava/lang/Object;" mO) :
    own_C l Z (⟨"java/util/Arrays", "copyOf", "([Ljava/lang/Object;ILjava/lang/Class;)[Ljava/lang/Object;"⟩ : MethodName) jdk_65_method_120_code 4 (some (.array (.object "java/lang/Object"))) [] ({ frames := 1, cells := 1, slots := 2, locals := 18 } : Room) [] #[(.ref aE), (.int (2 : Int32)), (.ref mO)] h0 (fun v h => ∃ b, v = some (.ref b) ∧ own_AO Z h b [(.ref e1), (.ref e2)]) := by
  refine own_C.of pn24 hO all0 ?_
  intro p e s m below meth c T0 S0
  refine own_F.cast (by first | (simp [entryFrame, mkF, argsToLocals, Value.category]; done) | rfl : entryFrame m #[(.ref aE), (.int (2 : Int32)), (.ref mO)] 4 = mkF m 0 #[.val (.ref aE), .val (.int (2 : Int32)), .val (.ref mO), .unset] []) ?_
  show own_F p e below s Z _ _ _ _ _ (T0.setTop (mkF m 0 #[.val (.ref aE), .val (.int (2 : Int32)), .val (.ref mO), .unset] []))
  refine own_F.of (fun _ => XS.aloadN S0.here S0.hx rfl (S0.dec d24_0) rfl rfl) ?_
  show own_F p e below s Z _ _ _ _ _ (T0.setTop (mkF m 1 #[.val (.ref aE), .val (.int (2 : Int32)), .val (.ref mO), .unset] [(.ref mO)]))
  refine own_ldcM S0 (own_w hw 169 rfl) MO d24_1 (fun T1 S1 => ?_)
  show own_F p e below s Z _ _ _ _ _ (T1.setTop (mkF m 3 #[.val (.ref aE), .val (.int (2 : Int32)), .val (.ref mO), .unset] [(.ref mO), (.ref mO)]))
  refine own_acmp S1 rfl rfl 13 d24_3 (by decide) (by decide) (fun (hc3_2 : ¬ ((Value.ref mO) = (Value.ref mO))) => False.elim (hc3_2 rfl)) (fun (hc3_2 : (Value.ref mO) = (Value.ref mO)) => ?_)
  show own_F p e below s Z _ _ _ _ _ (T1.setTop (mkF m 6 #[.val (.ref aE), .val (.int (2 : Int32)), .val (.ref mO), .unset] []))
  refine own_F.of (fun _ => XS.iloadN S1.here S1.hx rfl (S1.dec d24_6) rfl) ?_
  show own_F p e below s Z _ _ _ _ _ (T1.setTop (mkF m 7 #[.val (.ref aE), .val (.int (2 : Int32)), .val (.ref mO), .unset] [(.int (2 : Int32))]))
  refine own_anew S1 (own_w hw 170 rfl) (own_w hw 116 rfl) d24_7 (by decide) (cap := 2) (by decide) (by decide) (by decide) (by decide) (fun T3 h3 b3 g3 S3 E3 A3 => ?_)
  have V4 : own_AO Z h3 b3 [.null, .null] := A3
  show own_F p e below s Z _ _ _ _ _ (T3.setTop (mkF m 10 #[.val (.ref aE), .val (.int (2 : Int32)), .val (.ref mO), .unset] [(.ref b3)]))
  refine own_F.of (fun _ => XS.goto S3.here S3.hx rfl (pc0 := 10) (pc' := 24) rfl (S3.dec d24_10) (by decide) (by decide)) ?_
  show own_F p e below s Z _ _ _ _ _ (T3.setTop (mkF m 24 #[.val (.ref aE), .val (.int (2 : Int32)), .val (.ref mO), .unset] [(.ref b3)]))
  refine own_F.of (fun _ => XS.astoreN S3.here S3.hx rfl (S3.dec d24_24) rfl rfl (l' := #[.val (.ref aE), .val (.int (2 : Int32)), .val (.ref mO), .val (.ref b3)]) rfl) ?_
  show own_F p e below s Z _ _ _ _ _ (T3.setTop (mkF m 25 #[.val (.ref aE), .val (.int (2 : Int32)), .val (.ref mO), .val (.ref b3)] []))
  refine own_F.of (fun _ => XS.aloadN S3.here S3.hx rfl (S3.dec d24_25) rfl rfl) ?_
  refine own_F.of (fun _ => XS.iconst S3.here S3.hx rfl (S3.dec d24_26)) ?_
  refine own_F.of (fun _ => XS.aloadN S3.here S3.hx rfl (S3.dec d24_27) rfl rfl) ?_
  refine own_F.of (fun _ => XS.iconst S3.here S3.hx rfl (S3.dec d24_28)) ?_
  refine own_F.of (fun _ => XS.aloadN S3.here S3.hx rfl (S3.dec d24_29) rfl rfl) ?_
  show own_F p e below s Z _ _ _ _ _ (T3.setTop (mkF m 30 #[.val (.ref aE), .val (.int (2 : Int32)), .val (.ref mO), .val (.ref b3)] [(.ref aE), (.int (0 : Int32)), (.ref b3), (.int (0 : Int32)), (.ref aE)]))
  have fq5 := (AE.ext E3)
  refine own_len S3 fq5.A d24_30 ?_
  show own_F p e below s Z _ _ _ _ _ (T3.setTop (mkF m 31 #[.val (.ref aE), .val (.int (2 : Int32)), .val (.ref mO), .val (.ref b3)] [(.int (10 : Int32)), (.int (0 : Int32)), (.ref b3), (.int (0 : Int32)), (.ref aE)]))
  refine own_F.of (fun _ => XS.iloadN S3.here S3.hx rfl (S3.dec d24_31) rfl) ?_
  show own_F p e below s Z _ _ _ _ _ (T3.setTop (mkF m 32 #[.val (.ref aE), .val (.int (2 : Int32)), .val (.ref mO), .val (.ref b3)] [(.int (2 : Int32)), (.int (10 : Int32)), (.int (0 : Int32)), (.ref b3), (.int (0 : Int32)), (.ref aE)]))
  refine own_callS S3 (y := (⟨"java/lang/Math", "min", "(II)I"⟩ : MethodName)) (own_w hw 171 rfl) (own_w hw 172 rfl) (own_w hw 113 rfl) (own_w hw 173 rfl) (by decide) (argsL := [(.int (10 : Int32)), (.int (2 : Int32))]) (rest := [(.int (0 : Int32)), (.ref b3), (.int (0 : Int32)), (.ref aE)]) (own_min2 l Z a0 hw h3 S3.old) all0 (by decide +kernel : parseMethodDescriptor "(II)I" = some ⟨[.int, .int], some .int⟩) rfl rfl rfl d24_32 (by decide) (Nat.le_of_ble_eq_true rfl) (by decide) (by decide) (fun T6 h6 v6 S6 K6 q6 => ?_)
  obtain ⟨rfl, rfl⟩ := q6
  show own_F p e below s Z _ _ _ _ _ (T6.setTop (mkF m 35 #[.val (.ref aE), .val (.int (2 : Int32)), .val (.ref mO), .val (.ref b3)] [(.int (2 : Int32)), (.int (0 : Int32)), (.ref b3), (.int (0 : Int32)), (.ref aE)]))
  have fq8 := (X_e2.ext E3)
  have fq9 := (X_e1.ext E3)
  refine own_copy S6 (own_w hw 174 rfl) (own_w hw 177 rfl) (own_w hw 175 rfl) (own_w hw 176 rfl) fq5 V4 (by decide) (Nat.le_of_ble_eq_true rfl) (Nat.le_of_ble_eq_true rfl) [(.ref e1), (.ref e2)] rfl ⟨own_sto V4 (Ins.of_exa fq9 (own_w hw 117 rfl)), ⟨own_sto V4 (Ins.of_exa fq8 (own_w hw 117 rfl)), trivial⟩⟩ (Or.inr (by rw [g3]; exact S1.size)) rfl d24_35 (by decide) (Nat.le_of_ble_eq_true rfl) (fun T7 h7 S7 K7 A7 => ?_)
  have V10 : own_AO Z h7 b3 [(.ref e1), (.ref e2)] := A7
  show own_F p e below s Z _ _ _ _ _ (T7.setTop (mkF m 38 #[.val (.ref aE), .val (.int (2 : Int32)), .val (.ref mO), .val (.ref b3)] []))
  refine own_F.of (fun _ => XS.aloadN S7.here S7.hx rfl (S7.dec d24_38) rfl rfl) ?_
  show own_F p e below s Z _ _ _ _ _ (T7.setTop (mkF m 39 #[.val (.ref aE), .val (.int (2 : Int32)), .val (.ref mO), .val (.ref b3)] [(.ref b3)]))
  refine own_retA S7 rfl rfl d24_39 (by decide) (by decide) ?_
  exact ⟨_, rfl, V10⟩
set_option maxRecDepth 65536 in
set_option maxHeartbeats 40000000 in
theorem own_cpy2 (l : Launch) (Z : State) (a0 : Array Value) (hw : ∀ d ∈ tables_1, d.before a0 Z = true) (aE : Addr) (e1 e2 : Addr) (mO : Addr) (h0 : Heap) (hO : Ext Z.heap h0) (AE : own_AO Z h0 aE [(.ref e1), (.ref e2), .null, .null, .null, .null, .null, .null, .null, .null]) (X_e1 : Exa Z h0 e1 "java/lang/Integer") (X_e2 : Exa Z h0 e2 "java/lang/Integer") (MO : Mir Z "[Ljava/lang/Object;" mO) :
    own_C l Z (⟨"java/util/Arrays", "copyOf", "([Ljava/lang/Object;I)[Ljava/lang/Object;"⟩ : MethodName) jdk_65_method_119_code 2 (some (.array (.object "java/lang/Object"))) [] ({ frames := 2, cells := 1, slots := 2, locals := 33 } : Room) [] #[(.ref aE), (.int (2 : Int32))] h0 (fun v h => ∃ b, v = some (.ref b) ∧ own_AO Z h b [(.ref e1), (.ref e2)]) := by
  refine own_C.of pn23 hO all0 ?_
  intro p e s m below meth c T0 S0
  refine own_F.cast (by first | (simp [entryFrame, mkF, argsToLocals, Value.category]; done) | rfl : entryFrame m #[(.ref aE), (.int (2 : Int32))] 2 = mkF m 0 #[.val (.ref aE), .val (.int (2 : Int32))] []) ?_
  show own_F p e below s Z _ _ _ _ _ (T0.setTop (mkF m 0 #[.val (.ref aE), .val (.int (2 : Int32))] []))
  refine own_F.of (fun _ => XS.aloadN S0.here S0.hx rfl (S0.dec d23_0) rfl rfl) ?_
  refine own_F.of (fun _ => XS.iloadN S0.here S0.hx rfl (S0.dec d23_1) rfl) ?_
  refine own_F.of (fun _ => XS.aloadN S0.here S0.hx rfl (S0.dec d23_2) rfl rfl) ?_
  show own_F p e below s Z _ _ _ _ _ (T0.setTop (mkF m 3 #[.val (.ref aE), .val (.int (2 : Int32))] [(.ref aE), (.int (2 : Int32)), (.ref aE)]))
  refine own_gcls S0 (own_w hw 160 rfl) (own_w hw 161 rfl) (own_w hw 51 rfl) (own_w hw 163 rfl) (own_w hw 162 rfl) (own_w hw 164 rfl) AE.exa MO rfl d23_3 (by decide) (Nat.le_of_ble_eq_true rfl) (fun T1 S1 => ?_)
  show own_F p e below s Z _ _ _ _ _ (T1.setTop (mkF m 6 #[.val (.ref aE), .val (.int (2 : Int32))] [(.ref mO), (.int (2 : Int32)), (.ref aE)]))
  refine own_callS S1 (y := (⟨"java/util/Arrays", "copyOf", "([Ljava/lang/Object;ILjava/lang/Class;)[Ljava/lang/Object;"⟩ : MethodName)) (own_w hw 166 rfl) (own_w hw 167 rfl) (own_w hw 158 rfl) (own_w hw 168 rfl) (by decide) (argsL := [(.ref aE), (.int (2 : Int32)), (.ref mO)]) (rest := []) (own_cpy3_2 l Z a0 hw aE e1 e2 mO h0 S1.old AE X_e1 X_e2 MO) all0 (by decide +kernel : parseMethodDescriptor "([Ljava/lang/Object;ILjava/lang/Class;)[Ljava/lang/Object;" = some ⟨[(.array (.object "java/lang/Object")), .int, (.object "java/lang/Class")], some (.array (.object "java/lang/Object"))⟩) rfl rfl rfl d23_6 (by decide) (Nat.le_of_ble_eq_true rfl) (by decide) (by decide) (fun T2 h2 v2 S2 K2 q2 => ?_)
  obtain ⟨b2, rfl, F2⟩ := q2
  show own_F p e below s Z _ _ _ _ _ (T2.setTop (mkF m 9 #[.val (.ref aE), .val (.int (2 : Int32))] [(.ref b2)]))
  refine own_retA S2 rfl rfl d23_9 (by decide) (by decide) ?_
  exact ⟨_, rfl, F2⟩
set_option maxRecDepth 65536 in
set_option maxHeartbeats 40000000 in
theorem own_toArr2 (l : Launch) (Z : State) (a0 : Array Value) (hw : ∀ d ∈ tables_1, d.before a0 Z = true) (a1 aE : Addr) (e1 e2 : Addr) (mO : Addr) (h0 : Heap) (hO : Ext Z.heap h0) (F_elementData : Fld Z h0 a1 "java/util/ArrayList" "elementData" "[Ljava/lang/Object;" (.ref aE)) (F_size : Fld Z h0 a1 "java/util/ArrayList" "size" "I" (.int (2 : Int32))) (AE : own_AO Z h0 aE [(.ref e1), (.ref e2), .null, .null, .null, .null, .null, .null, .null, .null]) (X_e1 : Exa Z h0 e1 "java/lang/Integer") (X_e2 : Exa Z h0 e2 "java/lang/Integer") (MO : Mir Z "[Ljava/lang/Object;" mO) :
    own_C l Z (⟨"java/util/ArrayList", "toArray", "()[Ljava/lang/Object;"⟩ : MethodName) jdk_38_method_16_code 1 (some (.array (.object "java/lang/Object"))) [] ({ frames := 3, cells := 1, slots := 2, locals := 46 } : Room) [] #[(.ref a1)] h0 (fun v h => ∃ b, v = some (.ref b) ∧ own_AO Z h b [(.ref e1), (.ref e2)]) := by
  refine own_C.of pn22 hO all0 ?_
  intro p e s m below meth c T0 S0
  refine own_F.cast (by first | (simp [entryFrame, mkF, argsToLocals, Value.category]; done) | rfl : entryFrame m #[(.ref a1)] 1 = mkF m 0 #[.val (.ref a1)] []) ?_
  show own_F p e below s Z _ _ _ _ _ (T0.setTop (mkF m 0 #[.val (.ref a1)] []))
  refine own_F.of (fun _ => XS.aloadN S0.here S0.hx rfl (S0.dec d22_0) rfl rfl) ?_
  show own_F p e below s Z _ _ _ _ _ (T0.setTop (mkF m 1 #[.val (.ref a1)] [(.ref a1)]))
  refine own_getF S0 (host := "") (Or.inl (own_w hw 31 rfl)) Via.refl F_elementData d22_1 (fun T1 S1 => ?_)
  show own_F p e below s Z _ _ _ _ _ (T1.setTop (mkF m 4 #[.val (.ref a1)] [(.ref aE)]))
  refine own_F.of (fun _ => XS.aloadN S1.here S1.hx rfl (S1.dec d22_4) rfl rfl) ?_
  show own_F p e below s Z _ _ _ _ _ (T1.setTop (mkF m 5 #[.val (.ref a1)] [(.ref a1), (.ref aE)]))
  refine own_getF S1 (host := "") (Or.inl (own_w hw 62 rfl)) Via.refl F_size d22_5 (fun T2 S2 => ?_)
  show own_F p e below s Z _ _ _ _ _ (T2.setTop (mkF m 8 #[.val (.ref a1)] [(.int (2 : Int32)), (.ref aE)]))
  refine own_callS S2 (y := (⟨"java/util/Arrays", "copyOf", "([Ljava/lang/Object;I)[Ljava/lang/Object;"⟩ : MethodName)) (own_w hw 156 rfl) (own_w hw 157 rfl) (own_w hw 158 rfl) (own_w hw 159 rfl) (by decide) (argsL := [(.ref aE), (.int (2 : Int32))]) (rest := []) (own_cpy2 l Z a0 hw aE e1 e2 mO h0 S2.old AE X_e1 X_e2 MO) all0 (by decide +kernel : parseMethodDescriptor "([Ljava/lang/Object;I)[Ljava/lang/Object;" = some ⟨[(.array (.object "java/lang/Object")), .int], some (.array (.object "java/lang/Object"))⟩) rfl rfl rfl d22_8 (by decide) (Nat.le_of_ble_eq_true rfl) (by decide) (by decide) (fun T3 h3 v3 S3 K3 q3 => ?_)
  obtain ⟨b3, rfl, F3⟩ := q3
  show own_F p e below s Z _ _ _ _ _ (T3.setTop (mkF m 11 #[.val (.ref a1)] [(.ref b3)]))
  refine own_retA S3 rfl rfl d22_11 (by decide) (by decide) ?_
  exact ⟨_, rfl, F3⟩
set_option maxRecDepth 65536 in
set_option maxHeartbeats 40000000 in
theorem own_of2 (l : Launch) (Z : State) (a0 : Array Value) (hw : ∀ d ∈ tables_1, d.before a0 Z = true) (aA : Addr) (e1 e2 : Addr) (aM : Addr) (h0 : Heap) (hO : Ext Z.heap h0) (SM : Sta Z Z.heap "java/util/ImmutableCollections" "EMPTY" "Ljava/lang/Object;" (.ref aM)) (AA : own_AO Z h0 aA [(.ref e1), (.ref e2)]) (X_e1 : Exa Z h0 e1 "java/lang/Integer") (X_e2 : Exa Z h0 e2 "java/lang/Integer") :
    own_C l Z (⟨"java/util/List", "of", "([Ljava/lang/Object;)Ljava/util/List;"⟩ : MethodName) jdk_40_method_47_code 2 (some (.object "java/util/List")) [] ({ frames := 5, cells := 1, slots := 2, locals := 63 } : Room) [] #[(.ref aA)] h0 (fun v h => ∃ b, v = some (.ref b) ∧ Exa Z h b "java/util/ImmutableCollections$List12" ∧ Fld Z h b "java/util/ImmutableCollections$List12" "e0" "Ljava/lang/Object;" (.ref e1) ∧ Fld Z h b "java/util/ImmutableCollections$List12" "e1" "Ljava/lang/Object;" (.ref e2)) := by
  refine own_C.of pn26 hO all0 ?_
  intro p e s m below meth c T0 S0
  refine own_F.cast (by first | (simp [entryFrame, mkF, argsToLocals, Value.category]; done) | rfl : entryFrame m #[(.ref aA)] 2 = mkF m 0 #[.val (.ref aA), .unset] []) ?_
  show own_F p e below s Z _ _ _ _ _ (T0.setTop (mkF m 0 #[.val (.ref aA), .unset] []))
  refine own_F.of (fun _ => XS.aloadN S0.here S0.hx rfl (S0.dec d26_0) rfl rfl) ?_
  show own_F p e below s Z _ _ _ _ _ (T0.setTop (mkF m 1 #[.val (.ref aA), .unset] [(.ref aA)]))
  refine own_len S0 AA.A d26_1 ?_
  show own_F p e below s Z _ _ _ _ _ (T0.setTop (mkF m 2 #[.val (.ref aA), .unset] [(.int (2 : Int32))]))
  refine own_tsw S0 2 43 45 d26_2 (by decide) (by decide) (by decide) (by decide) (by decide) ?_
  show own_F p e below s Z _ _ _ _ _ (T0.setTop (mkF m 45 #[.val (.ref aA), .unset] []))
  refine own_new S0 (own_w hw 181 rfl) (own_w hw 182 rfl) (own_w hw 183 rfl) d26_45 (by decide) (by decide) (fun T1 h1 b1 g1 S1 E1 A1 D1 => ?_)
  have F1_e0 : Fld Z h1 b1 "java/util/ImmutableCollections$List12" "e0" "Ljava/lang/Object;" .null := (D1 (Or.inr (own_w hw 207 rfl)) (ty := (.object "java/lang/Object")) (by decide))
  have F1_e1 : Fld Z h1 b1 "java/util/ImmutableCollections$List12" "e1" "Ljava/lang/Object;" .null := (D1 (Or.inr (own_w hw 210 rfl)) (ty := (.object "java/lang/Object")) (by decide))
  show own_F p e below s Z _ _ _ _ _ (T1.setTop (mkF m 48 #[.val (.ref aA), .unset] [(.ref b1)]))
  refine own_F.of (fun _ => XS.dup S1.here S1.hx rfl (S1.dec d26_48) rfl rfl) ?_
  refine own_F.of (fun _ => XS.aloadN S1.here S1.hx rfl (S1.dec d26_49) rfl rfl) ?_
  refine own_F.of (fun _ => XS.iconst S1.here S1.hx rfl (S1.dec d26_50)) ?_
  show own_F p e below s Z _ _ _ _ _ (T1.setTop (mkF m 51 #[.val (.ref aA), .unset] [(.int (0 : Int32)), (.ref aA), (.ref b1), (.ref b1)]))
  have fq2 := (AA.ext E1)
  refine own_aald S1 fq2.A rfl (by decide) rfl d26_51 ?_
  show own_F p e below s Z _ _ _ _ _ (T1.setTop (mkF m 52 #[.val (.ref aA), .unset] [(.ref e1), (.ref b1), (.ref b1)]))
  refine own_F.of (fun _ => XS.aloadN S1.here S1.hx rfl (S1.dec d26_52) rfl rfl) ?_
  refine own_F.of (fun _ => XS.iconst S1.here S1.hx rfl (S1.dec d26_53)) ?_
  show own_F p e below s Z _ _ _ _ _ (T1.setTop (mkF m 54 #[.val (.ref aA), .unset] [(.int (1 : Int32)), (.ref aA), (.ref e1), (.ref b1), (.ref b1)]))
  refine own_aald S1 fq2.A rfl (by decide) rfl d26_54 ?_
  show own_F p e below s Z _ _ _ _ _ (T1.setTop (mkF m 55 #[.val (.ref aA), .unset] [(.ref e2), (.ref e1), (.ref b1), (.ref b1)]))
  refine own_callI S1 (y := (⟨"java/util/ImmutableCollections$List12", "<init>", "(Ljava/lang/Object;Ljava/lang/Object;)V"⟩ : MethodName)) rfl (own_w hw 256 rfl) (own_w hw 257 rfl) (own_w hw 183 rfl) (own_w hw 258 rfl) (by decide) (argsL := [(.ref e1), (.ref e2)]) (rest := [(.ref b1)]) (own_L12_2 l Z a0 hw b1 e1 e2 aM h1 S1.old SM (own_mayN S1 (Or.inr (by rw [g1]; exact S0.size))) A1 F1_e0 F1_e1) (allS (Or.inr (by rw [g1]; exact S0.size)) all0) (by decide +kernel : parseMethodDescriptor "(Ljava/lang/Object;Ljava/lang/Object;)V" = some ⟨[(.object "java/lang/Object"), (.object "java/lang/Object")], none⟩) rfl rfl rfl d26_55 (by decide) (Nat.le_of_ble_eq_true rfl) (by decide) (by decide) (fun T3 h3 v3 S3 K3 q3 => ?_)
  obtain ⟨rfl, Fe3, Fa3⟩ := q3
  show own_F p e below s Z _ _ _ _ _ (T3.setTop (mkF m 58 #[.val (.ref aA), .unset] [(.ref b1)]))
  have fq4 := (A1.keep K3)
  refine own_retA S3 rfl rfl d26_58 (by decide) (by decide) ?_
  exact ⟨_, rfl, fq4, Fe3, Fa3⟩
set_option maxRecDepth 65536 in
set_option maxHeartbeats 40000000 in
theorem own_min3 (l : Launch) (Z : State) (a0 : Array Value) (hw : ∀ d ∈ tables_1, d.before a0 Z = true)  (h0 : Heap) (hO : Ext Z.heap h0) :
    own_C l Z (⟨"java/lang/Math", "min", "(II)I"⟩ : MethodName) jdk_29_method_69_code 2 (some .int) [] ({ frames := 0, cells := 0, slots := 0, locals := 0 } : Room) [] #[(.int (10 : Int32)), (.int (3 : Int32))] h0 (fun v h => v = some (.int (3 : Int32)) ∧ h0 = h) := by
  refine own_C.of pn25 hO all0 ?_
  intro p e s m below meth c T0 S0
  refine own_F.cast (by first | (simp [entryFrame, mkF, argsToLocals, Value.category]; done) | rfl : entryFrame m #[(.int (10 : Int32)), (.int (3 : Int32))] 2 = mkF m 0 #[.val (.int (10 : Int32)), .val (.int (3 : Int32))] []) ?_
  show own_F p e below s Z _ _ _ _ _ (T0.setTop (mkF m 0 #[.val (.int (10 : Int32)), .val (.int (3 : Int32))] []))
  refine own_F.of (fun _ => XS.iloadN S0.here S0.hx rfl (S0.dec d25_0) rfl) ?_
  refine own_F.of (fun _ => XS.iloadN S0.here S0.hx rfl (S0.dec d25_1) rfl) ?_
  show own_F p e below s Z _ _ _ _ _ (T0.setTop (mkF m 2 #[.val (.int (10 : Int32)), .val (.int (3 : Int32))] [(.int (3 : Int32)), (.int (10 : Int32))]))
  refine own_icmp S0 9 d25_2 (by decide) (by decide) (fun (hc2_1 : (3 : Int32) < (10 : Int32)) => ?_) (fun (hc2_1 : ¬ ((3 : Int32) < (10 : Int32))) => False.elim (absurd hc2_1 (by decide)))
  show own_F p e below s Z _ _ _ _ _ (T0.setTop (mkF m 9 #[.val (.int (10 : Int32)), .val (.int (3 : Int32))] []))
  refine own_F.of (fun _ => XS.iloadN S0.here S0.hx rfl (S0.dec d25_9) rfl) ?_
  show own_F p e below s Z _ _ _ _ _ (T0.setTop (mkF m 10 #[.val (.int (10 : Int32)), .val (.int (3 : Int32))] [(.int (3 : Int32))]))
  refine own_retI S0 d25_10 (by decide) (by decide) ?_
  exact ⟨rfl, rfl⟩
set_option maxRecDepth 65536 in
set_option maxHeartbeats 40000000 in
theorem own_cpy3_3 (l : Launch) (Z : State) (a0 : Array Value) (hw : ∀ d ∈ tables_1, d.before a0 Z = true) (aE : Addr) (e1 e2 e3 : Addr) (mO : Addr) (h0 : Heap) (hO : Ext Z.heap h0) (AE : own_AO Z h0 aE [(.ref e1), (.ref e2), (.ref e3), .null, .null, .null, .null, .null, .null, .null]) (X_e1 : Exa Z h0 e1 "java/lang/Integer") (X_e2 : Exa Z h0 e2 "java/lang/Integer") (X_e3 : Exa Z h0 e3 "java/lang/Integer") (MO : Mir Z "[Ljava/lang/Object;" mO) :
    own_C l Z (⟨"java/util/Arrays", "copyOf", "([Ljava/lang/Object;ILjava/lang/Class;)[Ljava/lang/Object;"⟩ : MethodName) jdk_65_method_120_code 4 (some (.array (.object "java/lang/Object"))) [] ({ frames := 1, cells := 1, slots := 3, locals := 18 } : Room) [] #[(.ref aE), (.int (3 : Int32)), (.ref mO)] h0 (fun v h => ∃ b, v = some (.ref b) ∧ own_AO Z h b [(.ref e1), (.ref e2), (.ref e3)]) := by
  refine own_C.of pn24 hO all0 ?_
  intro p e s m below meth c T0 S0
  refine own_F.cast (by first | (simp [entryFrame, mkF, argsToLocals, Value.category]; done) | rfl : entryFrame m #[(.ref aE), (.int (3 : Int32)), (.ref mO)] 4 = mkF m 0 #[.val (.ref aE), .val (.int (3 : Int32)), .val (.ref mO), .unset] []) ?_
  show own_F p e below s Z _ _ _ _ _ (T0.setTop (mkF m 0 #[.val (.ref aE), .val (.int (3 : Int32)), .val (.ref mO), .unset] []))
  refine own_F.of (fun _ => XS.aloadN S0.here S0.hx rfl (S0.dec d24_0) rfl rfl) ?_
  show own_F p e below s Z _ _ _ _ _ (T0.setTop (mkF m 1 #[.val (.ref aE), .val (.int (3 : Int32)), .val (.ref mO), .unset] [(.ref mO)]))
  refine own_ldcM S0 (own_w hw 169 rfl) MO d24_1 (fun T1 S1 => ?_)
  show own_F p e below s Z _ _ _ _ _ (T1.setTop (mkF m 3 #[.val (.ref aE), .val (.int (3 : Int32)), .val (.ref mO), .unset] [(.ref mO), (.ref mO)]))
  refine own_acmp S1 rfl rfl 13 d24_3 (by decide) (by decide) (fun (hc3_2 : ¬ ((Value.ref mO) = (Value.ref mO))) => False.elim (hc3_2 rfl)) (fun (hc3_2 : (Value.ref mO) = (Value.ref mO)) => ?_)
  show own_F p e below s Z _ _ _ _ _ (T1.setTop (mkF m 6 #[.val (.ref aE), .val (.int (3 : Int32)), .val (.ref mO), .unset] []))
  refine own_F.of (fun _ => XS.iloadN S1.here S1.hx rfl (S1.dec d24_6) rfl) ?_
  show own_F p e below s Z _ _ _ _ _ (T1.setTop (mkF m 7 #[.val (.ref aE), .val (.int (3 : Int32)), .val (.ref mO), .unset] [(.int (3 : Int32))]))
  refine own_anew S1 (own_w hw 170 rfl) (own_w hw 116 rfl) d24_7 (by decide) (cap := 3) (by decide) (by decide) (by decide) (by decide) (fun T3 h3 b3 g3 S3 E3 A3 => ?_)
  have V4 : own_AO Z h3 b3 [.null, .null, .null] := A3
  show own_F p e below s Z _ _ _ _ _ (T3.setTop (mkF m 10 #[.val (.ref aE), .val (.int (3 : Int32)), .val (.ref mO), .unset] [(.ref b3)]))
  refine own_F.of (fun _ => XS.goto S3.here S3.hx rfl (pc0 := 10) (pc' := 24) rfl (S3.dec d24_10) (by decide) (by decide)) ?_
  show own_F p e below s Z _ _ _ _ _ (T3.setTop (mkF m 24 #[.val (.ref aE), .val (.int (3 : Int32)), .val (.ref mO), .unset] [(.ref b3)]))
  refine own_F.of (fun _ => XS.astoreN S3.here S3.hx rfl (S3.dec d24_24) rfl rfl (l' := #[.val (.ref aE), .val (.int (3 : Int32)), .val (.ref mO), .val (.ref b3)]) rfl) ?_
  show own_F p e below s Z _ _ _ _ _ (T3.setTop (mkF m 25 #[.val (.ref aE), .val (.int (3 : Int32)), .val (.ref mO), .val (.ref b3)] []))
  refine own_F.of (fun _ => XS.aloadN S3.here S3.hx rfl (S3.dec d24_25) rfl rfl) ?_
  refine own_F.of (fun _ => XS.iconst S3.here S3.hx rfl (S3.dec d24_26)) ?_
  refine own_F.of (fun _ => XS.aloadN S3.here S3.hx rfl (S3.dec d24_27) rfl rfl) ?_
  refine own_F.of (fun _ => XS.iconst S3.here S3.hx rfl (S3.dec d24_28)) ?_
  refine own_F.of (fun _ => XS.aloadN S3.here S3.hx rfl (S3.dec d24_29) rfl rfl) ?_
  show own_F p e below s Z _ _ _ _ _ (T3.setTop (mkF m 30 #[.val (.ref aE), .val (.int (3 : Int32)), .val (.ref mO), .val (.ref b3)] [(.ref aE), (.int (0 : Int32)), (.ref b3), (.int (0 : Int32)), (.ref aE)]))
  have fq5 := (AE.ext E3)
  refine own_len S3 fq5.A d24_30 ?_
  show own_F p e below s Z _ _ _ _ _ (T3.setTop (mkF m 31 #[.val (.ref aE), .val (.int (3 : Int32)), .val (.ref mO), .val (.ref b3)] [(.int (10 : Int32)), (.int (0 : Int32)), (.ref b3), (.int (0 : Int32)), (.ref aE)]))
  refine own_F.of (fun _ => XS.iloadN S3.here S3.hx rfl (S3.dec d24_31) rfl) ?_
  show own_F p e below s Z _ _ _ _ _ (T3.setTop (mkF m 32 #[.val (.ref aE), .val (.int (3 : Int32)), .val (.ref mO), .val (.ref b3)] [(.int (3 : Int32)), (.int (10 : Int32)), (.int (0 : Int32)), (.ref b3), (.int (0 : Int32)), (.ref aE)]))
  refine own_callS S3 (y := (⟨"java/lang/Math", "min", "(II)I"⟩ : MethodName)) (own_w hw 171 rfl) (own_w hw 172 rfl) (own_w hw 113 rfl) (own_w hw 173 rfl) (by decide) (argsL := [(.int (10 : Int32)), (.int (3 : Int32))]) (rest := [(.int (0 : Int32)), (.ref b3), (.int (0 : Int32)), (.ref aE)]) (own_min3 l Z a0 hw h3 S3.old) all0 (by decide +kernel : parseMethodDescriptor "(II)I" = some ⟨[.int, .int], some .int⟩) rfl rfl rfl d24_32 (by decide) (Nat.le_of_ble_eq_true rfl) (by decide) (by decide) (fun T6 h6 v6 S6 K6 q6 => ?_)
  obtain ⟨rfl, rfl⟩ := q6
  show own_F p e below s Z _ _ _ _ _ (T6.setTop (mkF m 35 #[.val (.ref aE), .val (.int (3 : Int32)), .val (.ref mO), .val (.ref b3)] [(.int (3 : Int32)), (.int (0 : Int32)), (.ref b3), (.int (0 : Int32)), (.ref aE)]))
  have fq8 := (X_e3.ext E3)
  have fq9 := (X_e2.ext E3)
  have fq10 := (X_e1.ext E3)
  refine own_copy S6 (own_w hw 174 rfl) (own_w hw 177 rfl) (own_w hw 175 rfl) (own_w hw 176 rfl) fq5 V4 (by decide) (Nat.le_of_ble_eq_true rfl) (Nat.le_of_ble_eq_true rfl) [(.ref e1), (.ref e2), (.ref e3)] rfl ⟨own_sto V4 (Ins.of_exa fq10 (own_w hw 117 rfl)), ⟨own_sto V4 (Ins.of_exa fq9 (own_w hw 117 rfl)), ⟨own_sto V4 (Ins.of_exa fq8 (own_w hw 117 rfl)), trivial⟩⟩⟩ (Or.inr (by rw [g3]; exact S1.size)) rfl d24_35 (by decide) (Nat.le_of_ble_eq_true rfl) (fun T7 h7 S7 K7 A7 => ?_)
  have V11 : own_AO Z h7 b3 [(.ref e1), (.ref e2), (.ref e3)] := A7
  show own_F p e below s Z _ _ _ _ _ (T7.setTop (mkF m 38 #[.val (.ref aE), .val (.int (3 : Int32)), .val (.ref mO), .val (.ref b3)] []))
  refine own_F.of (fun _ => XS.aloadN S7.here S7.hx rfl (S7.dec d24_38) rfl rfl) ?_
  show own_F p e below s Z _ _ _ _ _ (T7.setTop (mkF m 39 #[.val (.ref aE), .val (.int (3 : Int32)), .val (.ref mO), .val (.ref b3)] [(.ref b3)]))
  refine own_retA S7 rfl rfl d24_39 (by decide) (by decide) ?_
  exact ⟨_, rfl, V11⟩
set_option maxRecDepth 65536 in
set_option maxHeartbeats 40000000 in
theorem own_cpy3 (l : Launch) (Z : State) (a0 : Array Value) (hw : ∀ d ∈ tables_1, d.before a0 Z = true) (aE : Addr) (e1 e2 e3 : Addr) (mO : Addr) (h0 : Heap) (hO : Ext Z.heap h0) (AE : own_AO Z h0 aE [(.ref e1), (.ref e2), (.ref e3), .null, .null, .null, .null, .null, .null, .null]) (X_e1 : Exa Z h0 e1 "java/lang/Integer") (X_e2 : Exa Z h0 e2 "java/lang/Integer") (X_e3 : Exa Z h0 e3 "java/lang/Integer") (MO : Mir Z "[Ljava/lang/Object;" mO) :
    own_C l Z (⟨"java/util/Arrays", "copyOf", "([Ljava/lang/Object;I)[Ljava/lang/Object;"⟩ : MethodName) jdk_65_method_119_code 2 (some (.array (.object "java/lang/Object"))) [] ({ frames := 2, cells := 1, slots := 3, locals := 33 } : Room) [] #[(.ref aE), (.int (3 : Int32))] h0 (fun v h => ∃ b, v = some (.ref b) ∧ own_AO Z h b [(.ref e1), (.ref e2), (.ref e3)]) := by
  refine own_C.of pn23 hO all0 ?_
  intro p e s m below meth c T0 S0
  refine own_F.cast (by first | (simp [entryFrame, mkF, argsToLocals, Value.category]; done) | rfl : entryFrame m #[(.ref aE), (.int (3 : Int32))] 2 = mkF m 0 #[.val (.ref aE), .val (.int (3 : Int32))] []) ?_
  show own_F p e below s Z _ _ _ _ _ (T0.setTop (mkF m 0 #[.val (.ref aE), .val (.int (3 : Int32))] []))
  refine own_F.of (fun _ => XS.aloadN S0.here S0.hx rfl (S0.dec d23_0) rfl rfl) ?_
  refine own_F.of (fun _ => XS.iloadN S0.here S0.hx rfl (S0.dec d23_1) rfl) ?_
  refine own_F.of (fun _ => XS.aloadN S0.here S0.hx rfl (S0.dec d23_2) rfl rfl) ?_
  show own_F p e below s Z _ _ _ _ _ (T0.setTop (mkF m 3 #[.val (.ref aE), .val (.int (3 : Int32))] [(.ref aE), (.int (3 : Int32)), (.ref aE)]))
  refine own_gcls S0 (own_w hw 160 rfl) (own_w hw 161 rfl) (own_w hw 51 rfl) (own_w hw 163 rfl) (own_w hw 162 rfl) (own_w hw 164 rfl) AE.exa MO rfl d23_3 (by decide) (Nat.le_of_ble_eq_true rfl) (fun T1 S1 => ?_)
  show own_F p e below s Z _ _ _ _ _ (T1.setTop (mkF m 6 #[.val (.ref aE), .val (.int (3 : Int32))] [(.ref mO), (.int (3 : Int32)), (.ref aE)]))
  refine own_callS S1 (y := (⟨"java/util/Arrays", "copyOf", "([Ljava/lang/Object;ILjava/lang/Class;)[Ljava/lang/Object;"⟩ : MethodName)) (own_w hw 166 rfl) (own_w hw 167 rfl) (own_w hw 158 rfl) (own_w hw 168 rfl) (by decide) (argsL := [(.ref aE), (.int (3 : Int32)), (.ref mO)]) (rest := []) (own_cpy3_3 l Z a0 hw aE e1 e2 e3 mO h0 S1.old AE X_e1 X_e2 X_e3 MO) all0 (by decide +kernel : parseMethodDescriptor "([Ljava/lang/Object;ILjava/lang/Class;)[Ljava/lang/Object;" = some ⟨[(.array (.object "java/lang/Object")), .int, (.object "java/lang/Class")], some (.array (.object "java/lang/Object"))⟩) rfl rfl rfl d23_6 (by decide) (Nat.le_of_ble_eq_true rfl) (by decide) (by decide) (fun T2 h2 v2 S2 K2 q2 => ?_)
  obtain ⟨b2, rfl, F2⟩ := q2
  show own_F p e below s Z _ _ _ _ _ (T2.setTop (mkF m 9 #[.val (.ref aE), .val (.int (3 : Int32))] [(.ref b2)]))
  refine own_retA S2 rfl rfl d23_9 (by decide) (by decide) ?_
  exact ⟨_, rfl, F2⟩
set_option maxRecDepth 65536 in
set_option maxHeartbeats 40000000 in
theorem own_toArr3 (l : Launch) (Z : State) (a0 : Array Value) (hw : ∀ d ∈ tables_1, d.before a0 Z = true) (a1 aE : Addr) (e1 e2 e3 : Addr) (mO : Addr) (h0 : Heap) (hO : Ext Z.heap h0) (F_elementData : Fld Z h0 a1 "java/util/ArrayList" "elementData" "[Ljava/lang/Object;" (.ref aE)) (F_size : Fld Z h0 a1 "java/util/ArrayList" "size" "I" (.int (3 : Int32))) (AE : own_AO Z h0 aE [(.ref e1), (.ref e2), (.ref e3), .null, .null, .null, .null, .null, .null, .null]) (X_e1 : Exa Z h0 e1 "java/lang/Integer") (X_e2 : Exa Z h0 e2 "java/lang/Integer") (X_e3 : Exa Z h0 e3 "java/lang/Integer") (MO : Mir Z "[Ljava/lang/Object;" mO) :
    own_C l Z (⟨"java/util/ArrayList", "toArray", "()[Ljava/lang/Object;"⟩ : MethodName) jdk_38_method_16_code 1 (some (.array (.object "java/lang/Object"))) [] ({ frames := 3, cells := 1, slots := 3, locals := 46 } : Room) [] #[(.ref a1)] h0 (fun v h => ∃ b, v = some (.ref b) ∧ own_AO Z h b [(.ref e1), (.ref e2), (.ref e3)]) := by
  refine own_C.of pn22 hO all0 ?_
  intro p e s m below meth c T0 S0
  refine own_F.cast (by first | (simp [entryFrame, mkF, argsToLocals, Value.category]; done) | rfl : entryFrame m #[(.ref a1)] 1 = mkF m 0 #[.val (.ref a1)] []) ?_
  show own_F p e below s Z _ _ _ _ _ (T0.setTop (mkF m 0 #[.val (.ref a1)] []))
  refine own_F.of (fun _ => XS.aloadN S0.here S0.hx rfl (S0.dec d22_0) rfl rfl) ?_
  show own_F p e below s Z _ _ _ _ _ (T0.setTop (mkF m 1 #[.val (.ref a1)] [(.ref a1)]))
  refine own_getF S0 (host := "") (Or.inl (own_w hw 31 rfl)) Via.refl F_elementData d22_1 (fun T1 S1 => ?_)
  show own_F p e below s Z _ _ _ _ _ (T1.setTop (mkF m 4 #[.val (.ref a1)] [(.ref aE)]))
  refine own_F.of (fun _ => XS.aloadN S1.here S1.hx rfl (S1.dec d22_4) rfl rfl) ?_
  show own_F p e below s Z _ _ _ _ _ (T1.setTop (mkF m 5 #[.val (.ref a1)] [(.ref a1), (.ref aE)]))
  refine own_getF S1 (host := "") (Or.inl (own_w hw 62 rfl)) Via.refl F_size d22_5 (fun T2 S2 => ?_)
  show own_F p e below s Z _ _ _ _ _ (T2.setTop (mkF m 8 #[.val (.ref a1)] [(.int (3 : Int32)), (.ref aE)]))
  refine own_callS S2 (y := (⟨"java/util/Arrays", "copyOf", "([Ljava/lang/Object;I)[Ljava/lang/Object;"⟩ : MethodName)) (own_w hw 156 rfl) (own_w hw 157 rfl) (own_w hw 158 rfl) (own_w hw 159 rfl) (by decide) (argsL := [(.ref aE), (.int (3 : Int32))]) (rest := []) (own_cpy3 l Z a0 hw aE e1 e2 e3 mO h0 S2.old AE X_e1 X_e2 X_e3 MO) all0 (by decide +kernel : parseMethodDescriptor "([Ljava/lang/Object;I)[Ljava/lang/Object;" = some ⟨[(.array (.object "java/lang/Object")), .int], some (.array (.object "java/lang/Object"))⟩) rfl rfl rfl d22_8 (by decide) (Nat.le_of_ble_eq_true rfl) (by decide) (by decide) (fun T3 h3 v3 S3 K3 q3 => ?_)
  obtain ⟨b3, rfl, F3⟩ := q3
  show own_F p e below s Z _ _ _ _ _ (T3.setTop (mkF m 11 #[.val (.ref a1)] [(.ref b3)]))
  refine own_retA S3 rfl rfl d22_11 (by decide) (by decide) ?_
  exact ⟨_, rfl, F3⟩
set_option maxRecDepth 65536 in
set_option maxHeartbeats 40000000 in
theorem own_of3 (l : Launch) (Z : State) (a0 : Array Value) (hw : ∀ d ∈ tables_1, d.before a0 Z = true) (aA : Addr) (e1 e2 e3 : Addr) (aM : Addr) (h0 : Heap) (hO : Ext Z.heap h0) (SM : Sta Z Z.heap "java/util/ImmutableCollections" "EMPTY" "Ljava/lang/Object;" (.ref aM)) (AA : own_AO Z h0 aA [(.ref e1), (.ref e2), (.ref e3)]) (X_e1 : Exa Z h0 e1 "java/lang/Integer") (X_e2 : Exa Z h0 e2 "java/lang/Integer") (X_e3 : Exa Z h0 e3 "java/lang/Integer") :
    own_C l Z (⟨"java/util/List", "of", "([Ljava/lang/Object;)Ljava/util/List;"⟩ : MethodName) jdk_40_method_47_code 2 (some (.object "java/util/List")) [] ({ frames := 6, cells := 2, slots := 5, locals := 77 } : Room) [] #[(.ref aA)] h0 (fun v h => ∃ b, v = some (.ref b) ∧ ∃ ar, Exa Z h b "java/util/ImmutableCollections$ListN" ∧ Fld Z h b "java/util/ImmutableCollections$ListN" "elements" "[Ljava/lang/Object;" (.ref ar) ∧ own_AO Z h ar [(.ref e1), (.ref e2), (.ref e3)] ∧ Fld Z h b "java/util/ImmutableCollections$ListN" "allowNulls" "Z" (.int 0)) := by
  refine own_C.of pn26 hO all0 ?_
  intro p e s m below meth c T0 S0
  refine own_F.cast (by first | (simp [entryFrame, mkF, argsToLocals, Value.category]; done) | rfl : entryFrame m #[(.ref aA)] 2 = mkF m 0 #[.val (.ref aA), .unset] []) ?_
  show own_F p e below s Z _ _ _ _ _ (T0.setTop (mkF m 0 #[.val (.ref aA), .unset] []))
  refine own_F.of (fun _ => XS.aloadN S0.here S0.hx rfl (S0.dec d26_0) rfl rfl) ?_
  show own_F p e below s Z _ _ _ _ _ (T0.setTop (mkF m 1 #[.val (.ref aA), .unset] [(.ref aA)]))
  refine own_len S0 AA.A d26_1 ?_
  show own_F p e below s Z _ _ _ _ _ (T0.setTop (mkF m 2 #[.val (.ref aA), .unset] [(.int (3 : Int32))]))
  refine own_tswO S0 3 59 d26_2 (by decide) (by decide) (by decide) (by decide) ?_
  show own_F p e below s Z _ _ _ _ _ (T0.setTop (mkF m 59 #[.val (.ref aA), .unset] []))
  refine own_F.of (fun _ => XS.aloadN S0.here S0.hx rfl (S0.dec d26_59) rfl rfl) ?_
  show own_F p e below s Z _ _ _ _ _ (T0.setTop (mkF m 60 #[.val (.ref aA), .unset] [(.ref aA)]))
  refine own_callS S0 (y := (⟨"java/util/ImmutableCollections", "listFromArray", "([Ljava/lang/Object;)Ljava/util/List;"⟩ : MethodName)) (own_w hw 237 rfl) (own_w hw 238 rfl) (own_w hw 45 rfl) (own_w hw 239 rfl) (by decide) (argsL := [(.ref aA)]) (rest := []) (own_lfa l Z a0 hw aA e1 e2 e3 h0 S0.old AA X_e1 X_e2 X_e3) all0 (by decide +kernel : parseMethodDescriptor "([Ljava/lang/Object;)Ljava/util/List;" = some ⟨[(.array (.object "java/lang/Object"))], some (.object "java/util/List")⟩) rfl rfl rfl d26_60 (by decide) (Nat.le_of_ble_eq_true rfl) (by decide) (by decide) (fun T1 h1 v1 S1 K1 q1 => ?_)
  obtain ⟨b1, rfl, F1⟩ := q1
  show own_F p e below s Z _ _ _ _ _ (T1.setTop (mkF m 63 #[.val (.ref aA), .unset] [(.ref b1)]))
  refine own_retA S1 rfl rfl d26_63 (by decide) (by decide) ?_
  exact ⟨_, rfl, F1⟩
theorem d9_0 : decode jdk_38_method_9_code 0 = .ok (.aload_n 0, 1) := by decide +kernel
theorem d9_1 : decode jdk_38_method_9_code 1 = .ok (.getfield 48, 3) := by decide +kernel
theorem d9_4 : decode jdk_38_method_9_code 4 = .ok (.ifCond .ne 7, 3) := by decide +kernel
theorem d9_7 : decode jdk_38_method_9_code 7 = .ok (.iconst 1, 1) := by decide +kernel
theorem d9_8 : decode jdk_38_method_9_code 8 = .ok (.goto 4, 3) := by decide +kernel
theorem d9_11 : decode jdk_38_method_9_code 11 = .ok (.iconst 0, 1) := by decide +kernel
theorem d9_12 : decode jdk_38_method_9_code 12 = .ok (.ireturn, 1) := by decide +kernel
theorem pn9 : plainFor (⟨"java/util/ArrayList", "isEmpty", "()Z"⟩ : MethodName) = true := plainFor_of_name (by first | (simp [plainName, overriddenIn]; done) | decide +kernel)
set_option maxRecDepth 65536 in
set_option maxHeartbeats 40000000 in
theorem own_isE0 (l : Launch) (Z : State) (a0 : Array Value) (hw : ∀ d ∈ tables_1, d.before a0 Z = true) (a1 : Addr) (h0 : Heap) (hO : Ext Z.heap h0) (F_size : Fld Z h0 a1 "java/util/ArrayList" "size" "I" (.int (0 : Int32))) :
    own_C l Z (⟨"java/util/ArrayList", "isEmpty", "()Z"⟩ : MethodName) jdk_38_method_9_code 1 (some .boolean) [] ({ frames := 0, cells := 0, slots := 0, locals := 0 } : Room) [] #[(.ref a1)] h0 (fun v h => v = some (.int 1) ∧ h0 = h) := by
  refine own_C.of pn9 hO all0 ?_
  intro p e s m below meth c T0 S0
  refine own_F.cast (by first | (simp [entryFrame, mkF, argsToLocals, Value.category]; done) | rfl : entryFrame m #[(.ref a1)] 1 = mkF m 0 #[.val (.ref a1)] []) ?_
  show own_F p e below s Z _ _ _ _ _ (T0.setTop (mkF m 0 #[.val (.ref a1)] []))
  refine own_F.of (fun _ => XS.aloadN S0.here S0.hx rfl (S0.dec d9_0) rfl rfl) ?_
  show own_F p e below s Z _ _ _ _ _ (T0.setTop (mkF m 1 #[.val (.ref a1)] [(.ref a1)]))
  refine own_getF S0 (host := "") (Or.inl (own_w hw 62 rfl)) Via.refl F_size d9_1 (fun T1 S1 => ?_)
  show own_F p e below s Z _ _ _ _ _ (T1.setTop (mkF m 4 #[.val (.ref a1)] [(.int (0 : Int32))]))
  refine own_if S1 11 d9_4 (by decide) (by decide) (fun (hc4_2 : ¬ ((0 : Int32) = (0 : Int32))) => False.elim (absurd hc4_2 (by decide))) (fun (hc4_2 : (0 : Int32) = (0 : Int32)) => ?_)
  show own_F p e below s Z _ _ _ _ _ (T1.setTop (mkF m 7 #[.val (.ref a1)] []))
  refine own_F.of (fun _ => XS.iconst S1.here S1.hx rfl (S1.dec d9_7)) ?_
  show own_F p e below s Z _ _ _ _ _ (T1.setTop (mkF m 8 #[.val (.ref a1)] [(.int (1 : Int32))]))
  refine own_F.of (fun _ => XS.goto S1.here S1.hx rfl (pc0 := 8) (pc' := 12) rfl (S1.dec d9_8) (by decide) (by decide)) ?_
  show own_F p e below s Z _ _ _ _ _ (T1.setTop (mkF m 12 #[.val (.ref a1)] [(.int (1 : Int32))]))
  refine own_retZ S1 (by simp) d9_12 (by decide) (by decide) ?_
  exact ⟨rfl, rfl⟩
theorem d10_0 : decode jdk_40_method_36_code 0 = .ok (.getstatic 90, 3) := by decide +kernel
theorem d10_3 : decode jdk_40_method_36_code 3 = .ok (.areturn, 1) := by decide +kernel
theorem pn10 : plainFor (⟨"java/util/List", "of", "()Ljava/util/List;"⟩ : MethodName) = true := plainFor_of_name (by first | (simp [plainName, overriddenIn]; done) | decide +kernel)
set_option maxRecDepth 65536 in
set_option maxHeartbeats 40000000 in
theorem own_of0 (l : Launch) (Z : State) (a0 : Array Value) (hw : ∀ d ∈ tables_1, d.before a0 Z = true) (aL : Addr) (h0 : Heap) (hO : Ext Z.heap h0) (SL : Sta Z Z.heap "java/util/ImmutableCollections" "EMPTY_LIST" "Ljava/util/ImmutableCollections$ListN;" (.ref aL)) :
    own_C l Z (⟨"java/util/List", "of", "()Ljava/util/List;"⟩ : MethodName) jdk_40_method_36_code 0 (some (.object "java/util/List")) [] ({ frames := 0, cells := 0, slots := 0, locals := 0 } : Room) [] #[] h0 (fun v h => v = some (.ref aL) ∧ h0 = h) := by
  refine own_C.of pn10 hO all0 ?_
  intro p e s m below meth c T0 S0
  refine own_F.cast (by first | (simp [entryFrame, mkF, argsToLocals, Value.category]; done) | rfl : entryFrame m #[] 0 = mkF m 0 #[] []) ?_
  show own_F p e below s Z _ _ _ _ _ (T0.setTop (mkF m 0 #[] []))
  refine own_getS S0 (host := "") (Or.inl (own_w hw 67 rfl)) Via.refl (SL.ext S0.old) d10_0 (fun T1 S1 => ?_)
  show own_F p e below s Z _ _ _ _ _ (T1.setTop (mkF m 3 #[] [(.ref aL)]))
  refine own_retA S1 rfl rfl d10_3 (by decide) (by decide) ?_
  exact ⟨rfl, rfl⟩
theorem d8_0 : decode jdk_56_method_3_code 0 = .ok (.aload_n 0, 1) := by decide +kernel
theorem d8_1 : decode jdk_56_method_3_code 1 = .ok (.instanceof 10, 3) := by decide +kernel
theorem d8_4 : decode jdk_56_method_3_code 4 = .ok (.ifCond .ne 22, 3) := by decide +kernel
theorem d8_7 : decode jdk_56_method_3_code 7 = .ok (.aload_n 0, 1) := by decide +kernel
theorem d8_8 : decode jdk_56_method_3_code 8 = .ok (.instanceof 12, 3) := by decide +kernel
theorem d8_11 : decode jdk_56_method_3_code 11 = .ok (.ifCond .eq 20, 3) := by decide +kernel
theorem d8_14 : decode jdk_56_method_3_code 14 = .ok (.aload_n 0, 1) := by decide +kernel
theorem d8_15 : decode jdk_56_method_3_code 15 = .ok (.checkcast 12, 3) := by decide +kernel
theorem d8_18 : decode jdk_56_method_3_code 18 = .ok (.astore_n 1, 1) := by decide +kernel
theorem d8_19 : decode jdk_56_method_3_code 19 = .ok (.aload_n 1, 1) := by decide +kernel
theorem d8_20 : decode jdk_56_method_3_code 20 = .ok (.getfield 14, 3) := by decide +kernel
theorem d8_23 : decode jdk_56_method_3_code 23 = .ok (.ifCond .ne 8, 3) := by decide +kernel
theorem d8_26 : decode jdk_56_method_3_code 26 = .ok (.aload_n 0, 1) := by decide +kernel
theorem d8_27 : decode jdk_56_method_3_code 27 = .ok (.checkcast 18, 3) := by decide +kernel
theorem d8_30 : decode jdk_56_method_3_code 30 = .ok (.areturn, 1) := by decide +kernel
theorem d8_31 : decode jdk_56_method_3_code 31 = .ok (.aload_n 0, 1) := by decide +kernel
theorem d8_32 : decode jdk_56_method_3_code 32 = .ok (.invokeinterface 20 1, 5) := by decide +kernel
theorem d8_37 : decode jdk_56_method_3_code 37 = .ok (.ifCond .eq 7, 3) := by decide +kernel
theorem d8_40 : decode jdk_56_method_3_code 40 = .ok (.invokestatic 26, 3) := by decide +kernel
theorem d8_43 : decode jdk_56_method_3_code 43 = .ok (.areturn, 1) := by decide +kernel
theorem d8_44 : decode jdk_56_method_3_code 44 = .ok (.aload_n 0, 1) := by decide +kernel
theorem d8_45 : decode jdk_56_method_3_code 45 = .ok (.invokeinterface 30 1, 5) := by decide +kernel
theorem d8_50 : decode jdk_56_method_3_code 50 = .ok (.invokestatic 34, 3) := by decide +kernel
theorem d8_53 : decode jdk_56_method_3_code 53 = .ok (.areturn, 1) := by decide +kernel
theorem pn8 : plainFor (⟨"java/util/ImmutableCollections", "listCopy", "(Ljava/util/Collection;)Ljava/util/List;"⟩ : MethodName) = true := plainFor_of_name (by first | (simp [plainName, overriddenIn]; done) | decide +kernel)
set_option maxRecDepth 65536 in
set_option maxHeartbeats 40000000 in
theorem own_lc0 (l : Launch) (Z : State) (a0 : Array Value) (hw : ∀ d ∈ tables_1, d.before a0 Z = true) (a1 : Addr) (aL : Addr) (h0 : Heap) (hO : Ext Z.heap h0) (SL : Sta Z Z.heap "java/util/ImmutableCollections" "EMPTY_LIST" "Ljava/util/ImmutableCollections$ListN;" (.ref aL)) (E_a1 : Exa Z h0 a1 "java/util/ArrayList") (F_size : Fld Z h0 a1 "java/util/ArrayList" "size" "I" (.int (0 : Int32))) :
    own_C l Z (⟨"java/util/ImmutableCollections", "listCopy", "(Ljava/util/Collection;)Ljava/util/List;"⟩ : MethodName) jdk_56_method_3_code 2 (some (.object "java/util/List")) [] ({ frames := 1, cells := 0, slots := 0, locals := 12 } : Room) [] #[(.ref a1)] h0 (fun v h => v = some (.ref aL) ∧ h0 = h) := by
  refine own_C.of pn8 hO all0 ?_
  intro p e s m below meth c T0 S0
  refine own_F.cast (by first | (simp [entryFrame, mkF, argsToLocals, Value.category]; done) | rfl : entryFrame m #[(.ref a1)] 2 = mkF m 0 #[.val (.ref a1), .unset] []) ?_
  show own_F p e below s Z _ _ _ _ _ (T0.setTop (mkF m 0 #[.val (.ref a1), .unset] []))
  refine own_F.of (fun _ => XS.aloadN S0.here S0.hx rfl (S0.dec d8_0) rfl rfl) ?_
  show own_F p e below s Z _ _ _ _ _ (T0.setTop (mkF m 1 #[.val (.ref a1), .unset] [(.ref a1)]))
  refine own_instN S0 (own_w hw 47 rfl) E_a1 (own_NSno (own_w hw 48 rfl) (own_w hw 182 rfl) (NS.step (own_w hw 48 rfl) (NS.step (own_w hw 49 rfl) (NS.step (own_w hw 50 rfl) (own_NSroot (own_w hw 51 rfl) (own_w hw 182 rfl) (by decide)) (by decide)) (by decide)) (by decide)) (by decide)) d8_1 (fun T1 S1 => ?_)
  show own_F p e below s Z _ _ _ _ _ (T1.setTop (mkF m 4 #[.val (.ref a1), .unset] [(.int (0 : Int32))]))
  refine own_if S1 26 d8_4 (by decide) (by decide) (fun (hc4_2 : ¬ ((0 : Int32) = (0 : Int32))) => False.elim (absurd hc4_2 (by decide))) (fun (hc4_2 : (0 : Int32) = (0 : Int32)) => ?_)
  show own_F p e below s Z _ _ _ _ _ (T1.setTop (mkF m 7 #[.val (.ref a1), .unset] []))
  refine own_F.of (fun _ => XS.aloadN S1.here S1.hx rfl (S1.dec d8_7) rfl rfl) ?_
  show own_F p e below s Z _ _ _ _ _ (T1.setTop (mkF m 8 #[.val (.ref a1), .unset] [(.ref a1)]))
  refine own_instN S1 (own_w hw 52 rfl) E_a1 (own_NSno (own_w hw 48 rfl) (own_w hw 242 rfl) (NS.step (own_w hw 48 rfl) (NS.step (own_w hw 49 rfl) (NS.step (own_w hw 50 rfl) (own_NSroot (own_w hw 51 rfl) (own_w hw 242 rfl) (by decide)) (by decide)) (by decide)) (by decide)) (by decide)) d8_8 (fun T3 S3 => ?_)
  show own_F p e below s Z _ _ _ _ _ (T3.setTop (mkF m 11 #[.val (.ref a1), .unset] [(.int (0 : Int32))]))
  refine own_if S3 31 d8_11 (by decide) (by decide) (fun (hc11_4 : (0 : Int32) = (0 : Int32)) => ?_) (fun (hc11_4 : ¬ ((0 : Int32) = (0 : Int32))) => False.elim (absurd hc11_4 (by decide)))
  show own_F p e below s Z _ _ _ _ _ (T3.setTop (mkF m 31 #[.val (.ref a1), .unset] []))
  refine own_F.of (fun _ => XS.aloadN S3.here S3.hx rfl (S3.dec d8_31) rfl rfl) ?_
  show own_F p e below s Z _ _ _ _ _ (T3.setTop (mkF m 32 #[.val (.ref a1), .unset] [(.ref a1)]))
  refine own_callX S3 (y := (⟨"java/util/Collection", "isEmpty", "()Z"⟩ : MethodName)) (y' := (⟨"java/util/ArrayList", "isEmpty", "()Z"⟩ : MethodName)) (own_w hw 53 rfl) (own_w hw 54 rfl) (own_w hw 55 rfl) (own_w hw 56 rfl) (own_w hw 57 rfl) (own_w hw 58 rfl) (own_w hw 59 rfl) (own_w hw 60 rfl) (own_w hw 61 rfl) (own_w hw 9 rfl) (by decide) E_a1 (argsL := []) (rest := []) (own_isE0 l Z a0 hw a1 h0 S3.old F_size) all0 (by decide +kernel : parseMethodDescriptor "()Z" = some ⟨[], some .boolean⟩) rfl rfl rfl d8_32 (by decide) (Nat.le_of_ble_eq_true rfl) (by decide) (by decide) (fun T5 h5 v5 S5 K5 q5 => ?_)
  obtain ⟨rfl, rfl⟩ := q5
  show own_F p e below s Z _ _ _ _ _ (T5.setTop (mkF m 37 #[.val (.ref a1), .unset] [(.int (1 : Int32))]))
  refine own_if S5 44 d8_37 (by decide) (by decide) (fun (hc37_6 : (1 : Int32) = (0 : Int32)) => False.elim (absurd hc37_6 (by decide))) (fun (hc37_6 : ¬ ((1 : Int32) = (0 : Int32))) => ?_)
  show own_F p e below s Z _ _ _ _ _ (T5.setTop (mkF m 40 #[.val (.ref a1), .unset] []))
  refine own_callS S5 (y := (⟨"java/util/List", "of", "()Ljava/util/List;"⟩ : MethodName)) (own_w hw 64 rfl) (own_w hw 65 rfl) (own_w hw 41 rfl) (own_w hw 66 rfl) (by decide) (argsL := []) (rest := []) (own_of0 l Z a0 hw aL h0 S5.old SL) all0 (by decide +kernel : parseMethodDescriptor "()Ljava/util/List;" = some ⟨[], some (.object "java/util/List")⟩) rfl rfl rfl d8_40 (by decide) (Nat.le_of_ble_eq_true rfl) (by decide) (by decide) (fun T7 h7 v7 S7 K7 q7 => ?_)
  obtain ⟨rfl, rfl⟩ := q7
  show own_F p e below s Z _ _ _ _ _ (T7.setTop (mkF m 43 #[.val (.ref a1), .unset] [(.ref aL)]))
  refine own_retA S7 rfl rfl d8_43 (by decide) (by decide) ?_
  exact ⟨rfl, rfl⟩
theorem d7_0 : decode jdk_40_method_48_code 0 = .ok (.aload_n 0, 1) := by decide +kernel
theorem d7_1 : decode jdk_40_method_48_code 1 = .ok (.invokestatic 112, 3) := by decide +kernel
theorem d7_4 : decode jdk_40_method_48_code 4 = .ok (.areturn, 1) := by decide +kernel
theorem pn7 : plainFor (⟨"java/util/List", "copyOf", "(Ljava/util/Collection;)Ljava/util/List;"⟩ : MethodName) = true := plainFor_of_name (by first | (simp [plainName, overriddenIn]; done) | decide +kernel)
set_option maxRecDepth 65536 in
set_option maxHeartbeats 40000000 in
theorem own_co0 (l : Launch) (Z : State) (a0 : Array Value) (hw : ∀ d ∈ tables_1, d.before a0 Z = true) (a1 : Addr) (aL : Addr) (h0 : Heap) (hO : Ext Z.heap h0) (SL : Sta Z Z.heap "java/util/ImmutableCollections" "EMPTY_LIST" "Ljava/util/ImmutableCollections$ListN;" (.ref aL)) (E_a1 : Exa Z h0 a1 "java/util/ArrayList") (F_size : Fld Z h0 a1 "java/util/ArrayList" "size" "I" (.int (0 : Int32))) :
    own_C l Z (⟨"java/util/List", "copyOf", "(Ljava/util/Collection;)Ljava/util/List;"⟩ : MethodName) jdk_40_method_48_code 1 (some (.object "java/util/List")) [] ({ frames := 2, cells := 0, slots := 0, locals := 25 } : Room) [] #[(.ref a1)] h0 (fun v h => v = some (.ref aL) ∧ h0 = h) := by
  refine own_C.of pn7 hO all0 ?_
  intro p e s m below meth c T0 S0
  refine own_F.cast (by first | (simp [entryFrame, mkF, argsToLocals, Value.category]; done) | rfl : entryFrame m #[(.ref a1)] 1 = mkF m 0 #[.val (.ref a1)] []) ?_
  show own_F p e below s Z _ _ _ _ _ (T0.setTop (mkF m 0 #[.val (.ref a1)] []))
  refine own_F.of (fun _ => XS.aloadN S0.here S0.hx rfl (S0.dec d7_0) rfl rfl) ?_
  show own_F p e below s Z _ _ _ _ _ (T0.setTop (mkF m 1 #[.val (.ref a1)] [(.ref a1)]))
  refine own_callS S0 (y := (⟨"java/util/ImmutableCollections", "listCopy", "(Ljava/util/Collection;)Ljava/util/List;"⟩ : MethodName)) (own_w hw 43 rfl) (own_w hw 44 rfl) (own_w hw 45 rfl) (own_w hw 46 rfl) (by decide) (argsL := [(.ref a1)]) (rest := []) (own_lc0 l Z a0 hw a1 aL h0 S0.old SL E_a1 F_size) all0 (by decide +kernel : parseMethodDescriptor "(Ljava/util/Collection;)Ljava/util/List;" = some ⟨[(.object "java/util/Collection")], some (.object "java/util/List")⟩) rfl rfl rfl d7_1 (by decide) (Nat.le_of_ble_eq_true rfl) (by decide) (by decide) (fun T1 h1 v1 S1 K1 q1 => ?_)
  obtain ⟨rfl, rfl⟩ := q1
  show own_F p e below s Z _ _ _ _ _ (T1.setTop (mkF m 4 #[.val (.ref a1)] [(.ref aL)]))
  refine own_retA S1 rfl rfl d7_4 (by decide) (by decide) ?_
  exact ⟨rfl, rfl⟩
set_option maxRecDepth 65536 in
set_option maxHeartbeats 40000000 in
theorem own_isE1 (l : Launch) (Z : State) (a0 : Array Value) (hw : ∀ d ∈ tables_1, d.before a0 Z = true) (a1 : Addr) (h0 : Heap) (hO : Ext Z.heap h0) (F_size : Fld Z h0 a1 "java/util/ArrayList" "size" "I" (.int (1 : Int32))) :
    own_C l Z (⟨"java/util/ArrayList", "isEmpty", "()Z"⟩ : MethodName) jdk_38_method_9_code 1 (some .boolean) [] ({ frames := 0, cells := 0, slots := 0, locals := 0 } : Room) [] #[(.ref a1)] h0 (fun v h => v = some (.int 0) ∧ h0 = h) := by
  refine own_C.of pn9 hO all0 ?_
  intro p e s m below meth c T0 S0
  refine own_F.cast (by first | (simp [entryFrame, mkF, argsToLocals, Value.category]; done) | rfl : entryFrame m #[(.ref a1)] 1 = mkF m 0 #[.val (.ref a1)] []) ?_
  show own_F p e below s Z _ _ _ _ _ (T0.setTop (mkF m 0 #[.val (.ref a1)] []))
  refine own_F.of (fun _ => XS.aloadN S0.here S0.hx rfl (S0.dec d9_0) rfl rfl) ?_
  show own_F p e below s Z _ _ _ _ _ (T0.setTop (mkF m 1 #[.val (.ref a1)] [(.ref a1)]))
  refine own_getF S0 (host := "") (Or.inl (own_w hw 62 rfl)) Via.refl F_size d9_1 (fun T1 S1 => ?_)
  show own_F p e below s Z _ _ _ _ _ (T1.setTop (mkF m 4 #[.val (.ref a1)] [(.int (1 : Int32))]))
  refine own_if S1 11 d9_4 (by decide) (by decide) (fun (hc4_2 : ¬ ((1 : Int32) = (0 : Int32))) => ?_) (fun (hc4_2 : (1 : Int32) = (0 : Int32)) => False.elim (absurd hc4_2 (by decide)))
  show own_F p e below s Z _ _ _ _ _ (T1.setTop (mkF m 11 #[.val (.ref a1)] []))
  refine own_F.of (fun _ => XS.iconst S1.here S1.hx rfl (S1.dec d9_11)) ?_
  show own_F p e below s Z _ _ _ _ _ (T1.setTop (mkF m 12 #[.val (.ref a1)] [(.int (0 : Int32))]))
  refine own_retZ S1 (by simp) d9_12 (by decide) (by decide) ?_
  exact ⟨rfl, rfl⟩
set_option maxRecDepth 65536 in
set_option maxHeartbeats 40000000 in
theorem own_lc1 (l : Launch) (Z : State) (a0 : Array Value) (hw : ∀ d ∈ tables_1, d.before a0 Z = true) (a1 aE : Addr) (e1 : Addr) (aM : Addr) (mO : Addr) (h0 : Heap) (hO : Ext Z.heap h0) (SM : Sta Z Z.heap "java/util/ImmutableCollections" "EMPTY" "Ljava/lang/Object;" (.ref aM)) (MO : Mir Z "[Ljava/lang/Object;" mO) (E_a1 : Exa Z h0 a1 "java/util/ArrayList") (F_size : Fld Z h0 a1 "java/util/ArrayList" "size" "I" (.int (1 : Int32))) (F_elementData : Fld Z h0 a1 "java/util/ArrayList" "elementData" "[Ljava/lang/Object;" (.ref aE)) (AE : own_AO Z h0 aE [(.ref e1), .null, .null, .null, .null, .null, .null, .null, .null, .null]) (X_e1 : Exa Z h0 e1 "java/lang/Integer") :
    own_C l Z (⟨"java/util/ImmutableCollections", "listCopy", "(Ljava/util/Collection;)Ljava/util/List;"⟩ : MethodName) jdk_56_method_3_code 2 (some (.object "java/util/List")) [] ({ frames := 6, cells := 2, slots := 3, locals := 75 } : Room) [] #[(.ref a1)] h0 (fun v h => ∃ b, v = some (.ref b) ∧ Exa Z h b "java/util/ImmutableCollections$List12" ∧ Fld Z h b "java/util/ImmutableCollections$List12" "e0" "Ljava/lang/Object;" (.ref e1) ∧ Fld Z h b "java/util/ImmutableCollections$List12" "e1" "Ljava/lang/Object;" (.ref aM)) := by
  refine own_C.of pn8 hO all0 ?_
  intro p e s m below meth c T0 S0
  refine own_F.cast (by first | (simp [entryFrame, mkF, argsToLocals, Value.category]; done) | rfl : entryFrame m #[(.ref a1)] 2 = mkF m 0 #[.val (.ref a1), .unset] []) ?_
  show own_F p e below s Z _ _ _ _ _ (T0.setTop (mkF m 0 #[.val (.ref a1), .unset] []))
  refine own_F.of (fun _ => XS.aloadN S0.here S0.hx rfl (S0.dec d8_0) rfl rfl) ?_
  show own_F p e below s Z _ _ _ _ _ (T0.setTop (mkF m 1 #[.val (.ref a1), .unset] [(.ref a1)]))
  refine own_instN S0 (own_w hw 47 rfl) E_a1 (own_NSno (own_w hw 48 rfl) (own_w hw 182 rfl) (NS.step (own_w hw 48 rfl) (NS.step (own_w hw 49 rfl) (NS.step (own_w hw 50 rfl) (own_NSroot (own_w hw 51 rfl) (own_w hw 182 rfl) (by decide)) (by decide)) (by decide)) (by decide)) (by decide)) d8_1 (fun T1 S1 => ?_)
  show own_F p e below s Z _ _ _ _ _ (T1.setTop (mkF m 4 #[.val (.ref a1), .unset] [(.int (0 : Int32))]))
  refine own_if S1 26 d8_4 (by decide) (by decide) (fun (hc4_2 : ¬ ((0 : Int32) = (0 : Int32))) => False.elim (absurd hc4_2 (by decide))) (fun (hc4_2 : (0 : Int32) = (0 : Int32)) => ?_)
  show own_F p e below s Z _ _ _ _ _ (T1.setTop (mkF m 7 #[.val (.ref a1), .unset] []))
  refine own_F.of (fun _ => XS.aloadN S1.here S1.hx rfl (S1.dec d8_7) rfl rfl) ?_
  show own_F p e below s Z _ _ _ _ _ (T1.setTop (mkF m 8 #[.val (.ref a1), .unset] [(.ref a1)]))
  refine own_instN S1 (own_w hw 52 rfl) E_a1 (own_NSno (own_w hw 48 rfl) (own_w hw 242 rfl) (NS.step (own_w hw 48 rfl) (NS.step (own_w hw 49 rfl) (NS.step (own_w hw 50 rfl) (own_NSroot (own_w hw 51 rfl) (own_w hw 242 rfl) (by decide)) (by decide)) (by decide)) (by decide)) (by decide)) d8_8 (fun T3 S3 => ?_)
  show own_F p e below s Z _ _ _ _ _ (T3.setTop (mkF m 11 #[.val (.ref a1), .unset] [(.int (0 : Int32))]))
  refine own_if S3 31 d8_11 (by decide) (by decide) (fun (hc11_4 : (0 : Int32) = (0 : Int32)) => ?_) (fun (hc11_4 : ¬ ((0 : Int32) = (0 : Int32))) => False.elim (absurd hc11_4 (by decide)))
  show own_F p e below s Z _ _ _ _ _ (T3.setTop (mkF m 31 #[.val (.ref a1), .unset] []))
  refine own_F.of (fun _ => XS.aloadN S3.here S3.hx rfl (S3.dec d8_31) rfl rfl) ?_
  show own_F p e below s Z _ _ _ _ _ (T3.setTop (mkF m 32 #[.val (.ref a1), .unset] [(.ref a1)]))
  refine own_callX S3 (y := (⟨"java/util/Collection", "isEmpty", "()Z"⟩ : MethodName)) (y' := (⟨"java/util/ArrayList", "isEmpty", "()Z"⟩ : MethodName)) (own_w hw 53 rfl) (own_w hw 54 rfl) (own_w hw 55 rfl) (own_w hw 56 rfl) (own_w hw 57 rfl) (own_w hw 58 rfl) (own_w hw 59 rfl) (own_w hw 60 rfl) (own_w hw 61 rfl) (own_w hw 9 rfl) (by decide) E_a1 (argsL := []) (rest := []) (own_isE1 l Z a0 hw a1 h0 S3.old F_size) all0 (by decide +kernel : parseMethodDescriptor "()Z" = some ⟨[], some .boolean⟩) rfl rfl rfl d8_32 (by decide) (Nat.le_of_ble_eq_true rfl) (by decide) (by decide) (fun T5 h5 v5 S5 K5 q5 => ?_)
  obtain ⟨rfl, rfl⟩ := q5
  show own_F p e below s Z _ _ _ _ _ (T5.setTop (mkF m 37 #[.val (.ref a1), .unset] [(.int (0 : Int32))]))
  refine own_if S5 44 d8_37 (by decide) (by decide) (fun (hc37_6 : (0 : Int32) = (0 : Int32)) => ?_) (fun (hc37_6 : ¬ ((0 : Int32) = (0 : Int32))) => False.elim (absurd hc37_6 (by decide)))
  show own_F p e below s Z _ _ _ _ _ (T5.setTop (mkF m 44 #[.val (.ref a1), .unset] []))
  refine own_F.of (fun _ => XS.aloadN S5.here S5.hx rfl (S5.dec d8_44) rfl rfl) ?_
  show own_F p e below s Z _ _ _ _ _ (T5.setTop (mkF m 45 #[.val (.ref a1), .unset] [(.ref a1)]))
  refine own_callX S5 (y := (⟨"java/util/Collection", "toArray", "()[Ljava/lang/Object;"⟩ : MethodName)) (y' := (⟨"java/util/ArrayList", "toArray", "()[Ljava/lang/Object;"⟩ : MethodName)) (own_w hw 148 rfl) (own_w hw 149 rfl) (own_w hw 150 rfl) (own_w hw 151 rfl) (own_w hw 152 rfl) (own_w hw 153 rfl) (own_w hw 154 rfl) (own_w hw 60 rfl) (own_w hw 155 rfl) (own_w hw 9 rfl) (by decide) E_a1 (argsL := []) (rest := []) (own_toArr1 l Z a0 hw a1 aE e1 mO h0 S5.old F_elementData F_size AE X_e1 MO) all0 (by decide +kernel : parseMethodDescriptor "()[Ljava/lang/Object;" = some ⟨[], some (.array (.object "java/lang/Object"))⟩) rfl rfl rfl d8_45 (by decide) (Nat.le_of_ble_eq_true rfl) (by decide) (by decide) (fun T7 h7 v7 S7 K7 q7 => ?_)
  obtain ⟨b7, rfl, F7⟩ := q7
  have V8 : own_AO Z h7 b7 [(.ref e1)] := F7
  show own_F p e below s Z _ _ _ _ _ (T7.setTop (mkF m 50 #[.val (.ref a1), .unset] [(.ref b7)]))
  have fq9 := (X_e1.keep K7)
  refine own_callS S7 (y := (⟨"java/util/List", "of", "([Ljava/lang/Object;)Ljava/util/List;"⟩ : MethodName)) (own_w hw 178 rfl) (own_w hw 179 rfl) (own_w hw 41 rfl) (own_w hw 180 rfl) (by decide) (argsL := [(.ref b7)]) (rest := []) (own_of1 l Z a0 hw b7 e1 aM h7 S7.old SM V8 fq9) all0 (by decide +kernel : parseMethodDescriptor "([Ljava/lang/Object;)Ljava/util/List;" = some ⟨[(.array (.object "java/lang/Object"))], some (.object "java/util/List")⟩) rfl rfl rfl d8_50 (by decide) (Nat.le_of_ble_eq_true rfl) (by decide) (by decide) (fun T10 h10 v10 S10 K10 q10 => ?_)
  obtain ⟨b10, rfl, F10⟩ := q10
  show own_F p e below s Z _ _ _ _ _ (T10.setTop (mkF m 53 #[.val (.ref a1), .unset] [(.ref b10)]))
  refine own_retA S10 rfl rfl d8_53 (by decide) (by decide) ?_
  exact ⟨_, rfl, F10⟩
set_option maxRecDepth 65536 in
set_option maxHeartbeats 40000000 in
theorem own_co1 (l : Launch) (Z : State) (a0 : Array Value) (hw : ∀ d ∈ tables_1, d.before a0 Z = true) (a1 aE : Addr) (e1 : Addr) (aM : Addr) (mO : Addr) (h0 : Heap) (hO : Ext Z.heap h0) (SM : Sta Z Z.heap "java/util/ImmutableCollections" "EMPTY" "Ljava/lang/Object;" (.ref aM)) (MO : Mir Z "[Ljava/lang/Object;" mO) (E_a1 : Exa Z h0 a1 "java/util/ArrayList") (F_size : Fld Z h0 a1 "java/util/ArrayList" "size" "I" (.int (1 : Int32))) (F_elementData : Fld Z h0 a1 "java/util/ArrayList" "elementData" "[Ljava/lang/Object;" (.ref aE)) (AE : own_AO Z h0 aE [(.ref e1), .null, .null, .null, .null, .null, .null, .null, .null, .null]) (X_e1 : Exa Z h0 e1 "java/lang/Integer") :
    own_C l Z (⟨"java/util/List", "copyOf", "(Ljava/util/Collection;)Ljava/util/List;"⟩ : MethodName) jdk_40_method_48_code 1 (some (.object "java/util/List")) [] ({ frames := 7, cells := 2, slots := 3, locals := 88 } : Room) [] #[(.ref a1)] h0 (fun v h => ∃ b, v = some (.ref b) ∧ Exa Z h b "java/util/ImmutableCollections$List12" ∧ Fld Z h b "java/util/ImmutableCollections$List12" "e0" "Ljava/lang/Object;" (.ref e1) ∧ Fld Z h b "java/util/ImmutableCollections$List12" "e1" "Ljava/lang/Object;" (.ref aM)) := by
  refine own_C.of pn7 hO all0 ?_
  intro p e s m below meth c T0 S0
  refine own_F.cast (by first | (simp [entryFrame, mkF, argsToLocals, Value.category]; done) | rfl : entryFrame m #[(.ref a1)] 1 = mkF m 0 #[.val (.ref a1)] []) ?_
  show own_F p e below s Z _ _ _ _ _ (T0.setTop (mkF m 0 #[.val (.ref a1)] []))
  refine own_F.of (fun _ => XS.aloadN S0.here S0.hx rfl (S0.dec d7_0) rfl rfl) ?_
  show own_F p e below s Z _ _ _ _ _ (T0.setTop (mkF m 1 #[.val (.ref a1)] [(.ref a1)]))
  refine own_callS S0 (y := (⟨"java/util/ImmutableCollections", "listCopy", "(Ljava/util/Collection;)Ljava/util/List;"⟩ : MethodName)) (own_w hw 43 rfl) (own_w hw 44 rfl) (own_w hw 45 rfl) (own_w hw 46 rfl) (by decide) (argsL := [(.ref a1)]) (rest := []) (own_lc1 l Z a0 hw a1 aE e1 aM mO h0 S0.old SM MO E_a1 F_size F_elementData AE X_e1) all0 (by decide +kernel : parseMethodDescriptor "(Ljava/util/Collection;)Ljava/util/List;" = some ⟨[(.object "java/util/Collection")], some (.object "java/util/List")⟩) rfl rfl rfl d7_1 (by decide) (Nat.le_of_ble_eq_true rfl) (by decide) (by decide) (fun T1 h1 v1 S1 K1 q1 => ?_)
  obtain ⟨b1, rfl, F1⟩ := q1
  show own_F p e below s Z _ _ _ _ _ (T1.setTop (mkF m 4 #[.val (.ref a1)] [(.ref b1)]))
  refine own_retA S1 rfl rfl d7_4 (by decide) (by decide) ?_
  exact ⟨_, rfl, F1⟩
set_option maxRecDepth 65536 in
set_option maxHeartbeats 40000000 in
theorem own_isE2 (l : Launch) (Z : State) (a0 : Array Value) (hw : ∀ d ∈ tables_1, d.before a0 Z = true) (a1 : Addr) (h0 : Heap) (hO : Ext Z.heap h0) (F_size : Fld Z h0 a1 "java/util/ArrayList" "size" "I" (.int (2 : Int32))) :
    own_C l Z (⟨"java/util/ArrayList", "isEmpty", "()Z"⟩ : MethodName) jdk_38_method_9_code 1 (some .boolean) [] ({ frames := 0, cells := 0, slots := 0, locals := 0 } : Room) [] #[(.ref a1)] h0 (fun v h => v = some (.int 0) ∧ h0 = h) := by
  refine own_C.of pn9 hO all0 ?_
  intro p e s m below meth c T0 S0
  refine own_F.cast (by first | (simp [entryFrame, mkF, argsToLocals, Value.category]; done) | rfl : entryFrame m #[(.ref a1)] 1 = mkF m 0 #[.val (.ref a1)] []) ?_
  show own_F p e below s Z _ _ _ _ _ (T0.setTop (mkF m 0 #[.val (.ref a1)] []))
  refine own_F.of (fun _ => XS.aloadN S0.here S0.hx rfl (S0.dec d9_0) rfl rfl) ?_
  show own_F p e below s Z _ _ _ _ _ (T0.setTop (mkF m 1 #[.val (.ref a1)] [(.ref a1)]))
  refine own_getF S0 (host := "") (Or.inl (own_w hw 62 rfl)) Via.refl F_size d9_1 (fun T1 S1 => ?_)
  show own_F p e below s Z _ _ _ _ _ (T1.setTop (mkF m 4 #[.val (.ref a1)] [(.int (2 : Int32))]))
  refine own_if S1 11 d9_4 (by decide) (by decide) (fun (hc4_2 : ¬ ((2 : Int32) = (0 : Int32))) => ?_) (fun (hc4_2 : (2 : Int32) = (0 : Int32)) => False.elim (absurd hc4_2 (by decide)))
  show own_F p e below s Z _ _ _ _ _ (T1.setTop (mkF m 11 #[.val (.ref a1)] []))
  refine own_F.of (fun _ => XS.iconst S1.here S1.hx rfl (S1.dec d9_11)) ?_
  show own_F p e below s Z _ _ _ _ _ (T1.setTop (mkF m 12 #[.val (.ref a1)] [(.int (0 : Int32))]))
  refine own_retZ S1 (by simp) d9_12 (by decide) (by decide) ?_
  exact ⟨rfl, rfl⟩
set_option maxRecDepth 65536 in
set_option maxHeartbeats 40000000 in
theorem own_lc2 (l : Launch) (Z : State) (a0 : Array Value) (hw : ∀ d ∈ tables_1, d.before a0 Z = true) (a1 aE : Addr) (e1 e2 : Addr) (aM : Addr) (mO : Addr) (h0 : Heap) (hO : Ext Z.heap h0) (SM : Sta Z Z.heap "java/util/ImmutableCollections" "EMPTY" "Ljava/lang/Object;" (.ref aM)) (MO : Mir Z "[Ljava/lang/Object;" mO) (E_a1 : Exa Z h0 a1 "java/util/ArrayList") (F_size : Fld Z h0 a1 "java/util/ArrayList" "size" "I" (.int (2 : Int32))) (F_elementData : Fld Z h0 a1 "java/util/ArrayList" "elementData" "[Ljava/lang/Object;" (.ref aE)) (AE : own_AO Z h0 aE [(.ref e1), (.ref e2), .null, .null, .null, .null, .null, .null, .null, .null]) (X_e1 : Exa Z h0 e1 "java/lang/Integer") (X_e2 : Exa Z h0 e2 "java/lang/Integer") :
    own_C l Z (⟨"java/util/ImmutableCollections", "listCopy", "(Ljava/util/Collection;)Ljava/util/List;"⟩ : MethodName) jdk_56_method_3_code 2 (some (.object "java/util/List")) [] ({ frames := 6, cells := 2, slots := 4, locals := 76 } : Room) [] #[(.ref a1)] h0 (fun v h => ∃ b, v = some (.ref b) ∧ Exa Z h b "java/util/ImmutableCollections$List12" ∧ Fld Z h b "java/util/ImmutableCollections$List12" "e0" "Ljava/lang/Object;" (.ref e1) ∧ Fld Z h b "java/util/ImmutableCollections$List12" "e1" "Ljava/lang/Object;" (.ref e2)) := by
  refine own_C.of pn8 hO all0 ?_
  intro p e s m below meth c T0 S0
  refine own_F.cast (by first | (simp [entryFrame, mkF, argsToLocals, Value.category]; done) | rfl : entryFrame m #[(.ref a1)] 2 = mkF m 0 #[.val (.ref a1), .unset] []) ?_
  show own_F p e below s Z _ _ _ _ _ (T0.setTop (mkF m 0 #[.val (.ref a1), .unset] []))
  refine own_F.of (fun _ => XS.aloadN S0.here S0.hx rfl (S0.dec d8_0) rfl rfl) ?_
  show own_F p e below s Z _ _ _ _ _ (T0.setTop (mkF m 1 #[.val (.ref a1), .unset] [(.ref a1)]))
  refine own_instN S0 (own_w hw 47 rfl) E_a1 (own_NSno (own_w hw 48 rfl) (own_w hw 182 rfl) (NS.step (own_w hw 48 rfl) (NS.step (own_w hw 49 rfl) (NS.step (own_w hw 50 rfl) (own_NSroot (own_w hw 51 rfl) (own_w hw 182 rfl) (by decide)) (by decide)) (by decide)) (by decide)) (by decide)) d8_1 (fun T1 S1 => ?_)
  show own_F p e below s Z _ _ _ _ _ (T1.setTop (mkF m 4 #[.val (.ref a1), .unset] [(.int (0 : Int32))]))
  refine own_if S1 26 d8_4 (by decide) (by decide) (fun (hc4_2 : ¬ ((0 : Int32) = (0 : Int32))) => False.elim (absurd hc4_2 (by decide))) (fun (hc4_2 : (0 : Int32) = (0 : Int32)) => ?_)
  show own_F p e below s Z _ _ _ _ _ (T1.setTop (mkF m 7 #[.val (.ref a1), .unset] []))
  refine own_F.of (fun _ => XS.aloadN S1.here S1.hx rfl (S1.dec d8_7) rfl rfl) ?_
  show own_F p e below s Z _ _ _ _ _ (T1.setTop (mkF m 8 #[.val (.ref a1), .unset] [(.ref a1)]))
  refine own_instN S1 (own_w hw 52 rfl) E_a1 (own_NSno (own_w hw 48 rfl) (own_w hw 242 rfl) (NS.step (own_w hw 48 rfl) (NS.step (own_w hw 49 rfl) (NS.step (own_w hw 50 rfl) (own_NSroot (own_w hw 51 rfl) (own_w hw 242 rfl) (by decide)) (by decide)) (by decide)) (by decide)) (by decide)) d8_8 (fun T3 S3 => ?_)
  show own_F p e below s Z _ _ _ _ _ (T3.setTop (mkF m 11 #[.val (.ref a1), .unset] [(.int (0 : Int32))]))
  refine own_if S3 31 d8_11 (by decide) (by decide) (fun (hc11_4 : (0 : Int32) = (0 : Int32)) => ?_) (fun (hc11_4 : ¬ ((0 : Int32) = (0 : Int32))) => False.elim (absurd hc11_4 (by decide)))
  show own_F p e below s Z _ _ _ _ _ (T3.setTop (mkF m 31 #[.val (.ref a1), .unset] []))
  refine own_F.of (fun _ => XS.aloadN S3.here S3.hx rfl (S3.dec d8_31) rfl rfl) ?_
  show own_F p e below s Z _ _ _ _ _ (T3.setTop (mkF m 32 #[.val (.ref a1), .unset] [(.ref a1)]))
  refine own_callX S3 (y := (⟨"java/util/Collection", "isEmpty", "()Z"⟩ : MethodName)) (y' := (⟨"java/util/ArrayList", "isEmpty", "()Z"⟩ : MethodName)) (own_w hw 53 rfl) (own_w hw 54 rfl) (own_w hw 55 rfl) (own_w hw 56 rfl) (own_w hw 57 rfl) (own_w hw 58 rfl) (own_w hw 59 rfl) (own_w hw 60 rfl) (own_w hw 61 rfl) (own_w hw 9 rfl) (by decide) E_a1 (argsL := []) (rest := []) (own_isE2 l Z a0 hw a1 h0 S3.old F_size) all0 (by decide +kernel : parseMethodDescriptor "()Z" = some ⟨[], some .boolean⟩) rfl rfl rfl d8_32 (by decide) (Nat.le_of_ble_eq_true rfl) (by decide) (by decide) (fun T5 h5 v5 S5 K5 q5 => ?_)
  obtain ⟨rfl, rfl⟩ := q5
  show own_F p e below s Z _ _ _ _ _ (T5.setTop (mkF m 37 #[.val (.ref a1), .unset] [(.int (0 : Int32))]))
  refine own_if S5 44 d8_37 (by decide) (by decide) (fun (hc37_6 : (0 : Int32) = (0 : Int32)) => ?_) (fun (hc37_6 : ¬ ((0 : Int32) = (0 : Int32))) => False.elim (absurd hc37_6 (by decide)))
  show own_F p e below s Z _ _ _ _ _ (T5.setTop (mkF m 44 #[.val (.ref a1), .unset] []))
  refine own_F.of (fun _ => XS.aloadN S5.here S5.hx rfl (S5.dec d8_44) rfl rfl) ?_
  show own_F p e below s Z _ _ _ _ _ (T5.setTop (mkF m 45 #[.val (.ref a1), .unset] [(.ref a1)]))
  refine own_callX S5 (y := (⟨"java/util/Collection", "toArray", "()[Ljava/lang/Object;"⟩ : MethodName)) (y' := (⟨"java/util/ArrayList", "toArray", "()[Ljava/lang/Object;"⟩ : MethodName)) (own_w hw 148 rfl) (own_w hw 149 rfl) (own_w hw 150 rfl) (own_w hw 151 rfl) (own_w hw 152 rfl) (own_w hw 153 rfl) (own_w hw 154 rfl) (own_w hw 60 rfl) (own_w hw 155 rfl) (own_w hw 9 rfl) (by decide) E_a1 (argsL := []) (rest := []) (own_toArr2 l Z a0 hw a1 aE e1 e2 mO h0 S5.old F_elementData F_size AE X_e1 X_e2 MO) all0 (by decide +kernel : parseMethodDescriptor "()[Ljava/lang/Object;" = some ⟨[], some (.array (.object "java/lang/Object"))⟩) rfl rfl rfl d8_45 (by decide) (Nat.le_of_ble_eq_true rfl) (by decide) (by decide) (fun T7 h7 v7 S7 K7 q7 => ?_)
  obtain ⟨b7, rfl, F7⟩ := q7
  have V8 : own_AO Z h7 b7 [(.ref e1), (.ref e2)] := F7
  show own_F p e below s Z _ _ _ _ _ (T7.setTop (mkF m 50 #[.val (.ref a1), .unset] [(.ref b7)]))
  have fq9 := (X_e1.keep K7)
  have fq10 := (X_e2.keep K7)
  refine own_callS S7 (y := (⟨"java/util/List", "of", "([Ljava/lang/Object;)Ljava/util/List;"⟩ : MethodName)) (own_w hw 178 rfl) (own_w hw 179 rfl) (own_w hw 41 rfl) (own_w hw 180 rfl) (by decide) (argsL := [(.ref b7)]) (rest := []) (own_of2 l Z a0 hw b7 e1 e2 aM h7 S7.old SM V8 fq9 fq10) all0 (by decide +kernel : parseMethodDescriptor "([Ljava/lang/Object;)Ljava/util/List;" = some ⟨[(.array (.object "java/lang/Object"))], some (.object "java/util/List")⟩) rfl rfl rfl d8_50 (by decide) (Nat.le_of_ble_eq_true rfl) (by decide) (by decide) (fun T11 h11 v11 S11 K11 q11 => ?_)
  obtain ⟨b11, rfl, F11⟩ := q11
  show own_F p e below s Z _ _ _ _ _ (T11.setTop (mkF m 53 #[.val (.ref a1), .unset] [(.ref b11)]))
  refine own_retA S11 rfl rfl d8_53 (by decide) (by decide) ?_
  exact ⟨_, rfl, F11⟩
set_option maxRecDepth 65536 in
set_option maxHeartbeats 40000000 in
theorem own_co2 (l : Launch) (Z : State) (a0 : Array Value) (hw : ∀ d ∈ tables_1, d.before a0 Z = true) (a1 aE : Addr) (e1 e2 : Addr) (aM : Addr) (mO : Addr) (h0 : Heap) (hO : Ext Z.heap h0) (SM : Sta Z Z.heap "java/util/ImmutableCollections" "EMPTY" "Ljava/lang/Object;" (.ref aM)) (MO : Mir Z "[Ljava/lang/Object;" mO) (E_a1 : Exa Z h0 a1 "java/util/ArrayList") (F_size : Fld Z h0 a1 "java/util/ArrayList" "size" "I" (.int (2 : Int32))) (F_elementData : Fld Z h0 a1 "java/util/ArrayList" "elementData" "[Ljava/lang/Object;" (.ref aE)) (AE : own_AO Z h0 aE [(.ref e1), (.ref e2), .null, .null, .null, .null, .null, .null, .null, .null]) (X_e1 : Exa Z h0 e1 "java/lang/Integer") (X_e2 : Exa Z h0 e2 "java/lang/Integer") :
    own_C l Z (⟨"java/util/List", "copyOf", "(Ljava/util/Collection;)Ljava/util/List;"⟩ : MethodName) jdk_40_method_48_code 1 (some (.object "java/util/List")) [] ({ frames := 7, cells := 2, slots := 4, locals := 89 } : Room) [] #[(.ref a1)] h0 (fun v h => ∃ b, v = some (.ref b) ∧ Exa Z h b "java/util/ImmutableCollections$List12" ∧ Fld Z h b "java/util/ImmutableCollections$List12" "e0" "Ljava/lang/Object;" (.ref e1) ∧ Fld Z h b "java/util/ImmutableCollections$List12" "e1" "Ljava/lang/Object;" (.ref e2)) := by
  refine own_C.of pn7 hO all0 ?_
  intro p e s m below meth c T0 S0
  refine own_F.cast (by first | (simp [entryFrame, mkF, argsToLocals, Value.category]; done) | rfl : entryFrame m #[(.ref a1)] 1 = mkF m 0 #[.val (.ref a1)] []) ?_
  show own_F p e below s Z _ _ _ _ _ (T0.setTop (mkF m 0 #[.val (.ref a1)] []))
  refine own_F.of (fun _ => XS.aloadN S0.here S0.hx rfl (S0.dec d7_0) rfl rfl) ?_
  show own_F p e below s Z _ _ _ _ _ (T0.setTop (mkF m 1 #[.val (.ref a1)] [(.ref a1)]))
  refine own_callS S0 (y := (⟨"java/util/ImmutableCollections", "listCopy", "(Ljava/util/Collection;)Ljava/util/List;"⟩ : MethodName)) (own_w hw 43 rfl) (own_w hw 44 rfl) (own_w hw 45 rfl) (own_w hw 46 rfl) (by decide) (argsL := [(.ref a1)]) (rest := []) (own_lc2 l Z a0 hw a1 aE e1 e2 aM mO h0 S0.old SM MO E_a1 F_size F_elementData AE X_e1 X_e2) all0 (by decide +kernel : parseMethodDescriptor "(Ljava/util/Collection;)Ljava/util/List;" = some ⟨[(.object "java/util/Collection")], some (.object "java/util/List")⟩) rfl rfl rfl d7_1 (by decide) (Nat.le_of_ble_eq_true rfl) (by decide) (by decide) (fun T1 h1 v1 S1 K1 q1 => ?_)
  obtain ⟨b1, rfl, F1⟩ := q1
  show own_F p e below s Z _ _ _ _ _ (T1.setTop (mkF m 4 #[.val (.ref a1)] [(.ref b1)]))
  refine own_retA S1 rfl rfl d7_4 (by decide) (by decide) ?_
  exact ⟨_, rfl, F1⟩
set_option maxRecDepth 65536 in
set_option maxHeartbeats 40000000 in
theorem own_isE3 (l : Launch) (Z : State) (a0 : Array Value) (hw : ∀ d ∈ tables_1, d.before a0 Z = true) (a1 : Addr) (h0 : Heap) (hO : Ext Z.heap h0) (F_size : Fld Z h0 a1 "java/util/ArrayList" "size" "I" (.int (3 : Int32))) :
    own_C l Z (⟨"java/util/ArrayList", "isEmpty", "()Z"⟩ : MethodName) jdk_38_method_9_code 1 (some .boolean) [] ({ frames := 0, cells := 0, slots := 0, locals := 0 } : Room) [] #[(.ref a1)] h0 (fun v h => v = some (.int 0) ∧ h0 = h) := by
  refine own_C.of pn9 hO all0 ?_
  intro p e s m below meth c T0 S0
  refine own_F.cast (by first | (simp [entryFrame, mkF, argsToLocals, Value.category]; done) | rfl : entryFrame m #[(.ref a1)] 1 = mkF m 0 #[.val (.ref a1)] []) ?_
  show own_F p e below s Z _ _ _ _ _ (T0.setTop (mkF m 0 #[.val (.ref a1)] []))
  refine own_F.of (fun _ => XS.aloadN S0.here S0.hx rfl (S0.dec d9_0) rfl rfl) ?_
  show own_F p e below s Z _ _ _ _ _ (T0.setTop (mkF m 1 #[.val (.ref a1)] [(.ref a1)]))
  refine own_getF S0 (host := "") (Or.inl (own_w hw 62 rfl)) Via.refl F_size d9_1 (fun T1 S1 => ?_)
  show own_F p e below s Z _ _ _ _ _ (T1.setTop (mkF m 4 #[.val (.ref a1)] [(.int (3 : Int32))]))
  refine own_if S1 11 d9_4 (by decide) (by decide) (fun (hc4_2 : ¬ ((3 : Int32) = (0 : Int32))) => ?_) (fun (hc4_2 : (3 : Int32) = (0 : Int32)) => False.elim (absurd hc4_2 (by decide)))
  show own_F p e below s Z _ _ _ _ _ (T1.setTop (mkF m 11 #[.val (.ref a1)] []))
  refine own_F.of (fun _ => XS.iconst S1.here S1.hx rfl (S1.dec d9_11)) ?_
  show own_F p e below s Z _ _ _ _ _ (T1.setTop (mkF m 12 #[.val (.ref a1)] [(.int (0 : Int32))]))
  refine own_retZ S1 (by simp) d9_12 (by decide) (by decide) ?_
  exact ⟨rfl, rfl⟩
set_option maxRecDepth 65536 in
set_option maxHeartbeats 40000000 in
theorem own_lc3 (l : Launch) (Z : State) (a0 : Array Value) (hw : ∀ d ∈ tables_1, d.before a0 Z = true) (a1 aE : Addr) (e1 e2 e3 : Addr) (aM : Addr) (mO : Addr) (h0 : Heap) (hO : Ext Z.heap h0) (SM : Sta Z Z.heap "java/util/ImmutableCollections" "EMPTY" "Ljava/lang/Object;" (.ref aM)) (MO : Mir Z "[Ljava/lang/Object;" mO) (E_a1 : Exa Z h0 a1 "java/util/ArrayList") (F_size : Fld Z h0 a1 "java/util/ArrayList" "size" "I" (.int (3 : Int32))) (F_elementData : Fld Z h0 a1 "java/util/ArrayList" "elementData" "[Ljava/lang/Object;" (.ref aE)) (AE : own_AO Z h0 aE [(.ref e1), (.ref e2), (.ref e3), .null, .null, .null, .null, .null, .null, .null]) (X_e1 : Exa Z h0 e1 "java/lang/Integer") (X_e2 : Exa Z h0 e2 "java/lang/Integer") (X_e3 : Exa Z h0 e3 "java/lang/Integer") :
    own_C l Z (⟨"java/util/ImmutableCollections", "listCopy", "(Ljava/util/Collection;)Ljava/util/List;"⟩ : MethodName) jdk_56_method_3_code 2 (some (.object "java/util/List")) [] ({ frames := 7, cells := 3, slots := 8, locals := 90 } : Room) [] #[(.ref a1)] h0 (fun v h => ∃ b, v = some (.ref b) ∧ ∃ ar, Exa Z h b "java/util/ImmutableCollections$ListN" ∧ Fld Z h b "java/util/ImmutableCollections$ListN" "elements" "[Ljava/lang/Object;" (.ref ar) ∧ own_AO Z h ar [(.ref e1), (.ref e2), (.ref e3)] ∧ Fld Z h b "java/util/ImmutableCollections$ListN" "allowNulls" "Z" (.int 0)) := by
  refine own_C.of pn8 hO all0 ?_
  intro p e s m below meth c T0 S0
  refine own_F.cast (by first | (simp [entryFrame, mkF, argsToLocals, Value.category]; done) | rfl : entryFrame m #[(.ref a1)] 2 = mkF m 0 #[.val (.ref a1), .unset] []) ?_
  show own_F p e below s Z _ _ _ _ _ (T0.setTop (mkF m 0 #[.val (.ref a1), .unset] []))
  refine own_F.of (fun _ => XS.aloadN S0.here S0.hx rfl (S0.dec d8_0) rfl rfl) ?_
  show own_F p e below s Z _ _ _ _ _ (T0.setTop (mkF m 1 #[.val (.ref a1), .unset] [(.ref a1)]))
  refine own_instN S0 (own_w hw 47 rfl) E_a1 (own_NSno (own_w hw 48 rfl) (own_w hw 182 rfl) (NS.step (own_w hw 48 rfl) (NS.step (own_w hw 49 rfl) (NS.step (own_w hw 50 rfl) (own_NSroot (own_w hw 51 rfl) (own_w hw 182 rfl) (by decide)) (by decide)) (by decide)) (by decide)) (by decide)) d8_1 (fun T1 S1 => ?_)
  show own_F p e below s Z _ _ _ _ _ (T1.setTop (mkF m 4 #[.val (.ref a1), .unset] [(.int (0 : Int32))]))
  refine own_if S1 26 d8_4 (by decide) (by decide) (fun (hc4_2 : ¬ ((0 : Int32) = (0 : Int32))) => False.elim (absurd hc4_2 (by decide))) (fun (hc4_2 : (0 : Int32) = (0 : Int32)) => ?_)
  show own_F p e below s Z _ _ _ _ _ (T1.setTop (mkF m 7 #[.val (.ref a1), .unset] []))
  refine own_F.of (fun _ => XS.aloadN S1.here S1.hx rfl (S1.dec d8_7) rfl rfl) ?_
  show own_F p e below s Z _ _ _ _ _ (T1.setTop (mkF m 8 #[.val (.ref a1), .unset] [(.ref a1)]))
  refine own_instN S1 (own_w hw 52 rfl) E_a1 (own_NSno (own_w hw 48 rfl) (own_w hw 242 rfl) (NS.step (own_w hw 48 rfl) (NS.step (own_w hw 49 rfl) (NS.step (own_w hw 50 rfl) (own_NSroot (own_w hw 51 rfl) (own_w hw 242 rfl) (by decide)) (by decide)) (by decide)) (by decide)) (by decide)) d8_8 (fun T3 S3 => ?_)
  show own_F p e below s Z _ _ _ _ _ (T3.setTop (mkF m 11 #[.val (.ref a1), .unset] [(.int (0 : Int32))]))
  refine own_if S3 31 d8_11 (by decide) (by decide) (fun (hc11_4 : (0 : Int32) = (0 : Int32)) => ?_) (fun (hc11_4 : ¬ ((0 : Int32) = (0 : Int32))) => False.elim (absurd hc11_4 (by decide)))
  show own_F p e below s Z _ _ _ _ _ (T3.setTop (mkF m 31 #[.val (.ref a1), .unset] []))
  refine own_F.of (fun _ => XS.aloadN S3.here S3.hx rfl (S3.dec d8_31) rfl rfl) ?_
  show own_F p e below s Z _ _ _ _ _ (T3.setTop (mkF m 32 #[.val (.ref a1), .unset] [(.ref a1)]))
  refine own_callX S3 (y := (⟨"java/util/Collection", "isEmpty", "()Z"⟩ : MethodName)) (y' := (⟨"java/util/ArrayList", "isEmpty", "()Z"⟩ : MethodName)) (own_w hw 53 rfl) (own_w hw 54 rfl) (own_w hw 55 rfl) (own_w hw 56 rfl) (own_w hw 57 rfl) (own_w hw 58 rfl) (own_w hw 59 rfl) (own_w hw 60 rfl) (own_w hw 61 rfl) (own_w hw 9 rfl) (by decide) E_a1 (argsL := []) (rest := []) (own_isE3 l Z a0 hw a1 h0 S3.old F_size) all0 (by decide +kernel : parseMethodDescriptor "()Z" = some ⟨[], some .boolean⟩) rfl rfl rfl d8_32 (by decide) (Nat.le_of_ble_eq_true rfl) (by decide) (by decide) (fun T5 h5 v5 S5 K5 q5 => ?_)
  obtain ⟨rfl, rfl⟩ := q5
  show own_F p e below s Z _ _ _ _ _ (T5.setTop (mkF m 37 #[.val (.ref a1), .unset] [(.int (0 : Int32))]))
  refine own_if S5 44 d8_37 (by decide) (by decide) (fun (hc37_6 : (0 : Int32) = (0 : Int32)) => ?_) (fun (hc37_6 : ¬ ((0 : Int32) = (0 : Int32))) => False.elim (absurd hc37_6 (by decide)))
  show own_F p e below s Z _ _ _ _ _ (T5.setTop (mkF m 44 #[.val (.ref a1), .unset] []))
  refine own_F.of (fun _ => XS.aloadN S5.here S5.hx rfl (S5.dec d8_44) rfl rfl) ?_
  show own_F p e below s Z _ _ _ _ _ (T5.setTop (mkF m 45 #[.val (.ref a1), .unset] [(.ref a1)]))
  refine own_callX S5 (y := (⟨"java/util/Collection", "toArray", "()[Ljava/lang/Object;"⟩ : MethodName)) (y' := (⟨"java/util/ArrayList", "toArray", "()[Ljava/lang/Object;"⟩ : MethodName)) (own_w hw 148 rfl) (own_w hw 149 rfl) (own_w hw 150 rfl) (own_w hw 151 rfl) (own_w hw 152 rfl) (own_w hw 153 rfl) (own_w hw 154 rfl) (own_w hw 60 rfl) (own_w hw 155 rfl) (own_w hw 9 rfl) (by decide) E_a1 (argsL := []) (rest := []) (own_toArr3 l Z a0 hw a1 aE e1 e2 e3 mO h0 S5.old F_elementData F_size AE X_e1 X_e2 X_e3 MO) all0 (by decide +kernel : parseMethodDescriptor "()[Ljava/lang/Object;" = some ⟨[], some (.array (.object "java/lang/Object"))⟩) rfl rfl rfl d8_45 (by decide) (Nat.le_of_ble_eq_true rfl) (by decide) (by decide) (fun T7 h7 v7 S7 K7 q7 => ?_)
  obtain ⟨b7, rfl, F7⟩ := q7
  have V8 : own_AO Z h7 b7 [(.ref e1), (.ref e2), (.ref e3)] := F7
  show own_F p e below s Z _ _ _ _ _ (T7.setTop (mkF m 50 #[.val (.ref a1), .unset] [(.ref b7)]))
  have fq9 := (X_e1.keep K7)
  have fq10 := (X_e2.keep K7)
  have fq11 := (X_e3.keep K7)
  refine own_callS S7 (y := (⟨"java/util/List", "of", "([Ljava/lang/Object;)Ljava/util/List;"⟩ : MethodName)) (own_w hw 178 rfl) (own_w hw 179 rfl) (own_w hw 41 rfl) (own_w hw 180 rfl) (by decide) (argsL := [(.ref b7)]) (rest := []) (own_of3 l Z a0 hw b7 e1 e2 e3 aM h7 S7.old SM V8 fq9 fq10 fq11) all0 (by decide +kernel : parseMethodDescriptor "([Ljava/lang/Object;)Ljava/util/List;" = some ⟨[(.array (.object "java/lang/Object"))], some (.object "java/util/List")⟩) rfl rfl rfl d8_50 (by decide) (Nat.le_of_ble_eq_true rfl) (by decide) (by decide) (fun T12 h12 v12 S12 K12 q12 => ?_)
  obtain ⟨b12, rfl, F12⟩ := q12
  show own_F p e below s Z _ _ _ _ _ (T12.setTop (mkF m 53 #[.val (.ref a1), .unset] [(.ref b12)]))
  refine own_retA S12 rfl rfl d8_53 (by decide) (by decide) ?_
  exact ⟨_, rfl, F12⟩
set_option maxRecDepth 65536 in
set_option maxHeartbeats 40000000 in
theorem own_co3 (l : Launch) (Z : State) (a0 : Array Value) (hw : ∀ d ∈ tables_1, d.before a0 Z = true) (a1 aE : Addr) (e1 e2 e3 : Addr) (aM : Addr) (mO : Addr) (h0 : Heap) (hO : Ext Z.heap h0) (SM : Sta Z Z.heap "java/util/ImmutableCollections" "EMPTY" "Ljava/lang/Object;" (.ref aM)) (MO : Mir Z "[Ljava/lang/Object;" mO) (E_a1 : Exa Z h0 a1 "java/util/ArrayList") (F_size : Fld Z h0 a1 "java/util/ArrayList" "size" "I" (.int (3 : Int32))) (F_elementData : Fld Z h0 a1 "java/util/ArrayList" "elementData" "[Ljava/lang/Object;" (.ref aE)) (AE : own_AO Z h0 aE [(.ref e1), (.ref e2), (.ref e3), .null, .null, .null, .null, .null, .null, .null]) (X_e1 : Exa Z h0 e1 "java/lang/Integer") (X_e2 : Exa Z h0 e2 "java/lang/Integer") (X_e3 : Exa Z h0 e3 "java/lang/Integer") :
    own_C l Z (⟨"java/util/List", "copyOf", "(Ljava/util/Collection;)Ljava/util/List;"⟩ : MethodName) jdk_40_method_48_code 1 (some (.object "java/util/List")) [] ({ frames := 8, cells := 3, slots := 8, locals := 103 } : Room) [] #[(.ref a1)] h0 (fun v h => ∃ b, v = some (.ref b) ∧ ∃ ar, Exa Z h b "java/util/ImmutableCollections$ListN" ∧ Fld Z h b "java/util/ImmutableCollections$ListN" "elements" "[Ljava/lang/Object;" (.ref ar) ∧ own_AO Z h ar [(.ref e1), (.ref e2), (.ref e3)] ∧ Fld Z h b "java/util/ImmutableCollections$ListN" "allowNulls" "Z" (.int 0)) := by
  refine own_C.of pn7 hO all0 ?_
  intro p e s m below meth c T0 S0
  refine own_F.cast (by first | (simp [entryFrame, mkF, argsToLocals, Value.category]; done) | rfl : entryFrame m #[(.ref a1)] 1 = mkF m 0 #[.val (.ref a1)] []) ?_
  show own_F p e below s Z _ _ _ _ _ (T0.setTop (mkF m 0 #[.val (.ref a1)] []))
  refine own_F.of (fun _ => XS.aloadN S0.here S0.hx rfl (S0.dec d7_0) rfl rfl) ?_
  show own_F p e below s Z _ _ _ _ _ (T0.setTop (mkF m 1 #[.val (.ref a1)] [(.ref a1)]))
  refine own_callS S0 (y := (⟨"java/util/ImmutableCollections", "listCopy", "(Ljava/util/Collection;)Ljava/util/List;"⟩ : MethodName)) (own_w hw 43 rfl) (own_w hw 44 rfl) (own_w hw 45 rfl) (own_w hw 46 rfl) (by decide) (argsL := [(.ref a1)]) (rest := []) (own_lc3 l Z a0 hw a1 aE e1 e2 e3 aM mO h0 S0.old SM MO E_a1 F_size F_elementData AE X_e1 X_e2 X_e3) all0 (by decide +kernel : parseMethodDescriptor "(Ljava/util/Collection;)Ljava/util/List;" = some ⟨[(.object "java/util/Collection")], some (.object "java/util/List")⟩) rfl rfl rfl d7_1 (by decide) (Nat.le_of_ble_eq_true rfl) (by decide) (by decide) (fun T1 h1 v1 S1 K1 q1 => ?_)
  obtain ⟨b1, rfl, F1⟩ := q1
  show own_F p e below s Z _ _ _ _ _ (T1.setTop (mkF m 4 #[.val (.ref a1)] [(.ref b1)]))
  refine own_retA S1 rfl rfl d7_4 (by decide) (by decide) ?_
  exact ⟨_, rfl, F1⟩
theorem d19_0 : decode jdk_45_method_3_code 0 = .ok (.aload_n 0, 1) := by decide +kernel
theorem d19_1 : decode jdk_45_method_3_code 1 = .ok (.getfield 7, 3) := by decide +kernel
theorem d19_4 : decode jdk_45_method_3_code 4 = .ok (.arraylength, 1) := by decide +kernel
theorem d19_5 : decode jdk_45_method_3_code 5 = .ok (.ireturn, 1) := by decide +kernel
theorem pn19 : plainFor (⟨"java/util/ImmutableCollections$ListN", "size", "()I"⟩ : MethodName) = true := plainFor_of_name (by first | (simp [plainName, overriddenIn]; done) | decide +kernel)
set_option maxRecDepth 65536 in
set_option maxHeartbeats 40000000 in
theorem own_szN0 (l : Launch) (Z : State) (a0 : Array Value) (hw : ∀ d ∈ tables_1, d.before a0 Z = true) (a1 ar : Addr)  (h0 : Heap) (hO : Ext Z.heap h0) (F_e : Fld Z h0 a1 "java/util/ImmutableCollections$ListN" "elements" "[Ljava/lang/Object;" (.ref ar)) (AR : own_A Z h0 ar (.object "java/lang/Object") []) :
    own_C l Z (⟨"java/util/ImmutableCollections$ListN", "size", "()I"⟩ : MethodName) jdk_45_method_3_code 1 (some .int) [] ({ frames := 0, cells := 0, slots := 0, locals := 0 } : Room) [] #[(.ref a1)] h0 (fun v h => v = some (.int (0 : Int32)) ∧ h0 = h) := by
  refine own_C.of pn19 hO all0 ?_
  intro p e s m below meth c T0 S0
  refine own_F.cast (by first | (simp [entryFrame, mkF, argsToLocals, Value.category]; done) | rfl : entryFrame m #[(.ref a1)] 1 = mkF m 0 #[.val (.ref a1)] []) ?_
  show own_F p e below s Z _ _ _ _ _ (T0.setTop (mkF m 0 #[.val (.ref a1)] []))
  refine own_F.of (fun _ => XS.aloadN S0.here S0.hx rfl (S0.dec d19_0) rfl rfl) ?_
  show own_F p e below s Z _ _ _ _ _ (T0.setTop (mkF m 1 #[.val (.ref a1)] [(.ref a1)]))
  refine own_getF S0 (host := "") (Or.inl (own_w hw 132 rfl)) Via.refl F_e d19_1 (fun T1 S1 => ?_)
  show own_F p e below s Z _ _ _ _ _ (T1.setTop (mkF m 4 #[.val (.ref a1)] [(.ref ar)]))
  refine own_len S1 AR d19_4 ?_
  show own_F p e below s Z _ _ _ _ _ (T1.setTop (mkF m 5 #[.val (.ref a1)] [(.int (0 : Int32))]))
  refine own_retI S1 d19_5 (by decide) (by decide) ?_
  exact ⟨rfl, rfl⟩
set_option maxRecDepth 65536 in
set_option maxHeartbeats 40000000 in
theorem own_szN3 (l : Launch) (Z : State) (a0 : Array Value) (hw : ∀ d ∈ tables_1, d.before a0 Z = true) (a1 ar : Addr) (e1 e2 e3 : Addr) (h0 : Heap) (hO : Ext Z.heap h0) (F_e : Fld Z h0 a1 "java/util/ImmutableCollections$ListN" "elements" "[Ljava/lang/Object;" (.ref ar)) (AR : own_A Z h0 ar (.object "java/lang/Object") [(.ref e1), (.ref e2), (.ref e3)]) :
    own_C l Z (⟨"java/util/ImmutableCollections$ListN", "size", "()I"⟩ : MethodName) jdk_45_method_3_code 1 (some .int) [] ({ frames := 0, cells := 0, slots := 0, locals := 0 } : Room) [] #[(.ref a1)] h0 (fun v h => v = some (.int (3 : Int32)) ∧ h0 = h) := by
  refine own_C.of pn19 hO all0 ?_
  intro p e s m below meth c T0 S0
  refine own_F.cast (by first | (simp [entryFrame, mkF, argsToLocals, Value.category]; done) | rfl : entryFrame m #[(.ref a1)] 1 = mkF m 0 #[.val (.ref a1)] []) ?_
  show own_F p e below s Z _ _ _ _ _ (T0.setTop (mkF m 0 #[.val (.ref a1)] []))
  refine own_F.of (fun _ => XS.aloadN S0.here S0.hx rfl (S0.dec d19_0) rfl rfl) ?_
  show own_F p e below s Z _ _ _ _ _ (T0.setTop (mkF m 1 #[.val (.ref a1)] [(.ref a1)]))
  refine own_getF S0 (host := "") (Or.inl (own_w hw 132 rfl)) Via.refl F_e d19_1 (fun T1 S1 => ?_)
  show own_F p e below s Z _ _ _ _ _ (T1.setTop (mkF m 4 #[.val (.ref a1)] [(.ref ar)]))
  refine own_len S1 AR d19_4 ?_
  show own_F p e below s Z _ _ _ _ _ (T1.setTop (mkF m 5 #[.val (.ref a1)] [(.int (3 : Int32))]))
  refine own_retI S1 d19_5 (by decide) (by decide) ?_
  exact ⟨rfl, rfl⟩
theorem d33_0 : decode jdk_44_method_3_code 0 = .ok (.aload_n 0, 1) := by decide +kernel
theorem d33_1 : decode jdk_44_method_3_code 1 = .ok (.getfield 24, 3) := by decide +kernel
theorem d33_4 : decode jdk_44_method_3_code 4 = .ok (.getstatic 19, 3) := by decide +kernel
theorem d33_7 : decode jdk_44_method_3_code 7 = .ok (.if_acmp .eq 7, 3) := by decide +kernel
theorem d33_10 : decode jdk_44_method_3_code 10 = .ok (.iconst 2, 1) := by decide +kernel
theorem d33_11 : decode jdk_44_method_3_code 11 = .ok (.goto 4, 3) := by decide +kernel
theorem d33_14 : decode jdk_44_method_3_code 14 = .ok (.iconst 1, 1) := by decide +kernel
theorem d33_15 : decode jdk_44_method_3_code 15 = .ok (.ireturn, 1) := by decide +kernel
theorem pn33 : plainFor (⟨"java/util/ImmutableCollections$List12", "size", "()I"⟩ : MethodName) = true := plainFor_of_name (by first | (simp [plainName, overriddenIn]; done) | decide +kernel)
set_option maxRecDepth 65536 in
set_option maxHeartbeats 40000000 in
theorem own_szT1 (l : Launch) (Z : State) (a0 : Array Value) (hw : ∀ d ∈ tables_1, d.before a0 Z = true) (a1 x1 : Addr) (aM : Addr) (h0 : Heap) (hO : Ext Z.heap h0) (SM : Sta Z Z.heap "java/util/ImmutableCollections" "EMPTY" "Ljava/lang/Object;" (.ref aM)) (F_e1 : Fld Z h0 a1 "java/util/ImmutableCollections$List12" "e1" "Ljava/lang/Object;" (.ref x1)) (hx : x1 = aM) :
    own_C l Z (⟨"java/util/ImmutableCollections$List12", "size", "()I"⟩ : MethodName) jdk_44_method_3_code 1 (some .int) [] ({ frames := 0, cells := 0, slots := 0, locals := 0 } : Room) [] #[(.ref a1)] h0 (fun v h => v = some (.int (1 : Int32)) ∧ h0 = h) := by
  refine own_C.of pn33 hO all0 ?_
  intro p e s m below meth c T0 S0
  refine own_F.cast (by first | (simp [entryFrame, mkF, argsToLocals, Value.category]; done) | rfl : entryFrame m #[(.ref a1)] 1 = mkF m 0 #[.val (.ref a1)] []) ?_
  show own_F p e below s Z _ _ _ _ _ (T0.setTop (mkF m 0 #[.val (.ref a1)] []))
  refine own_F.of (fun _ => XS.aloadN S0.here S0.hx rfl (S0.dec d33_0) rfl rfl) ?_
  show own_F p e below s Z _ _ _ _ _ (T0.setTop (mkF m 1 #[.val (.ref a1)] [(.ref a1)]))
  refine own_getF S0 (host := "") (Or.inl (own_w hw 209 rfl)) Via.refl F_e1 d33_1 (fun T1 S1 => ?_)
  show own_F p e below s Z _ _ _ _ _ (T1.setTop (mkF m 4 #[.val (.ref a1)] [(.ref x1)]))
  refine own_getS S1 (Or.inr (own_w hw 208 rfl)) Via.refl (SM.ext S1.old) d33_4 (fun T2 S2 => ?_)
  show own_F p e below s Z _ _ _ _ _ (T2.setTop (mkF m 7 #[.val (.ref a1)] [(.ref aM), (.ref x1)]))
  refine own_acmp S2 rfl rfl 14 d33_7 (by decide) (by decide) (fun (hc7_3 : (Value.ref x1) = (Value.ref aM)) => ?_) (fun (hc7_3 : ¬ ((Value.ref x1) = (Value.ref aM))) => False.elim (hc7_3 (by rw [hx])))
  show own_F p e below s Z _ _ _ _ _ (T2.setTop (mkF m 14 #[.val (.ref a1)] []))
  refine own_F.of (fun _ => XS.iconst S2.here S2.hx rfl (S2.dec d33_14)) ?_
  show own_F p e below s Z _ _ _ _ _ (T2.setTop (mkF m 15 #[.val (.ref a1)] [(.int (1 : Int32))]))
  refine own_retI S2 d33_15 (by decide) (by decide) ?_
  exact ⟨rfl, rfl⟩
set_option maxRecDepth 65536 in
set_option maxHeartbeats 40000000 in
theorem own_szT2 (l : Launch) (Z : State) (a0 : Array Value) (hw : ∀ d ∈ tables_1, d.before a0 Z = true) (a1 x1 : Addr) (aM : Addr) (h0 : Heap) (hO : Ext Z.heap h0) (SM : Sta Z Z.heap "java/util/ImmutableCollections" "EMPTY" "Ljava/lang/Object;" (.ref aM)) (F_e1 : Fld Z h0 a1 "java/util/ImmutableCollections$List12" "e1" "Ljava/lang/Object;" (.ref x1)) (hx : ¬ x1 = aM) :
    own_C l Z (⟨"java/util/ImmutableCollections$List12", "size", "()I"⟩ : MethodName) jdk_44_method_3_code 1 (some .int) [] ({ frames := 0, cells := 0, slots := 0, locals := 0 } : Room) [] #[(.ref a1)] h0 (fun v h => v = some (.int (2 : Int32)) ∧ h0 = h) := by
  refine own_C.of pn33 hO all0 ?_
  intro p e s m below meth c T0 S0
  refine own_F.cast (by first | (simp [entryFrame, mkF, argsToLocals, Value.category]; done) | rfl : entryFrame m #[(.ref a1)] 1 = mkF m 0 #[.val (.ref a1)] []) ?_
  show own_F p e below s Z _ _ _ _ _ (T0.setTop (mkF m 0 #[.val (.ref a1)] []))
  refine own_F.of (fun _ => XS.aloadN S0.here S0.hx rfl (S0.dec d33_0) rfl rfl) ?_
  show own_F p e below s Z _ _ _ _ _ (T0.setTop (mkF m 1 #[.val (.ref a1)] [(.ref a1)]))
  refine own_getF S0 (host := "") (Or.inl (own_w hw 209 rfl)) Via.refl F_e1 d33_1 (fun T1 S1 => ?_)
  show own_F p e below s Z _ _ _ _ _ (T1.setTop (mkF m 4 #[.val (.ref a1)] [(.ref x1)]))
  refine own_getS S1 (Or.inr (own_w hw 208 rfl)) Via.refl (SM.ext S1.old) d33_4 (fun T2 S2 => ?_)
  show own_F p e below s Z _ _ _ _ _ (T2.setTop (mkF m 7 #[.val (.ref a1)] [(.ref aM), (.ref x1)]))
  refine own_acmp S2 rfl rfl 14 d33_7 (by decide) (by decide) (fun (hc7_3 : (Value.ref x1) = (Value.ref aM)) => False.elim (hx (Value.ref.inj hc7_3))) (fun (hc7_3 : ¬ ((Value.ref x1) = (Value.ref aM))) => ?_)
  show own_F p e below s Z _ _ _ _ _ (T2.setTop (mkF m 10 #[.val (.ref a1)] []))
  refine own_F.of (fun _ => XS.iconst S2.here S2.hx rfl (S2.dec d33_10)) ?_
  show own_F p e below s Z _ _ _ _ _ (T2.setTop (mkF m 11 #[.val (.ref a1)] [(.int (2 : Int32))]))
  refine own_F.of (fun _ => XS.goto S2.here S2.hx rfl (pc0 := 11) (pc' := 15) rfl (S2.dec d33_11) (by decide) (by decide)) ?_
  show own_F p e below s Z _ _ _ _ _ (T2.setTop (mkF m 15 #[.val (.ref a1)] [(.int (2 : Int32))]))
  refine own_retI S2 d33_15 (by decide) (by decide) ?_
  exact ⟨rfl, rfl⟩
theorem d34_0 : decode jdk_44_method_5_code 0 = .ok (.iload_n 1, 1) := by decide +kernel
theorem d34_1 : decode jdk_44_method_5_code 1 = .ok (.ifCond .ne 8, 3) := by decide +kernel
theorem d34_4 : decode jdk_44_method_5_code 4 = .ok (.aload_n 0, 1) := by decide +kernel
theorem d34_5 : decode jdk_44_method_5_code 5 = .ok (.getfield 13, 3) := by decide +kernel
theorem d34_8 : decode jdk_44_method_5_code 8 = .ok (.areturn, 1) := by decide +kernel
theorem d34_9 : decode jdk_44_method_5_code 9 = .ok (.iload_n 1, 1) := by decide +kernel
theorem d34_10 : decode jdk_44_method_5_code 10 = .ok (.iconst 1, 1) := by decide +kernel
theorem d34_11 : decode jdk_44_method_5_code 11 = .ok (.if_icmp .ne 18, 3) := by decide +kernel
theorem d34_14 : decode jdk_44_method_5_code 14 = .ok (.aload_n 0, 1) := by decide +kernel
theorem d34_15 : decode jdk_44_method_5_code 15 = .ok (.getfield 24, 3) := by decide +kernel
theorem d34_18 : decode jdk_44_method_5_code 18 = .ok (.getstatic 19, 3) := by decide +kernel
theorem d34_21 : decode jdk_44_method_5_code 21 = .ok (.if_acmp .eq 8, 3) := by decide +kernel
theorem d34_24 : decode jdk_44_method_5_code 24 = .ok (.aload_n 0, 1) := by decide +kernel
theorem d34_25 : decode jdk_44_method_5_code 25 = .ok (.getfield 24, 3) := by decide +kernel
theorem d34_28 : decode jdk_44_method_5_code 28 = .ok (.areturn, 1) := by decide +kernel
theorem d34_29 : decode jdk_44_method_5_code 29 = .ok (.aload_n 0, 1) := by decide +kernel
theorem d34_30 : decode jdk_44_method_5_code 30 = .ok (.iload_n 1, 1) := by decide +kernel
theorem d34_31 : decode jdk_44_method_5_code 31 = .ok (.invokevirtual 27, 3) := by decide +kernel
theorem d34_34 : decode jdk_44_method_5_code 34 = .ok (.athrow, 1) := by decide +kernel
theorem pn34 : plainFor (⟨"java/util/ImmutableCollections$List12", "get", "(I)Ljava/lang/Object;"⟩ : MethodName) = true := plainFor_of_name (by first | (simp [plainName, overriddenIn]; done) | decide +kernel)
set_option maxRecDepth 65536 in
set_option maxHeartbeats 40000000 in
theorem own_gtT_0 (l : Launch) (Z : State) (a0 : Array Value) (hw : ∀ d ∈ tables_1, d.before a0 Z = true) (a1 x0 x1 : Addr) (h0 : Heap) (hO : Ext Z.heap h0) (F_e0 : Fld Z h0 a1 "java/util/ImmutableCollections$List12" "e0" "Ljava/lang/Object;" (.ref x0)) (F_e1 : Fld Z h0 a1 "java/util/ImmutableCollections$List12" "e1" "Ljava/lang/Object;" (.ref x1)) :
    own_C l Z (⟨"java/util/ImmutableCollections$List12", "get", "(I)Ljava/lang/Object;"⟩ : MethodName) jdk_44_method_5_code 2 (some (.object "java/lang/Object")) [] ({ frames := 0, cells := 0, slots := 0, locals := 0 } : Room) [] #[(.ref a1), (.int (0 : Int32))] h0 (fun v h => v = some (.ref x0) ∧ h0 = h) := by
  refine own_C.of pn34 hO all0 ?_
  intro p e s m below meth c T0 S0
  refine own_F.cast (by first | (simp [entryFrame, mkF, argsToLocals, Value.category]; done) | rfl : entryFrame m #[(.ref a1), (.int (0 : Int32))] 2 = mkF m 0 #[.val (.ref a1), .val (.int (0 : Int32))] []) ?_
  show own_F p e below s Z _ _ _ _ _ (T0.setTop (mkF m 0 #[.val (.ref a1), .val (.int (0 : Int32))] []))
  refine own_F.of (fun _ => XS.iloadN S0.here S0.hx rfl (S0.dec d34_0) rfl) ?_
  show own_F p e below s Z _ _ _ _ _ (T0.setTop (mkF m 1 #[.val (.ref a1), .val (.int (0 : Int32))] [(.int (0 : Int32))]))
  refine own_if S0 9 d34_1 (by decide) (by decide) (fun (hc1_1 : ¬ ((0 : Int32) = (0 : Int32))) => False.elim (absurd hc1_1 (by decide))) (fun (hc1_1 : (0 : Int32) = (0 : Int32)) => ?_)
  show own_F p e below s Z _ _ _ _ _ (T0.setTop (mkF m 4 #[.val (.ref a1), .val (.int (0 : Int32))] []))
  refine own_F.of (fun _ => XS.aloadN S0.here S0.hx rfl (S0.dec d34_4) rfl rfl) ?_
  show own_F p e below s Z _ _ _ _ _ (T0.setTop (mkF m 5 #[.val (.ref a1), .val (.int (0 : Int32))] [(.ref a1)]))
  refine own_getF S0 (host := "") (Or.inl (own_w hw 206 rfl)) Via.refl F_e0 d34_5 (fun T2 S2 => ?_)
  show own_F p e below s Z _ _ _ _ _ (T2.setTop (mkF m 8 #[.val (.ref a1), .val (.int (0 : Int32))] [(.ref x0)]))
  refine own_retA S2 rfl rfl d34_8 (by decide) (by decide) ?_
  exact ⟨rfl, rfl⟩
set_option maxRecDepth 65536 in
set_option maxHeartbeats 40000000 in
theorem own_gtT_1 (l : Launch) (Z : State) (a0 : Array Value) (hw : ∀ d ∈ tables_1, d.before a0 Z = true) (a1 x0 x1 : Addr) (aM : Addr) (h0 : Heap) (hO : Ext Z.heap h0) (SM : Sta Z Z.heap "java/util/ImmutableCollections" "EMPTY" "Ljava/lang/Object;" (.ref aM)) (F_e0 : Fld Z h0 a1 "java/util/ImmutableCollections$List12" "e0" "Ljava/lang/Object;" (.ref x0)) (F_e1 : Fld Z h0 a1 "java/util/ImmutableCollections$List12" "e1" "Ljava/lang/Object;" (.ref x1)) (hx : ¬ x1 = aM) :
    own_C l Z (⟨"java/util/ImmutableCollections$List12", "get", "(I)Ljava/lang/Object;"⟩ : MethodName) jdk_44_method_5_code 2 (some (.object "java/lang/Object")) [] ({ frames := 0, cells := 0, slots := 0, locals := 0 } : Room) [] #[(.ref a1), (.int (1 : Int32))] h0 (fun v h => v = some (.ref x1) ∧ h0 = h) := by
  refine own_C.of pn34 hO all0 ?_
  intro p e s m below meth c T0 S0
  refine own_F.cast (by first | (simp [entryFrame, mkF, argsToLocals, Value.category]; done) | rfl : entryFrame m #[(.ref a1), (.int (1 : Int32))] 2 = mkF m 0 #[.val (.ref a1), .val (.int (1 : Int32))] []) ?_
  show own_F p e below s Z _ _ _ _ _ (T0.setTop (mkF m 0 #[.val (.ref a1), .val (.int (1 : Int32))] []))
  refine own_F.of (fun _ => XS.iloadN S0.here S0.hx rfl (S0.dec d34_0) rfl) ?_
  show own_F p e below s Z _ _ _ _ _ (T0.setTop (mkF m 1 #[.val (.ref a1), .val (.int (1 : Int32))] [(.int (1 : Int32))]))
  refine own_if S0 9 d34_1 (by decide) (by decide) (fun (hc1_1 : ¬ ((1 : Int32) = (0 : Int32))) => ?_) (fun (hc1_1 : (1 : Int32) = (0 : Int32)) => False.elim (absurd hc1_1 (by decide)))
  show own_F p e below s Z _ _ _ _ _ (T0.setTop (mkF m 9 #[.val (.ref a1), .val (.int (1 : Int32))] []))
  refine own_F.of (fun _ => XS.iloadN S0.here S0.hx rfl (S0.dec d34_9) rfl) ?_
  refine own_F.of (fun _ => XS.iconst S0.here S0.hx rfl (S0.dec d34_10)) ?_
  show own_F p e below s Z _ _ _ _ _ (T0.setTop (mkF m 11 #[.val (.ref a1), .val (.int (1 : Int32))] [(.int (1 : Int32)), (.int (1 : Int32))]))
  refine own_icmp S0 29 d34_11 (by decide) (by decide) (fun (hc11_2 : ¬ ((1 : Int32) = (1 : Int32))) => False.elim (absurd hc11_2 (by decide))) (fun (hc11_2 : (1 : Int32) = (1 : Int32)) => ?_)
  show own_F p e below s Z _ _ _ _ _ (T0.setTop (mkF m 14 #[.val (.ref a1), .val (.int (1 : Int32))] []))
  refine own_F.of (fun _ => XS.aloadN S0.here S0.hx rfl (S0.dec d34_14) rfl rfl) ?_
  show own_F p e below s Z _ _ _ _ _ (T0.setTop (mkF m 15 #[.val (.ref a1), .val (.int (1 : Int32))] [(.ref a1)]))
  refine own_getF S0 (host := "") (Or.inl (own_w hw 209 rfl)) Via.refl F_e1 d34_15 (fun T3 S3 => ?_)
  show own_F p e below s Z _ _ _ _ _ (T3.setTop (mkF m 18 #[.val (.ref a1), .val (.int (1 : Int32))] [(.ref x1)]))
  refine own_getS S3 (Or.inr (own_w hw 208 rfl)) Via.refl (SM.ext S3.old) d34_18 (fun T4 S4 => ?_)
  show own_F p e below s Z _ _ _ _ _ (T4.setTop (mkF m 21 #[.val (.ref a1), .val (.int (1 : Int32))] [(.ref aM), (.ref x1)]))
  refine own_acmp S4 rfl rfl 29 d34_21 (by decide) (by decide) (fun (hc21_5 : (Value.ref x1) = (Value.ref aM)) => False.elim (hx (Value.ref.inj hc21_5))) (fun (hc21_5 : ¬ ((Value.ref x1) = (Value.ref aM))) => ?_)
  show own_F p e below s Z _ _ _ _ _ (T4.setTop (mkF m 24 #[.val (.ref a1), .val (.int (1 : Int32))] []))
  refine own_F.of (fun _ => XS.aloadN S4.here S4.hx rfl (S4.dec d34_24) rfl rfl) ?_
  show own_F p e below s Z _ _ _ _ _ (T4.setTop (mkF m 25 #[.val (.ref a1), .val (.int (1 : Int32))] [(.ref a1)]))
  refine own_getF S4 (host := "") (Or.inl (own_w hw 209 rfl)) Via.refl F_e1 d34_25 (fun T6 S6 => ?_)
  show own_F p e below s Z _ _ _ _ _ (T6.setTop (mkF m 28 #[.val (.ref a1), .val (.int (1 : Int32))] [(.ref x1)]))
  refine own_retA S6 rfl rfl d34_28 (by decide) (by decide) ?_
  exact ⟨rfl, rfl⟩
theorem d37_0 : decode jdk_45_method_4_code 0 = .ok (.aload_n 0, 1) := by decide +kernel
theorem d37_1 : decode jdk_45_method_4_code 1 = .ok (.getfield 7, 3) := by decide +kernel
theorem d37_4 : decode jdk_45_method_4_code 4 = .ok (.iload_n 1, 1) := by decide +kernel
theorem d37_5 : decode jdk_45_method_4_code 5 = .ok (.aaload, 1) := by decide +kernel
theorem d37_6 : decode jdk_45_method_4_code 6 = .ok (.areturn, 1) := by decide +kernel
theorem pn37 : plainFor (⟨"java/util/ImmutableCollections$ListN", "get", "(I)Ljava/lang/Object;"⟩ : MethodName) = true := plainFor_of_name (by first | (simp [plainName, overriddenIn]; done) | decide +kernel)
set_option maxRecDepth 65536 in
set_option maxHeartbeats 40000000 in
theorem own_gtN_0 (l : Launch) (Z : State) (a0 : Array Value) (hw : ∀ d ∈ tables_1, d.before a0 Z = true) (a1 ar : Addr) (e1 e2 e3 : Addr) (h0 : Heap) (hO : Ext Z.heap h0) (F_e : Fld Z h0 a1 "java/util/ImmutableCollections$ListN" "elements" "[Ljava/lang/Object;" (.ref ar)) (AR : own_AO Z h0 ar [(.ref e1), (.ref e2), (.ref e3)]) :
    own_C l Z (⟨"java/util/ImmutableCollections$ListN", "get", "(I)Ljava/lang/Object;"⟩ : MethodName) jdk_45_method_4_code 2 (some (.object "java/lang/Object")) [] ({ frames := 0, cells := 0, slots := 0, locals := 0 } : Room) [] #[(.ref a1), (.int (0 : Int32))] h0 (fun v h => v = some (.ref e1) ∧ h0 = h) := by
  refine own_C.of pn37 hO all0 ?_
  intro p e s m below meth c T0 S0
  refine own_F.cast (by first | (simp [entryFrame, mkF, argsToLocals, Value.category]; done) | rfl : entryFrame m #[(.ref a1), (.int (0 : Int32))] 2 = mkF m 0 #[.val (.ref a1), .val (.int (0 : Int32))] []) ?_
  show own_F p e below s Z _ _ _ _ _ (T0.setTop (mkF m 0 #[.val (.ref a1), .val (.int (0 : Int32))] []))
  refine own_F.of (fun _ => XS.aloadN S0.here S0.hx rfl (S0.dec d37_0) rfl rfl) ?_
  show own_F p e below s Z _ _ _ _ _ (T0.setTop (mkF m 1 #[.val (.ref a1), .val (.int (0 : Int32))] [(.ref a1)]))
  refine own_getF S0 (host := "") (Or.inl (own_w hw 132 rfl)) Via.refl F_e d37_1 (fun T1 S1 => ?_)
  show own_F p e below s Z _ _ _ _ _ (T1.setTop (mkF m 4 #[.val (.ref a1), .val (.int (0 : Int32))] [(.ref ar)]))
  refine own_F.of (fun _ => XS.iloadN S1.here S1.hx rfl (S1.dec d37_4) rfl) ?_
  show own_F p e below s Z _ _ _ _ _ (T1.setTop (mkF m 5 #[.val (.ref a1), .val (.int (0 : Int32))] [(.int (0 : Int32)), (.ref ar)]))
  refine own_aald S1 AR.A rfl (by decide) rfl d37_5 ?_
  show own_F p e below s Z _ _ _ _ _ (T1.setTop (mkF m 6 #[.val (.ref a1), .val (.int (0 : Int32))] [(.ref e1)]))
  refine own_retA S1 rfl rfl d37_6 (by decide) (by decide) ?_
  exact ⟨rfl, rfl⟩
set_option maxRecDepth 65536 in
set_option maxHeartbeats 40000000 in
theorem own_gtN_1 (l : Launch) (Z : State) (a0 : Array Value) (hw : ∀ d ∈ tables_1, d.before a0 Z = true) (a1 ar : Addr) (e1 e2 e3 : Addr) (h0 : Heap) (hO : Ext Z.heap h0) (F_e : Fld Z h0 a1 "java/util/ImmutableCollections$ListN" "elements" "[Ljava/lang/Object;" (.ref ar)) (AR : own_AO Z h0 ar [(.ref e1), (.ref e2), (.ref e3)]) :
    own_C l Z (⟨"java/util/ImmutableCollections$ListN", "get", "(I)Ljava/lang/Object;"⟩ : MethodName) jdk_45_method_4_code 2 (some (.object "java/lang/Object")) [] ({ frames := 0, cells := 0, slots := 0, locals := 0 } : Room) [] #[(.ref a1), (.int (1 : Int32))] h0 (fun v h => v = some (.ref e2) ∧ h0 = h) := by
  refine own_C.of pn37 hO all0 ?_
  intro p e s m below meth c T0 S0
  refine own_F.cast (by first | (simp [entryFrame, mkF, argsToLocals, Value.category]; done) | rfl : entryFrame m #[(.ref a1), (.int (1 : Int32))] 2 = mkF m 0 #[.val (.ref a1), .val (.int (1 : Int32))] []) ?_
  show own_F p e below s Z _ _ _ _ _ (T0.setTop (mkF m 0 #[.val (.ref a1), .val (.int (1 : Int32))] []))
  refine own_F.of (fun _ => XS.aloadN S0.here S0.hx rfl (S0.dec d37_0) rfl rfl) ?_
  show own_F p e below s Z _ _ _ _ _ (T0.setTop (mkF m 1 #[.val (.ref a1), .val (.int (1 : Int32))] [(.ref a1)]))
  refine own_getF S0 (host := "") (Or.inl (own_w hw 132 rfl)) Via.refl F_e d37_1 (fun T1 S1 => ?_)
  show own_F p e below s Z _ _ _ _ _ (T1.setTop (mkF m 4 #[.val (.ref a1), .val (.int (1 : Int32))] [(.ref ar)]))
  refine own_F.of (fun _ => XS.iloadN S1.here S1.hx rfl (S1.dec d37_4) rfl) ?_
  show own_F p e below s Z _ _ _ _ _ (T1.setTop (mkF m 5 #[.val (.ref a1), .val (.int (1 : Int32))] [(.int (1 : Int32)), (.ref ar)]))
  refine own_aald S1 AR.A rfl (by decide) rfl d37_5 ?_
  show own_F p e below s Z _ _ _ _ _ (T1.setTop (mkF m 6 #[.val (.ref a1), .val (.int (1 : Int32))] [(.ref e2)]))
  refine own_retA S1 rfl rfl d37_6 (by decide) (by decide) ?_
  exact ⟨rfl, rfl⟩
set_option maxRecDepth 65536 in
set_option maxHeartbeats 40000000 in
theorem own_gtN_2 (l : Launch) (Z : State) (a0 : Array Value) (hw : ∀ d ∈ tables_1, d.before a0 Z = true) (a1 ar : Addr) (e1 e2 e3 : Addr) (h0 : Heap) (hO : Ext Z.heap h0) (F_e : Fld Z h0 a1 "java/util/ImmutableCollections$ListN" "elements" "[Ljava/lang/Object;" (.ref ar)) (AR : own_AO Z h0 ar [(.ref e1), (.ref e2), (.ref e3)]) :
    own_C l Z (⟨"java/util/ImmutableCollections$ListN", "get", "(I)Ljava/lang/Object;"⟩ : MethodName) jdk_45_method_4_code 2 (some (.object "java/lang/Object")) [] ({ frames := 0, cells := 0, slots := 0, locals := 0 } : Room) [] #[(.ref a1), (.int (2 : Int32))] h0 (fun v h => v = some (.ref e3) ∧ h0 = h) := by
  refine own_C.of pn37 hO all0 ?_
  intro p e s m below meth c T0 S0
  refine own_F.cast (by first | (simp [entryFrame, mkF, argsToLocals, Value.category]; done) | rfl : entryFrame m #[(.ref a1), (.int (2 : Int32))] 2 = mkF m 0 #[.val (.ref a1), .val (.int (2 : Int32))] []) ?_
  show own_F p e below s Z _ _ _ _ _ (T0.setTop (mkF m 0 #[.val (.ref a1), .val (.int (2 : Int32))] []))
  refine own_F.of (fun _ => XS.aloadN S0.here S0.hx rfl (S0.dec d37_0) rfl rfl) ?_
  show own_F p e below s Z _ _ _ _ _ (T0.setTop (mkF m 1 #[.val (.ref a1), .val (.int (2 : Int32))] [(.ref a1)]))
  refine own_getF S0 (host := "") (Or.inl (own_w hw 132 rfl)) Via.refl F_e d37_1 (fun T1 S1 => ?_)
  show own_F p e below s Z _ _ _ _ _ (T1.setTop (mkF m 4 #[.val (.ref a1), .val (.int (2 : Int32))] [(.ref ar)]))
  refine own_F.of (fun _ => XS.iloadN S1.here S1.hx rfl (S1.dec d37_4) rfl) ?_
  show own_F p e below s Z _ _ _ _ _ (T1.setTop (mkF m 5 #[.val (.ref a1), .val (.int (2 : Int32))] [(.int (2 : Int32)), (.ref ar)]))
  refine own_aald S1 AR.A rfl (by decide) rfl d37_5 ?_
  show own_F p e below s Z _ _ _ _ _ (T1.setTop (mkF m 6 #[.val (.ref a1), .val (.int (2 : Int32))] [(.ref e3)]))
  refine own_retA S1 rfl rfl d37_6 (by decide) (by decide) ?_
  exact ⟨rfl, rfl⟩
theorem d21_0 : decode jdk_33_method_27_code 0 = .ok (.aload_n 0, 1) := by decide +kernel
theorem d21_1 : decode jdk_33_method_27_code 1 = .ok (.getfield 205, 3) := by decide +kernel
theorem d21_4 : decode jdk_33_method_27_code 4 = .ok (.ireturn, 1) := by decide +kernel
theorem pn21 : plainFor (⟨"java/lang/Integer", "intValue", "()I"⟩ : MethodName) = true := plainFor_of_name (by first | (simp [plainName, overriddenIn]; done) | decide +kernel)
set_option maxRecDepth 65536 in
set_option maxHeartbeats 40000000 in
theorem own_intV (l : Launch) (Z : State) (a0 : Array Value) (hw : ∀ d ∈ tables_1, d.before a0 Z = true) (a1 : Addr) (x : Int32) (h0 : Heap) (hO : Ext Z.heap h0) (F_v : Fld Z h0 a1 "java/lang/Integer" "value" "I" (.int x)) :
    own_C l Z (⟨"java/lang/Integer", "intValue", "()I"⟩ : MethodName) jdk_33_method_27_code 1 (some .int) [] ({ frames := 0, cells := 0, slots := 0, locals := 0 } : Room) [] #[(.ref a1)] h0 (fun v h => v = some (.int x) ∧ h0 = h) := by
  refine own_C.of pn21 hO all0 ?_
  intro p e s m below meth c T0 S0
  refine own_F.cast (by first | (simp [entryFrame, mkF, argsToLocals, Value.category]; done) | rfl : entryFrame m #[(.ref a1)] 1 = mkF m 0 #[.val (.ref a1)] []) ?_
  show own_F p e below s Z _ _ _ _ _ (T0.setTop (mkF m 0 #[.val (.ref a1)] []))
  refine own_F.of (fun _ => XS.aloadN S0.here S0.hx rfl (S0.dec d21_0) rfl rfl) ?_
  show own_F p e below s Z _ _ _ _ _ (T0.setTop (mkF m 1 #[.val (.ref a1)] [(.ref a1)]))
  refine own_getF S0 (host := "") (Or.inl (own_w hw 146 rfl)) Via.refl F_v d21_1 (fun T1 S1 => ?_)
  show own_F p e below s Z _ _ _ _ _ (T1.setTop (mkF m 4 #[.val (.ref a1)] [(.int x)]))
  refine own_retI S1 d21_4 (by decide) (by decide) ?_
  exact ⟨rfl, rfl⟩
theorem d12_0 : decode jdk_30_method_1_code 0 = .ok (.aload_n 0, 1) := by decide +kernel
theorem d12_1 : decode jdk_30_method_1_code 1 = .ok (.invokespecial 1, 3) := by decide +kernel
theorem d12_4 : decode jdk_30_method_1_code 4 = .ok (.return_, 1) := by decide +kernel
theorem pn12 : plainFor (⟨"java/lang/Record", "<init>", "()V"⟩ : MethodName) = true := plainFor_of_name (by first | (simp [plainName, overriddenIn]; done) | decide +kernel)
set_option maxRecDepth 65536 in
set_option maxHeartbeats 40000000 in
theorem own_Rec (l : Launch) (Z : State) (a0 : Array Value) (hw : ∀ d ∈ tables_1, d.before a0 Z = true) (a1 : Addr) (h0 : Heap) (hO : Ext Z.heap h0) :
    own_C l Z (⟨"java/lang/Record", "<init>", "()V"⟩ : MethodName) jdk_30_method_1_code 1 none [] ({ frames := 1, cells := 0, slots := 0, locals := 12 } : Room) [] #[(.ref a1)] h0 (fun v h => v = none ∧ h0 = h) := by
  refine own_C.of pn12 hO all0 ?_
  intro p e s m below meth c T0 S0
  refine own_F.cast (by first | (simp [entryFrame, mkF, argsToLocals, Value.category]; done) | rfl : entryFrame m #[(.ref a1)] 1 = mkF m 0 #[.val (.ref a1)] []) ?_
  show own_F p e below s Z _ _ _ _ _ (T0.setTop (mkF m 0 #[.val (.ref a1)] []))
  refine own_F.of (fun _ => XS.aloadN S0.here S0.hx rfl (S0.dec d12_0) rfl rfl) ?_
  show own_F p e below s Z _ _ _ _ _ (T0.setTop (mkF m 1 #[.val (.ref a1)] [(.ref a1)]))
  refine own_initO S0 (own_w hw 76 rfl) (own_w hw 26 rfl) (own_w hw 27 rfl) rfl d12_1 (by decide) (Nat.le_of_ble_eq_true rfl) (fun T1 S1 => ?_)
  show own_F p e below s Z _ _ _ _ _ (T1.setTop (mkF m 4 #[.val (.ref a1)] []))
  refine own_retV S1 d12_4 (by decide) (by decide) ?_
  exact ⟨rfl, rfl⟩
set_option maxRecDepth 65536 in
set_option maxHeartbeats 40000000 in
theorem own_lcT (l : Launch) (Z : State) (a0 : Array Value) (hw : ∀ d ∈ tables_1, d.before a0 Z = true) (l2 : Addr) (h0 : Heap) (hO : Ext Z.heap h0) (E_l : Exa Z h0 l2 "java/util/ImmutableCollections$List12") :
    own_C l Z (⟨"java/util/ImmutableCollections", "listCopy", "(Ljava/util/Collection;)Ljava/util/List;"⟩ : MethodName) jdk_56_method_3_code 2 (some (.object "java/util/List")) [] ({ frames := 0, cells := 0, slots := 0, locals := 0 } : Room) [] #[(.ref l2)] h0 (fun v h => v = some (.ref l2) ∧ h0 = h) := by
  refine own_C.of pn8 hO all0 ?_
  intro p e s m below meth c T0 S0
  refine own_F.cast (by first | (simp [entryFrame, mkF, argsToLocals, Value.category]; done) | rfl : entryFrame m #[(.ref l2)] 2 = mkF m 0 #[.val (.ref l2), .unset] []) ?_
  show own_F p e below s Z _ _ _ _ _ (T0.setTop (mkF m 0 #[.val (.ref l2), .unset] []))
  refine own_F.of (fun _ => XS.aloadN S0.here S0.hx rfl (S0.dec d8_0) rfl rfl) ?_
  show own_F p e below s Z _ _ _ _ _ (T0.setTop (mkF m 1 #[.val (.ref l2), .unset] [(.ref l2)]))
  refine own_inst S0 (own_w hw 47 rfl) (Ins.self E_l) d8_1 (fun T1 S1 => ?_)
  show own_F p e below s Z _ _ _ _ _ (T1.setTop (mkF m 4 #[.val (.ref l2), .unset] [(.int (1 : Int32))]))
  refine own_if S1 26 d8_4 (by decide) (by decide) (fun (hc4_2 : ¬ ((1 : Int32) = (0 : Int32))) => ?_) (fun (hc4_2 : (1 : Int32) = (0 : Int32)) => False.elim (absurd hc4_2 (by decide)))
  show own_F p e below s Z _ _ _ _ _ (T1.setTop (mkF m 26 #[.val (.ref l2), .unset] []))
  refine own_F.of (fun _ => XS.aloadN S1.here S1.hx rfl (S1.dec d8_26) rfl rfl) ?_
  show own_F p e below s Z _ _ _ _ _ (T1.setTop (mkF m 27 #[.val (.ref l2), .unset] [(.ref l2)]))
  refine own_cast S1 (own_w hw 83 rfl) (Ins.of_exa E_l (own_w hw 211 rfl)) d8_27 (fun T3 S3 => ?_)
  show own_F p e below s Z _ _ _ _ _ (T3.setTop (mkF m 30 #[.val (.ref l2), .unset] [(.ref l2)]))
  refine own_retA S3 rfl rfl d8_30 (by decide) (by decide) ?_
  exact ⟨rfl, rfl⟩
set_option maxRecDepth 65536 in
set_option maxHeartbeats 40000000 in
theorem own_coT (l : Launch) (Z : State) (a0 : Array Value) (hw : ∀ d ∈ tables_1, d.before a0 Z = true) (l2 : Addr) (h0 : Heap) (hO : Ext Z.heap h0) (E_l : Exa Z h0 l2 "java/util/ImmutableCollections$List12") :
    own_C l Z (⟨"java/util/List", "copyOf", "(Ljava/util/Collection;)Ljava/util/List;"⟩ : MethodName) jdk_40_method_48_code 1 (some (.object "java/util/List")) [] ({ frames := 1, cells := 0, slots := 0, locals := 13 } : Room) [] #[(.ref l2)] h0 (fun v h => v = some (.ref l2) ∧ h0 = h) := by
  refine own_C.of pn7 hO all0 ?_
  intro p e s m below meth c T0 S0
  refine own_F.cast (by first | (simp [entryFrame, mkF, argsToLocals, Value.category]; done) | rfl : entryFrame m #[(.ref l2)] 1 = mkF m 0 #[.val (.ref l2)] []) ?_
  show own_F p e below s Z _ _ _ _ _ (T0.setTop (mkF m 0 #[.val (.ref l2)] []))
  refine own_F.of (fun _ => XS.aloadN S0.here S0.hx rfl (S0.dec d7_0) rfl rfl) ?_
  show own_F p e below s Z _ _ _ _ _ (T0.setTop (mkF m 1 #[.val (.ref l2)] [(.ref l2)]))
  refine own_callS S0 (y := (⟨"java/util/ImmutableCollections", "listCopy", "(Ljava/util/Collection;)Ljava/util/List;"⟩ : MethodName)) (own_w hw 43 rfl) (own_w hw 44 rfl) (own_w hw 45 rfl) (own_w hw 46 rfl) (by decide) (argsL := [(.ref l2)]) (rest := []) (own_lcT l Z a0 hw l2 h0 S0.old E_l) all0 (by decide +kernel : parseMethodDescriptor "(Ljava/util/Collection;)Ljava/util/List;" = some ⟨[(.object "java/util/Collection")], some (.object "java/util/List")⟩) rfl rfl rfl d7_1 (by decide) (Nat.le_of_ble_eq_true rfl) (by decide) (by decide) (fun T1 h1 v1 S1 K1 q1 => ?_)
  obtain ⟨rfl, rfl⟩ := q1
  show own_F p e below s Z _ _ _ _ _ (T1.setTop (mkF m 4 #[.val (.ref l2)] [(.ref l2)]))
  refine own_retA S1 rfl rfl d7_4 (by decide) (by decide) ?_
  exact ⟨rfl, rfl⟩
set_option maxRecDepth 65536 in
set_option maxHeartbeats 40000000 in
theorem own_lcN (l : Launch) (Z : State) (a0 : Array Value) (hw : ∀ d ∈ tables_1, d.before a0 Z = true) (l2 : Addr) (h0 : Heap) (hO : Ext Z.heap h0) (E_l : Exa Z h0 l2 "java/util/ImmutableCollections$ListN") (F_al : Fld Z h0 l2 "java/util/ImmutableCollections$ListN" "allowNulls" "Z" (.int 0)) :
    own_C l Z (⟨"java/util/ImmutableCollections", "listCopy", "(Ljava/util/Collection;)Ljava/util/List;"⟩ : MethodName) jdk_56_method_3_code 2 (some (.object "java/util/List")) [] ({ frames := 0, cells := 0, slots := 0, locals := 0 } : Room) [] #[(.ref l2)] h0 (fun v h => v = some (.ref l2) ∧ h0 = h) := by
  refine own_C.of pn8 hO all0 ?_
  intro p e s m below meth c T0 S0
  refine own_F.cast (by first | (simp [entryFrame, mkF, argsToLocals, Value.category]; done) | rfl : entryFrame m #[(.ref l2)] 2 = mkF m 0 #[.val (.ref l2), .unset] []) ?_
  show own_F p e below s Z _ _ _ _ _ (T0.setTop (mkF m 0 #[.val (.ref l2), .unset] []))
  refine own_F.of (fun _ => XS.aloadN S0.here S0.hx rfl (S0.dec d8_0) rfl rfl) ?_
  show own_F p e below s Z _ _ _ _ _ (T0.setTop (mkF m 1 #[.val (.ref l2), .unset] [(.ref l2)]))
  refine own_instN S0 (own_w hw 47 rfl) E_l (own_NSno (own_w hw 77 rfl) (own_w hw 182 rfl) (NS.step (own_w hw 77 rfl) (NS.step (own_w hw 78 rfl) (NS.step (own_w hw 79 rfl) (NS.step (own_w hw 50 rfl) (own_NSroot (own_w hw 51 rfl) (own_w hw 182 rfl) (by decide)) (by decide)) (by decide)) (by decide)) (by decide)) (by decide)) d8_1 (fun T1 S1 => ?_)
  show own_F p e below s Z _ _ _ _ _ (T1.setTop (mkF m 4 #[.val (.ref l2), .unset] [(.int (0 : Int32))]))
  refine own_if S1 26 d8_4 (by decide) (by decide) (fun (hc4_2 : ¬ ((0 : Int32) = (0 : Int32))) => False.elim (absurd hc4_2 (by decide))) (fun (hc4_2 : (0 : Int32) = (0 : Int32)) => ?_)
  show own_F p e below s Z _ _ _ _ _ (T1.setTop (mkF m 7 #[.val (.ref l2), .unset] []))
  refine own_F.of (fun _ => XS.aloadN S1.here S1.hx rfl (S1.dec d8_7) rfl rfl) ?_
  show own_F p e below s Z _ _ _ _ _ (T1.setTop (mkF m 8 #[.val (.ref l2), .unset] [(.ref l2)]))
  refine own_inst S1 (own_w hw 52 rfl) (Ins.self E_l) d8_8 (fun T3 S3 => ?_)
  show own_F p e below s Z _ _ _ _ _ (T3.setTop (mkF m 11 #[.val (.ref l2), .unset] [(.int (1 : Int32))]))
  refine own_if S3 31 d8_11 (by decide) (by decide) (fun (hc11_4 : (1 : Int32) = (0 : Int32)) => False.elim (absurd hc11_4 (by decide))) (fun (hc11_4 : ¬ ((1 : Int32) = (0 : Int32))) => ?_)
  show own_F p e below s Z _ _ _ _ _ (T3.setTop (mkF m 14 #[.val (.ref l2), .unset] []))
  refine own_F.of (fun _ => XS.aloadN S3.here S3.hx rfl (S3.dec d8_14) rfl rfl) ?_
  show own_F p e below s Z _ _ _ _ _ (T3.setTop (mkF m 15 #[.val (.ref l2), .unset] [(.ref l2)]))
  refine own_cast S3 (own_w hw 52 rfl) (Ins.self E_l) d8_15 (fun T5 S5 => ?_)
  show own_F p e below s Z _ _ _ _ _ (T5.setTop (mkF m 18 #[.val (.ref l2), .unset] [(.ref l2)]))
  refine own_F.of (fun _ => XS.astoreN S5.here S5.hx rfl (S5.dec d8_18) rfl rfl (l' := #[.val (.ref l2), .val (.ref l2)]) rfl) ?_
  show own_F p e below s Z _ _ _ _ _ (T5.setTop (mkF m 19 #[.val (.ref l2), .val (.ref l2)] []))
  refine own_F.of (fun _ => XS.aloadN S5.here S5.hx rfl (S5.dec d8_19) rfl rfl) ?_
  show own_F p e below s Z _ _ _ _ _ (T5.setTop (mkF m 20 #[.val (.ref l2), .val (.ref l2)] [(.ref l2)]))
  refine own_getF S5 (Or.inr (own_w hw 81 rfl)) Via.refl F_al d8_20 (fun T6 S6 => ?_)
  show own_F p e below s Z _ _ _ _ _ (T6.setTop (mkF m 23 #[.val (.ref l2), .val (.ref l2)] [(.int (0 : Int32))]))
  refine own_if S6 31 d8_23 (by decide) (by decide) (fun (hc23_7 : ¬ ((0 : Int32) = (0 : Int32))) => False.elim (absurd hc23_7 (by decide))) (fun (hc23_7 : (0 : Int32) = (0 : Int32)) => ?_)
  show own_F p e below s Z _ _ _ _ _ (T6.setTop (mkF m 26 #[.val (.ref l2), .val (.ref l2)] []))
  refine own_F.of (fun _ => XS.aloadN S6.here S6.hx rfl (S6.dec d8_26) rfl rfl) ?_
  show own_F p e below s Z _ _ _ _ _ (T6.setTop (mkF m 27 #[.val (.ref l2), .val (.ref l2)] [(.ref l2)]))
  refine own_cast S6 (own_w hw 83 rfl) (Ins.of_exa E_l (own_w hw 84 rfl)) d8_27 (fun T8 S8 => ?_)
  show own_F p e below s Z _ _ _ _ _ (T8.setTop (mkF m 30 #[.val (.ref l2), .val (.ref l2)] [(.ref l2)]))
  refine own_retA S8 rfl rfl d8_30 (by decide) (by decide) ?_
  exact ⟨rfl, rfl⟩
set_option maxRecDepth 65536 in
set_option maxHeartbeats 40000000 in
theorem own_coN (l : Launch) (Z : State) (a0 : Array Value) (hw : ∀ d ∈ tables_1, d.before a0 Z = true) (l2 : Addr) (h0 : Heap) (hO : Ext Z.heap h0) (E_l : Exa Z h0 l2 "java/util/ImmutableCollections$ListN") (F_al : Fld Z h0 l2 "java/util/ImmutableCollections$ListN" "allowNulls" "Z" (.int 0)) :
    own_C l Z (⟨"java/util/List", "copyOf", "(Ljava/util/Collection;)Ljava/util/List;"⟩ : MethodName) jdk_40_method_48_code 1 (some (.object "java/util/List")) [] ({ frames := 1, cells := 0, slots := 0, locals := 13 } : Room) [] #[(.ref l2)] h0 (fun v h => v = some (.ref l2) ∧ h0 = h) := by
  refine own_C.of pn7 hO all0 ?_
  intro p e s m below meth c T0 S0
  refine own_F.cast (by first | (simp [entryFrame, mkF, argsToLocals, Value.category]; done) | rfl : entryFrame m #[(.ref l2)] 1 = mkF m 0 #[.val (.ref l2)] []) ?_
  show own_F p e below s Z _ _ _ _ _ (T0.setTop (mkF m 0 #[.val (.ref l2)] []))
  refine own_F.of (fun _ => XS.aloadN S0.here S0.hx rfl (S0.dec d7_0) rfl rfl) ?_
  show own_F p e below s Z _ _ _ _ _ (T0.setTop (mkF m 1 #[.val (.ref l2)] [(.ref l2)]))
  refine own_callS S0 (y := (⟨"java/util/ImmutableCollections", "listCopy", "(Ljava/util/Collection;)Ljava/util/List;"⟩ : MethodName)) (own_w hw 43 rfl) (own_w hw 44 rfl) (own_w hw 45 rfl) (own_w hw 46 rfl) (by decide) (argsL := [(.ref l2)]) (rest := []) (own_lcN l Z a0 hw l2 h0 S0.old E_l F_al) all0 (by decide +kernel : parseMethodDescriptor "(Ljava/util/Collection;)Ljava/util/List;" = some ⟨[(.object "java/util/Collection")], some (.object "java/util/List")⟩) rfl rfl rfl d7_1 (by decide) (Nat.le_of_ble_eq_true rfl) (by decide) (by decide) (fun T1 h1 v1 S1 K1 q1 => ?_)
  obtain ⟨rfl, rfl⟩ := q1
  show own_F p e below s Z _ _ _ _ _ (T1.setTop (mkF m 4 #[.val (.ref l2)] [(.ref l2)]))
  refine own_retA S1 rfl rfl d7_4 (by decide) (by decide) ?_
  exact ⟨rfl, rfl⟩
theorem d11_0 : decode prog_22_method_1_code 0 = .ok (.aload_n 0, 1) := by decide +kernel
theorem d11_1 : decode prog_22_method_1_code 1 = .ok (.invokespecial 1, 3) := by decide +kernel
theorem d11_4 : decode prog_22_method_1_code 4 = .ok (.aload_n 1, 1) := by decide +kernel
theorem d11_5 : decode prog_22_method_1_code 5 = .ok (.invokestatic 7, 3) := by decide +kernel
theorem d11_8 : decode prog_22_method_1_code 8 = .ok (.astore_n 1, 1) := by decide +kernel
theorem d11_9 : decode prog_22_method_1_code 9 = .ok (.aload_n 0, 1) := by decide +kernel
theorem d11_10 : decode prog_22_method_1_code 10 = .ok (.aload_n 1, 1) := by decide +kernel
theorem d11_11 : decode prog_22_method_1_code 11 = .ok (.putfield 13, 3) := by decide +kernel
theorem d11_14 : decode prog_22_method_1_code 14 = .ok (.aload_n 0, 1) := by decide +kernel
theorem d11_15 : decode prog_22_method_1_code 15 = .ok (.aload_n 2, 1) := by decide +kernel
theorem d11_16 : decode prog_22_method_1_code 16 = .ok (.putfield 19, 3) := by decide +kernel
theorem d11_19 : decode prog_22_method_1_code 19 = .ok (.return_, 1) := by decide +kernel
theorem pn11 : plainFor (⟨"com/example/tidemark/tidemark/Page", "<init>", "(Ljava/util/List;Ljava/lang/Object;)V"⟩ : MethodName) = true := plainFor_of_name (by first | (simp [plainName, overriddenIn]; done) | decide +kernel)
set_option maxRecDepth 65536 in
set_option maxHeartbeats 40000000 in
theorem own_PageT (l : Launch) (Z : State) (a0 : Array Value) (hw : ∀ d ∈ tables_1, d.before a0 Z = true) (a1 l2 : Addr) (v3 : Value) (h0 : Heap) (hO : Ext Z.heap h0) (hv : v3.isRef = true) (ga : Z.heap.size ≤ a1) (E_a1 : Exa Z h0 a1 "com/example/tidemark/tidemark/Page") (F_items : Fld Z h0 a1 "com/example/tidemark/tidemark/Page" "items" "Ljava/util/List;" .null) (F_nextKey : Fld Z h0 a1 "com/example/tidemark/tidemark/Page" "nextKey" "Ljava/lang/Object;" .null) (E_l : Exa Z h0 l2 "java/util/ImmutableCollections$List12") :
    own_C l Z (⟨"com/example/tidemark/tidemark/Page", "<init>", "(Ljava/util/List;Ljava/lang/Object;)V"⟩ : MethodName) prog_22_method_1_code 3 none [] ({ frames := 2, cells := 0, slots := 0, locals := 25 } : Room) [a1] #[(.ref a1), (.ref l2), v3] h0 (fun v h => v = none ∧ Fld Z h a1 "com/example/tidemark/tidemark/Page" "items" "Ljava/util/List;" (.ref l2) ∧ Fld Z h a1 "com/example/tidemark/tidemark/Page" "nextKey" "Ljava/lang/Object;" v3) := by
  refine own_C.of pn11 hO (allS ga all0) ?_
  intro p e s m below meth c T0 S0
  refine own_F.cast (by rcases XT.refc hv with rfl | ⟨_, rfl⟩ <;> first | (simp [entryFrame, mkF, argsToLocals, Value.category]; done) | rfl : entryFrame m #[(.ref a1), (.ref l2), v3] 3 = mkF m 0 #[.val (.ref a1), .val (.ref l2), .val v3] []) ?_
  show own_F p e below s Z _ _ _ _ _ (T0.setTop (mkF m 0 #[.val (.ref a1), .val (.ref l2), .val v3] []))
  refine own_F.of (fun _ => XS.aloadN S0.here S0.hx rfl (S0.dec d11_0) rfl rfl) ?_
  show own_F p e below s Z _ _ _ _ _ (T0.setTop (mkF m 1 #[.val (.ref a1), .val (.ref l2), .val v3] [(.ref a1)]))
  refine own_callI S0 (y := (⟨"java/lang/Record", "<init>", "()V"⟩ : MethodName)) rfl (own_w hw 71 rfl) (own_w hw 72 rfl) (own_w hw 74 rfl) (own_w hw 75 rfl) (by decide) (argsL := []) (rest := []) (own_Rec l Z a0 hw a1 h0 S0.old) all0 (by decide +kernel : parseMethodDescriptor "()V" = some ⟨[], none⟩) rfl rfl rfl d11_1 (by decide) (Nat.le_of_ble_eq_true rfl) (by decide) (by decide) (fun T1 h1 v1 S1 K1 q1 => ?_)
  obtain ⟨rfl, rfl⟩ := q1
  show own_F p e below s Z _ _ _ _ _ (T1.setTop (mkF m 4 #[.val (.ref a1), .val (.ref l2), .val v3] []))
  refine own_F.of (fun _ => XS.aloadN S1.here S1.hx rfl (S1.dec d11_4) rfl rfl) ?_
  show own_F p e below s Z _ _ _ _ _ (T1.setTop (mkF m 5 #[.val (.ref a1), .val (.ref l2), .val v3] [(.ref l2)]))
  refine own_callS S1 (y := (⟨"java/util/List", "copyOf", "(Ljava/util/Collection;)Ljava/util/List;"⟩ : MethodName)) (own_w hw 39 rfl) (own_w hw 40 rfl) (own_w hw 41 rfl) (own_w hw 42 rfl) (by decide) (argsL := [(.ref l2)]) (rest := []) (own_coT l Z a0 hw l2 h0 S1.old E_l) all0 (by decide +kernel : parseMethodDescriptor "(Ljava/util/Collection;)Ljava/util/List;" = some ⟨[(.object "java/util/Collection")], some (.object "java/util/List")⟩) rfl rfl rfl d11_5 (by decide) (Nat.le_of_ble_eq_true rfl) (by decide) (by decide) (fun T2 h2 v2 S2 K2 q2 => ?_)
  obtain ⟨rfl, rfl⟩ := q2
  show own_F p e below s Z _ _ _ _ _ (T2.setTop (mkF m 8 #[.val (.ref a1), .val (.ref l2), .val v3] [(.ref l2)]))
  refine own_F.of (fun _ => XS.astoreN S2.here S2.hx rfl (S2.dec d11_8) rfl rfl (l' := #[.val (.ref a1), .val (.ref l2), .val v3]) rfl) ?_
  show own_F p e below s Z _ _ _ _ _ (T2.setTop (mkF m 9 #[.val (.ref a1), .val (.ref l2), .val v3] []))
  refine own_F.of (fun _ => XS.aloadN S2.here S2.hx rfl (S2.dec d11_9) rfl rfl) ?_
  refine own_F.of (fun _ => XS.aloadN S2.here S2.hx rfl (S2.dec d11_10) rfl rfl) ?_
  show own_F p e below s Z _ _ _ _ _ (T2.setTop (mkF m 11 #[.val (.ref a1), .val (.ref l2), .val v3] [(.ref l2), (.ref a1)]))
  refine own_putF S2 (host := "") (Or.inl (own_w hw 85 rfl)) Via.refl F_items E_a1 (Or.inr ⟨(own_w hw 86 rfl), rfl, rfl⟩) (own_w hw 38 rfl) (ty := (.object "java/util/List")) (by decide) rfl rfl d11_11 (Or.inl (List.mem_of_getElem? (i := 0) rfl)) (fun T3 h3 S3 W3 => ?_)
  have Fw3 := F_items.same W3
  show own_F p e below s Z _ _ _ _ _ (T3.setTop (mkF m 14 #[.val (.ref a1), .val (.ref l2), .val v3] []))
  refine own_F.of (fun _ => XS.aloadN S3.here S3.hx rfl (S3.dec d11_14) rfl rfl) ?_
  refine own_F.of (fun _ => XS.aloadN S3.here S3.hx rfl (S3.dec d11_15) rfl hv) ?_
  show own_F p e below s Z _ _ _ _ _ (T3.setTop (mkF m 16 #[.val (.ref a1), .val (.ref l2), .val v3] [v3, (.ref a1)]))
  have fq4 := (F_nextKey.other W3 (Or.inr (slot_ne (C := "com/example/tidemark/tidemark/Page") (Or.inr (own_w hw 88 rfl)) (Or.inr (own_w hw 86 rfl)) (by decide) (t := (.object "java/lang/Object")) (t' := (.object "java/util/List")) (by decide) (by decide))))
  have fq5 := (E_a1.wr W3)
  refine own_putF S3 (host := "") (Or.inl (own_w hw 87 rfl)) Via.refl fq4 fq5 (Or.inr ⟨(own_w hw 88 rfl), rfl, rfl⟩) (own_w hw 38 rfl) (ty := (.object "java/lang/Object")) (by decide) (own_narR (by decide) hv) (own_fitR (by decide) hv) d11_16 (Or.inl (List.mem_of_getElem? (i := 0) rfl)) (fun T6 h6 S6 W6 => ?_)
  have Fw6 := fq4.same W6
  show own_F p e below s Z _ _ _ _ _ (T6.setTop (mkF m 19 #[.val (.ref a1), .val (.ref l2), .val v3] []))
  have fq7 := (Fw3.other W6 (Or.inr (slot_ne (C := "com/example/tidemark/tidemark/Page") (Or.inr (own_w hw 86 rfl)) (Or.inr (own_w hw 88 rfl)) (by decide) (t := (.object "java/util/List")) (t' := (.object "java/lang/Object")) (by decide) (by decide))))
  refine own_retV S6 d11_19 (by decide) (by decide) ?_
  exact ⟨rfl, fq7, Fw6⟩
set_option maxRecDepth 65536 in
set_option maxHeartbeats 40000000 in
theorem own_PageN (l : Launch) (Z : State) (a0 : Array Value) (hw : ∀ d ∈ tables_1, d.before a0 Z = true) (a1 l2 : Addr) (v3 : Value) (h0 : Heap) (hO : Ext Z.heap h0) (hv : v3.isRef = true) (ga : Z.heap.size ≤ a1) (E_a1 : Exa Z h0 a1 "com/example/tidemark/tidemark/Page") (F_items : Fld Z h0 a1 "com/example/tidemark/tidemark/Page" "items" "Ljava/util/List;" .null) (F_nextKey : Fld Z h0 a1 "com/example/tidemark/tidemark/Page" "nextKey" "Ljava/lang/Object;" .null) (E_l : Exa Z h0 l2 "java/util/ImmutableCollections$ListN") (F_al : Fld Z h0 l2 "java/util/ImmutableCollections$ListN" "allowNulls" "Z" (.int 0)) :
    own_C l Z (⟨"com/example/tidemark/tidemark/Page", "<init>", "(Ljava/util/List;Ljava/lang/Object;)V"⟩ : MethodName) prog_22_method_1_code 3 none [] ({ frames := 2, cells := 0, slots := 0, locals := 25 } : Room) [a1] #[(.ref a1), (.ref l2), v3] h0 (fun v h => v = none ∧ Fld Z h a1 "com/example/tidemark/tidemark/Page" "items" "Ljava/util/List;" (.ref l2) ∧ Fld Z h a1 "com/example/tidemark/tidemark/Page" "nextKey" "Ljava/lang/Object;" v3) := by
  refine own_C.of pn11 hO (allS ga all0) ?_
  intro p e s m below meth c T0 S0
  refine own_F.cast (by rcases XT.refc hv with rfl | ⟨_, rfl⟩ <;> first | (simp [entryFrame, mkF, argsToLocals, Value.category]; done) | rfl : entryFrame m #[(.ref a1), (.ref l2), v3] 3 = mkF m 0 #[.val (.ref a1), .val (.ref l2), .val v3] []) ?_
  show own_F p e below s Z _ _ _ _ _ (T0.setTop (mkF m 0 #[.val (.ref a1), .val (.ref l2), .val v3] []))
  refine own_F.of (fun _ => XS.aloadN S0.here S0.hx rfl (S0.dec d11_0) rfl rfl) ?_
  show own_F p e below s Z _ _ _ _ _ (T0.setTop (mkF m 1 #[.val (.ref a1), .val (.ref l2), .val v3] [(.ref a1)]))
  refine own_callI S0 (y := (⟨"java/lang/Record", "<init>", "()V"⟩ : MethodName)) rfl (own_w hw 71 rfl) (own_w hw 72 rfl) (own_w hw 74 rfl) (own_w hw 75 rfl) (by decide) (argsL := []) (rest := []) (own_Rec l Z a0 hw a1 h0 S0.old) all0 (by decide +kernel : parseMethodDescriptor "()V" = some ⟨[], none⟩) rfl rfl rfl d11_1 (by decide) (Nat.le_of_ble_eq_true rfl) (by decide) (by decide) (fun T1 h1 v1 S1 K1 q1 => ?_)
  obtain ⟨rfl, rfl⟩ := q1
  show own_F p e below s Z _ _ _ _ _ (T1.setTop (mkF m 4 #[.val (.ref a1), .val (.ref l2), .val v3] []))
  refine own_F.of (fun _ => XS.aloadN S1.here S1.hx rfl (S1.dec d11_4) rfl rfl) ?_
  show own_F p e below s Z _ _ _ _ _ (T1.setTop (mkF m 5 #[.val (.ref a1), .val (.ref l2), .val v3] [(.ref l2)]))
  refine own_callS S1 (y := (⟨"java/util/List", "copyOf", "(Ljava/util/Collection;)Ljava/util/List;"⟩ : MethodName)) (own_w hw 39 rfl) (own_w hw 40 rfl) (own_w hw 41 rfl) (own_w hw 42 rfl) (by decide) (argsL := [(.ref l2)]) (rest := []) (own_coN l Z a0 hw l2 h0 S1.old E_l F_al) all0 (by decide +kernel : parseMethodDescriptor "(Ljava/util/Collection;)Ljava/util/List;" = some ⟨[(.object "java/util/Collection")], some (.object "java/util/List")⟩) rfl rfl rfl d11_5 (by decide) (Nat.le_of_ble_eq_true rfl) (by decide) (by decide) (fun T2 h2 v2 S2 K2 q2 => ?_)
  obtain ⟨rfl, rfl⟩ := q2
  show own_F p e below s Z _ _ _ _ _ (T2.setTop (mkF m 8 #[.val (.ref a1), .val (.ref l2), .val v3] [(.ref l2)]))
  refine own_F.of (fun _ => XS.astoreN S2.here S2.hx rfl (S2.dec d11_8) rfl rfl (l' := #[.val (.ref a1), .val (.ref l2), .val v3]) rfl) ?_
  show own_F p e below s Z _ _ _ _ _ (T2.setTop (mkF m 9 #[.val (.ref a1), .val (.ref l2), .val v3] []))
  refine own_F.of (fun _ => XS.aloadN S2.here S2.hx rfl (S2.dec d11_9) rfl rfl) ?_
  refine own_F.of (fun _ => XS.aloadN S2.here S2.hx rfl (S2.dec d11_10) rfl rfl) ?_
  show own_F p e below s Z _ _ _ _ _ (T2.setTop (mkF m 11 #[.val (.ref a1), .val (.ref l2), .val v3] [(.ref l2), (.ref a1)]))
  refine own_putF S2 (host := "") (Or.inl (own_w hw 85 rfl)) Via.refl F_items E_a1 (Or.inr ⟨(own_w hw 86 rfl), rfl, rfl⟩) (own_w hw 38 rfl) (ty := (.object "java/util/List")) (by decide) rfl rfl d11_11 (Or.inl (List.mem_of_getElem? (i := 0) rfl)) (fun T3 h3 S3 W3 => ?_)
  have Fw3 := F_items.same W3
  show own_F p e below s Z _ _ _ _ _ (T3.setTop (mkF m 14 #[.val (.ref a1), .val (.ref l2), .val v3] []))
  refine own_F.of (fun _ => XS.aloadN S3.here S3.hx rfl (S3.dec d11_14) rfl rfl) ?_
  refine own_F.of (fun _ => XS.aloadN S3.here S3.hx rfl (S3.dec d11_15) rfl hv) ?_
  show own_F p e below s Z _ _ _ _ _ (T3.setTop (mkF m 16 #[.val (.ref a1), .val (.ref l2), .val v3] [v3, (.ref a1)]))
  have fq4 := (F_nextKey.other W3 (Or.inr (slot_ne (C := "com/example/tidemark/tidemark/Page") (Or.inr (own_w hw 88 rfl)) (Or.inr (own_w hw 86 rfl)) (by decide) (t := (.object "java/lang/Object")) (t' := (.object "java/util/List")) (by decide) (by decide))))
  have fq5 := (E_a1.wr W3)
  refine own_putF S3 (host := "") (Or.inl (own_w hw 87 rfl)) Via.refl fq4 fq5 (Or.inr ⟨(own_w hw 88 rfl), rfl, rfl⟩) (own_w hw 38 rfl) (ty := (.object "java/lang/Object")) (by decide) (own_narR (by decide) hv) (own_fitR (by decide) hv) d11_16 (Or.inl (List.mem_of_getElem? (i := 0) rfl)) (fun T6 h6 S6 W6 => ?_)
  have Fw6 := fq4.same W6
  show own_F p e below s Z _ _ _ _ _ (T6.setTop (mkF m 19 #[.val (.ref a1), .val (.ref l2), .val v3] []))
  have fq7 := (Fw3.other W6 (Or.inr (slot_ne (C := "com/example/tidemark/tidemark/Page") (Or.inr (own_w hw 86 rfl)) (Or.inr (own_w hw 88 rfl)) (by decide) (t := (.object "java/util/List")) (t' := (.object "java/lang/Object")) (by decide) (by decide))))
  refine own_retV S6 d11_19 (by decide) (by decide) ?_
  exact ⟨rfl, fq7, Fw6⟩
theorem d6_0 : decode prog_22_method_2_code 0 = .ok (.new 14, 3) := by decide +kernel
theorem d6_3 : decode prog_22_method_2_code 3 = .ok (.dup, 1) := by decide +kernel
theorem d6_4 : decode prog_22_method_2_code 4 = .ok (.aload_n 0, 1) := by decide +kernel
theorem d6_5 : decode prog_22_method_2_code 5 = .ok (.invokestatic 7, 3) := by decide +kernel
theorem d6_8 : decode prog_22_method_2_code 8 = .ok (.aload_n 1, 1) := by decide +kernel
theorem d6_9 : decode prog_22_method_2_code 9 = .ok (.invokespecial 23, 3) := by decide +kernel
theorem d6_12 : decode prog_22_method_2_code 12 = .ok (.areturn, 1) := by decide +kernel
theorem pn6 : plainFor (⟨"com/example/tidemark/tidemark/Page", "of", "(Ljava/util/List;Ljava/lang/Object;)Lcom/example/tidemark/tidemark/Page;"⟩ : MethodName) = true := plainFor_of_name (by first | (simp [plainName, overriddenIn]; done) | decide +kernel)
set_option maxRecDepth 65536 in
set_option maxHeartbeats 40000000 in
theorem own_pof0 (l : Launch) (Z : State) (a0 : Array Value) (hw : ∀ d ∈ tables_1, d.before a0 Z = true) (l2 : Addr) (v3 : Value) (aL : Addr) (h0 : Heap) (hO : Ext Z.heap h0) (hv : v3.isRef = true) (SL : Sta Z Z.heap "java/util/ImmutableCollections" "EMPTY_LIST" "Ljava/util/ImmutableCollections$ListN;" (.ref aL)) (E_l : Exa Z h0 l2 "java/util/ArrayList") (F_size : Fld Z h0 l2 "java/util/ArrayList" "size" "I" (.int (0 : Int32))) (XL : Exa Z Z.heap aL "java/util/ImmutableCollections$ListN") (FLn : Fld Z Z.heap aL "java/util/ImmutableCollections$ListN" "allowNulls" "Z" (.int 0)) :
    own_C l Z (⟨"com/example/tidemark/tidemark/Page", "of", "(Ljava/util/List;Ljava/lang/Object;)Lcom/example/tidemark/tidemark/Page;"⟩ : MethodName) prog_22_method_2_code 2 (some (.object "com/example/tidemark/tidemark/Page")) [] ({ frames := 3, cells := 1, slots := 2, locals := 40 } : Room) [] #[(.ref l2), v3] h0 (fun v h => ∃ r, v = some (.ref r) ∧ Exa Z h r "com/example/tidemark/tidemark/Page" ∧ Fld Z h r "com/example/tidemark/tidemark/Page" "items" "Ljava/util/List;" (.ref aL) ∧ Fld Z h r "com/example/tidemark/tidemark/Page" "nextKey" "Ljava/lang/Object;" v3) := by
  refine own_C.of pn6 hO all0 ?_
  intro p e s m below meth c T0 S0
  refine own_F.cast (by rcases XT.refc hv with rfl | ⟨_, rfl⟩ <;> first | (simp [entryFrame, mkF, argsToLocals, Value.category]; done) | rfl : entryFrame m #[(.ref l2), v3] 2 = mkF m 0 #[.val (.ref l2), .val v3] []) ?_
  show own_F p e below s Z _ _ _ _ _ (T0.setTop (mkF m 0 #[.val (.ref l2), .val v3] []))
  refine own_new S0 (own_w hw 37 rfl) (own_w hw 38 rfl) (own_w hw 35 rfl) d6_0 (by decide) (by decide) (fun T1 h1 b1 g1 S1 E1 A1 D1 => ?_)
  have F1_items : Fld Z h1 b1 "com/example/tidemark/tidemark/Page" "items" "Ljava/util/List;" .null := (D1 (Or.inr (own_w hw 86 rfl)) (ty := (.object "java/util/List")) (by decide))
  have F1_nextKey : Fld Z h1 b1 "com/example/tidemark/tidemark/Page" "nextKey" "Ljava/lang/Object;" .null := (D1 (Or.inr (own_w hw 88 rfl)) (ty := (.object "java/lang/Object")) (by decide))
  show own_F p e below s Z _ _ _ _ _ (T1.setTop (mkF m 3 #[.val (.ref l2), .val v3] [(.ref b1)]))
  refine own_F.of (fun _ => XS.dup S1.here S1.hx rfl (S1.dec d6_3) rfl rfl) ?_
  refine own_F.of (fun _ => XS.aloadN S1.here S1.hx rfl (S1.dec d6_4) rfl rfl) ?_
  show own_F p e below s Z _ _ _ _ _ (T1.setTop (mkF m 5 #[.val (.ref l2), .val v3] [(.ref l2), (.ref b1), (.ref b1)]))
  have fq2 := (E_l.ext E1)
  have fq3 := (F_size.ext E1)
  refine own_callS S1 (y := (⟨"java/util/List", "copyOf", "(Ljava/util/Collection;)Ljava/util/List;"⟩ : MethodName)) (own_w hw 39 rfl) (own_w hw 40 rfl) (own_w hw 41 rfl) (own_w hw 42 rfl) (by decide) (argsL := [(.ref l2)]) (rest := [(.ref b1), (.ref b1)]) (own_co0 l Z a0 hw l2 aL h1 S1.old SL fq2 fq3) all0 (by decide +kernel : parseMethodDescriptor "(Ljava/util/Collection;)Ljava/util/List;" = some ⟨[(.object "java/util/Collection")], some (.object "java/util/List")⟩) rfl rfl rfl d6_5 (by decide) (Nat.le_of_ble_eq_true rfl) (by decide) (by decide) (fun T4 h4 v4 S4 K4 q4 => ?_)
  obtain ⟨rfl, rfl⟩ := q4
  show own_F p e below s Z _ _ _ _ _ (T4.setTop (mkF m 8 #[.val (.ref l2), .val v3] [(.ref aL), (.ref b1), (.ref b1)]))
  refine own_F.of (fun _ => XS.aloadN S4.here S4.hx rfl (S4.dec d6_8) rfl hv) ?_
  show own_F p e below s Z _ _ _ _ _ (T4.setTop (mkF m 9 #[.val (.ref l2), .val v3] [v3, (.ref aL), (.ref b1), (.ref b1)]))
  refine own_callI S4 (y := (⟨"com/example/tidemark/tidemark/Page", "<init>", "(Ljava/util/List;Ljava/lang/Object;)V"⟩ : MethodName)) rfl (own_w hw 68 rfl) (own_w hw 69 rfl) (own_w hw 35 rfl) (own_w hw 70 rfl) (by decide) (argsL := [(.ref aL), v3]) (rest := [(.ref b1)]) (own_PageN l Z a0 hw b1 aL v3 h1 S4.old hv (own_mayN S4 (Or.inr (by rw [g1]; exact S0.size))) A1 F1_items F1_nextKey (XL.ext S4.old) (FLn.ext S4.old)) (allS (Or.inr (by rw [g1]; exact S0.size)) all0) (by decide +kernel : parseMethodDescriptor "(Ljava/util/List;Ljava/lang/Object;)V" = some ⟨[(.object "java/util/List"), (.object "java/lang/Object")], none⟩) rfl rfl rfl d6_9 (by decide) (Nat.le_of_ble_eq_true rfl) (by decide) (by decide) (fun T5 h5 v5 S5 K5 q5 => ?_)
  obtain ⟨rfl, Fi5, Fk5⟩ := q5
  show own_F p e below s Z _ _ _ _ _ (T5.setTop (mkF m 12 #[.val (.ref l2), .val v3] [(.ref b1)]))
  have fq6 := (A1.keep K5)
  refine own_retA S5 rfl rfl d6_12 (by decide) (by decide) ?_
  exact ⟨_, rfl, fq6, Fi5, Fk5⟩
set_option maxRecDepth 65536 in
set_option maxHeartbeats 40000000 in
theorem own_pof1 (l : Launch) (Z : State) (a0 : Array Value) (hw : ∀ d ∈ tables_1, d.before a0 Z = true) (l2 : Addr) (v3 : Value) (aE : Addr) (e1 : Addr) (aM : Addr) (mO : Addr) (h0 : Heap) (hO : Ext Z.heap h0) (hv : v3.isRef = true) (SM : Sta Z Z.heap "java/util/ImmutableCollections" "EMPTY" "Ljava/lang/Object;" (.ref aM)) (MO : Mir Z "[Ljava/lang/Object;" mO) (E_l : Exa Z h0 l2 "java/util/ArrayList") (F_size : Fld Z h0 l2 "java/util/ArrayList" "size" "I" (.int (1 : Int32))) (F_elementData : Fld Z h0 l2 "java/util/ArrayList" "elementData" "[Ljava/lang/Object;" (.ref aE)) (AE : own_AO Z h0 aE [(.ref e1), .null, .null, .null, .null, .null, .null, .null, .null, .null]) (X_e1 : Exa Z h0 e1 "java/lang/Integer") :
    own_C l Z (⟨"com/example/tidemark/tidemark/Page", "of", "(Ljava/util/List;Ljava/lang/Object;)Lcom/example/tidemark/tidemark/Page;"⟩ : MethodName) prog_22_method_2_code 2 (some (.object "com/example/tidemark/tidemark/Page")) [] ({ frames := 8, cells := 3, slots := 5, locals := 102 } : Room) [] #[(.ref l2), v3] h0 (fun v h => ∃ r, v = some (.ref r) ∧ Exa Z h r "com/example/tidemark/tidemark/Page" ∧ ∃ b, Fld Z h r "com/example/tidemark/tidemark/Page" "items" "Ljava/util/List;" (.ref b) ∧ Fld Z h r "com/example/tidemark/tidemark/Page" "nextKey" "Ljava/lang/Object;" v3 ∧ Exa Z h b "java/util/ImmutableCollections$List12" ∧ Fld Z h b "java/util/ImmutableCollections$List12" "e0" "Ljava/lang/Object;" (.ref e1) ∧ Fld Z h b "java/util/ImmutableCollections$List12" "e1" "Ljava/lang/Object;" (.ref aM)) := by
  refine own_C.of pn6 hO all0 ?_
  intro p e s m below meth c T0 S0
  refine own_F.cast (by rcases XT.refc hv with rfl | ⟨_, rfl⟩ <;> first | (simp [entryFrame, mkF, argsToLocals, Value.category]; done) | rfl : entryFrame m #[(.ref l2), v3] 2 = mkF m 0 #[.val (.ref l2), .val v3] []) ?_
  show own_F p e below s Z _ _ _ _ _ (T0.setTop (mkF m 0 #[.val (.ref l2), .val v3] []))
  refine own_new S0 (own_w hw 37 rfl) (own_w hw 38 rfl) (own_w hw 35 rfl) d6_0 (by decide) (by decide) (fun T1 h1 b1 g1 S1 E1 A1 D1 => ?_)
  have F1_items : Fld Z h1 b1 "com/example/tidemark/tidemark/Page" "items" "Ljava/util/List;" .null := (D1 (Or.inr (own_w hw 86 rfl)) (ty := (.object "java/util/List")) (by decide))
  have F1_nextKey : Fld Z h1 b1 "com/example/tidemark/tidemark/Page" "nextKey" "Ljava/lang/Object;" .null := (D1 (Or.inr (own_w hw 88 rfl)) (ty := (.object "java/lang/Object")) (by decide))
  show own_F p e below s Z _ _ _ _ _ (T1.setTop (mkF m 3 #[.val (.ref l2), .val v3] [(.ref b1)]))
  refine own_F.of (fun _ => XS.dup S1.here S1.hx rfl (S1.dec d6_3) rfl rfl) ?_
  refine own_F.of (fun _ => XS.aloadN S1.here S1.hx rfl (S1.dec d6_4) rfl rfl) ?_
  show own_F p e below s Z _ _ _ _ _ (T1.setTop (mkF m 5 #[.val (.ref l2), .val v3] [(.ref l2), (.ref b1), (.ref b1)]))
  have fq2 := (E_l.ext E1)
  have fq3 := (F_size.ext E1)
  have fq4 := (F_elementData.ext E1)
  have fq5 := (AE.ext E1)
  have fq6 := (X_e1.ext E1)
  refine own_callS S1 (y := (⟨"java/util/List", "copyOf", "(Ljava/util/Collection;)Ljava/util/List;"⟩ : MethodName)) (own_w hw 39 rfl) (own_w hw 40 rfl) (own_w hw 41 rfl) (own_w hw 42 rfl) (by decide) (argsL := [(.ref l2)]) (rest := [(.ref b1), (.ref b1)]) (own_co1 l Z a0 hw l2 aE e1 aM mO h1 S1.old SM MO fq2 fq3 fq4 fq5 fq6) all0 (by decide +kernel : parseMethodDescriptor "(Ljava/util/Collection;)Ljava/util/List;" = some ⟨[(.object "java/util/Collection")], some (.object "java/util/List")⟩) rfl rfl rfl d6_5 (by decide) (Nat.le_of_ble_eq_true rfl) (by decide) (by decide) (fun T7 h7 v7 S7 K7 q7 => ?_)
  obtain ⟨b7, rfl, X7, P7, R7⟩ := q7
  show own_F p e below s Z _ _ _ _ _ (T7.setTop (mkF m 8 #[.val (.ref l2), .val v3] [(.ref b7), (.ref b1), (.ref b1)]))
  refine own_F.of (fun _ => XS.aloadN S7.here S7.hx rfl (S7.dec d6_8) rfl hv) ?_
  show own_F p e below s Z _ _ _ _ _ (T7.setTop (mkF m 9 #[.val (.ref l2), .val v3] [v3, (.ref b7), (.ref b1), (.ref b1)]))
  have fq8 := (A1.keep K7)
  have fq9 := (F1_items.keep K7 nin0)
  have fq10 := (F1_nextKey.keep K7 nin0)
  refine own_callI S7 (y := (⟨"com/example/tidemark/tidemark/Page", "<init>", "(Ljava/util/List;Ljava/lang/Object;)V"⟩ : MethodName)) rfl (own_w hw 68 rfl) (own_w hw 69 rfl) (own_w hw 35 rfl) (own_w hw 70 rfl) (by decide) (argsL := [(.ref b7), v3]) (rest := [(.ref b1)]) (own_PageT l Z a0 hw b1 b7 v3 h7 S7.old hv (own_mayN S7 (Or.inr (by rw [g1]; exact S0.size))) fq8 fq9 fq10 X7) (allS (Or.inr (by rw [g1]; exact S0.size)) all0) (by decide +kernel : parseMethodDescriptor "(Ljava/util/List;Ljava/lang/Object;)V" = some ⟨[(.object "java/util/List"), (.object "java/lang/Object")], none⟩) rfl rfl rfl d6_9 (by decide) (Nat.le_of_ble_eq_true rfl) (by decide) (by decide) (fun T11 h11 v11 S11 K11 q11 => ?_)
  obtain ⟨rfl, Fi11, Fk11⟩ := q11
  show own_F p e below s Z _ _ _ _ _ (T11.setTop (mkF m 12 #[.val (.ref l2), .val v3] [(.ref b1)]))
  have fq12 := (fq8.keep K11)
  have fq13 := (X7.keep K11)
  have fq14 := (P7.keep K11 (ninS (ne_exa fq13 fq12 (by decide)) nin0))
  have fq15 := (R7.keep K11 (ninS (ne_exa fq13 fq12 (by decide)) nin0))
  refine own_retA S11 rfl rfl d6_12 (by decide) (by decide) ?_
  exact ⟨_, rfl, fq12, _, Fi11, Fk11, fq13, fq14, fq15⟩
set_option maxRecDepth 65536 in
set_option maxHeartbeats 40000000 in
theorem own_pof2 (l : Launch) (Z : State) (a0 : Array Value) (hw : ∀ d ∈ tables_1, d.before a0 Z = true) (l2 : Addr) (v3 : Value) (aE : Addr) (e1 e2 : Addr) (aM : Addr) (mO : Addr) (h0 : Heap) (hO : Ext Z.heap h0) (hv : v3.isRef = true) (SM : Sta Z Z.heap "java/util/ImmutableCollections" "EMPTY" "Ljava/lang/Object;" (.ref aM)) (MO : Mir Z "[Ljava/lang/Object;" mO) (E_l : Exa Z h0 l2 "java/util/ArrayList") (F_size : Fld Z h0 l2 "java/util/ArrayList" "size" "I" (.int (2 : Int32))) (F_elementData : Fld Z h0 l2 "java/util/ArrayList" "elementData" "[Ljava/lang/Object;" (.ref aE)) (AE : own_AO Z h0 aE [(.ref e1), (.ref e2), .null, .null, .null, .null, .null, .null, .null, .null]) (X_e1 : Exa Z h0 e1 "java/lang/Integer") (X_e2 : Exa Z h0 e2 "java/lang/Integer") :
    own_C l Z (⟨"com/example/tidemark/tidemark/Page", "of", "(Ljava/util/List;Ljava/lang/Object;)Lcom/example/tidemark/tidemark/Page;"⟩ : MethodName) prog_22_method_2_code 2 (some (.object "com/example/tidemark/tidemark/Page")) [] ({ frames := 8, cells := 3, slots := 6, locals := 103 } : Room) [] #[(.ref l2), v3] h0 (fun v h => ∃ r, v = some (.ref r) ∧ Exa Z h r "com/example/tidemark/tidemark/Page" ∧ ∃ b, Fld Z h r "com/example/tidemark/tidemark/Page" "items" "Ljava/util/List;" (.ref b) ∧ Fld Z h r "com/example/tidemark/tidemark/Page" "nextKey" "Ljava/lang/Object;" v3 ∧ Exa Z h b "java/util/ImmutableCollections$List12" ∧ Fld Z h b "java/util/ImmutableCollections$List12" "e0" "Ljava/lang/Object;" (.ref e1) ∧ Fld Z h b "java/util/ImmutableCollections$List12" "e1" "Ljava/lang/Object;" (.ref e2)) := by
  refine own_C.of pn6 hO all0 ?_
  intro p e s m below meth c T0 S0
  refine own_F.cast (by rcases XT.refc hv with rfl | ⟨_, rfl⟩ <;> first | (simp [entryFrame, mkF, argsToLocals, Value.category]; done) | rfl : entryFrame m #[(.ref l2), v3] 2 = mkF m 0 #[.val (.ref l2), .val v3] []) ?_
  show own_F p e below s Z _ _ _ _ _ (T0.setTop (mkF m 0 #[.val (.ref l2), .val v3] []))
  refine own_new S0 (own_w hw 37 rfl) (own_w hw 38 rfl) (own_w hw 35 rfl) d6_0 (by decide) (by decide) (fun T1 h1 b1 g1 S1 E1 A1 D1 => ?_)
  have F1_items : Fld Z h1 b1 "com/example/tidemark/tidemark/Page" "items" "Ljava/util/List;" .null := (D1 (Or.inr (own_w hw 86 rfl)) (ty := (.object "java/util/List")) (by decide))
  have F1_nextKey : Fld Z h1 b1 "com/example/tidemark/tidemark/Page" "nextKey" "Ljava/lang/Object;" .null := (D1 (Or.inr (own_w hw 88 rfl)) (ty := (.object "java/lang/Object")) (by decide))
  show own_F p e below s Z _ _ _ _ _ (T1.setTop (mkF m 3 #[.val (.ref l2), .val v3] [(.ref b1)]))
  refine own_F.of (fun _ => XS.dup S1.here S1.hx rfl (S1.dec d6_3) rfl rfl) ?_
  refine own_F.of (fun _ => XS.aloadN S1.here S1.hx rfl (S1.dec d6_4) rfl rfl) ?_
  show own_F p e below s Z _ _ _ _ _ (T1.setTop (mkF m 5 #[.val (.ref l2), .val v3] [(.ref l2), (.ref b1), (.ref b1)]))
  have fq2 := (E_l.ext E1)
  have fq3 := (F_size.ext E1)
  have fq4 := (F_elementData.ext E1)
  have fq5 := (AE.ext E1)
  have fq6 := (X_e1.ext E1)
  have fq7 := (X_e2.ext E1)
  refine own_callS S1 (y := (⟨"java/util/List", "copyOf", "(Ljava/util/Collection;)Ljava/util/List;"⟩ : MethodName)) (own_w hw 39 rfl) (own_w hw 40 rfl) (own_w hw 41 rfl) (own_w hw 42 rfl) (by decide) (argsL := [(.ref l2)]) (rest := [(.ref b1), (.ref b1)]) (own_co2 l Z a0 hw l2 aE e1 e2 aM mO h1 S1.old SM MO fq2 fq3 fq4 fq5 fq6 fq7) all0 (by decide +kernel : parseMethodDescriptor "(Ljava/util/Collection;)Ljava/util/List;" = some ⟨[(.object "java/util/Collection")], some (.object "java/util/List")⟩) rfl rfl rfl d6_5 (by decide) (Nat.le_of_ble_eq_true rfl) (by decide) (by decide) (fun T8 h8 v8 S8 K8 q8 => ?_)
  obtain ⟨b8, rfl, X8, P8, R8⟩ := q8
  show own_F p e below s Z _ _ _ _ _ (T8.setTop (mkF m 8 #[.val (.ref l2), .val v3] [(.ref b8), (.ref b1), (.ref b1)]))
  refine own_F.of (fun _ => XS.aloadN S8.here S8.hx rfl (S8.dec d6_8) rfl hv) ?_
  show own_F p e below s Z _ _ _ _ _ (T8.setTop (mkF m 9 #[.val (.ref l2), .val v3] [v3, (.ref b8), (.ref b1), (.ref b1)]))
  have fq9 := (A1.keep K8)
  have fq10 := (F1_items.keep K8 nin0)
  have fq11 := (F1_nextKey.keep K8 nin0)
  refine own_callI S8 (y := (⟨"com/example/tidemark/tidemark/Page", "<init>", "(Ljava/util/List;Ljava/lang/Object;)V"⟩ : MethodName)) rfl (own_w hw 68 rfl) (own_w hw 69 rfl) (own_w hw 35 rfl) (own_w hw 70 rfl) (by decide) (argsL := [(.ref b8), v3]) (rest := [(.ref b1)]) (own_PageT l Z a0 hw b1 b8 v3 h8 S8.old hv (own_mayN S8 (Or.inr (by rw [g1]; exact S0.size))) fq9 fq10 fq11 X8) (allS (Or.inr (by rw [g1]; exact S0.size)) all0) (by decide +kernel : parseMethodDescriptor "(Ljava/util/List;Ljava/lang/Object;)V" = some ⟨[(.object "java/util/List"), (.object "java/lang/Object")], none⟩) rfl rfl rfl d6_9 (by decide) (Nat.le_of_ble_eq_true rfl) (by decide) (by decide) (fun T12 h12 v12 S12 K12 q12 => ?_)
  obtain ⟨rfl, Fi12, Fk12⟩ := q12
  show own_F p e below s Z _ _ _ _ _ (T12.setTop (mkF m 12 #[.val (.ref l2), .val v3] [(.ref b1)]))
  have fq13 := (fq9.keep K12)
  have fq14 := (X8.keep K12)
  have fq15 := (P8.keep K12 (ninS (ne_exa fq14 fq13 (by decide)) nin0))
  have fq16 := (R8.keep K12 (ninS (ne_exa fq14 fq13 (by decide)) nin0))
  refine own_retA S12 rfl rfl d6_12 (by decide) (by decide) ?_
  exact ⟨_, rfl, fq13, _, Fi12, Fk12, fq14, fq15, fq16⟩
set_option maxRecDepth 65536 in
set_option maxHeartbeats 40000000 in
theorem own_pof3 (l : Launch) (Z : State) (a0 : Array Value) (hw : ∀ d ∈ tables_1, d.before a0 Z = true) (l2 : Addr) (v3 : Value) (aE : Addr) (e1 e2 e3 : Addr) (aM : Addr) (mO : Addr) (h0 : Heap) (hO : Ext Z.heap h0) (hv : v3.isRef = true) (SM : Sta Z Z.heap "java/util/ImmutableCollections" "EMPTY" "Ljava/lang/Object;" (.ref aM)) (MO : Mir Z "[Ljava/lang/Object;" mO) (E_l : Exa Z h0 l2 "java/util/ArrayList") (F_size : Fld Z h0 l2 "java/util/ArrayList" "size" "I" (.int (3 : Int32))) (F_elementData : Fld Z h0 l2 "java/util/ArrayList" "elementData" "[Ljava/lang/Object;" (.ref aE)) (AE : own_AO Z h0 aE [(.ref e1), (.ref e2), (.ref e3), .null, .null, .null, .null, .null, .null, .null]) (X_e1 : Exa Z h0 e1 "java/lang/Integer") (X_e2 : Exa Z h0 e2 "java/lang/Integer") (X_e3 : Exa Z h0 e3 "java/lang/Integer") :
    own_C l Z (⟨"com/example/tidemark/tidemark/Page", "of", "(Ljava/util/List;Ljava/lang/Object;)Lcom/example/tidemark/tidemark/Page;"⟩ : MethodName) prog_22_method_2_code 2 (some (.object "com/example/tidemark/tidemark/Page")) [] ({ frames := 9, cells := 4, slots := 10, locals := 117 } : Room) [] #[(.ref l2), v3] h0 (fun v h => ∃ r, v = some (.ref r) ∧ Exa Z h r "com/example/tidemark/tidemark/Page" ∧ ∃ b, Fld Z h r "com/example/tidemark/tidemark/Page" "items" "Ljava/util/List;" (.ref b) ∧ Fld Z h r "com/example/tidemark/tidemark/Page" "nextKey" "Ljava/lang/Object;" v3 ∧ ∃ ar, Exa Z h b "java/util/ImmutableCollections$ListN" ∧ Fld Z h b "java/util/ImmutableCollections$ListN" "elements" "[Ljava/lang/Object;" (.ref ar) ∧ own_AO Z h ar [(.ref e1), (.ref e2), (.ref e3)] ∧ Fld Z h b "java/util/ImmutableCollections$ListN" "allowNulls" "Z" (.int 0)) := by
  refine own_C.of pn6 hO all0 ?_
  intro p e s m below meth c T0 S0
  refine own_F.cast (by rcases XT.refc hv with rfl | ⟨_, rfl⟩ <;> first | (simp [entryFrame, mkF, argsToLocals, Value.category]; done) | rfl : entryFrame m #[(.ref l2), v3] 2 = mkF m 0 #[.val (.ref l2), .val v3] []) ?_
  show own_F p e below s Z _ _ _ _ _ (T0.setTop (mkF m 0 #[.val (.ref l2), .val v3] []))
  refine own_new S0 (own_w hw 37 rfl) (own_w hw 38 rfl) (own_w hw 35 rfl) d6_0 (by decide) (by decide) (fun T1 h1 b1 g1 S1 E1 A1 D1 => ?_)
  have F1_items : Fld Z h1 b1 "com/example/tidemark/tidemark/Page" "items" "Ljava/util/List;" .null := (D1 (Or.inr (own_w hw 86 rfl)) (ty := (.object "java/util/List")) (by decide))
  have F1_nextKey : Fld Z h1 b1 "com/example/tidemark/tidemark/Page" "nextKey" "Ljava/lang/Object;" .null := (D1 (Or.inr (own_w hw 88 rfl)) (ty := (.object "java/lang/Object")) (by decide))
  show own_F p e below s Z _ _ _ _ _ (T1.setTop (mkF m 3 #[.val (.ref l2), .val v3] [(.ref b1)]))
  refine own_F.of (fun _ => XS.dup S1.here S1.hx rfl (S1.dec d6_3) rfl rfl) ?_
  refine own_F.of (fun _ => XS.aloadN S1.here S1.hx rfl (S1.dec d6_4) rfl rfl) ?_
  show own_F p e below s Z _ _ _ _ _ (T1.setTop (mkF m 5 #[.val (.ref l2), .val v3] [(.ref l2), (.ref b1), (.ref b1)]))
  have fq2 := (E_l.ext E1)
  have fq3 := (F_size.ext E1)
  have fq4 := (F_elementData.ext E1)
  have fq5 := (AE.ext E1)
  have fq6 := (X_e1.ext E1)
  have fq7 := (X_e2.ext E1)
  have fq8 := (X_e3.ext E1)
  refine own_callS S1 (y := (⟨"java/util/List", "copyOf", "(Ljava/util/Collection;)Ljava/util/List;"⟩ : MethodName)) (own_w hw 39 rfl) (own_w hw 40 rfl) (own_w hw 41 rfl) (own_w hw 42 rfl) (by decide) (argsL := [(.ref l2)]) (rest := [(.ref b1), (.ref b1)]) (own_co3 l Z a0 hw l2 aE e1 e2 e3 aM mO h1 S1.old SM MO fq2 fq3 fq4 fq5 fq6 fq7 fq8) all0 (by decide +kernel : parseMethodDescriptor "(Ljava/util/Collection;)Ljava/util/List;" = some ⟨[(.object "java/util/Collection")], some (.object "java/util/List")⟩) rfl rfl rfl d6_5 (by decide) (Nat.le_of_ble_eq_true rfl) (by decide) (by decide) (fun T9 h9 v9 S9 K9 q9 => ?_)
  obtain ⟨b9, rfl, ar9, X9, P9, R9, U9⟩ := q9
  show own_F p e below s Z _ _ _ _ _ (T9.setTop (mkF m 8 #[.val (.ref l2), .val v3] [(.ref b9), (.ref b1), (.ref b1)]))
  refine own_F.of (fun _ => XS.aloadN S9.here S9.hx rfl (S9.dec d6_8) rfl hv) ?_
  show own_F p e below s Z _ _ _ _ _ (T9.setTop (mkF m 9 #[.val (.ref l2), .val v3] [v3, (.ref b9), (.ref b1), (.ref b1)]))
  have fq10 := (A1.keep K9)
  have fq11 := (F1_items.keep K9 nin0)
  have fq12 := (F1_nextKey.keep K9 nin0)
  refine own_callI S9 (y := (⟨"com/example/tidemark/tidemark/Page", "<init>", "(Ljava/util/List;Ljava/lang/Object;)V"⟩ : MethodName)) rfl (own_w hw 68 rfl) (own_w hw 69 rfl) (own_w hw 35 rfl) (own_w hw 70 rfl) (by decide) (argsL := [(.ref b9), v3]) (rest := [(.ref b1)]) (own_PageN l Z a0 hw b1 b9 v3 h9 S9.old hv (own_mayN S9 (Or.inr (by rw [g1]; exact S0.size))) fq10 fq11 fq12 X9 U9) (allS (Or.inr (by rw [g1]; exact S0.size)) all0) (by decide +kernel : parseMethodDescriptor "(Ljava/util/List;Ljava/lang/Object;)V" = some ⟨[(.object "java/util/List"), (.object "java/lang/Object")], none⟩) rfl rfl rfl d6_9 (by decide) (Nat.le_of_ble_eq_true rfl) (by decide) (by decide) (fun T13 h13 v13 S13 K13 q13 => ?_)
  obtain ⟨rfl, Fi13, Fk13⟩ := q13
  show own_F p e below s Z _ _ _ _ _ (T13.setTop (mkF m 12 #[.val (.ref l2), .val v3] [(.ref b1)]))
  have fq14 := (fq10.keep K13)
  have fq15 := (X9.keep K13)
  have fq16 := (P9.keep K13 (ninS (ne_exa fq15 fq14 (by decide)) nin0))
  have fq17 := (R9.keep K13 (ninS (ne_exa (R9.exa.keep K13) fq14 (by decide)) nin0))
  have fq18 := (U9.keep K13 (ninS (ne_exa fq15 fq14 (by decide)) nin0))
  refine own_retA S13 rfl rfl d6_12 (by decide) (by decide) ?_
  exact ⟨_, rfl, fq14, _, Fi13, Fk13, _, fq15, fq16, fq17, fq18⟩
theorem d18_0 : decode prog_22_method_6_code 0 = .ok (.aload_n 0, 1) := by decide +kernel
theorem d18_1 : decode prog_22_method_6_code 1 = .ok (.getfield 13, 3) := by decide +kernel
theorem d18_4 : decode prog_22_method_6_code 4 = .ok (.areturn, 1) := by decide +kernel
theorem pn18 : plainFor (⟨"com/example/tidemark/tidemark/Page", "items", "()Ljava/util/List;"⟩ : MethodName) = true := plainFor_of_name (by first | (simp [plainName, overriddenIn]; done) | decide +kernel)
set_option maxRecDepth 65536 in
set_option maxHeartbeats 40000000 in
theorem own_pgI (l : Launch) (Z : State) (a0 : Array Value) (hw : ∀ d ∈ tables_1, d.before a0 Z = true) (a1 : Addr) (x : Value) (h0 : Heap) (hO : Ext Z.heap h0) (hx : x.isRef = true) (F_x : Fld Z h0 a1 "com/example/tidemark/tidemark/Page" "items" "Ljava/util/List;" x) :
    own_C l Z (⟨"com/example/tidemark/tidemark/Page", "items", "()Ljava/util/List;"⟩ : MethodName) prog_22_method_6_code 1 (some (.object "java/util/List")) [] ({ frames := 0, cells := 0, slots := 0, locals := 0 } : Room) [] #[(.ref a1)] h0 (fun v h => v = some x ∧ h0 = h) := by
  refine own_C.of pn18 hO all0 ?_
  intro p e s m below meth c T0 S0
  refine own_F.cast (by first | (simp [entryFrame, mkF, argsToLocals, Value.category]; done) | rfl : entryFrame m #[(.ref a1)] 1 = mkF m 0 #[.val (.ref a1)] []) ?_
  show own_F p e below s Z _ _ _ _ _ (T0.setTop (mkF m 0 #[.val (.ref a1)] []))
  refine own_F.of (fun _ => XS.aloadN S0.here S0.hx rfl (S0.dec d18_0) rfl rfl) ?_
  show own_F p e below s Z _ _ _ _ _ (T0.setTop (mkF m 1 #[.val (.ref a1)] [(.ref a1)]))
  refine own_getF S0 (host := "") (Or.inl (own_w hw 85 rfl)) Via.refl F_x d18_1 (fun T1 S1 => ?_)
  show own_F p e below s Z _ _ _ _ _ (T1.setTop (mkF m 4 #[.val (.ref a1)] [x]))
  refine own_retA S1 rfl hx d18_4 (by decide) (by decide) ?_
  exact ⟨rfl, rfl⟩
theorem d20_0 : decode prog_22_method_7_code 0 = .ok (.aload_n 0, 1) := by decide +kernel
theorem d20_1 : decode prog_22_method_7_code 1 = .ok (.getfield 19, 3) := by decide +kernel
theorem d20_4 : decode prog_22_method_7_code 4 = .ok (.areturn, 1) := by decide +kernel
theorem pn20 : plainFor (⟨"com/example/tidemark/tidemark/Page", "nextKey", "()Ljava/lang/Object;"⟩ : MethodName) = true := plainFor_of_name (by first | (simp [plainName, overriddenIn]; done) | decide +kernel)
set_option maxRecDepth 65536 in
set_option maxHeartbeats 40000000 in
theorem own_pgK (l : Launch) (Z : State) (a0 : Array Value) (hw : ∀ d ∈ tables_1, d.before a0 Z = true) (a1 : Addr) (x : Value) (h0 : Heap) (hO : Ext Z.heap h0) (hx : x.isRef = true) (F_x : Fld Z h0 a1 "com/example/tidemark/tidemark/Page" "nextKey" "Ljava/lang/Object;" x) :
    own_C l Z (⟨"com/example/tidemark/tidemark/Page", "nextKey", "()Ljava/lang/Object;"⟩ : MethodName) prog_22_method_7_code 1 (some (.object "java/lang/Object")) [] ({ frames := 0, cells := 0, slots := 0, locals := 0 } : Room) [] #[(.ref a1)] h0 (fun v h => v = some x ∧ h0 = h) := by
  refine own_C.of pn20 hO all0 ?_
  intro p e s m below meth c T0 S0
  refine own_F.cast (by first | (simp [entryFrame, mkF, argsToLocals, Value.category]; done) | rfl : entryFrame m #[(.ref a1)] 1 = mkF m 0 #[.val (.ref a1)] []) ?_
  show own_F p e below s Z _ _ _ _ _ (T0.setTop (mkF m 0 #[.val (.ref a1)] []))
  refine own_F.of (fun _ => XS.aloadN S0.here S0.hx rfl (S0.dec d20_0) rfl rfl) ?_
  show own_F p e below s Z _ _ _ _ _ (T0.setTop (mkF m 1 #[.val (.ref a1)] [(.ref a1)]))
  refine own_getF S0 (host := "") (Or.inl (own_w hw 87 rfl)) Via.refl F_x d20_1 (fun T1 S1 => ?_)
  show own_F p e below s Z _ _ _ _ _ (T1.setTop (mkF m 4 #[.val (.ref a1)] [x]))
  refine own_retA S1 rfl hx d20_4 (by decide) (by decide) ?_
  exact ⟨rfl, rfl⟩
theorem pn0 : plainFor x = true := plainFor_of_name (by first | (simp [plainName, overriddenIn]; done) | decide +kernel)
set_option maxRecDepth 65536 in
set_option maxHeartbeats 40000000 in
theorem own_law (l : Launch) (Z : State) (a0 : Array Value) (hw : ∀ d ∈ tables_1, d.before a0 Z = true) (p0 p1 p2 p3 p4 p5 : Int32) (aCI : Addr) (clCI : Cell) (aD aL aLe aM mO : Addr) (h0 : Heap) (hO : Ext Z.heap h0) (SHi : Sta Z Z.heap "java/lang/Integer$IntegerCache" "high" "I" (.int 127)) (SCaI : Sta Z Z.heap "java/lang/Integer$IntegerCache" "cache" "[Ljava/lang/Integer;" (.ref aCI)) (BXI : Bxs Z aCI clCI "java/lang/Integer" "I" 256 (fun j => .int (j - 128))) (SD : Sta Z Z.heap "java/util/ArrayList" "DEFAULTCAPACITY_EMPTY_ELEMENTDATA" "[Ljava/lang/Object;" (.ref aD)) (AD : own_A Z Z.heap aD (.object "java/lang/Object") []) (SL : Sta Z Z.heap "java/util/ImmutableCollections" "EMPTY_LIST" "Ljava/util/ImmutableCollections$ListN;" (.ref aL)) (SM : Sta Z Z.heap "java/util/ImmutableCollections" "EMPTY" "Ljava/lang/Object;" (.ref aM)) (MO : Mir Z "[Ljava/lang/Object;" mO) (XL : Exa Z Z.heap aL "java/util/ImmutableCollections$ListN") (FL : Fld Z Z.heap aL "java/util/ImmutableCollections$ListN" "elements" "[Ljava/lang/Object;" (.ref aLe)) (AL0 : own_A Z Z.heap aLe (.object "java/lang/Object") []) (FLn : Fld Z Z.heap aL "java/util/ImmutableCollections$ListN" "allowNulls" "Z" (.int 0)) (XM : Exa Z Z.heap aM "java/lang/Object") :
    own_C l Z x code maxLocals ret tables_1 room_1 [] #[(.int p0), (.int p1), (.int p2), (.int p3), (.int p4), (.int p5)] h0 (fun v _ => v = some (.int 1)) := by
  refine own_C.of pn0 hO all0 ?_
  intro p e s m below meth c T0 S0
  refine own_F.cast (by first | (simp [entryFrame, mkF, argsToLocals, Value.category, maxLocals]; done) | rfl : entryFrame m #[(.int p0), (.int p1), (.int p2), (.int p3), (.int p4), (.int p5)] maxLocals = mkF m 0 #[.val (.int p0), .val (.int p1), .val (.int p2), .val (.int p3), .val (.int p4), .val (.int p5), .unset, .unset, .unset, .unset, .unset, .unset, .unset, .unset] []) ?_
  show own_F p e below s Z _ _ _ _ _ (T0.setTop (mkF m 0 #[.val (.int p0), .val (.int p1), .val (.int p2), .val (.int p3), .val (.int p4), .val (.int p5), .unset, .unset, .unset, .unset, .unset, .unset, .unset, .unset] []))
  refine own_F.of (fun _ => XS.iloadN S0.here S0.hx rfl (S0.dec at_0) rfl) ?_
  refine own_F.of (fun _ => XS.iconst S0.here S0.hx rfl (S0.dec at_1)) ?_
  show own_F p e below s Z _ _ _ _ _ (T0.setTop (mkF m 2 #[.val (.int p0), .val (.int p1), .val (.int p2), .val (.int p3), .val (.int p4), .val (.int p5), .unset, .unset, .unset, .unset, .unset, .unset, .unset, .unset] [(.int (3 : Int32)), (.int p0)]))
  refine own_F.of (fun _ => XS.iand S0.here S0.hx rfl (S0.dec at_2) rfl) ?_
  show own_F p e below s Z _ _ _ _ _ (T0.setTop (mkF m 3 #[.val (.int p0), .val (.int p1), .val (.int p2), .val (.int p3), .val (.int p4), .val (.int p5), .unset, .unset, .unset, .unset, .unset, .unset, .unset, .unset] [(.int (p0 &&& (3 : Int32)))]))
  refine own_F.of (fun _ => XS.istore S0.here S0.hx rfl (S0.dec at_3) rfl (l' := #[.val (.int p0), .val (.int p1), .val (.int p2), .val (.int p3), .val (.int p4), .val (.int p5), .val (.int (p0 &&& (3 : Int32))), .unset, .unset, .unset, .unset, .unset, .unset, .unset]) rfl) ?_
  show own_F p e below s Z _ _ _ _ _ (T0.setTop (mkF m 5 #[.val (.int p0), .val (.int p1), .val (.int p2), .val (.int p3), .val (.int p4), .val (.int p5), .val (.int (p0 &&& (3 : Int32))), .unset, .unset, .unset, .unset, .unset, .unset, .unset] []))
  rcases own_and3 p0 with hn | hn | hn | hn
  · rw [hn]
    show own_F p e below s Z _ _ _ _ _ (T0.setTop (mkF m 5 #[.val (.int p0), .val (.int p1), .val (.int p2), .val (.int p3), .val (.int p4), .val (.int p5), .val (.int (0 : Int32)), .unset, .unset, .unset, .unset, .unset, .unset, .unset] []))
    refine own_F.of (fun _ => XS.iload S0.here S0.hx rfl (S0.dec at_5) rfl) ?_
    refine own_F.of (fun _ => XS.iconst S0.here S0.hx rfl (S0.dec at_7)) ?_
    show own_F p e below s Z _ _ _ _ _ (T0.setTop (mkF m 8 #[.val (.int p0), .val (.int p1), .val (.int p2), .val (.int p3), .val (.int p4), .val (.int p5), .val (.int (0 : Int32)), .unset, .unset, .unset, .unset, .unset, .unset, .unset] [(.int (1 : Int32)), (.int p4)]))
    refine own_F.of (fun _ => XS.iand S0.here S0.hx rfl (S0.dec at_8) rfl) ?_
    show own_F p e below s Z _ _ _ _ _ (T0.setTop (mkF m 9 #[.val (.int p0), .val (.int p1), .val (.int p2), .val (.int p3), .val (.int p4), .val (.int p5), .val (.int (0 : Int32)), .unset, .unset, .unset, .unset, .unset, .unset, .unset] [(.int (p4 &&& (1 : Int32)))]))
    refine own_if S0 16 at_9 (by decide) (by decide) (fun (hc9_1 : (p4 &&& (1 : Int32)) = (0 : Int32)) => ?_) (fun (hc9_1 : ¬ ((p4 &&& (1 : Int32)) = (0 : Int32))) => ?_)
    · show own_F p e below s Z _ _ _ _ _ (T0.setTop (mkF m 16 #[.val (.int p0), .val (.int p1), .val (.int p2), .val (.int p3), .val (.int p4), .val (.int p5), .val (.int (0 : Int32)), .unset, .unset, .unset, .unset, .unset, .unset, .unset] []))
      refine own_F.of (fun _ => XS.iconst S0.here S0.hx rfl (S0.dec at_16)) ?_
      show own_F p e below s Z _ _ _ _ _ (T0.setTop (mkF m 17 #[.val (.int p0), .val (.int p1), .val (.int p2), .val (.int p3), .val (.int p4), .val (.int p5), .val (.int (0 : Int32)), .unset, .unset, .unset, .unset, .unset, .unset, .unset] [(.int (0 : Int32))]))
      refine own_F.of (fun _ => XS.istore S0.here S0.hx rfl (S0.dec at_17) rfl (l' := #[.val (.int p0), .val (.int p1), .val (.int p2), .val (.int p3), .val (.int p4), .val (.int p5), .val (.int (0 : Int32)), .val (.int (0 : Int32)), .unset, .unset, .unset, .unset, .unset, .unset]) rfl) ?_
      show own_F p e below s Z _ _ _ _ _ (T0.setTop (mkF m 19 #[.val (.int p0), .val (.int p1), .val (.int p2), .val (.int p3), .val (.int p4), .val (.int p5), .val (.int (0 : Int32)), .val (.int (0 : Int32)), .unset, .unset, .unset, .unset, .unset, .unset] []))
      refine own_F.of (fun _ => XS.iload S0.here S0.hx rfl (S0.dec at_19) rfl) ?_
      show own_F p e below s Z _ _ _ _ _ (T0.setTop (mkF m 21 #[.val (.int p0), .val (.int p1), .val (.int p2), .val (.int p3), .val (.int p4), .val (.int p5), .val (.int (0 : Int32)), .val (.int (0 : Int32)), .unset, .unset, .unset, .unset, .unset, .unset] [(.int (0 : Int32))]))
      refine own_if S0 28 at_21 (by decide) (by decide) (fun (hc21_2 : (0 : Int32) = (0 : Int32)) => ?_) (fun (hc21_2 : ¬ ((0 : Int32) = (0 : Int32))) => False.elim (absurd hc21_2 (by decide)))
      show own_F p e below s Z _ _ _ _ _ (T0.setTop (mkF m 28 #[.val (.int p0), .val (.int p1), .val (.int p2), .val (.int p3), .val (.int p4), .val (.int p5), .val (.int (0 : Int32)), .val (.int (0 : Int32)), .unset, .unset, .unset, .unset, .unset, .unset] []))
      refine own_F.of (fun _ => XS.iload S0.here S0.hx rfl (S0.dec at_28) rfl) ?_
      show own_F p e below s Z _ _ _ _ _ (T0.setTop (mkF m 30 #[.val (.int p0), .val (.int p1), .val (.int p2), .val (.int p3), .val (.int p4), .val (.int p5), .val (.int (0 : Int32)), .val (.int (0 : Int32)), .unset, .unset, .unset, .unset, .unset, .unset] [(.int p5)]))
      refine own_callS S0 (y := (⟨"java/lang/Integer", "valueOf", "(I)Ljava/lang/Integer;"⟩ : MethodName)) (own_w hw 0 rfl) (own_w hw 1 rfl) (own_w hw 2 rfl) (own_w hw 3 rfl) (by decide) (argsL := [(.int p5)]) (rest := []) (own_vOfI l Z a0 hw p5 aCI clCI h0 S0.old SHi SCaI BXI) all0 (by decide +kernel : parseMethodDescriptor "(I)Ljava/lang/Integer;" = some ⟨[.int], some (.object "java/lang/Integer")⟩) rfl rfl rfl at_30 (by decide) (Nat.le_of_ble_eq_true rfl) (by decide) (by decide) (fun T3 h3 v3 S3 K3 q3 => ?_)
      obtain ⟨b3, rfl, X3, F3⟩ := q3
      show own_F p e below s Z _ _ _ _ _ (T3.setTop (mkF m 33 #[.val (.int p0), .val (.int p1), .val (.int p2), .val (.int p3), .val (.int p4), .val (.int p5), .val (.int (0 : Int32)), .val (.int (0 : Int32)), .unset, .unset, .unset, .unset, .unset, .unset] [(.ref b3)]))
      refine own_F.of (fun _ => XS.astore S3.here S3.hx rfl (S3.dec at_33) rfl rfl (l' := #[.val (.int p0), .val (.int p1), .val (.int p2), .val (.int p3), .val (.int p4), .val (.int p5), .val (.int (0 : Int32)), .val (.int (0 : Int32)), .val (.ref b3), .unset, .unset, .unset, .unset, .unset]) rfl) ?_
      show own_F p e below s Z _ _ _ _ _ (T3.setTop (mkF m 35 #[.val (.int p0), .val (.int p1), .val (.int p2), .val (.int p3), .val (.int p4), .val (.int p5), .val (.int (0 : Int32)), .val (.int (0 : Int32)), .val (.ref b3), .unset, .unset, .unset, .unset, .unset] []))
      refine own_new S3 (own_w hw 7 rfl) (own_w hw 8 rfl) (own_w hw 9 rfl) at_35 (by decide) (by decide) (fun T4 h4 b4 g4 S4 E4 A4 D4 => ?_)
      have F4_modCount : Fld Z h4 b4 "java/util/AbstractList" "modCount" "I" (.int (0 : Int32)) := (D4 (Or.inl (own_w hw 29 rfl)) (ty := .int) (by decide))
      have F4_elementData : Fld Z h4 b4 "java/util/ArrayList" "elementData" "[Ljava/lang/Object;" .null := (D4 (Or.inl (own_w hw 32 rfl)) (ty := (.array (.object "java/lang/Object"))) (by decide))
      have F4_size : Fld Z h4 b4 "java/util/ArrayList" "size" "I" (.int (0 : Int32)) := (D4 (Or.inl (own_w hw 63 rfl)) (ty := .int) (by decide))
      show own_F p e below s Z _ _ _ _ _ (T4.setTop (mkF m 38 #[.val (.int p0), .val (.int p1), .val (.int p2), .val (.int p3), .val (.int p4), .val (.int p5), .val (.int (0 : Int32)), .val (.int (0 : Int32)), .val (.ref b3), .unset, .unset, .unset, .unset, .unset] [(.ref b4)]))
      refine own_F.of (fun _ => XS.dup S4.here S4.hx rfl (S4.dec at_38) rfl rfl) ?_
      show own_F p e below s Z _ _ _ _ _ (T4.setTop (mkF m 39 #[.val (.int p0), .val (.int p1), .val (.int p2), .val (.int p3), .val (.int p4), .val (.int p5), .val (.int (0 : Int32)), .val (.int (0 : Int32)), .val (.ref b3), .unset, .unset, .unset, .unset, .unset] [(.ref b4), (.ref b4)]))
      refine own_callI S4 (y := (⟨"java/util/ArrayList", "<init>", "()V"⟩ : MethodName)) rfl (own_w hw 10 rfl) (own_w hw 11 rfl) (own_w hw 9 rfl) (own_w hw 12 rfl) (by decide) (argsL := []) (rest := [(.ref b4)]) (own_ALI l Z a0 hw b4 aD h4 S4.old SD AD (own_mayN S4 (Or.inr (by rw [g4]; exact S3.size))) A4 F4_modCount F4_elementData F4_size) (allS (Or.inr (by rw [g4]; exact S3.size)) all0) (by decide +kernel : parseMethodDescriptor "()V" = some ⟨[], none⟩) rfl rfl rfl at_39 (by decide) (Nat.le_of_ble_eq_true rfl) (by decide) (by decide) (fun T5 h5 v5 S5 K5 q5 => ?_)
      obtain ⟨rfl, Fm5, Fe5, Fs5⟩ := q5
      show own_F p e below s Z _ _ _ _ _ (T5.setTop (mkF m 42 #[.val (.int p0), .val (.int p1), .val (.int p2), .val (.int p3), .val (.int p4), .val (.int p5), .val (.int (0 : Int32)), .val (.int (0 : Int32)), .val (.ref b3), .unset, .unset, .unset, .unset, .unset] [(.ref b4)]))
      refine own_F.of (fun _ => XS.astore S5.here S5.hx rfl (S5.dec at_42) rfl rfl (l' := #[.val (.int p0), .val (.int p1), .val (.int p2), .val (.int p3), .val (.int p4), .val (.int p5), .val (.int (0 : Int32)), .val (.int (0 : Int32)), .val (.ref b3), .val (.ref b4), .unset, .unset, .unset, .unset]) rfl) ?_
      show own_F p e below s Z _ _ _ _ _ (T5.setTop (mkF m 44 #[.val (.int p0), .val (.int p1), .val (.int p2), .val (.int p3), .val (.int p4), .val (.int p5), .val (.int (0 : Int32)), .val (.int (0 : Int32)), .val (.ref b3), .val (.ref b4), .unset, .unset, .unset, .unset] []))
      refine own_F.of (fun _ => XS.iload S5.here S5.hx rfl (S5.dec at_44) rfl) ?_
      show own_F p e below s Z _ _ _ _ _ (T5.setTop (mkF m 46 #[.val (.int p0), .val (.int p1), .val (.int p2), .val (.int p3), .val (.int p4), .val (.int p5), .val (.int (0 : Int32)), .val (.int (0 : Int32)), .val (.ref b3), .val (.ref b4), .unset, .unset, .unset, .unset] [(.int (0 : Int32))]))
      refine own_if S5 59 at_46 (by decide) (by decide) (fun (hc46_6 : ¬ ((0 : Int32) < (0 : Int32))) => ?_) (fun (hc46_6 : (0 : Int32) < (0 : Int32)) => False.elim (absurd hc46_6 (by decide)))
      show own_F p e below s Z _ _ _ _ _ (T5.setTop (mkF m 59 #[.val (.int p0), .val (.int p1), .val (.int p2), .val (.int p3), .val (.int p4), .val (.int p5), .val (.int (0 : Int32)), .val (.int (0 : Int32)), .val (.ref b3), .val (.ref b4), .unset, .unset, .unset, .unset] []))
      refine own_F.of (fun _ => XS.iload S5.here S5.hx rfl (S5.dec at_59) rfl) ?_
      refine own_F.of (fun _ => XS.iconst S5.here S5.hx rfl (S5.dec at_61)) ?_
      show own_F p e below s Z _ _ _ _ _ (T5.setTop (mkF m 62 #[.val (.int p0), .val (.int p1), .val (.int p2), .val (.int p3), .val (.int p4), .val (.int p5), .val (.int (0 : Int32)), .val (.int (0 : Int32)), .val (.ref b3), .val (.ref b4), .unset, .unset, .unset, .unset] [(.int (1 : Int32)), (.int (0 : Int32))]))
      refine own_icmp S5 75 at_62 (by decide) (by decide) (fun (hc62_7 : ¬ ((1 : Int32) < (0 : Int32))) => ?_) (fun (hc62_7 : (1 : Int32) < (0 : Int32)) => False.elim (absurd hc62_7 (by decide)))
      show own_F p e below s Z _ _ _ _ _ (T5.setTop (mkF m 75 #[.val (.int p0), .val (.int p1), .val (.int p2), .val (.int p3), .val (.int p4), .val (.int p5), .val (.int (0 : Int32)), .val (.int (0 : Int32)), .val (.ref b3), .val (.ref b4), .unset, .unset, .unset, .unset] []))
      refine own_F.of (fun _ => XS.iload S5.here S5.hx rfl (S5.dec at_75) rfl) ?_
      refine own_F.of (fun _ => XS.iconst S5.here S5.hx rfl (S5.dec at_77)) ?_
      show own_F p e below s Z _ _ _ _ _ (T5.setTop (mkF m 78 #[.val (.int p0), .val (.int p1), .val (.int p2), .val (.int p3), .val (.int p4), .val (.int p5), .val (.int (0 : Int32)), .val (.int (0 : Int32)), .val (.ref b3), .val (.ref b4), .unset, .unset, .unset, .unset] [(.int (2 : Int32)), (.int (0 : Int32))]))
      refine own_icmp S5 91 at_78 (by decide) (by decide) (fun (hc78_8 : ¬ ((2 : Int32) < (0 : Int32))) => ?_) (fun (hc78_8 : (2 : Int32) < (0 : Int32)) => False.elim (absurd hc78_8 (by decide)))
      show own_F p e below s Z _ _ _ _ _ (T5.setTop (mkF m 91 #[.val (.int p0), .val (.int p1), .val (.int p2), .val (.int p3), .val (.int p4), .val (.int p5), .val (.int (0 : Int32)), .val (.int (0 : Int32)), .val (.ref b3), .val (.ref b4), .unset, .unset, .unset, .unset] []))
      refine own_F.of (fun _ => XS.aload S5.here S5.hx rfl (S5.dec at_91) rfl rfl) ?_
      refine own_F.of (fun _ => XS.aload S5.here S5.hx rfl (S5.dec at_93) rfl rfl) ?_
      show own_F p e below s Z _ _ _ _ _ (T5.setTop (mkF m 95 #[.val (.int p0), .val (.int p1), .val (.int p2), .val (.int p3), .val (.int p4), .val (.int p5), .val (.int (0 : Int32)), .val (.int (0 : Int32)), .val (.ref b3), .val (.ref b4), .unset, .unset, .unset, .unset] [(.ref b3), (.ref b4)]))
      have fq9 := (A4.keep K5)
      refine own_callS S5 (y := (⟨"com/example/tidemark/tidemark/Page", "of", "(Ljava/util/List;Ljava/lang/Object;)Lcom/example/tidemark/tidemark/Page;"⟩ : MethodName)) (own_w hw 33 rfl) (own_w hw 34 rfl) (own_w hw 35 rfl) (own_w hw 36 rfl) (by decide) (argsL := [(.ref b4), (.ref b3)]) (rest := []) (own_pof0 l Z a0 hw b4 (.ref b3) aL h5 S5.old rfl SL fq9 Fs5 XL FLn) all0 (by decide +kernel : parseMethodDescriptor "(Ljava/util/List;Ljava/lang/Object;)Lcom/example/tidemark/tidemark/Page;" = some ⟨[(.object "java/util/List"), (.object "java/lang/Object")], some (.object "com/example/tidemark/tidemark/Page")⟩) rfl rfl rfl at_95 (by decide) (Nat.le_of_ble_eq_true rfl) (by decide) (by decide) (fun T10 h10 v10 S10 K10 q10 => ?_)
      obtain ⟨b10, rfl, E10, Fi10, Fk10⟩ := q10
      show own_F p e below s Z _ _ _ _ _ (T10.setTop (mkF m 98 #[.val (.int p0), .val (.int p1), .val (.int p2), .val (.int p3), .val (.int p4), .val (.int p5), .val (.int (0 : Int32)), .val (.int (0 : Int32)), .val (.ref b3), .val (.ref b4), .unset, .unset, .unset, .unset] [(.ref b10)]))
      refine own_F.of (fun _ => XS.astore S10.here S10.hx rfl (S10.dec at_98) rfl rfl (l' := #[.val (.int p0), .val (.int p1), .val (.int p2), .val (.int p3), .val (.int p4), .val (.int p5), .val (.int (0 : Int32)), .val (.int (0 : Int32)), .val (.ref b3), .val (.ref b4), .val (.ref b10), .unset, .unset, .unset]) rfl) ?_
      show own_F p e below s Z _ _ _ _ _ (T10.setTop (mkF m 100 #[.val (.int p0), .val (.int p1), .val (.int p2), .val (.int p3), .val (.int p4), .val (.int p5), .val (.int (0 : Int32)), .val (.int (0 : Int32)), .val (.ref b3), .val (.ref b4), .val (.ref b10), .unset, .unset, .unset] []))
      refine own_F.of (fun _ => XS.aload S10.here S10.hx rfl (S10.dec at_100) rfl rfl) ?_
      refine own_F.of (fun _ => XS.iloadN S10.here S10.hx rfl (S10.dec at_102) rfl) ?_
      show own_F p e below s Z _ _ _ _ _ (T10.setTop (mkF m 103 #[.val (.int p0), .val (.int p1), .val (.int p2), .val (.int p3), .val (.int p4), .val (.int p5), .val (.int (0 : Int32)), .val (.int (0 : Int32)), .val (.ref b3), .val (.ref b4), .val (.ref b10), .unset, .unset, .unset] [(.int p3), (.ref b4)]))
      refine own_callS S10 (y := (⟨"java/lang/Integer", "valueOf", "(I)Ljava/lang/Integer;"⟩ : MethodName)) (own_w hw 0 rfl) (own_w hw 1 rfl) (own_w hw 2 rfl) (own_w hw 3 rfl) (by decide) (argsL := [(.int p3)]) (rest := [(.ref b4)]) (own_vOfI l Z a0 hw p3 aCI clCI h10 S10.old SHi SCaI BXI) all0 (by decide +kernel : parseMethodDescriptor "(I)Ljava/lang/Integer;" = some ⟨[.int], some (.object "java/lang/Integer")⟩) rfl rfl rfl at_103 (by decide) (Nat.le_of_ble_eq_true rfl) (by decide) (by decide) (fun T11 h11 v11 S11 K11 q11 => ?_)
      obtain ⟨b11, rfl, X11, F11⟩ := q11
      show own_F p e below s Z _ _ _ _ _ (T11.setTop (mkF m 106 #[.val (.int p0), .val (.int p1), .val (.int p2), .val (.int p3), .val (.int p4), .val (.int p5), .val (.int (0 : Int32)), .val (.int (0 : Int32)), .val (.ref b3), .val (.ref b4), .val (.ref b10), .unset, .unset, .unset] [(.ref b11), (.ref b4)]))
      have fq12 := ((Fe5.keep K10 nin0).keep K11 nin0)
      have fq13 := ((Fs5.keep K10 nin0).keep K11 nin0)
      have fq14 := ((Fm5.keep K10 nin0).keep K11 nin0)
      have fq15 := ((fq9.keep K10).keep K11)
      refine own_callV S11 (y := (⟨"java/util/ArrayList", "add", "(Ljava/lang/Object;)Z"⟩ : MethodName)) (y' := (⟨"java/util/ArrayList", "add", "(Ljava/lang/Object;)Z"⟩ : MethodName)) (own_w hw 89 rfl) (own_w hw 90 rfl) (own_nf S11 (own_w hw 92 rfl)) (own_w hw 92 rfl) (own_w hw 91 rfl) (own_w hw 93 rfl) (own_w hw 9 rfl) (by decide) fq15 (argsL := [(.ref b11)]) (rest := []) (own_add_0 l Z a0 hw b4 b11 aD (0 : Int32) h11 S11.old SD AD (own_mayN S11 (Or.inr (by rw [g4]; exact S3.size))) fq15 fq12 fq13 fq14 X11) (allS (Or.inr (by rw [g4]; exact S3.size)) all0) (by decide +kernel : parseMethodDescriptor "(Ljava/lang/Object;)Z" = some ⟨[(.object "java/lang/Object")], some .boolean⟩) rfl rfl rfl at_106 (by decide) (Nat.le_of_ble_eq_true rfl) (by decide) (by decide) (fun T16 h16 v16 S16 K16 q16 => ?_)
      obtain ⟨rfl, b16, g16, A16, Fe16, Fs16, Fm16⟩ := q16
      have V17 : own_AO Z h16 b16 [(.ref b11), .null, .null, .null, .null, .null, .null, .null, .null, .null] := A16
      show own_F p e below s Z _ _ _ _ _ (T16.setTop (mkF m 109 #[.val (.int p0), .val (.int p1), .val (.int p2), .val (.int p3), .val (.int p4), .val (.int p5), .val (.int (0 : Int32)), .val (.int (0 : Int32)), .val (.ref b3), .val (.ref b4), .val (.ref b10), .unset, .unset, .unset] [(.int (1 : Int32))]))
      refine own_F.of (fun _ => XS.pop S16.here S16.hx rfl (S16.dec at_109) rfl rfl) ?_
      refine own_F.of (fun _ => XS.aload S16.here S16.hx rfl (S16.dec at_110) rfl rfl) ?_
      show own_F p e below s Z _ _ _ _ _ (T16.setTop (mkF m 112 #[.val (.int p0), .val (.int p1), .val (.int p2), .val (.int p3), .val (.int p4), .val (.int p5), .val (.int (0 : Int32)), .val (.int (0 : Int32)), .val (.ref b3), .val (.ref b4), .val (.ref b10), .unset, .unset, .unset] [(.ref b10)]))
      have fq18 := ((Fi10.keep K11 nin0).keep K16 (ninS (ne_exa (E10.keep K11) fq15 (by decide)) nin0))
      have fq20 := ((E10.keep K11).keep K16)
      refine own_callV S16 (y := (⟨"com/example/tidemark/tidemark/Page", "items", "()Ljava/util/List;"⟩ : MethodName)) (y' := (⟨"com/example/tidemark/tidemark/Page", "items", "()Ljava/util/List;"⟩ : MethodName)) (own_w hw 118 rfl) (own_w hw 119 rfl) (own_nf S16 (own_w hw 121 rfl)) (own_w hw 121 rfl) (own_w hw 120 rfl) (own_w hw 122 rfl) (own_w hw 35 rfl) (by decide) fq20 (argsL := []) (rest := []) (own_pgI l Z a0 hw b10 (.ref aL) h16 S16.old rfl fq18) all0 (by decide +kernel : parseMethodDescriptor "()Ljava/util/List;" = some ⟨[], some (.object "java/util/List")⟩) rfl rfl rfl at_112 (by decide) (Nat.le_of_ble_eq_true rfl) (by decide) (by decide) (fun T19 h19 v19 S19 K19 q19 => ?_)
      obtain ⟨rfl, rfl⟩ := q19
      show own_F p e below s Z _ _ _ _ _ (T19.setTop (mkF m 115 #[.val (.int p0), .val (.int p1), .val (.int p2), .val (.int p3), .val (.int p4), .val (.int p5), .val (.int (0 : Int32)), .val (.int (0 : Int32)), .val (.ref b3), .val (.ref b4), .val (.ref b10), .unset, .unset, .unset] [(.ref aL)]))
      refine own_F.of (fun _ => XS.astore S19.here S19.hx rfl (S19.dec at_115) rfl rfl (l' := #[.val (.int p0), .val (.int p1), .val (.int p2), .val (.int p3), .val (.int p4), .val (.int p5), .val (.int (0 : Int32)), .val (.int (0 : Int32)), .val (.ref b3), .val (.ref b4), .val (.ref b10), .val (.ref aL), .unset, .unset]) rfl) ?_
      show own_F p e below s Z _ _ _ _ _ (T19.setTop (mkF m 117 #[.val (.int p0), .val (.int p1), .val (.int p2), .val (.int p3), .val (.int p4), .val (.int p5), .val (.int (0 : Int32)), .val (.int (0 : Int32)), .val (.ref b3), .val (.ref b4), .val (.ref b10), .val (.ref aL), .unset, .unset] []))
      refine own_F.of (fun _ => XS.aload S19.here S19.hx rfl (S19.dec at_117) rfl rfl) ?_
      show own_F p e below s Z _ _ _ _ _ (T19.setTop (mkF m 119 #[.val (.int p0), .val (.int p1), .val (.int p2), .val (.int p3), .val (.int p4), .val (.int p5), .val (.int (0 : Int32)), .val (.int (0 : Int32)), .val (.ref b3), .val (.ref b4), .val (.ref b10), .val (.ref aL), .unset, .unset] [(.ref aL)]))
      refine own_callX S19 (y := (⟨"java/util/List", "size", "()I"⟩ : MethodName)) (y' := (⟨"java/util/ImmutableCollections$ListN", "size", "()I"⟩ : MethodName)) (own_w hw 123 rfl) (own_w hw 124 rfl) (own_w hw 125 rfl) (own_w hw 126 rfl) (own_w hw 127 rfl) (own_w hw 128 rfl) (own_w hw 129 rfl) (own_w hw 84 rfl) (own_w hw 131 rfl) (own_w hw 130 rfl) (by decide) (XL.ext S19.old) (argsL := []) (rest := []) (own_szN0 l Z a0 hw aL aLe h16 S19.old (FL.ext S19.old) (AL0.ext S19.old)) all0 (by decide +kernel : parseMethodDescriptor "()I" = some ⟨[], some .int⟩) rfl rfl rfl at_119 (by decide) (Nat.le_of_ble_eq_true rfl) (by decide) (by decide) (fun T21 h21 v21 S21 K21 q21 => ?_)
      obtain ⟨rfl, rfl⟩ := q21
      show own_F p e below s Z _ _ _ _ _ (T21.setTop (mkF m 124 #[.val (.int p0), .val (.int p1), .val (.int p2), .val (.int p3), .val (.int p4), .val (.int p5), .val (.int (0 : Int32)), .val (.int (0 : Int32)), .val (.ref b3), .val (.ref b4), .val (.ref b10), .val (.ref aL), .unset, .unset] [(.int (0 : Int32))]))
      refine own_F.of (fun _ => XS.iload S21.here S21.hx rfl (S21.dec at_124) rfl) ?_
      show own_F p e below s Z _ _ _ _ _ (T21.setTop (mkF m 126 #[.val (.int p0), .val (.int p1), .val (.int p2), .val (.int p3), .val (.int p4), .val (.int p5), .val (.int (0 : Int32)), .val (.int (0 : Int32)), .val (.ref b3), .val (.ref b4), .val (.ref b10), .val (.ref aL), .unset, .unset] [(.int (0 : Int32)), (.int (0 : Int32))]))
      refine own_icmp S21 133 at_126 (by decide) (by decide) (fun (hc126_22 : ¬ ((0 : Int32) = (0 : Int32))) => False.elim (absurd hc126_22 (by decide))) (fun (hc126_22 : (0 : Int32) = (0 : Int32)) => ?_)
      show own_F p e below s Z _ _ _ _ _ (T21.setTop (mkF m 129 #[.val (.int p0), .val (.int p1), .val (.int p2), .val (.int p3), .val (.int p4), .val (.int p5), .val (.int (0 : Int32)), .val (.int (0 : Int32)), .val (.ref b3), .val (.ref b4), .val (.ref b10), .val (.ref aL), .unset, .unset] []))
      refine own_F.of (fun _ => XS.iconst S21.here S21.hx rfl (S21.dec at_129)) ?_
      show own_F p e below s Z _ _ _ _ _ (T21.setTop (mkF m 130 #[.val (.int p0), .val (.int p1), .val (.int p2), .val (.int p3), .val (.int p4), .val (.int p5), .val (.int (0 : Int32)), .val (.int (0 : Int32)), .val (.ref b3), .val (.ref b4), .val (.ref b10), .val (.ref aL), .unset, .unset] [(.int (1 : Int32))]))
      refine own_F.of (fun _ => XS.goto S21.here S21.hx rfl (pc0 := 130) (pc' := 134) rfl (S21.dec at_130) (by decide) (by decide)) ?_
      show own_F p e below s Z _ _ _ _ _ (T21.setTop (mkF m 134 #[.val (.int p0), .val (.int p1), .val (.int p2), .val (.int p3), .val (.int p4), .val (.int p5), .val (.int (0 : Int32)), .val (.int (0 : Int32)), .val (.ref b3), .val (.ref b4), .val (.ref b10), .val (.ref aL), .unset, .unset] [(.int (1 : Int32))]))
      refine own_F.of (fun _ => XS.istore S21.here S21.hx rfl (S21.dec at_134) rfl (l' := #[.val (.int p0), .val (.int p1), .val (.int p2), .val (.int p3), .val (.int p4), .val (.int p5), .val (.int (0 : Int32)), .val (.int (0 : Int32)), .val (.ref b3), .val (.ref b4), .val (.ref b10), .val (.ref aL), .val (.int (1 : Int32)), .unset]) rfl) ?_
      show own_F p e below s Z _ _ _ _ _ (T21.setTop (mkF m 136 #[.val (.int p0), .val (.int p1), .val (.int p2), .val (.int p3), .val (.int p4), .val (.int p5), .val (.int (0 : Int32)), .val (.int (0 : Int32)), .val (.ref b3), .val (.ref b4), .val (.ref b10), .val (.ref aL), .val (.int (1 : Int32)), .unset] []))
      refine own_F.of (fun _ => XS.iload S21.here S21.hx rfl (S21.dec at_136) rfl) ?_
      show own_F p e below s Z _ _ _ _ _ (T21.setTop (mkF m 138 #[.val (.int p0), .val (.int p1), .val (.int p2), .val (.int p3), .val (.int p4), .val (.int p5), .val (.int (0 : Int32)), .val (.int (0 : Int32)), .val (.ref b3), .val (.ref b4), .val (.ref b10), .val (.ref aL), .val (.int (1 : Int32)), .unset] [(.int (1 : Int32))]))
      refine own_if S21 171 at_138 (by decide) (by decide) (fun (hc138_23 : (1 : Int32) = (0 : Int32)) => False.elim (absurd hc138_23 (by decide))) (fun (hc138_23 : ¬ ((1 : Int32) = (0 : Int32))) => ?_)
      show own_F p e below s Z _ _ _ _ _ (T21.setTop (mkF m 141 #[.val (.int p0), .val (.int p1), .val (.int p2), .val (.int p3), .val (.int p4), .val (.int p5), .val (.int (0 : Int32)), .val (.int (0 : Int32)), .val (.ref b3), .val (.ref b4), .val (.ref b10), .val (.ref aL), .val (.int (1 : Int32)), .unset] []))
      refine own_F.of (fun _ => XS.iload S21.here S21.hx rfl (S21.dec at_141) rfl) ?_
      show own_F p e below s Z _ _ _ _ _ (T21.setTop (mkF m 143 #[.val (.int p0), .val (.int p1), .val (.int p2), .val (.int p3), .val (.int p4), .val (.int p5), .val (.int (0 : Int32)), .val (.int (0 : Int32)), .val (.ref b3), .val (.ref b4), .val (.ref b10), .val (.ref aL), .val (.int (1 : Int32)), .unset] [(.int (0 : Int32))]))
      refine own_if S21 171 at_143 (by decide) (by decide) (fun (hc143_24 : ¬ ((0 : Int32) < (0 : Int32))) => ?_) (fun (hc143_24 : (0 : Int32) < (0 : Int32)) => False.elim (absurd hc143_24 (by decide)))
      show own_F p e below s Z _ _ _ _ _ (T21.setTop (mkF m 171 #[.val (.int p0), .val (.int p1), .val (.int p2), .val (.int p3), .val (.int p4), .val (.int p5), .val (.int (0 : Int32)), .val (.int (0 : Int32)), .val (.ref b3), .val (.ref b4), .val (.ref b10), .val (.ref aL), .val (.int (1 : Int32)), .unset] []))
      refine own_F.of (fun _ => XS.iload S21.here S21.hx rfl (S21.dec at_171) rfl) ?_
      show own_F p e below s Z _ _ _ _ _ (T21.setTop (mkF m 173 #[.val (.int p0), .val (.int p1), .val (.int p2), .val (.int p3), .val (.int p4), .val (.int p5), .val (.int (0 : Int32)), .val (.int (0 : Int32)), .val (.ref b3), .val (.ref b4), .val (.ref b10), .val (.ref aL), .val (.int (1 : Int32)), .unset] [(.int (1 : Int32))]))
      refine own_if S21 207 at_173 (by decide) (by decide) (fun (hc173_25 : (1 : Int32) = (0 : Int32)) => False.elim (absurd hc173_25 (by decide))) (fun (hc173_25 : ¬ ((1 : Int32) = (0 : Int32))) => ?_)
      show own_F p e below s Z _ _ _ _ _ (T21.setTop (mkF m 176 #[.val (.int p0), .val (.int p1), .val (.int p2), .val (.int p3), .val (.int p4), .val (.int p5), .val (.int (0 : Int32)), .val (.int (0 : Int32)), .val (.ref b3), .val (.ref b4), .val (.ref b10), .val (.ref aL), .val (.int (1 : Int32)), .unset] []))
      refine own_F.of (fun _ => XS.iload S21.here S21.hx rfl (S21.dec at_176) rfl) ?_
      refine own_F.of (fun _ => XS.iconst S21.here S21.hx rfl (S21.dec at_178)) ?_
      show own_F p e below s Z _ _ _ _ _ (T21.setTop (mkF m 179 #[.val (.int p0), .val (.int p1), .val (.int p2), .val (.int p3), .val (.int p4), .val (.int p5), .val (.int (0 : Int32)), .val (.int (0 : Int32)), .val (.ref b3), .val (.ref b4), .val (.ref b10), .val (.ref aL), .val (.int (1 : Int32)), .unset] [(.int (1 : Int32)), (.int (0 : Int32))]))
      refine own_icmp S21 207 at_179 (by decide) (by decide) (fun (hc179_26 : ¬ ((1 : Int32) < (0 : Int32))) => ?_) (fun (hc179_26 : (1 : Int32) < (0 : Int32)) => False.elim (absurd hc179_26 (by decide)))
      show own_F p e below s Z _ _ _ _ _ (T21.setTop (mkF m 207 #[.val (.int p0), .val (.int p1), .val (.int p2), .val (.int p3), .val (.int p4), .val (.int p5), .val (.int (0 : Int32)), .val (.int (0 : Int32)), .val (.ref b3), .val (.ref b4), .val (.ref b10), .val (.ref aL), .val (.int (1 : Int32)), .unset] []))
      refine own_F.of (fun _ => XS.iload S21.here S21.hx rfl (S21.dec at_207) rfl) ?_
      show own_F p e below s Z _ _ _ _ _ (T21.setTop (mkF m 209 #[.val (.int p0), .val (.int p1), .val (.int p2), .val (.int p3), .val (.int p4), .val (.int p5), .val (.int (0 : Int32)), .val (.int (0 : Int32)), .val (.ref b3), .val (.ref b4), .val (.ref b10), .val (.ref aL), .val (.int (1 : Int32)), .unset] [(.int (1 : Int32))]))
      refine own_if S21 243 at_209 (by decide) (by decide) (fun (hc209_27 : (1 : Int32) = (0 : Int32)) => False.elim (absurd hc209_27 (by decide))) (fun (hc209_27 : ¬ ((1 : Int32) = (0 : Int32))) => ?_)
      show own_F p e below s Z _ _ _ _ _ (T21.setTop (mkF m 212 #[.val (.int p0), .val (.int p1), .val (.int p2), .val (.int p3), .val (.int p4), .val (.int p5), .val (.int (0 : Int32)), .val (.int (0 : Int32)), .val (.ref b3), .val (.ref b4), .val (.ref b10), .val (.ref aL), .val (.int (1 : Int32)), .unset] []))
      refine own_F.of (fun _ => XS.iload S21.here S21.hx rfl (S21.dec at_212) rfl) ?_
      refine own_F.of (fun _ => XS.iconst S21.here S21.hx rfl (S21.dec at_214)) ?_
      show own_F p e below s Z _ _ _ _ _ (T21.setTop (mkF m 215 #[.val (.int p0), .val (.int p1), .val (.int p2), .val (.int p3), .val (.int p4), .val (.int p5), .val (.int (0 : Int32)), .val (.int (0 : Int32)), .val (.ref b3), .val (.ref b4), .val (.ref b10), .val (.ref aL), .val (.int (1 : Int32)), .unset] [(.int (2 : Int32)), (.int (0 : Int32))]))
      refine own_icmp S21 243 at_215 (by decide) (by decide) (fun (hc215_28 : ¬ ((2 : Int32) < (0 : Int32))) => ?_) (fun (hc215_28 : (2 : Int32) < (0 : Int32)) => False.elim (absurd hc215_28 (by decide)))
      show own_F p e below s Z _ _ _ _ _ (T21.setTop (mkF m 243 #[.val (.int p0), .val (.int p1), .val (.int p2), .val (.int p3), .val (.int p4), .val (.int p5), .val (.int (0 : Int32)), .val (.int (0 : Int32)), .val (.ref b3), .val (.ref b4), .val (.ref b10), .val (.ref aL), .val (.int (1 : Int32)), .unset] []))
      refine own_F.of (fun _ => XS.aload S21.here S21.hx rfl (S21.dec at_243) rfl rfl) ?_
      show own_F p e below s Z _ _ _ _ _ (T21.setTop (mkF m 245 #[.val (.int p0), .val (.int p1), .val (.int p2), .val (.int p3), .val (.int p4), .val (.int p5), .val (.int (0 : Int32)), .val (.int (0 : Int32)), .val (.ref b3), .val (.ref b4), .val (.ref b10), .val (.ref aL), .val (.int (1 : Int32)), .unset] [(.ref b10)]))
      have fq29 := ((Fk10.keep K11 nin0).keep K16 (ninS (ne_exa fq20 (fq15.keep K16) (by decide)) nin0))
      refine own_callV S21 (y := (⟨"com/example/tidemark/tidemark/Page", "nextKey", "()Ljava/lang/Object;"⟩ : MethodName)) (y' := (⟨"com/example/tidemark/tidemark/Page", "nextKey", "()Ljava/lang/Object;"⟩ : MethodName)) (own_w hw 134 rfl) (own_w hw 135 rfl) (own_nf S21 (own_w hw 137 rfl)) (own_w hw 137 rfl) (own_w hw 136 rfl) (own_w hw 138 rfl) (own_w hw 35 rfl) (by decide) fq20 (argsL := []) (rest := []) (own_pgK l Z a0 hw b10 (.ref b3) h16 S21.old rfl fq29) all0 (by decide +kernel : parseMethodDescriptor "()Ljava/lang/Object;" = some ⟨[], some (.object "java/lang/Object")⟩) rfl rfl rfl at_245 (by decide) (Nat.le_of_ble_eq_true rfl) (by decide) (by decide) (fun T30 h30 v30 S30 K30 q30 => ?_)
      obtain ⟨rfl, rfl⟩ := q30
      show own_F p e below s Z _ _ _ _ _ (T30.setTop (mkF m 248 #[.val (.int p0), .val (.int p1), .val (.int p2), .val (.int p3), .val (.int p4), .val (.int p5), .val (.int (0 : Int32)), .val (.int (0 : Int32)), .val (.ref b3), .val (.ref b4), .val (.ref b10), .val (.ref aL), .val (.int (1 : Int32)), .unset] [(.ref b3)]))
      have fq32 := (((((X3.ext E4).keep K5).keep K10).keep K11).keep K16)
      refine own_cast S30 (own_w hw 139 rfl) (Ins.self fq32) at_248 (fun T31 S31 => ?_)
      show own_F p e below s Z _ _ _ _ _ (T31.setTop (mkF m 251 #[.val (.int p0), .val (.int p1), .val (.int p2), .val (.int p3), .val (.int p4), .val (.int p5), .val (.int (0 : Int32)), .val (.int (0 : Int32)), .val (.ref b3), .val (.ref b4), .val (.ref b10), .val (.ref aL), .val (.int (1 : Int32)), .unset] [(.ref b3)]))
      refine own_F.of (fun _ => XS.astore S31.here S31.hx rfl (S31.dec at_251) rfl rfl (l' := #[.val (.int p0), .val (.int p1), .val (.int p2), .val (.int p3), .val (.int p4), .val (.int p5), .val (.int (0 : Int32)), .val (.int (0 : Int32)), .val (.ref b3), .val (.ref b4), .val (.ref b10), .val (.ref aL), .val (.int (1 : Int32)), .val (.ref b3)]) rfl) ?_
      show own_F p e below s Z _ _ _ _ _ (T31.setTop (mkF m 253 #[.val (.int p0), .val (.int p1), .val (.int p2), .val (.int p3), .val (.int p4), .val (.int p5), .val (.int (0 : Int32)), .val (.int (0 : Int32)), .val (.ref b3), .val (.ref b4), .val (.ref b10), .val (.ref aL), .val (.int (1 : Int32)), .val (.ref b3)] []))
      refine own_F.of (fun _ => XS.iload S31.here S31.hx rfl (S31.dec at_253) rfl) ?_
      show own_F p e below s Z _ _ _ _ _ (T31.setTop (mkF m 255 #[.val (.int p0), .val (.int p1), .val (.int p2), .val (.int p3), .val (.int p4), .val (.int p5), .val (.int (0 : Int32)), .val (.int (0 : Int32)), .val (.ref b3), .val (.ref b4), .val (.ref b10), .val (.ref aL), .val (.int (1 : Int32)), .val (.ref b3)] [(.int (1 : Int32))]))
      refine own_if S31 272 at_255 (by decide) (by decide) (fun (hc255_33 : (1 : Int32) = (0 : Int32)) => False.elim (absurd hc255_33 (by decide))) (fun (hc255_33 : ¬ ((1 : Int32) = (0 : Int32))) => ?_)
      show own_F p e below s Z _ _ _ _ _ (T31.setTop (mkF m 258 #[.val (.int p0), .val (.int p1), .val (.int p2), .val (.int p3), .val (.int p4), .val (.int p5), .val (.int (0 : Int32)), .val (.int (0 : Int32)), .val (.ref b3), .val (.ref b4), .val (.ref b10), .val (.ref aL), .val (.int (1 : Int32)), .val (.ref b3)] []))
      refine own_F.of (fun _ => XS.aload S31.here S31.hx rfl (S31.dec at_258) rfl rfl) ?_
      refine own_F.of (fun _ => XS.aload S31.here S31.hx rfl (S31.dec at_260) rfl rfl) ?_
      show own_F p e below s Z _ _ _ _ _ (T31.setTop (mkF m 262 #[.val (.int p0), .val (.int p1), .val (.int p2), .val (.int p3), .val (.int p4), .val (.int p5), .val (.int (0 : Int32)), .val (.int (0 : Int32)), .val (.ref b3), .val (.ref b4), .val (.ref b10), .val (.ref aL), .val (.int (1 : Int32)), .val (.ref b3)] [(.ref b3), (.ref b3)]))
      refine own_acmp S31 rfl rfl 269 at_262 (by decide) (by decide) (fun (hc262_34 : ¬ ((Value.ref b3) = (Value.ref b3))) => False.elim (hc262_34 rfl)) (fun (hc262_34 : (Value.ref b3) = (Value.ref b3)) => ?_)
      show own_F p e below s Z _ _ _ _ _ (T31.setTop (mkF m 265 #[.val (.int p0), .val (.int p1), .val (.int p2), .val (.int p3), .val (.int p4), .val (.int p5), .val (.int (0 : Int32)), .val (.int (0 : Int32)), .val (.ref b3), .val (.ref b4), .val (.ref b10), .val (.ref aL), .val (.int (1 : Int32)), .val (.ref b3)] []))
      refine own_F.of (fun _ => XS.iconst S31.here S31.hx rfl (S31.dec at_265)) ?_
      show own_F p e below s Z _ _ _ _ _ (T31.setTop (mkF m 266 #[.val (.int p0), .val (.int p1), .val (.int p2), .val (.int p3), .val (.int p4), .val (.int p5), .val (.int (0 : Int32)), .val (.int (0 : Int32)), .val (.ref b3), .val (.ref b4), .val (.ref b10), .val (.ref aL), .val (.int (1 : Int32)), .val (.ref b3)] [(.int (1 : Int32))]))
      refine own_F.of (fun _ => XS.goto S31.here S31.hx rfl (pc0 := 266) (pc' := 270) rfl (S31.dec at_266) (by decide) (by decide)) ?_
      show own_F p e below s Z _ _ _ _ _ (T31.setTop (mkF m 270 #[.val (.int p0), .val (.int p1), .val (.int p2), .val (.int p3), .val (.int p4), .val (.int p5), .val (.int (0 : Int32)), .val (.int (0 : Int32)), .val (.ref b3), .val (.ref b4), .val (.ref b10), .val (.ref aL), .val (.int (1 : Int32)), .val (.ref b3)] [(.int (1 : Int32))]))
      refine own_F.of (fun _ => XS.istore S31.here S31.hx rfl (S31.dec at_270) rfl (l' := #[.val (.int p0), .val (.int p1), .val (.int p2), .val (.int p3), .val (.int p4), .val (.int p5), .val (.int (0 : Int32)), .val (.int (0 : Int32)), .val (.ref b3), .val (.ref b4), .val (.ref b10), .val (.ref aL), .val (.int (1 : Int32)), .val (.ref b3)]) rfl) ?_
      show own_F p e below s Z _ _ _ _ _ (T31.setTop (mkF m 272 #[.val (.int p0), .val (.int p1), .val (.int p2), .val (.int p3), .val (.int p4), .val (.int p5), .val (.int (0 : Int32)), .val (.int (0 : Int32)), .val (.ref b3), .val (.ref b4), .val (.ref b10), .val (.ref aL), .val (.int (1 : Int32)), .val (.ref b3)] []))
      refine own_F.of (fun _ => XS.iload S31.here S31.hx rfl (S31.dec at_272) rfl) ?_
      show own_F p e below s Z _ _ _ _ _ (T31.setTop (mkF m 274 #[.val (.int p0), .val (.int p1), .val (.int p2), .val (.int p3), .val (.int p4), .val (.int p5), .val (.int (0 : Int32)), .val (.int (0 : Int32)), .val (.ref b3), .val (.ref b4), .val (.ref b10), .val (.ref aL), .val (.int (1 : Int32)), .val (.ref b3)] [(.int (1 : Int32))]))
      refine own_if S31 304 at_274 (by decide) (by decide) (fun (hc274_35 : (1 : Int32) = (0 : Int32)) => False.elim (absurd hc274_35 (by decide))) (fun (hc274_35 : ¬ ((1 : Int32) = (0 : Int32))) => ?_)
      show own_F p e below s Z _ _ _ _ _ (T31.setTop (mkF m 277 #[.val (.int p0), .val (.int p1), .val (.int p2), .val (.int p3), .val (.int p4), .val (.int p5), .val (.int (0 : Int32)), .val (.int (0 : Int32)), .val (.ref b3), .val (.ref b4), .val (.ref b10), .val (.ref aL), .val (.int (1 : Int32)), .val (.ref b3)] []))
      refine own_F.of (fun _ => XS.iload S31.here S31.hx rfl (S31.dec at_277) rfl) ?_
      show own_F p e below s Z _ _ _ _ _ (T31.setTop (mkF m 279 #[.val (.int p0), .val (.int p1), .val (.int p2), .val (.int p3), .val (.int p4), .val (.int p5), .val (.int (0 : Int32)), .val (.int (0 : Int32)), .val (.ref b3), .val (.ref b4), .val (.ref b10), .val (.ref aL), .val (.int (1 : Int32)), .val (.ref b3)] [(.int (0 : Int32))]))
      refine own_if S31 304 at_279 (by decide) (by decide) (fun (hc279_36 : ¬ ((0 : Int32) = (0 : Int32))) => False.elim (absurd hc279_36 (by decide))) (fun (hc279_36 : (0 : Int32) = (0 : Int32)) => ?_)
      show own_F p e below s Z _ _ _ _ _ (T31.setTop (mkF m 282 #[.val (.int p0), .val (.int p1), .val (.int p2), .val (.int p3), .val (.int p4), .val (.int p5), .val (.int (0 : Int32)), .val (.int (0 : Int32)), .val (.ref b3), .val (.ref b4), .val (.ref b10), .val (.ref aL), .val (.int (1 : Int32)), .val (.ref b3)] []))
      refine own_F.of (fun _ => XS.aload S31.here S31.hx rfl (S31.dec at_282) rfl rfl) ?_
      show own_F p e below s Z _ _ _ _ _ (T31.setTop (mkF m 284 #[.val (.int p0), .val (.int p1), .val (.int p2), .val (.int p3), .val (.int p4), .val (.int p5), .val (.int (0 : Int32)), .val (.int (0 : Int32)), .val (.ref b3), .val (.ref b4), .val (.ref b10), .val (.ref aL), .val (.int (1 : Int32)), .val (.ref b3)] [(.ref b3)]))
      refine own_F.of (fun _ => XS.ifnullNo S31.here S31.hx rfl (S31.dec at_284) rfl) ?_
      show own_F p e below s Z _ _ _ _ _ (T31.setTop (mkF m 287 #[.val (.int p0), .val (.int p1), .val (.int p2), .val (.int p3), .val (.int p4), .val (.int p5), .val (.int (0 : Int32)), .val (.int (0 : Int32)), .val (.ref b3), .val (.ref b4), .val (.ref b10), .val (.ref aL), .val (.int (1 : Int32)), .val (.ref b3)] []))
      refine own_F.of (fun _ => XS.aload S31.here S31.hx rfl (S31.dec at_287) rfl rfl) ?_
      show own_F p e below s Z _ _ _ _ _ (T31.setTop (mkF m 289 #[.val (.int p0), .val (.int p1), .val (.int p2), .val (.int p3), .val (.int p4), .val (.int p5), .val (.int (0 : Int32)), .val (.int (0 : Int32)), .val (.ref b3), .val (.ref b4), .val (.ref b10), .val (.ref aL), .val (.int (1 : Int32)), .val (.ref b3)] [(.ref b3)]))
      have fq37 := (((((F3.ext E4).keep K5 (ninS (ne_exa fq32 (fq15.keep K16) (by decide)) nin0)).keep K10 nin0).keep K11 nin0).keep K16 (ninS (ne_exa fq32 (fq15.keep K16) (by decide)) nin0))
      refine own_callV S31 (y := (⟨"java/lang/Integer", "intValue", "()I"⟩ : MethodName)) (y' := (⟨"java/lang/Integer", "intValue", "()I"⟩ : MethodName)) (own_w hw 141 rfl) (own_w hw 142 rfl) (own_nf S31 (own_w hw 144 rfl)) (own_w hw 144 rfl) (own_w hw 143 rfl) (own_w hw 145 rfl) (own_w hw 2 rfl) (by decide) fq32 (argsL := []) (rest := []) (own_intV l Z a0 hw b3 p5 h16 S31.old fq37) all0 (by decide +kernel : parseMethodDescriptor "()I" = some ⟨[], some .int⟩) rfl rfl rfl at_289 (by decide) (Nat.le_of_ble_eq_true rfl) (by decide) (by decide) (fun T38 h38 v38 S38 K38 q38 => ?_)
      obtain ⟨rfl, rfl⟩ := q38
      show own_F p e below s Z _ _ _ _ _ (T38.setTop (mkF m 292 #[.val (.int p0), .val (.int p1), .val (.int p2), .val (.int p3), .val (.int p4), .val (.int p5), .val (.int (0 : Int32)), .val (.int (0 : Int32)), .val (.ref b3), .val (.ref b4), .val (.ref b10), .val (.ref aL), .val (.int (1 : Int32)), .val (.ref b3)] [(.int p5)]))
      refine own_F.of (fun _ => XS.iload S38.here S38.hx rfl (S38.dec at_292) rfl) ?_
      show own_F p e below s Z _ _ _ _ _ (T38.setTop (mkF m 294 #[.val (.int p0), .val (.int p1), .val (.int p2), .val (.int p3), .val (.int p4), .val (.int p5), .val (.int (0 : Int32)), .val (.int (0 : Int32)), .val (.ref b3), .val (.ref b4), .val (.ref b10), .val (.ref aL), .val (.int (1 : Int32)), .val (.ref b3)] [(.int p5), (.int p5)]))
      refine own_icmp S38 301 at_294 (by decide) (by decide) (fun (hc294_39 : ¬ (p5 = p5)) => False.elim (hc294_39 rfl)) (fun (hc294_39 : p5 = p5) => ?_)
      show own_F p e below s Z _ _ _ _ _ (T38.setTop (mkF m 297 #[.val (.int p0), .val (.int p1), .val (.int p2), .val (.int p3), .val (.int p4), .val (.int p5), .val (.int (0 : Int32)), .val (.int (0 : Int32)), .val (.ref b3), .val (.ref b4), .val (.ref b10), .val (.ref aL), .val (.int (1 : Int32)), .val (.ref b3)] []))
      refine own_F.of (fun _ => XS.iconst S38.here S38.hx rfl (S38.dec at_297)) ?_
      show own_F p e below s Z _ _ _ _ _ (T38.setTop (mkF m 298 #[.val (.int p0), .val (.int p1), .val (.int p2), .val (.int p3), .val (.int p4), .val (.int p5), .val (.int (0 : Int32)), .val (.int (0 : Int32)), .val (.ref b3), .val (.ref b4), .val (.ref b10), .val (.ref aL), .val (.int (1 : Int32)), .val (.ref b3)] [(.int (1 : Int32))]))
      refine own_F.of (fun _ => XS.goto S38.here S38.hx rfl (pc0 := 298) (pc' := 302) rfl (S38.dec at_298) (by decide) (by decide)) ?_
      show own_F p e below s Z _ _ _ _ _ (T38.setTop (mkF m 302 #[.val (.int p0), .val (.int p1), .val (.int p2), .val (.int p3), .val (.int p4), .val (.int p5), .val (.int (0 : Int32)), .val (.int (0 : Int32)), .val (.ref b3), .val (.ref b4), .val (.ref b10), .val (.ref aL), .val (.int (1 : Int32)), .val (.ref b3)] [(.int (1 : Int32))]))
      refine own_F.of (fun _ => XS.istore S38.here S38.hx rfl (S38.dec at_302) rfl (l' := #[.val (.int p0), .val (.int p1), .val (.int p2), .val (.int p3), .val (.int p4), .val (.int p5), .val (.int (0 : Int32)), .val (.int (0 : Int32)), .val (.ref b3), .val (.ref b4), .val (.ref b10), .val (.ref aL), .val (.int (1 : Int32)), .val (.ref b3)]) rfl) ?_
      show own_F p e below s Z _ _ _ _ _ (T38.setTop (mkF m 304 #[.val (.int p0), .val (.int p1), .val (.int p2), .val (.int p3), .val (.int p4), .val (.int p5), .val (.int (0 : Int32)), .val (.int (0 : Int32)), .val (.ref b3), .val (.ref b4), .val (.ref b10), .val (.ref aL), .val (.int (1 : Int32)), .val (.ref b3)] []))
      refine own_F.of (fun _ => XS.iload S38.here S38.hx rfl (S38.dec at_304) rfl) ?_
      show own_F p e below s Z _ _ _ _ _ (T38.setTop (mkF m 306 #[.val (.int p0), .val (.int p1), .val (.int p2), .val (.int p3), .val (.int p4), .val (.int p5), .val (.int (0 : Int32)), .val (.int (0 : Int32)), .val (.ref b3), .val (.ref b4), .val (.ref b10), .val (.ref aL), .val (.int (1 : Int32)), .val (.ref b3)] [(.int (1 : Int32))]))
      refine own_retZ S38 (by simp) at_306 (by decide) (by decide) ?_
      rfl
    · show own_F p e below s Z _ _ _ _ _ (T0.setTop (mkF m 12 #[.val (.int p0), .val (.int p1), .val (.int p2), .val (.int p3), .val (.int p4), .val (.int p5), .val (.int (0 : Int32)), .unset, .unset, .unset, .unset, .unset, .unset, .unset] []))
      refine own_F.of (fun _ => XS.iconst S0.here S0.hx rfl (S0.dec at_12)) ?_
      show own_F p e below s Z _ _ _ _ _ (T0.setTop (mkF m 13 #[.val (.int p0), .val (.int p1), .val (.int p2), .val (.int p3), .val (.int p4), .val (.int p5), .val (.int (0 : Int32)), .unset, .unset, .unset, .unset, .unset, .unset, .unset] [(.int (1 : Int32))]))
      refine own_F.of (fun _ => XS.goto S0.here S0.hx rfl (pc0 := 13) (pc' := 17) rfl (S0.dec at_13) (by decide) (by decide)) ?_
      show own_F p e below s Z _ _ _ _ _ (T0.setTop (mkF m 17 #[.val (.int p0), .val (.int p1), .val (.int p2), .val (.int p3), .val (.int p4), .val (.int p5), .val (.int (0 : Int32)), .unset, .unset, .unset, .unset, .unset, .unset, .unset] [(.int (1 : Int32))]))
      refine own_F.of (fun _ => XS.istore S0.here S0.hx rfl (S0.dec at_17) rfl (l' := #[.val (.int p0), .val (.int p1), .val (.int p2), .val (.int p3), .val (.int p4), .val (.int p5), .val (.int (0 : Int32)), .val (.int (1 : Int32)), .unset, .unset, .unset, .unset, .unset, .unset]) rfl) ?_
      show own_F p e below s Z _ _ _ _ _ (T0.setTop (mkF m 19 #[.val (.int p0), .val (.int p1), .val (.int p2), .val (.int p3), .val (.int p4), .val (.int p5), .val (.int (0 : Int32)), .val (.int (1 : Int32)), .unset, .unset, .unset, .unset, .unset, .unset] []))
      refine own_F.of (fun _ => XS.iload S0.here S0.hx rfl (S0.dec at_19) rfl) ?_
      show own_F p e below s Z _ _ _ _ _ (T0.setTop (mkF m 21 #[.val (.int p0), .val (.int p1), .val (.int p2), .val (.int p3), .val (.int p4), .val (.int p5), .val (.int (0 : Int32)), .val (.int (1 : Int32)), .unset, .unset, .unset, .unset, .unset, .unset] [(.int (1 : Int32))]))
      refine own_if S0 28 at_21 (by decide) (by decide) (fun (hc21_40 : (1 : Int32) = (0 : Int32)) => False.elim (absurd hc21_40 (by decide))) (fun (hc21_40 : ¬ ((1 : Int32) = (0 : Int32))) => ?_)
      show own_F p e below s Z _ _ _ _ _ (T0.setTop (mkF m 24 #[.val (.int p0), .val (.int p1), .val (.int p2), .val (.int p3), .val (.int p4), .val (.int p5), .val (.int (0 : Int32)), .val (.int (1 : Int32)), .unset, .unset, .unset, .unset, .unset, .unset] []))
      refine own_F.of (fun _ => XS.aconstNull S0.here S0.hx rfl (S0.dec at_24)) ?_
      show own_F p e below s Z _ _ _ _ _ (T0.setTop (mkF m 25 #[.val (.int p0), .val (.int p1), .val (.int p2), .val (.int p3), .val (.int p4), .val (.int p5), .val (.int (0 : Int32)), .val (.int (1 : Int32)), .unset, .unset, .unset, .unset, .unset, .unset] [.null]))
      refine own_F.of (fun _ => XS.goto S0.here S0.hx rfl (pc0 := 25) (pc' := 33) rfl (S0.dec at_25) (by decide) (by decide)) ?_
      show own_F p e below s Z _ _ _ _ _ (T0.setTop (mkF m 33 #[.val (.int p0), .val (.int p1), .val (.int p2), .val (.int p3), .val (.int p4), .val (.int p5), .val (.int (0 : Int32)), .val (.int (1 : Int32)), .unset, .unset, .unset, .unset, .unset, .unset] [.null]))
      refine own_F.of (fun _ => XS.astore S0.here S0.hx rfl (S0.dec at_33) rfl rfl (l' := #[.val (.int p0), .val (.int p1), .val (.int p2), .val (.int p3), .val (.int p4), .val (.int p5), .val (.int (0 : Int32)), .val (.int (1 : Int32)), .val .null, .unset, .unset, .unset, .unset, .unset]) rfl) ?_
      show own_F p e below s Z _ _ _ _ _ (T0.setTop (mkF m 35 #[.val (.int p0), .val (.int p1), .val (.int p2), .val (.int p3), .val (.int p4), .val (.int p5), .val (.int (0 : Int32)), .val (.int (1 : Int32)), .val .null, .unset, .unset, .unset, .unset, .unset] []))
      refine own_new S0 (own_w hw 7 rfl) (own_w hw 8 rfl) (own_w hw 9 rfl) at_35 (by decide) (by decide) (fun T41 h41 b41 g41 S41 E41 A41 D41 => ?_)
      have F41_modCount : Fld Z h41 b41 "java/util/AbstractList" "modCount" "I" (.int (0 : Int32)) := (D41 (Or.inl (own_w hw 29 rfl)) (ty := .int) (by decide))
      have F41_elementData : Fld Z h41 b41 "java/util/ArrayList" "elementData" "[Ljava/lang/Object;" .null := (D41 (Or.inl (own_w hw 32 rfl)) (ty := (.array (.object "java/lang/Object"))) (by decide))
      have F41_size : Fld Z h41 b41 "java/util/ArrayList" "size" "I" (.int (0 : Int32)) := (D41 (Or.inl (own_w hw 63 rfl)) (ty := .int) (by decide))
      show own_F p e below s Z _ _ _ _ _ (T41.setTop (mkF m 38 #[.val (.int p0), .val (.int p1), .val (.int p2), .val (.int p3), .val (.int p4), .val (.int p5), .val (.int (0 : Int32)), .val (.int (1 : Int32)), .val .null, .unset, .unset, .unset, .unset, .unset] [(.ref b41)]))
      refine own_F.of (fun _ => XS.dup S41.here S41.hx rfl (S41.dec at_38) rfl rfl) ?_
      show own_F p e below s Z _ _ _ _ _ (T41.setTop (mkF m 39 #[.val (.int p0), .val (.int p1), .val (.int p2), .val (.int p3), .val (.int p4), .val (.int p5), .val (.int (0 : Int32)), .val (.int (1 : Int32)), .val .null, .unset, .unset, .unset, .unset, .unset] [(.ref b41), (.ref b41)]))
      refine own_callI S41 (y := (⟨"java/util/ArrayList", "<init>", "()V"⟩ : MethodName)) rfl (own_w hw 10 rfl) (own_w hw 11 rfl) (own_w hw 9 rfl) (own_w hw 12 rfl) (by decide) (argsL := []) (rest := [(.ref b41)]) (own_ALI l Z a0 hw b41 aD h41 S41.old SD AD (own_mayN S41 (Or.inr (by rw [g41]; exact S0.size))) A41 F41_modCount F41_elementData F41_size) (allS (Or.inr (by rw [g41]; exact S0.size)) all0) (by decide +kernel : parseMethodDescriptor "()V" = some ⟨[], none⟩) rfl rfl rfl at_39 (by decide) (Nat.le_of_ble_eq_true rfl) (by decide) (by decide) (fun T42 h42 v42 S42 K42 q42 => ?_)
      obtain ⟨rfl, Fm42, Fe42, Fs42⟩ := q42
      show own_F p e below s Z _ _ _ _ _ (T42.setTop (mkF m 42 #[.val (.int p0), .val (.int p1), .val (.int p2), .val (.int p3), .val (.int p4), .val (.int p5), .val (.int (0 : Int32)), .val (.int (1 : Int32)), .val .null, .unset, .unset, .unset, .unset, .unset] [(.ref b41)]))
      refine own_F.of (fun _ => XS.astore S42.here S42.hx rfl (S42.dec at_42) rfl rfl (l' := #[.val (.int p0), .val (.int p1), .val (.int p2), .val (.int p3), .val (.int p4), .val (.int p5), .val (.int (0 : Int32)), .val (.int (1 : Int32)), .val .null, .val (.ref b41), .unset, .unset, .unset, .unset]) rfl) ?_
      show own_F p e below s Z _ _ _ _ _ (T42.setTop (mkF m 44 #[.val (.int p0), .val (.int p1), .val (.int p2), .val (.int p3), .val (.int p4), .val (.int p5), .val (.int (0 : Int32)), .val (.int (1 : Int32)), .val .null, .val (.ref b41), .unset, .unset, .unset, .unset] []))
      refine own_F.of (fun _ => XS.iload S42.here S42.hx rfl (S42.dec at_44) rfl) ?_
      show own_F p e below s Z _ _ _ _ _ (T42.setTop (mkF m 46 #[.val (.int p0), .val (.int p1), .val (.int p2), .val (.int p3), .val (.int p4), .val (.int p5), .val (.int (0 : Int32)), .val (.int (1 : Int32)), .val .null, .val (.ref b41), .unset, .unset, .unset, .unset] [(.int (0 : Int32))]))
      refine own_if S42 59 at_46 (by decide) (by decide) (fun (hc46_43 : ¬ ((0 : Int32) < (0 : Int32))) => ?_) (fun (hc46_43 : (0 : Int32) < (0 : Int32)) => False.elim (absurd hc46_43 (by decide)))
      show own_F p e below s Z _ _ _ _ _ (T42.setTop (mkF m 59 #[.val (.int p0), .val (.int p1), .val (.int p2), .val (.int p3), .val (.int p4), .val (.int p5), .val (.int (0 : Int32)), .val (.int (1 : Int32)), .val .null, .val (.ref b41), .unset, .unset, .unset, .unset] []))
      refine own_F.of (fun _ => XS.iload S42.here S42.hx rfl (S42.dec at_59) rfl) ?_
      refine own_F.of (fun _ => XS.iconst S42.here S42.hx rfl (S42.dec at_61)) ?_
      show own_F p e below s Z _ _ _ _ _ (T42.setTop (mkF m 62 #[.val (.int p0), .val (.int p1), .val (.int p2), .val (.int p3), .val (.int p4), .val (.int p5), .val (.int (0 : Int32)), .val (.int (1 : Int32)), .val .null, .val (.ref b41), .unset, .unset, .unset, .unset] [(.int (1 : Int32)), (.int (0 : Int32))]))
      refine own_icmp S42 75 at_62 (by decide) (by decide) (fun (hc62_44 : ¬ ((1 : Int32) < (0 : Int32))) => ?_) (fun (hc62_44 : (1 : Int32) < (0 : Int32)) => False.elim (absurd hc62_44 (by decide)))
      show own_F p e below s Z _ _ _ _ _ (T42.setTop (mkF m 75 #[.val (.int p0), .val (.int p1), .val (.int p2), .val (.int p3), .val (.int p4), .val (.int p5), .val (.int (0 : Int32)), .val (.int (1 : Int32)), .val .null, .val (.ref b41), .unset, .unset, .unset, .unset] []))
      refine own_F.of (fun _ => XS.iload S42.here S42.hx rfl (S42.dec at_75) rfl) ?_
      refine own_F.of (fun _ => XS.iconst S42.here S42.hx rfl (S42.dec at_77)) ?_
      show own_F p e below s Z _ _ _ _ _ (T42.setTop (mkF m 78 #[.val (.int p0), .val (.int p1), .val (.int p2), .val (.int p3), .val (.int p4), .val (.int p5), .val (.int (0 : Int32)), .val (.int (1 : Int32)), .val .null, .val (.ref b41), .unset, .unset, .unset, .unset] [(.int (2 : Int32)), (.int (0 : Int32))]))
      refine own_icmp S42 91 at_78 (by decide) (by decide) (fun (hc78_45 : ¬ ((2 : Int32) < (0 : Int32))) => ?_) (fun (hc78_45 : (2 : Int32) < (0 : Int32)) => False.elim (absurd hc78_45 (by decide)))
      show own_F p e below s Z _ _ _ _ _ (T42.setTop (mkF m 91 #[.val (.int p0), .val (.int p1), .val (.int p2), .val (.int p3), .val (.int p4), .val (.int p5), .val (.int (0 : Int32)), .val (.int (1 : Int32)), .val .null, .val (.ref b41), .unset, .unset, .unset, .unset] []))
      refine own_F.of (fun _ => XS.aload S42.here S42.hx rfl (S42.dec at_91) rfl rfl) ?_
      refine own_F.of (fun _ => XS.aload S42.here S42.hx rfl (S42.dec at_93) rfl rfl) ?_
      show own_F p e below s Z _ _ _ _ _ (T42.setTop (mkF m 95 #[.val (.int p0), .val (.int p1), .val (.int p2), .val (.int p3), .val (.int p4), .val (.int p5), .val (.int (0 : Int32)), .val (.int (1 : Int32)), .val .null, .val (.ref b41), .unset, .unset, .unset, .unset] [.null, (.ref b41)]))
      have fq46 := (A41.keep K42)
      refine own_callS S42 (y := (⟨"com/example/tidemark/tidemark/Page", "of", "(Ljava/util/List;Ljava/lang/Object;)Lcom/example/tidemark/tidemark/Page;"⟩ : MethodName)) (own_w hw 33 rfl) (own_w hw 34 rfl) (own_w hw 35 rfl) (own_w hw 36 rfl) (by decide) (argsL := [(.ref b41), .null]) (rest := []) (own_pof0 l Z a0 hw b41 .null aL h42 S42.old rfl SL fq46 Fs42 XL FLn) all0 (by decide +kernel : parseMethodDescriptor "(Ljava/util/List;Ljava/lang/Object;)Lcom/example/tidemark/tidemark/Page;" = some ⟨[(.object "java/util/List"), (.object "java/lang/Object")], some (.object "com/example/tidemark/tidemark/Page")⟩) rfl rfl rfl at_95 (by decide) (Nat.le_of_ble_eq_true rfl) (by decide) (by decide) (fun T47 h47 v47 S47 K47 q47 => ?_)
      obtain ⟨b47, rfl, E47, Fi47, Fk47⟩ := q47
      show own_F p e below s Z _ _ _ _ _ (T47.setTop (mkF m 98 #[.val (.int p0), .val (.int p1), .val (.int p2), .val (.int p3), .val (.int p4), .val (.int p5), .val (.int (0 : Int32)), .val (.int (1 : Int32)), .val .null, .val (.ref b41), .unset, .unset, .unset, .unset] [(.ref b47)]))
      refine own_F.of (fun _ => XS.astore S47.here S47.hx rfl (S47.dec at_98) rfl rfl (l' := #[.val (.int p0), .val (.int p1), .val (.int p2), .val (.int p3), .val (.int p4), .val (.int p5), .val (.int (0 : Int32)), .val (.int (1 : Int32)), .val .null, .val (.ref b41), .val (.ref b47), .unset, .unset, .unset]) rfl) ?_
      show own_F p e below s Z _ _ _ _ _ (T47.setTop (mkF m 100 #[.val (.int p0), .val (.int p1), .val (.int p2), .val (.int p3), .val (.int p4), .val (.int p5), .val (.int (0 : Int32)), .val (.int (1 : Int32)), .val .null, .val (.ref b41), .val (.ref b47), .unset, .unset, .unset] []))
      refine own_F.of (fun _ => XS.aload S47.here S47.hx rfl (S47.dec at_100) rfl rfl) ?_
      refine own_F.of (fun _ => XS.iloadN S47.here S47.hx rfl (S47.dec at_102) rfl) ?_
      show own_F p e below s Z _ _ _ _ _ (T47.setTop (mkF m 103 #[.val (.int p0), .val (.int p1), .val (.int p2), .val (.int p3), .val (.int p4), .val (.int p5), .val (.int (0 : Int32)), .val (.int (1 : Int32)), .val .null, .val (.ref b41), .val (.ref b47), .unset, .unset, .unset] [(.int p3), (.ref b41)]))
      refine own_callS S47 (y := (⟨"java/lang/Integer", "valueOf", "(I)Ljava/lang/Integer;"⟩ : MethodName)) (own_w hw 0 rfl) (own_w hw 1 rfl) (own_w hw 2 rfl) (own_w hw 3 rfl) (by decide) (argsL := [(.int p3)]) (rest := [(.ref b41)]) (own_vOfI l Z a0 hw p3 aCI clCI h47 S47.old SHi SCaI BXI) all0 (by decide +kernel : parseMethodDescriptor "(I)Ljava/lang/Integer;" = some ⟨[.int], some (.object "java/lang/Integer")⟩) rfl rfl rfl at_103 (by decide) (Nat.le_of_ble_eq_true rfl) (by decide) (by decide) (fun T48 h48 v48 S48 K48 q48 => ?_)
      obtain ⟨b48, rfl, X48, F48⟩ := q48
      show own_F p e below s Z _ _ _ _ _ (T48.setTop (mkF m 106 #[.val (.int p0), .val (.int p1), .val (.int p2), .val (.int p3), .val (.int p4), .val (.int p5), .val (.int (0 : Int32)), .val (.int (1 : Int32)), .val .null, .val (.ref b41), .val (.ref b47), .unset, .unset, .unset] [(.ref b48), (.ref b41)]))
      have fq49 := ((Fe42.keep K47 nin0).keep K48 nin0)
      have fq50 := ((Fs42.keep K47 nin0).keep K48 nin0)
      have fq51 := ((Fm42.keep K47 nin0).keep K48 nin0)
      have fq52 := ((fq46.keep K47).keep K48)
      refine own_callV S48 (y := (⟨"java/util/ArrayList", "add", "(Ljava/lang/Object;)Z"⟩ : MethodName)) (y' := (⟨"java/util/ArrayList", "add", "(Ljava/lang/Object;)Z"⟩ : MethodName)) (own_w hw 89 rfl) (own_w hw 90 rfl) (own_nf S48 (own_w hw 92 rfl)) (own_w hw 92 rfl) (own_w hw 91 rfl) (own_w hw 93 rfl) (own_w hw 9 rfl) (by decide) fq52 (argsL := [(.ref b48)]) (rest := []) (own_add_0 l Z a0 hw b41 b48 aD (0 : Int32) h48 S48.old SD AD (own_mayN S48 (Or.inr (by rw [g41]; exact S0.size))) fq52 fq49 fq50 fq51 X48) (allS (Or.inr (by rw [g41]; exact S0.size)) all0) (by decide +kernel : parseMethodDescriptor "(Ljava/lang/Object;)Z" = some ⟨[(.object "java/lang/Object")], some .boolean⟩) rfl rfl rfl at_106 (by decide) (Nat.le_of_ble_eq_true rfl) (by decide) (by decide) (fun T53 h53 v53 S53 K53 q53 => ?_)
      obtain ⟨rfl, b53, g53, A53, Fe53, Fs53, Fm53⟩ := q53
      have V54 : own_AO Z h53 b53 [(.ref b48), .null, .null, .null, .null, .null, .null, .null, .null, .null] := A53
      show own_F p e below s Z _ _ _ _ _ (T53.setTop (mkF m 109 #[.val (.int p0), .val (.int p1), .val (.int p2), .val (.int p3), .val (.int p4), .val (.int p5), .val (.int (0 : Int32)), .val (.int (1 : Int32)), .val .null, .val (.ref b41), .val (.ref b47), .unset, .unset, .unset] [(.int (1 : Int32))]))
      refine own_F.of (fun _ => XS.pop S53.here S53.hx rfl (S53.dec at_109) rfl rfl) ?_
      refine own_F.of (fun _ => XS.aload S53.here S53.hx rfl (S53.dec at_110) rfl rfl) ?_
      show own_F p e below s Z _ _ _ _ _ (T53.setTop (mkF m 112 #[.val (.int p0), .val (.int p1), .val (.int p2), .val (.int p3), .val (.int p4), .val (.int p5), .val (.int (0 : Int32)), .val (.int (1 : Int32)), .val .null, .val (.ref b41), .val (.ref b47), .unset, .unset, .unset] [(.ref b47)]))
      have fq55 := ((Fi47.keep K48 nin0).keep K53 (ninS (ne_exa (E47.keep K48) fq52 (by decide)) nin0))
      have fq57 := ((E47.keep K48).keep K53)
      refine own_callV S53 (y := (⟨"com/example/tidemark/tidemark/Page", "items", "()Ljava/util/List;"⟩ : MethodName)) (y' := (⟨"com/example/tidemark/tidemark/Page", "items", "()Ljava/util/List;"⟩ : MethodName)) (own_w hw 118 rfl) (own_w hw 119 rfl) (own_nf S53 (own_w hw 121 rfl)) (own_w hw 121 rfl) (own_w hw 120 rfl) (own_w hw 122 rfl) (own_w hw 35 rfl) (by decide) fq57 (argsL := []) (rest := []) (own_pgI l Z a0 hw b47 (.ref aL) h53 S53.old rfl fq55) all0 (by decide +kernel : parseMethodDescriptor "()Ljava/util/List;" = some ⟨[], some (.object "java/util/List")⟩) rfl rfl rfl at_112 (by decide) (Nat.le_of_ble_eq_true rfl) (by decide) (by decide) (fun T56 h56 v56 S56 K56 q56 => ?_)
      obtain ⟨rfl, rfl⟩ := q56
      show own_F p e below s Z _ _ _ _ _ (T56.setTop (mkF m 115 #[.val (.int p0), .val (.int p1), .val (.int p2), .val (.int p3), .val (.int p4), .val (.int p5), .val (.int (0 : Int32)), .val (.int (1 : Int32)), .val .null, .val (.ref b41), .val (.ref b47), .unset, .unset, .unset] [(.ref aL)]))
      refine own_F.of (fun _ => XS.astore S56.here S56.hx rfl (S56.dec at_115) rfl rfl (l' := #[.val (.int p0), .val (.int p1), .val (.int p2), .val (.int p3), .val (.int p4), .val (.int p5), .val (.int (0 : Int32)), .val (.int (1 : Int32)), .val .null, .val (.ref b41), .val (.ref b47), .val (.ref aL), .unset, .unset]) rfl) ?_
      show own_F p e below s Z _ _ _ _ _ (T56.setTop (mkF m 117 #[.val (.int p0), .val (.int p1), .val (.int p2), .val (.int p3), .val (.int p4), .val (.int p5), .val (.int (0 : Int32)), .val (.int (1 : Int32)), .val .null, .val (.ref b41), .val (.ref b47), .val (.ref aL), .unset, .unset] []))
      refine own_F.of (fun _ => XS.aload S56.here S56.hx rfl (S56.dec at_117) rfl rfl) ?_
      show own_F p e below s Z _ _ _ _ _ (T56.setTop (mkF m 119 #[.val (.int p0), .val (.int p1), .val (.int p2), .val (.int p3), .val (.int p4), .val (.int p5), .val (.int (0 : Int32)), .val (.int (1 : Int32)), .val .null, .val (.ref b41), .val (.ref b47), .val (.ref aL), .unset, .unset] [(.ref aL)]))
      refine own_callX S56 (y := (⟨"java/util/List", "size", "()I"⟩ : MethodName)) (y' := (⟨"java/util/ImmutableCollections$ListN", "size", "()I"⟩ : MethodName)) (own_w hw 123 rfl) (own_w hw 124 rfl) (own_w hw 125 rfl) (own_w hw 126 rfl) (own_w hw 127 rfl) (own_w hw 128 rfl) (own_w hw 129 rfl) (own_w hw 84 rfl) (own_w hw 131 rfl) (own_w hw 130 rfl) (by decide) (XL.ext S56.old) (argsL := []) (rest := []) (own_szN0 l Z a0 hw aL aLe h53 S56.old (FL.ext S56.old) (AL0.ext S56.old)) all0 (by decide +kernel : parseMethodDescriptor "()I" = some ⟨[], some .int⟩) rfl rfl rfl at_119 (by decide) (Nat.le_of_ble_eq_true rfl) (by decide) (by decide) (fun T58 h58 v58 S58 K58 q58 => ?_)
      obtain ⟨rfl, rfl⟩ := q58
      show own_F p e below s Z _ _ _ _ _ (T58.setTop (mkF m 124 #[.val (.int p0), .val (.int p1), .val (.int p2), .val (.int p3), .val (.int p4), .val (.int p5), .val (.int (0 : Int32)), .val (.int (1 : Int32)), .val .null, .val (.ref b41), .val (.ref b47), .val (.ref aL), .unset, .unset] [(.int (0 : Int32))]))
      refine own_F.of (fun _ => XS.iload S58.here S58.hx rfl (S58.dec at_124) rfl) ?_
      show own_F p e below s Z _ _ _ _ _ (T58.setTop (mkF m 126 #[.val (.int p0), .val (.int p1), .val (.int p2), .val (.int p3), .val (.int p4), .val (.int p5), .val (.int (0 : Int32)), .val (.int (1 : Int32)), .val .null, .val (.ref b41), .val (.ref b47), .val (.ref aL), .unset, .unset] [(.int (0 : Int32)), (.int (0 : Int32))]))
      refine own_icmp S58 133 at_126 (by decide) (by decide) (fun (hc126_59 : ¬ ((0 : Int32) = (0 : Int32))) => False.elim (absurd hc126_59 (by decide))) (fun (hc126_59 : (0 : Int32) = (0 : Int32)) => ?_)
      show own_F p e below s Z _ _ _ _ _ (T58.setTop (mkF m 129 #[.val (.int p0), .val (.int p1), .val (.int p2), .val (.int p3), .val (.int p4), .val (.int p5), .val (.int (0 : Int32)), .val (.int (1 : Int32)), .val .null, .val (.ref b41), .val (.ref b47), .val (.ref aL), .unset, .unset] []))
      refine own_F.of (fun _ => XS.iconst S58.here S58.hx rfl (S58.dec at_129)) ?_
      show own_F p e below s Z _ _ _ _ _ (T58.setTop (mkF m 130 #[.val (.int p0), .val (.int p1), .val (.int p2), .val (.int p3), .val (.int p4), .val (.int p5), .val (.int (0 : Int32)), .val (.int (1 : Int32)), .val .null, .val (.ref b41), .val (.ref b47), .val (.ref aL), .unset, .unset] [(.int (1 : Int32))]))
      refine own_F.of (fun _ => XS.goto S58.here S58.hx rfl (pc0 := 130) (pc' := 134) rfl (S58.dec at_130) (by decide) (by decide)) ?_
      show own_F p e below s Z _ _ _ _ _ (T58.setTop (mkF m 134 #[.val (.int p0), .val (.int p1), .val (.int p2), .val (.int p3), .val (.int p4), .val (.int p5), .val (.int (0 : Int32)), .val (.int (1 : Int32)), .val .null, .val (.ref b41), .val (.ref b47), .val (.ref aL), .unset, .unset] [(.int (1 : Int32))]))
      refine own_F.of (fun _ => XS.istore S58.here S58.hx rfl (S58.dec at_134) rfl (l' := #[.val (.int p0), .val (.int p1), .val (.int p2), .val (.int p3), .val (.int p4), .val (.int p5), .val (.int (0 : Int32)), .val (.int (1 : Int32)), .val .null, .val (.ref b41), .val (.ref b47), .val (.ref aL), .val (.int (1 : Int32)), .unset]) rfl) ?_
      show own_F p e below s Z _ _ _ _ _ (T58.setTop (mkF m 136 #[.val (.int p0), .val (.int p1), .val (.int p2), .val (.int p3), .val (.int p4), .val (.int p5), .val (.int (0 : Int32)), .val (.int (1 : Int32)), .val .null, .val (.ref b41), .val (.ref b47), .val (.ref aL), .val (.int (1 : Int32)), .unset] []))
      refine own_F.of (fun _ => XS.iload S58.here S58.hx rfl (S58.dec at_136) rfl) ?_
      show own_F p e below s Z _ _ _ _ _ (T58.setTop (mkF m 138 #[.val (.int p0), .val (.int p1), .val (.int p2), .val (.int p3), .val (.int p4), .val (.int p5), .val (.int (0 : Int32)), .val (.int (1 : Int32)), .val .null, .val (.ref b41), .val (.ref b47), .val (.ref aL), .val (.int (1 : Int32)), .unset] [(.int (1 : Int32))]))
      refine own_if S58 171 at_138 (by decide) (by decide) (fun (hc138_60 : (1 : Int32) = (0 : Int32)) => False.elim (absurd hc138_60 (by decide))) (fun (hc138_60 : ¬ ((1 : Int32) = (0 : Int32))) => ?_)
      show own_F p e below s Z _ _ _ _ _ (T58.setTop (mkF m 141 #[.val (.int p0), .val (.int p1), .val (.int p2), .val (.int p3), .val (.int p4), .val (.int p5), .val (.int (0 : Int32)), .val (.int (1 : Int32)), .val .null, .val (.ref b41), .val (.ref b47), .val (.ref aL), .val (.int (1 : Int32)), .unset] []))
      refine own_F.of (fun _ => XS.iload S58.here S58.hx rfl (S58.dec at_141) rfl) ?_
      show own_F p e below s Z _ _ _ _ _ (T58.setTop (mkF m 143 #[.val (.int p0), .val (.int p1), .val (.int p2), .val (.int p3), .val (.int p4), .val (.int p5), .val (.int (0 : Int32)), .val (.int (1 : Int32)), .val .null, .val (.ref b41), .val (.ref b47), .val (.ref aL), .val (.int (1 : Int32)), .unset] [(.int (0 : Int32))]))
      refine own_if S58 171 at_143 (by decide) (by decide) (fun (hc143_61 : ¬ ((0 : Int32) < (0 : Int32))) => ?_) (fun (hc143_61 : (0 : Int32) < (0 : Int32)) => False.elim (absurd hc143_61 (by decide)))
      show own_F p e below s Z _ _ _ _ _ (T58.setTop (mkF m 171 #[.val (.int p0), .val (.int p1), .val (.int p2), .val (.int p3), .val (.int p4), .val (.int p5), .val (.int (0 : Int32)), .val (.int (1 : Int32)), .val .null, .val (.ref b41), .val (.ref b47), .val (.ref aL), .val (.int (1 : Int32)), .unset] []))
      refine own_F.of (fun _ => XS.iload S58.here S58.hx rfl (S58.dec at_171) rfl) ?_
      show own_F p e below s Z _ _ _ _ _ (T58.setTop (mkF m 173 #[.val (.int p0), .val (.int p1), .val (.int p2), .val (.int p3), .val (.int p4), .val (.int p5), .val (.int (0 : Int32)), .val (.int (1 : Int32)), .val .null, .val (.ref b41), .val (.ref b47), .val (.ref aL), .val (.int (1 : Int32)), .unset] [(.int (1 : Int32))]))
      refine own_if S58 207 at_173 (by decide) (by decide) (fun (hc173_62 : (1 : Int32) = (0 : Int32)) => False.elim (absurd hc173_62 (by decide))) (fun (hc173_62 : ¬ ((1 : Int32) = (0 : Int32))) => ?_)
      show own_F p e below s Z _ _ _ _ _ (T58.setTop (mkF m 176 #[.val (.int p0), .val (.int p1), .val (.int p2), .val (.int p3), .val (.int p4), .val (.int p5), .val (.int (0 : Int32)), .val (.int (1 : Int32)), .val .null, .val (.ref b41), .val (.ref b47), .val (.ref aL), .val (.int (1 : Int32)), .unset] []))
      refine own_F.of (fun _ => XS.iload S58.here S58.hx rfl (S58.dec at_176) rfl) ?_
      refine own_F.of (fun _ => XS.iconst S58.here S58.hx rfl (S58.dec at_178)) ?_
      show own_F p e below s Z _ _ _ _ _ (T58.setTop (mkF m 179 #[.val (.int p0), .val (.int p1), .val (.int p2), .val (.int p3), .val (.int p4), .val (.int p5), .val (.int (0 : Int32)), .val (.int (1 : Int32)), .val .null, .val (.ref b41), .val (.ref b47), .val (.ref aL), .val (.int (1 : Int32)), .unset] [(.int (1 : Int32)), (.int (0 : Int32))]))
      refine own_icmp S58 207 at_179 (by decide) (by decide) (fun (hc179_63 : ¬ ((1 : Int32) < (0 : Int32))) => ?_) (fun (hc179_63 : (1 : Int32) < (0 : Int32)) => False.elim (absurd hc179_63 (by decide)))
      show own_F p e below s Z _ _ _ _ _ (T58.setTop (mkF m 207 #[.val (.int p0), .val (.int p1), .val (.int p2), .val (.int p3), .val (.int p4), .val (.int p5), .val (.int (0 : Int32)), .val (.int (1 : Int32)), .val .null, .val (.ref b41), .val (.ref b47), .val (.ref aL), .val (.int (1 : Int32)), .unset] []))
      refine own_F.of (fun _ => XS.iload S58.here S58.hx rfl (S58.dec at_207) rfl) ?_
      show own_F p e below s Z _ _ _ _ _ (T58.setTop (mkF m 209 #[.val (.int p0), .val (.int p1), .val (.int p2), .val (.int p3), .val (.int p4), .val (.int p5), .val (.int (0 : Int32)), .val (.int (1 : Int32)), .val .null, .val (.ref b41), .val (.ref b47), .val (.ref aL), .val (.int (1 : Int32)), .unset] [(.int (1 : Int32))]))
      refine own_if S58 243 at_209 (by decide) (by decide) (fun (hc209_64 : (1 : Int32) = (0 : Int32)) => False.elim (absurd hc209_64 (by decide))) (fun (hc209_64 : ¬ ((1 : Int32) = (0 : Int32))) => ?_)
      show own_F p e below s Z _ _ _ _ _ (T58.setTop (mkF m 212 #[.val (.int p0), .val (.int p1), .val (.int p2), .val (.int p3), .val (.int p4), .val (.int p5), .val (.int (0 : Int32)), .val (.int (1 : Int32)), .val .null, .val (.ref b41), .val (.ref b47), .val (.ref aL), .val (.int (1 : Int32)), .unset] []))
      refine own_F.of (fun _ => XS.iload S58.here S58.hx rfl (S58.dec at_212) rfl) ?_
      refine own_F.of (fun _ => XS.iconst S58.here S58.hx rfl (S58.dec at_214)) ?_
      show own_F p e below s Z _ _ _ _ _ (T58.setTop (mkF m 215 #[.val (.int p0), .val (.int p1), .val (.int p2), .val (.int p3), .val (.int p4), .val (.int p5), .val (.int (0 : Int32)), .val (.int (1 : Int32)), .val .null, .val (.ref b41), .val (.ref b47), .val (.ref aL), .val (.int (1 : Int32)), .unset] [(.int (2 : Int32)), (.int (0 : Int32))]))
      refine own_icmp S58 243 at_215 (by decide) (by decide) (fun (hc215_65 : ¬ ((2 : Int32) < (0 : Int32))) => ?_) (fun (hc215_65 : (2 : Int32) < (0 : Int32)) => False.elim (absurd hc215_65 (by decide)))
      show own_F p e below s Z _ _ _ _ _ (T58.setTop (mkF m 243 #[.val (.int p0), .val (.int p1), .val (.int p2), .val (.int p3), .val (.int p4), .val (.int p5), .val (.int (0 : Int32)), .val (.int (1 : Int32)), .val .null, .val (.ref b41), .val (.ref b47), .val (.ref aL), .val (.int (1 : Int32)), .unset] []))
      refine own_F.of (fun _ => XS.aload S58.here S58.hx rfl (S58.dec at_243) rfl rfl) ?_
      show own_F p e below s Z _ _ _ _ _ (T58.setTop (mkF m 245 #[.val (.int p0), .val (.int p1), .val (.int p2), .val (.int p3), .val (.int p4), .val (.int p5), .val (.int (0 : Int32)), .val (.int (1 : Int32)), .val .null, .val (.ref b41), .val (.ref b47), .val (.ref aL), .val (.int (1 : Int32)), .unset] [(.ref b47)]))
      have fq66 := ((Fk47.keep K48 nin0).keep K53 (ninS (ne_exa fq57 (fq52.keep K53) (by decide)) nin0))
      refine own_callV S58 (y := (⟨"com/example/tidemark/tidemark/Page", "nextKey", "()Ljava/lang/Object;"⟩ : MethodName)) (y' := (⟨"com/example/tidemark/tidemark/Page", "nextKey", "()Ljava/lang/Object;"⟩ : MethodName)) (own_w hw 134 rfl) (own_w hw 135 rfl) (own_nf S58 (own_w hw 137 rfl)) (own_w hw 137 rfl) (own_w hw 136 rfl) (own_w hw 138 rfl) (own_w hw 35 rfl) (by decide) fq57 (argsL := []) (rest := []) (own_pgK l Z a0 hw b47 .null h53 S58.old rfl fq66) all0 (by decide +kernel : parseMethodDescriptor "()Ljava/lang/Object;" = some ⟨[], some (.object "java/lang/Object")⟩) rfl rfl rfl at_245 (by decide) (Nat.le_of_ble_eq_true rfl) (by decide) (by decide) (fun T67 h67 v67 S67 K67 q67 => ?_)
      obtain ⟨rfl, rfl⟩ := q67
      show own_F p e below s Z _ _ _ _ _ (T67.setTop (mkF m 248 #[.val (.int p0), .val (.int p1), .val (.int p2), .val (.int p3), .val (.int p4), .val (.int p5), .val (.int (0 : Int32)), .val (.int (1 : Int32)), .val .null, .val (.ref b41), .val (.ref b47), .val (.ref aL), .val (.int (1 : Int32)), .unset] [.null]))
      refine own_cast0 S67 at_248 ?_
      show own_F p e below s Z _ _ _ _ _ (T67.setTop (mkF m 251 #[.val (.int p0), .val (.int p1), .val (.int p2), .val (.int p3), .val (.int p4), .val (.int p5), .val (.int (0 : Int32)), .val (.int (1 : Int32)), .val .null, .val (.ref b41), .val (.ref b47), .val (.ref aL), .val (.int (1 : Int32)), .unset] [.null]))
      refine own_F.of (fun _ => XS.astore S67.here S67.hx rfl (S67.dec at_251) rfl rfl (l' := #[.val (.int p0), .val (.int p1), .val (.int p2), .val (.int p3), .val (.int p4), .val (.int p5), .val (.int (0 : Int32)), .val (.int (1 : Int32)), .val .null, .val (.ref b41), .val (.ref b47), .val (.ref aL), .val (.int (1 : Int32)), .val .null]) rfl) ?_
      show own_F p e below s Z _ _ _ _ _ (T67.setTop (mkF m 253 #[.val (.int p0), .val (.int p1), .val (.int p2), .val (.int p3), .val (.int p4), .val (.int p5), .val (.int (0 : Int32)), .val (.int (1 : Int32)), .val .null, .val (.ref b41), .val (.ref b47), .val (.ref aL), .val (.int (1 : Int32)), .val .null] []))
      refine own_F.of (fun _ => XS.iload S67.here S67.hx rfl (S67.dec at_253) rfl) ?_
      show own_F p e below s Z _ _ _ _ _ (T67.setTop (mkF m 255 #[.val (.int p0), .val (.int p1), .val (.int p2), .val (.int p3), .val (.int p4), .val (.int p5), .val (.int (0 : Int32)), .val (.int (1 : Int32)), .val .null, .val (.ref b41), .val (.ref b47), .val (.ref aL), .val (.int (1 : Int32)), .val .null] [(.int (1 : Int32))]))
      refine own_if S67 272 at_255 (by decide) (by decide) (fun (hc255_68 : (1 : Int32) = (0 : Int32)) => False.elim (absurd hc255_68 (by decide))) (fun (hc255_68 : ¬ ((1 : Int32) = (0 : Int32))) => ?_)
      show own_F p e below s Z _ _ _ _ _ (T67.setTop (mkF m 258 #[.val (.int p0), .val (.int p1), .val (.int p2), .val (.int p3), .val (.int p4), .val (.int p5), .val (.int (0 : Int32)), .val (.int (1 : Int32)), .val .null, .val (.ref b41), .val (.ref b47), .val (.ref aL), .val (.int (1 : Int32)), .val .null] []))
      refine own_F.of (fun _ => XS.aload S67.here S67.hx rfl (S67.dec at_258) rfl rfl) ?_
      refine own_F.of (fun _ => XS.aload S67.here S67.hx rfl (S67.dec at_260) rfl rfl) ?_
      show own_F p e below s Z _ _ _ _ _ (T67.setTop (mkF m 262 #[.val (.int p0), .val (.int p1), .val (.int p2), .val (.int p3), .val (.int p4), .val (.int p5), .val (.int (0 : Int32)), .val (.int (1 : Int32)), .val .null, .val (.ref b41), .val (.ref b47), .val (.ref aL), .val (.int (1 : Int32)), .val .null] [.null, .null]))
      refine own_acmp S67 rfl rfl 269 at_262 (by decide) (by decide) (fun (hc262_69 : ¬ (Value.null = Value.null)) => False.elim (hc262_69 rfl)) (fun (hc262_69 : Value.null = Value.null) => ?_)
      show own_F p e below s Z _ _ _ _ _ (T67.setTop (mkF m 265 #[.val (.int p0), .val (.int p1), .val (.int p2), .val (.int p3), .val (.int p4), .val (.int p5), .val (.int (0 : Int32)), .val (.int (1 : Int32)), .val .null, .val (.ref b41), .val (.ref b47), .val (.ref aL), .val (.int (1 : Int32)), .val .null] []))
      refine own_F.of (fun _ => XS.iconst S67.here S67.hx rfl (S67.dec at_265)) ?_
      show own_F p e below s Z _ _ _ _ _ (T67.setTop (mkF m 266 #[.val (.int p0), .val (.int p1), .val (.int p2), .val (.int p3), .val (.int p4), .val (.int p5), .val (.int (0 : Int32)), .val (.int (1 : Int32)), .val .null, .val (.ref b41), .val (.ref b47), .val (.ref aL), .val (.int (1 : Int32)), .val .null] [(.int (1 : Int32))]))
      refine own_F.of (fun _ => XS.goto S67.here S67.hx rfl (pc0 := 266) (pc' := 270) rfl (S67.dec at_266) (by decide) (by decide)) ?_
      show own_F p e below s Z _ _ _ _ _ (T67.setTop (mkF m 270 #[.val (.int p0), .val (.int p1), .val (.int p2), .val (.int p3), .val (.int p4), .val (.int p5), .val (.int (0 : Int32)), .val (.int (1 : Int32)), .val .null, .val (.ref b41), .val (.ref b47), .val (.ref aL), .val (.int (1 : Int32)), .val .null] [(.int (1 : Int32))]))
      refine own_F.of (fun _ => XS.istore S67.here S67.hx rfl (S67.dec at_270) rfl (l' := #[.val (.int p0), .val (.int p1), .val (.int p2), .val (.int p3), .val (.int p4), .val (.int p5), .val (.int (0 : Int32)), .val (.int (1 : Int32)), .val .null, .val (.ref b41), .val (.ref b47), .val (.ref aL), .val (.int (1 : Int32)), .val .null]) rfl) ?_
      show own_F p e below s Z _ _ _ _ _ (T67.setTop (mkF m 272 #[.val (.int p0), .val (.int p1), .val (.int p2), .val (.int p3), .val (.int p4), .val (.int p5), .val (.int (0 : Int32)), .val (.int (1 : Int32)), .val .null, .val (.ref b41), .val (.ref b47), .val (.ref aL), .val (.int (1 : Int32)), .val .null] []))
      refine own_F.of (fun _ => XS.iload S67.here S67.hx rfl (S67.dec at_272) rfl) ?_
      show own_F p e below s Z _ _ _ _ _ (T67.setTop (mkF m 274 #[.val (.int p0), .val (.int p1), .val (.int p2), .val (.int p3), .val (.int p4), .val (.int p5), .val (.int (0 : Int32)), .val (.int (1 : Int32)), .val .null, .val (.ref b41), .val (.ref b47), .val (.ref aL), .val (.int (1 : Int32)), .val .null] [(.int (1 : Int32))]))
      refine own_if S67 304 at_274 (by decide) (by decide) (fun (hc274_70 : (1 : Int32) = (0 : Int32)) => False.elim (absurd hc274_70 (by decide))) (fun (hc274_70 : ¬ ((1 : Int32) = (0 : Int32))) => ?_)
      show own_F p e below s Z _ _ _ _ _ (T67.setTop (mkF m 277 #[.val (.int p0), .val (.int p1), .val (.int p2), .val (.int p3), .val (.int p4), .val (.int p5), .val (.int (0 : Int32)), .val (.int (1 : Int32)), .val .null, .val (.ref b41), .val (.ref b47), .val (.ref aL), .val (.int (1 : Int32)), .val .null] []))
      refine own_F.of (fun _ => XS.iload S67.here S67.hx rfl (S67.dec at_277) rfl) ?_
      show own_F p e below s Z _ _ _ _ _ (T67.setTop (mkF m 279 #[.val (.int p0), .val (.int p1), .val (.int p2), .val (.int p3), .val (.int p4), .val (.int p5), .val (.int (0 : Int32)), .val (.int (1 : Int32)), .val .null, .val (.ref b41), .val (.ref b47), .val (.ref aL), .val (.int (1 : Int32)), .val .null] [(.int (1 : Int32))]))
      refine own_if S67 304 at_279 (by decide) (by decide) (fun (hc279_71 : ¬ ((1 : Int32) = (0 : Int32))) => ?_) (fun (hc279_71 : (1 : Int32) = (0 : Int32)) => False.elim (absurd hc279_71 (by decide)))
      show own_F p e below s Z _ _ _ _ _ (T67.setTop (mkF m 304 #[.val (.int p0), .val (.int p1), .val (.int p2), .val (.int p3), .val (.int p4), .val (.int p5), .val (.int (0 : Int32)), .val (.int (1 : Int32)), .val .null, .val (.ref b41), .val (.ref b47), .val (.ref aL), .val (.int (1 : Int32)), .val .null] []))
      refine own_F.of (fun _ => XS.iload S67.here S67.hx rfl (S67.dec at_304) rfl) ?_
      show own_F p e below s Z _ _ _ _ _ (T67.setTop (mkF m 306 #[.val (.int p0), .val (.int p1), .val (.int p2), .val (.int p3), .val (.int p4), .val (.int p5), .val (.int (0 : Int32)), .val (.int (1 : Int32)), .val .null, .val (.ref b41), .val (.ref b47), .val (.ref aL), .val (.int (1 : Int32)), .val .null] [(.int (1 : Int32))]))
      refine own_retZ S67 (by simp) at_306 (by decide) (by decide) ?_
      rfl
  · rw [hn]
    show own_F p e below s Z _ _ _ _ _ (T0.setTop (mkF m 5 #[.val (.int p0), .val (.int p1), .val (.int p2), .val (.int p3), .val (.int p4), .val (.int p5), .val (.int (1 : Int32)), .unset, .unset, .unset, .unset, .unset, .unset, .unset] []))
    refine own_F.of (fun _ => XS.iload S0.here S0.hx rfl (S0.dec at_5) rfl) ?_
    refine own_F.of (fun _ => XS.iconst S0.here S0.hx rfl (S0.dec at_7)) ?_
    show own_F p e below s Z _ _ _ _ _ (T0.setTop (mkF m 8 #[.val (.int p0), .val (.int p1), .val (.int p2), .val (.int p3), .val (.int p4), .val (.int p5), .val (.int (1 : Int32)), .unset, .unset, .unset, .unset, .unset, .unset, .unset] [(.int (1 : Int32)), (.int p4)]))
    refine own_F.of (fun _ => XS.iand S0.here S0.hx rfl (S0.dec at_8) rfl) ?_
    show own_F p e below s Z _ _ _ _ _ (T0.setTop (mkF m 9 #[.val (.int p0), .val (.int p1), .val (.int p2), .val (.int p3), .val (.int p4), .val (.int p5), .val (.int (1 : Int32)), .unset, .unset, .unset, .unset, .unset, .unset, .unset] [(.int (p4 &&& (1 : Int32)))]))
    refine own_if S0 16 at_9 (by decide) (by decide) (fun (hc9_72 : (p4 &&& (1 : Int32)) = (0 : Int32)) => ?_) (fun (hc9_72 : ¬ ((p4 &&& (1 : Int32)) = (0 : Int32))) => ?_)
    · show own_F p e below s Z _ _ _ _ _ (T0.setTop (mkF m 16 #[.val (.int p0), .val (.int p1), .val (.int p2), .val (.int p3), .val (.int p4), .val (.int p5), .val (.int (1 : Int32)), .unset, .unset, .unset, .unset, .unset, .unset, .unset] []))
      refine own_F.of (fun _ => XS.iconst S0.here S0.hx rfl (S0.dec at_16)) ?_
      show own_F p e below s Z _ _ _ _ _ (T0.setTop (mkF m 17 #[.val (.int p0), .val (.int p1), .val (.int p2), .val (.int p3), .val (.int p4), .val (.int p5), .val (.int (1 : Int32)), .unset, .unset, .unset, .unset, .unset, .unset, .unset] [(.int (0 : Int32))]))
      refine own_F.of (fun _ => XS.istore S0.here S0.hx rfl (S0.dec at_17) rfl (l' := #[.val (.int p0), .val (.int p1), .val (.int p2), .val (.int p3), .val (.int p4), .val (.int p5), .val (.int (1 : Int32)), .val (.int (0 : Int32)), .unset, .unset, .unset, .unset, .unset, .unset]) rfl) ?_
      show own_F p e below s Z _ _ _ _ _ (T0.setTop (mkF m 19 #[.val (.int p0), .val (.int p1), .val (.int p2), .val (.int p3), .val (.int p4), .val (.int p5), .val (.int (1 : Int32)), .val (.int (0 : Int32)), .unset, .unset, .unset, .unset, .unset, .unset] []))
      refine own_F.of (fun _ => XS.iload S0.here S0.hx rfl (S0.dec at_19) rfl) ?_
      show own_F p e below s Z _ _ _ _ _ (T0.setTop (mkF m 21 #[.val (.int p0), .val (.int p1), .val (.int p2), .val (.int p3), .val (.int p4), .val (.int p5), .val (.int (1 : Int32)), .val (.int (0 : Int32)), .unset, .unset, .unset, .unset, .unset, .unset] [(.int (0 : Int32))]))
      refine own_if S0 28 at_21 (by decide) (by decide) (fun (hc21_73 : (0 : Int32) = (0 : Int32)) => ?_) (fun (hc21_73 : ¬ ((0 : Int32) = (0 : Int32))) => False.elim (absurd hc21_73 (by decide)))
      show own_F p e below s Z _ _ _ _ _ (T0.setTop (mkF m 28 #[.val (.int p0), .val (.int p1), .val (.int p2), .val (.int p3), .val (.int p4), .val (.int p5), .val (.int (1 : Int32)), .val (.int (0 : Int32)), .unset, .unset, .unset, .unset, .unset, .unset] []))
      refine own_F.of (fun _ => XS.iload S0.here S0.hx rfl (S0.dec at_28) rfl) ?_
      show own_F p e below s Z _ _ _ _ _ (T0.setTop (mkF m 30 #[.val (.int p0), .val (.int p1), .val (.int p2), .val (.int p3), .val (.int p4), .val (.int p5), .val (.int (1 : Int32)), .val (.int (0 : Int32)), .unset, .unset, .unset, .unset, .unset, .unset] [(.int p5)]))
      refine own_callS S0 (y := (⟨"java/lang/Integer", "valueOf", "(I)Ljava/lang/Integer;"⟩ : MethodName)) (own_w hw 0 rfl) (own_w hw 1 rfl) (own_w hw 2 rfl) (own_w hw 3 rfl) (by decide) (argsL := [(.int p5)]) (rest := []) (own_vOfI l Z a0 hw p5 aCI clCI h0 S0.old SHi SCaI BXI) all0 (by decide +kernel : parseMethodDescriptor "(I)Ljava/lang/Integer;" = some ⟨[.int], some (.object "java/lang/Integer")⟩) rfl rfl rfl at_30 (by decide) (Nat.le_of_ble_eq_true rfl) (by decide) (by decide) (fun T74 h74 v74 S74 K74 q74 => ?_)
      obtain ⟨b74, rfl, X74, F74⟩ := q74
      show own_F p e below s Z _ _ _ _ _ (T74.setTop (mkF m 33 #[.val (.int p0), .val (.int p1), .val (.int p2), .val (.int p3), .val (.int p4), .val (.int p5), .val (.int (1 : Int32)), .val (.int (0 : Int32)), .unset, .unset, .unset, .unset, .unset, .unset] [(.ref b74)]))
      refine own_F.of (fun _ => XS.astore S74.here S74.hx rfl (S74.dec at_33) rfl rfl (l' := #[.val (.int p0), .val (.int p1), .val (.int p2), .val (.int p3), .val (.int p4), .val (.int p5), .val (.int (1 : Int32)), .val (.int (0 : Int32)), .val (.ref b74), .unset, .unset, .unset, .unset, .unset]) rfl) ?_
      show own_F p e below s Z _ _ _ _ _ (T74.setTop (mkF m 35 #[.val (.int p0), .val (.int p1), .val (.int p2), .val (.int p3), .val (.int p4), .val (.int p5), .val (.int (1 : Int32)), .val (.int (0 : Int32)), .val (.ref b74), .unset, .unset, .unset, .unset, .unset] []))
      refine own_new S74 (own_w hw 7 rfl) (own_w hw 8 rfl) (own_w hw 9 rfl) at_35 (by decide) (by decide) (fun T75 h75 b75 g75 S75 E75 A75 D75 => ?_)
      have F75_modCount : Fld Z h75 b75 "java/util/AbstractList" "modCount" "I" (.int (0 : Int32)) := (D75 (Or.inl (own_w hw 29 rfl)) (ty := .int) (by decide))
      have F75_elementData : Fld Z h75 b75 "java/util/ArrayList" "elementData" "[Ljava/lang/Object;" .null := (D75 (Or.inl (own_w hw 32 rfl)) (ty := (.array (.object "java/lang/Object"))) (by decide))
      have F75_size : Fld Z h75 b75 "java/util/ArrayList" "size" "I" (.int (0 : Int32)) := (D75 (Or.inl (own_w hw 63 rfl)) (ty := .int) (by decide))
      show own_F p e below s Z _ _ _ _ _ (T75.setTop (mkF m 38 #[.val (.int p0), .val (.int p1), .val (.int p2), .val (.int p3), .val (.int p4), .val (.int p5), .val (.int (1 : Int32)), .val (.int (0 : Int32)), .val (.ref b74), .unset, .unset, .unset, .unset, .unset] [(.ref b75)]))
      refine own_F.of (fun _ => XS.dup S75.here S75.hx rfl (S75.dec at_38) rfl rfl) ?_
      show own_F p e below s Z _ _ _ _ _ (T75.setTop (mkF m 39 #[.val (.int p0), .val (.int p1), .val (.int p2), .val (.int p3), .val (.int p4), .val (.int p5), .val (.int (1 : Int32)), .val (.int (0 : Int32)), .val (.ref b74), .unset, .unset, .unset, .unset, .unset] [(.ref b75), (.ref b75)]))
      refine own_callI S75 (y := (⟨"java/util/ArrayList", "<init>", "()V"⟩ : MethodName)) rfl (own_w hw 10 rfl) (own_w hw 11 rfl) (own_w hw 9 rfl) (own_w hw 12 rfl) (by decide) (argsL := []) (rest := [(.ref b75)]) (own_ALI l Z a0 hw b75 aD h75 S75.old SD AD (own_mayN S75 (Or.inr (by rw [g75]; exact S74.size))) A75 F75_modCount F75_elementData F75_size) (allS (Or.inr (by rw [g75]; exact S74.size)) all0) (by decide +kernel : parseMethodDescriptor "()V" = some ⟨[], none⟩) rfl rfl rfl at_39 (by decide) (Nat.le_of_ble_eq_true rfl) (by decide) (by decide) (fun T76 h76 v76 S76 K76 q76 => ?_)
      obtain ⟨rfl, Fm76, Fe76, Fs76⟩ := q76
      show own_F p e below s Z _ _ _ _ _ (T76.setTop (mkF m 42 #[.val (.int p0), .val (.int p1), .val (.int p2), .val (.int p3), .val (.int p4), .val (.int p5), .val (.int (1 : Int32)), .val (.int (0 : Int32)), .val (.ref b74), .unset, .unset, .unset, .unset, .unset] [(.ref b75)]))
      refine own_F.of (fun _ => XS.astore S76.here S76.hx rfl (S76.dec at_42) rfl rfl (l' := #[.val (.int p0), .val (.int p1), .val (.int p2), .val (.int p3), .val (.int p4), .val (.int p5), .val (.int (1 : Int32)), .val (.int (0 : Int32)), .val (.ref b74), .val (.ref b75), .unset, .unset, .unset, .unset]) rfl) ?_
      show own_F p e below s Z _ _ _ _ _ (T76.setTop (mkF m 44 #[.val (.int p0), .val (.int p1), .val (.int p2), .val (.int p3), .val (.int p4), .val (.int p5), .val (.int (1 : Int32)), .val (.int (0 : Int32)), .val (.ref b74), .val (.ref b75), .unset, .unset, .unset, .unset] []))
      refine own_F.of (fun _ => XS.iload S76.here S76.hx rfl (S76.dec at_44) rfl) ?_
      show own_F p e below s Z _ _ _ _ _ (T76.setTop (mkF m 46 #[.val (.int p0), .val (.int p1), .val (.int p2), .val (.int p3), .val (.int p4), .val (.int p5), .val (.int (1 : Int32)), .val (.int (0 : Int32)), .val (.ref b74), .val (.ref b75), .unset, .unset, .unset, .unset] [(.int (1 : Int32))]))
      refine own_if S76 59 at_46 (by decide) (by decide) (fun (hc46_77 : ¬ ((0 : Int32) < (1 : Int32))) => False.elim (absurd hc46_77 (by decide))) (fun (hc46_77 : (0 : Int32) < (1 : Int32)) => ?_)
      show own_F p e below s Z _ _ _ _ _ (T76.setTop (mkF m 49 #[.val (.int p0), .val (.int p1), .val (.int p2), .val (.int p3), .val (.int p4), .val (.int p5), .val (.int (1 : Int32)), .val (.int (0 : Int32)), .val (.ref b74), .val (.ref b75), .unset, .unset, .unset, .unset] []))
      refine own_F.of (fun _ => XS.aload S76.here S76.hx rfl (S76.dec at_49) rfl rfl) ?_
      refine own_F.of (fun _ => XS.iloadN S76.here S76.hx rfl (S76.dec at_51) rfl) ?_
      show own_F p e below s Z _ _ _ _ _ (T76.setTop (mkF m 52 #[.val (.int p0), .val (.int p1), .val (.int p2), .val (.int p3), .val (.int p4), .val (.int p5), .val (.int (1 : Int32)), .val (.int (0 : Int32)), .val (.ref b74), .val (.ref b75), .unset, .unset, .unset, .unset] [(.int p1), (.ref b75)]))
      refine own_callS S76 (y := (⟨"java/lang/Integer", "valueOf", "(I)Ljava/lang/Integer;"⟩ : MethodName)) (own_w hw 0 rfl) (own_w hw 1 rfl) (own_w hw 2 rfl) (own_w hw 3 rfl) (by decide) (argsL := [(.int p1)]) (rest := [(.ref b75)]) (own_vOfI l Z a0 hw p1 aCI clCI h76 S76.old SHi SCaI BXI) all0 (by decide +kernel : parseMethodDescriptor "(I)Ljava/lang/Integer;" = some ⟨[.int], some (.object "java/lang/Integer")⟩) rfl rfl rfl at_52 (by decide) (Nat.le_of_ble_eq_true rfl) (by decide) (by decide) (fun T78 h78 v78 S78 K78 q78 => ?_)
      obtain ⟨b78, rfl, X78, F78⟩ := q78
      show own_F p e below s Z _ _ _ _ _ (T78.setTop (mkF m 55 #[.val (.int p0), .val (.int p1), .val (.int p2), .val (.int p3), .val (.int p4), .val (.int p5), .val (.int (1 : Int32)), .val (.int (0 : Int32)), .val (.ref b74), .val (.ref b75), .unset, .unset, .unset, .unset] [(.ref b78), (.ref b75)]))
      have fq79 := (Fe76.keep K78 nin0)
      have fq80 := (Fs76.keep K78 nin0)
      have fq81 := (Fm76.keep K78 nin0)
      have fq82 := ((A75.keep K76).keep K78)
      refine own_callV S78 (y := (⟨"java/util/ArrayList", "add", "(Ljava/lang/Object;)Z"⟩ : MethodName)) (y' := (⟨"java/util/ArrayList", "add", "(Ljava/lang/Object;)Z"⟩ : MethodName)) (own_w hw 89 rfl) (own_w hw 90 rfl) (own_nf S78 (own_w hw 92 rfl)) (own_w hw 92 rfl) (own_w hw 91 rfl) (own_w hw 93 rfl) (own_w hw 9 rfl) (by decide) fq82 (argsL := [(.ref b78)]) (rest := []) (own_add_0 l Z a0 hw b75 b78 aD (0 : Int32) h78 S78.old SD AD (own_mayN S78 (Or.inr (by rw [g75]; exact S74.size))) fq82 fq79 fq80 fq81 X78) (allS (Or.inr (by rw [g75]; exact S74.size)) all0) (by decide +kernel : parseMethodDescriptor "(Ljava/lang/Object;)Z" = some ⟨[(.object "java/lang/Object")], some .boolean⟩) rfl rfl rfl at_55 (by decide) (Nat.le_of_ble_eq_true rfl) (by decide) (by decide) (fun T83 h83 v83 S83 K83 q83 => ?_)
      obtain ⟨rfl, b83, g83, A83, Fe83, Fs83, Fm83⟩ := q83
      have V84 : own_AO Z h83 b83 [(.ref b78), .null, .null, .null, .null, .null, .null, .null, .null, .null] := A83
      show own_F p e below s Z _ _ _ _ _ (T83.setTop (mkF m 58 #[.val (.int p0), .val (.int p1), .val (.int p2), .val (.int p3), .val (.int p4), .val (.int p5), .val (.int (1 : Int32)), .val (.int (0 : Int32)), .val (.ref b74), .val (.ref b75), .unset, .unset, .unset, .unset] [(.int (1 : Int32))]))
      refine own_F.of (fun _ => XS.pop S83.here S83.hx rfl (S83.dec at_58) rfl rfl) ?_
      refine own_F.of (fun _ => XS.iload S83.here S83.hx rfl (S83.dec at_59) rfl) ?_
      refine own_F.of (fun _ => XS.iconst S83.here S83.hx rfl (S83.dec at_61)) ?_
      show own_F p e below s Z _ _ _ _ _ (T83.setTop (mkF m 62 #[.val (.int p0), .val (.int p1), .val (.int p2), .val (.int p3), .val (.int p4), .val (.int p5), .val (.int (1 : Int32)), .val (.int (0 : Int32)), .val (.ref b74), .val (.ref b75), .unset, .unset, .unset, .unset] [(.int (1 : Int32)), (.int (1 : Int32))]))
      refine own_icmp S83 75 at_62 (by decide) (by decide) (fun (hc62_85 : ¬ ((1 : Int32) < (1 : Int32))) => ?_) (fun (hc62_85 : (1 : Int32) < (1 : Int32)) => False.elim (absurd hc62_85 (by decide)))
      show own_F p e below s Z _ _ _ _ _ (T83.setTop (mkF m 75 #[.val (.int p0), .val (.int p1), .val (.int p2), .val (.int p3), .val (.int p4), .val (.int p5), .val (.int (1 : Int32)), .val (.int (0 : Int32)), .val (.ref b74), .val (.ref b75), .unset, .unset, .unset, .unset] []))
      refine own_F.of (fun _ => XS.iload S83.here S83.hx rfl (S83.dec at_75) rfl) ?_
      refine own_F.of (fun _ => XS.iconst S83.here S83.hx rfl (S83.dec at_77)) ?_
      show own_F p e below s Z _ _ _ _ _ (T83.setTop (mkF m 78 #[.val (.int p0), .val (.int p1), .val (.int p2), .val (.int p3), .val (.int p4), .val (.int p5), .val (.int (1 : Int32)), .val (.int (0 : Int32)), .val (.ref b74), .val (.ref b75), .unset, .unset, .unset, .unset] [(.int (2 : Int32)), (.int (1 : Int32))]))
      refine own_icmp S83 91 at_78 (by decide) (by decide) (fun (hc78_86 : ¬ ((2 : Int32) < (1 : Int32))) => ?_) (fun (hc78_86 : (2 : Int32) < (1 : Int32)) => False.elim (absurd hc78_86 (by decide)))
      show own_F p e below s Z _ _ _ _ _ (T83.setTop (mkF m 91 #[.val (.int p0), .val (.int p1), .val (.int p2), .val (.int p3), .val (.int p4), .val (.int p5), .val (.int (1 : Int32)), .val (.int (0 : Int32)), .val (.ref b74), .val (.ref b75), .unset, .unset, .unset, .unset] []))
      refine own_F.of (fun _ => XS.aload S83.here S83.hx rfl (S83.dec at_91) rfl rfl) ?_
      refine own_F.of (fun _ => XS.aload S83.here S83.hx rfl (S83.dec at_93) rfl rfl) ?_
      show own_F p e below s Z _ _ _ _ _ (T83.setTop (mkF m 95 #[.val (.int p0), .val (.int p1), .val (.int p2), .val (.int p3), .val (.int p4), .val (.int p5), .val (.int (1 : Int32)), .val (.int (0 : Int32)), .val (.ref b74), .val (.ref b75), .unset, .unset, .unset, .unset] [(.ref b74), (.ref b75)]))
      have fq87 := (fq82.keep K83)
      have fq88 := (X78.keep K83)
      refine own_callS S83 (y := (⟨"com/example/tidemark/tidemark/Page", "of", "(Ljava/util/List;Ljava/lang/Object;)Lcom/example/tidemark/tidemark/Page;"⟩ : MethodName)) (own_w hw 33 rfl) (own_w hw 34 rfl) (own_w hw 35 rfl) (own_w hw 36 rfl) (by decide) (argsL := [(.ref b75), (.ref b74)]) (rest := []) (own_pof1 l Z a0 hw b75 (.ref b74) b83 b78 aM mO h83 S83.old rfl SM MO fq87 Fs83 Fe83 V84 fq88) all0 (by decide +kernel : parseMethodDescriptor "(Ljava/util/List;Ljava/lang/Object;)Lcom/example/tidemark/tidemark/Page;" = some ⟨[(.object "java/util/List"), (.object "java/lang/Object")], some (.object "com/example/tidemark/tidemark/Page")⟩) rfl rfl rfl at_95 (by decide) (Nat.le_of_ble_eq_true rfl) (by decide) (by decide) (fun T89 h89 v89 S89 K89 q89 => ?_)
      obtain ⟨b89, rfl, E89, x89, Fi89, Fk89, X89, P89, R89⟩ := q89
      show own_F p e below s Z _ _ _ _ _ (T89.setTop (mkF m 98 #[.val (.int p0), .val (.int p1), .val (.int p2), .val (.int p3), .val (.int p4), .val (.int p5), .val (.int (1 : Int32)), .val (.int (0 : Int32)), .val (.ref b74), .val (.ref b75), .unset, .unset, .unset, .unset] [(.ref b89)]))
      refine own_F.of (fun _ => XS.astore S89.here S89.hx rfl (S89.dec at_98) rfl rfl (l' := #[.val (.int p0), .val (.int p1), .val (.int p2), .val (.int p3), .val (.int p4), .val (.int p5), .val (.int (1 : Int32)), .val (.int (0 : Int32)), .val (.ref b74), .val (.ref b75), .val (.ref b89), .unset, .unset, .unset]) rfl) ?_
      show own_F p e below s Z _ _ _ _ _ (T89.setTop (mkF m 100 #[.val (.int p0), .val (.int p1), .val (.int p2), .val (.int p3), .val (.int p4), .val (.int p5), .val (.int (1 : Int32)), .val (.int (0 : Int32)), .val (.ref b74), .val (.ref b75), .val (.ref b89), .unset, .unset, .unset] []))
      refine own_F.of (fun _ => XS.aload S89.here S89.hx rfl (S89.dec at_100) rfl rfl) ?_
      refine own_F.of (fun _ => XS.iloadN S89.here S89.hx rfl (S89.dec at_102) rfl) ?_
      show own_F p e below s Z _ _ _ _ _ (T89.setTop (mkF m 103 #[.val (.int p0), .val (.int p1), .val (.int p2), .val (.int p3), .val (.int p4), .val (.int p5), .val (.int (1 : Int32)), .val (.int (0 : Int32)), .val (.ref b74), .val (.ref b75), .val (.ref b89), .unset, .unset, .unset] [(.int p3), (.ref b75)]))
      refine own_callS S89 (y := (⟨"java/lang/Integer", "valueOf", "(I)Ljava/lang/Integer;"⟩ : MethodName)) (own_w hw 0 rfl) (own_w hw 1 rfl) (own_w hw 2 rfl) (own_w hw 3 rfl) (by decide) (argsL := [(.int p3)]) (rest := [(.ref b75)]) (own_vOfI l Z a0 hw p3 aCI clCI h89 S89.old SHi SCaI BXI) all0 (by decide +kernel : parseMethodDescriptor "(I)Ljava/lang/Integer;" = some ⟨[.int], some (.object "java/lang/Integer")⟩) rfl rfl rfl at_103 (by decide) (Nat.le_of_ble_eq_true rfl) (by decide) (by decide) (fun T90 h90 v90 S90 K90 q90 => ?_)
      obtain ⟨b90, rfl, X90, F90⟩ := q90
      show own_F p e below s Z _ _ _ _ _ (T90.setTop (mkF m 106 #[.val (.int p0), .val (.int p1), .val (.int p2), .val (.int p3), .val (.int p4), .val (.int p5), .val (.int (1 : Int32)), .val (.int (0 : Int32)), .val (.ref b74), .val (.ref b75), .val (.ref b89), .unset, .unset, .unset] [(.ref b90), (.ref b75)]))
      have fq91 := ((Fe83.keep K89 nin0).keep K90 nin0)
      have fq92 := ((Fs83.keep K89 nin0).keep K90 nin0)
      have fq93 := ((Fm83.keep K89 nin0).keep K90 nin0)
      have fq94 := ((fq87.keep K89).keep K90)
      have fq95 := ((V84.keep K89 nin0).keep K90 nin0)
      have fq96 := ((fq88.keep K89).keep K90)
      refine own_callV S90 (y := (⟨"java/util/ArrayList", "add", "(Ljava/lang/Object;)Z"⟩ : MethodName)) (y' := (⟨"java/util/ArrayList", "add", "(Ljava/lang/Object;)Z"⟩ : MethodName)) (own_w hw 89 rfl) (own_w hw 90 rfl) (own_nf S90 (own_w hw 92 rfl)) (own_w hw 92 rfl) (own_w hw 91 rfl) (own_w hw 93 rfl) (own_w hw 9 rfl) (by decide) fq94 (argsL := [(.ref b90)]) (rest := []) (own_add_1 l Z a0 hw b75 b83 b78 b90 ((0 : Int32) + (1 : Int32)) h90 S90.old (own_mayN S90 (Or.inr (by rw [g75]; exact S74.size))) fq94 (own_mayN S90 (Or.inr (Nat.le_trans S78.size g83))) fq95 fq91 fq92 fq93 fq96 X90) (allS (Or.inr (by rw [g75]; exact S74.size)) (allS (Or.inr (Nat.le_trans S78.size g83)) all0)) (by decide +kernel : parseMethodDescriptor "(Ljava/lang/Object;)Z" = some ⟨[(.object "java/lang/Object")], some .boolean⟩) rfl rfl rfl at_106 (by decide) (Nat.le_of_ble_eq_true rfl) (by decide) (by decide) (fun T97 h97 v97 S97 K97 q97 => ?_)
      obtain ⟨rfl, A97, Fe97, Fs97, Fm97⟩ := q97
      have V98 : own_AO Z h97 b83 [(.ref b78), (.ref b90), .null, .null, .null, .null, .null, .null, .null, .null] := A97
      show own_F p e below s Z _ _ _ _ _ (T97.setTop (mkF m 109 #[.val (.int p0), .val (.int p1), .val (.int p2), .val (.int p3), .val (.int p4), .val (.int p5), .val (.int (1 : Int32)), .val (.int (0 : Int32)), .val (.ref b74), .val (.ref b75), .val (.ref b89), .unset, .unset, .unset] [(.int (1 : Int32))]))
      refine own_F.of (fun _ => XS.pop S97.here S97.hx rfl (S97.dec at_109) rfl rfl) ?_
      refine own_F.of (fun _ => XS.aload S97.here S97.hx rfl (S97.dec at_110) rfl rfl) ?_
      show own_F p e below s Z _ _ _ _ _ (T97.setTop (mkF m 112 #[.val (.int p0), .val (.int p1), .val (.int p2), .val (.int p3), .val (.int p4), .val (.int p5), .val (.int (1 : Int32)), .val (.int (0 : Int32)), .val (.ref b74), .val (.ref b75), .val (.ref b89), .unset, .unset, .unset] [(.ref b89)]))
      have fq99 := ((Fi89.keep K90 nin0).keep K97 (ninS (ne_exa (E89.keep K90) fq94 (by decide)) (ninS (ne_exa ((E89.keep K90).keep K97) V98.exa (by decide)) nin0)))
      have fq101 := ((E89.keep K90).keep K97)
      refine own_callV S97 (y := (⟨"com/example/tidemark/tidemark/Page", "items", "()Ljava/util/List;"⟩ : MethodName)) (y' := (⟨"com/example/tidemark/tidemark/Page", "items", "()Ljava/util/List;"⟩ : MethodName)) (own_w hw 118 rfl) (own_w hw 119 rfl) (own_nf S97 (own_w hw 121 rfl)) (own_w hw 121 rfl) (own_w hw 120 rfl) (own_w hw 122 rfl) (own_w hw 35 rfl) (by decide) fq101 (argsL := []) (rest := []) (own_pgI l Z a0 hw b89 (.ref x89) h97 S97.old rfl fq99) all0 (by decide +kernel : parseMethodDescriptor "()Ljava/util/List;" = some ⟨[], some (.object "java/util/List")⟩) rfl rfl rfl at_112 (by decide) (Nat.le_of_ble_eq_true rfl) (by decide) (by decide) (fun T100 h100 v100 S100 K100 q100 => ?_)
      obtain ⟨rfl, rfl⟩ := q100
      show own_F p e below s Z _ _ _ _ _ (T100.setTop (mkF m 115 #[.val (.int p0), .val (.int p1), .val (.int p2), .val (.int p3), .val (.int p4), .val (.int p5), .val (.int (1 : Int32)), .val (.int (0 : Int32)), .val (.ref b74), .val (.ref b75), .val (.ref b89), .unset, .unset, .unset] [(.ref x89)]))
      refine own_F.of (fun _ => XS.astore S100.here S100.hx rfl (S100.dec at_115) rfl rfl (l' := #[.val (.int p0), .val (.int p1), .val (.int p2), .val (.int p3), .val (.int p4), .val (.int p5), .val (.int (1 : Int32)), .val (.int (0 : Int32)), .val (.ref b74), .val (.ref b75), .val (.ref b89), .val (.ref x89), .unset, .unset]) rfl) ?_
      show own_F p e below s Z _ _ _ _ _ (T100.setTop (mkF m 117 #[.val (.int p0), .val (.int p1), .val (.int p2), .val (.int p3), .val (.int p4), .val (.int p5), .val (.int (1 : Int32)), .val (.int (0 : Int32)), .val (.ref b74), .val (.ref b75), .val (.ref b89), .val (.ref x89), .unset, .unset] []))
      refine own_F.of (fun _ => XS.aload S100.here S100.hx rfl (S100.dec at_117) rfl rfl) ?_
      show own_F p e below s Z _ _ _ _ _ (T100.setTop (mkF m 119 #[.val (.int p0), .val (.int p1), .val (.int p2), .val (.int p3), .val (.int p4), .val (.int p5), .val (.int (1 : Int32)), .val (.int (0 : Int32)), .val (.ref b74), .val (.ref b75), .val (.ref b89), .val (.ref x89), .unset, .unset] [(.ref x89)]))
      have fq102 := ((R89.keep K90 nin0).keep K97 (ninS (ne_exa (X89.keep K90) fq94 (by decide)) (ninS (ne_exa ((X89.keep K90).keep K97) V98.exa (by decide)) nin0)))
      have fq104 := ((X89.keep K90).keep K97)
      refine own_callX S100 (y := (⟨"java/util/List", "size", "()I"⟩ : MethodName)) (y' := (⟨"java/util/ImmutableCollections$List12", "size", "()I"⟩ : MethodName)) (own_w hw 123 rfl) (own_w hw 124 rfl) (own_w hw 125 rfl) (own_w hw 224 rfl) (own_w hw 225 rfl) (own_w hw 226 rfl) (own_w hw 227 rfl) (own_w hw 211 rfl) (own_w hw 228 rfl) (own_w hw 183 rfl) (by decide) fq104 (argsL := []) (rest := []) (own_szT1 l Z a0 hw x89 aM aM h97 S100.old SM fq102 rfl) all0 (by decide +kernel : parseMethodDescriptor "()I" = some ⟨[], some .int⟩) rfl rfl rfl at_119 (by decide) (Nat.le_of_ble_eq_true rfl) (by decide) (by decide) (fun T103 h103 v103 S103 K103 q103 => ?_)
      obtain ⟨rfl, rfl⟩ := q103
      show own_F p e below s Z _ _ _ _ _ (T103.setTop (mkF m 124 #[.val (.int p0), .val (.int p1), .val (.int p2), .val (.int p3), .val (.int p4), .val (.int p5), .val (.int (1 : Int32)), .val (.int (0 : Int32)), .val (.ref b74), .val (.ref b75), .val (.ref b89), .val (.ref x89), .unset, .unset] [(.int (1 : Int32))]))
      refine own_F.of (fun _ => XS.iload S103.here S103.hx rfl (S103.dec at_124) rfl) ?_
      show own_F p e below s Z _ _ _ _ _ (T103.setTop (mkF m 126 #[.val (.int p0), .val (.int p1), .val (.int p2), .val (.int p3), .val (.int p4), .val (.int p5), .val (.int (1 : Int32)), .val (.int (0 : Int32)), .val (.ref b74), .val (.ref b75), .val (.ref b89), .val (.ref x89), .unset, .unset] [(.int (1 : Int32)), (.int (1 : Int32))]))
      refine own_icmp S103 133 at_126 (by decide) (by decide) (fun (hc126_105 : ¬ ((1 : Int32) = (1 : Int32))) => False.elim (absurd hc126_105 (by decide))) (fun (hc126_105 : (1 : Int32) = (1 : Int32)) => ?_)
      show own_F p e below s Z _ _ _ _ _ (T103.setTop (mkF m 129 #[.val (.int p0), .val (.int p1), .val (.int p2), .val (.int p3), .val (.int p4), .val (.int p5), .val (.int (1 : Int32)), .val (.int (0 : Int32)), .val (.ref b74), .val (.ref b75), .val (.ref b89), .val (.ref x89), .unset, .unset] []))
      refine own_F.of (fun _ => XS.iconst S103.here S103.hx rfl (S103.dec at_129)) ?_
      show own_F p e below s Z _ _ _ _ _ (T103.setTop (mkF m 130 #[.val (.int p0), .val (.int p1), .val (.int p2), .val (.int p3), .val (.int p4), .val (.int p5), .val (.int (1 : Int32)), .val (.int (0 : Int32)), .val (.ref b74), .val (.ref b75), .val (.ref b89), .val (.ref x89), .unset, .unset] [(.int (1 : Int32))]))
      refine own_F.of (fun _ => XS.goto S103.here S103.hx rfl (pc0 := 130) (pc' := 134) rfl (S103.dec at_130) (by decide) (by decide)) ?_
      show own_F p e below s Z _ _ _ _ _ (T103.setTop (mkF m 134 #[.val (.int p0), .val (.int p1), .val (.int p2), .val (.int p3), .val (.int p4), .val (.int p5), .val (.int (1 : Int32)), .val (.int (0 : Int32)), .val (.ref b74), .val (.ref b75), .val (.ref b89), .val (.ref x89), .unset, .unset] [(.int (1 : Int32))]))
      refine own_F.of (fun _ => XS.istore S103.here S103.hx rfl (S103.dec at_134) rfl (l' := #[.val (.int p0), .val (.int p1), .val (.int p2), .val (.int p3), .val (.int p4), .val (.int p5), .val (.int (1 : Int32)), .val (.int (0 : Int32)), .val (.ref b74), .val (.ref b75), .val (.ref b89), .val (.ref x89), .val (.int (1 : Int32)), .unset]) rfl) ?_
      show own_F p e below s Z _ _ _ _ _ (T103.setTop (mkF m 136 #[.val (.int p0), .val (.int p1), .val (.int p2), .val (.int p3), .val (.int p4), .val (.int p5), .val (.int (1 : Int32)), .val (.int (0 : Int32)), .val (.ref b74), .val (.ref b75), .val (.ref b89), .val (.ref x89), .val (.int (1 : Int32)), .unset] []))
      refine own_F.of (fun _ => XS.iload S103.here S103.hx rfl (S103.dec at_136) rfl) ?_
      show own_F p e below s Z _ _ _ _ _ (T103.setTop (mkF m 138 #[.val (.int p0), .val (.int p1), .val (.int p2), .val (.int p3), .val (.int p4), .val (.int p5), .val (.int (1 : Int32)), .val (.int (0 : Int32)), .val (.ref b74), .val (.ref b75), .val (.ref b89), .val (.ref x89), .val (.int (1 : Int32)), .unset] [(.int (1 : Int32))]))
      refine own_if S103 171 at_138 (by decide) (by decide) (fun (hc138_106 : (1 : Int32) = (0 : Int32)) => False.elim (absurd hc138_106 (by decide))) (fun (hc138_106 : ¬ ((1 : Int32) = (0 : Int32))) => ?_)
      show own_F p e below s Z _ _ _ _ _ (T103.setTop (mkF m 141 #[.val (.int p0), .val (.int p1), .val (.int p2), .val (.int p3), .val (.int p4), .val (.int p5), .val (.int (1 : Int32)), .val (.int (0 : Int32)), .val (.ref b74), .val (.ref b75), .val (.ref b89), .val (.ref x89), .val (.int (1 : Int32)), .unset] []))
      refine own_F.of (fun _ => XS.iload S103.here S103.hx rfl (S103.dec at_141) rfl) ?_
      show own_F p e below s Z _ _ _ _ _ (T103.setTop (mkF m 143 #[.val (.int p0), .val (.int p1), .val (.int p2), .val (.int p3), .val (.int p4), .val (.int p5), .val (.int (1 : Int32)), .val (.int (0 : Int32)), .val (.ref b74), .val (.ref b75), .val (.ref b89), .val (.ref x89), .val (.int (1 : Int32)), .unset] [(.int (1 : Int32))]))
      refine own_if S103 171 at_143 (by decide) (by decide) (fun (hc143_107 : ¬ ((0 : Int32) < (1 : Int32))) => False.elim (absurd hc143_107 (by decide))) (fun (hc143_107 : (0 : Int32) < (1 : Int32)) => ?_)
      show own_F p e below s Z _ _ _ _ _ (T103.setTop (mkF m 146 #[.val (.int p0), .val (.int p1), .val (.int p2), .val (.int p3), .val (.int p4), .val (.int p5), .val (.int (1 : Int32)), .val (.int (0 : Int32)), .val (.ref b74), .val (.ref b75), .val (.ref b89), .val (.ref x89), .val (.int (1 : Int32)), .unset] []))
      refine own_F.of (fun _ => XS.aload S103.here S103.hx rfl (S103.dec at_146) rfl rfl) ?_
      refine own_F.of (fun _ => XS.iconst S103.here S103.hx rfl (S103.dec at_148)) ?_
      show own_F p e below s Z _ _ _ _ _ (T103.setTop (mkF m 149 #[.val (.int p0), .val (.int p1), .val (.int p2), .val (.int p3), .val (.int p4), .val (.int p5), .val (.int (1 : Int32)), .val (.int (0 : Int32)), .val (.ref b74), .val (.ref b75), .val (.ref b89), .val (.ref x89), .val (.int (1 : Int32)), .unset] [(.int (0 : Int32)), (.ref x89)]))
      have fq108 := ((P89.keep K90 nin0).keep K97 (ninS (ne_exa fq104 (fq94.keep K97) (by decide)) (ninS (ne_exa fq104 V98.exa (by decide)) nin0)))
      refine own_callX S103 (y := (⟨"java/util/List", "get", "(I)Ljava/lang/Object;"⟩ : MethodName)) (y' := (⟨"java/util/ImmutableCollections$List12", "get", "(I)Ljava/lang/Object;"⟩ : MethodName)) (own_w hw 229 rfl) (own_w hw 230 rfl) (own_w hw 231 rfl) (own_w hw 232 rfl) (own_w hw 233 rfl) (own_w hw 234 rfl) (own_w hw 235 rfl) (own_w hw 211 rfl) (own_w hw 236 rfl) (own_w hw 183 rfl) (by decide) fq104 (argsL := [(.int (0 : Int32))]) (rest := []) (own_gtT_0 l Z a0 hw x89 b78 aM h97 S103.old fq108 fq102) all0 (by decide +kernel : parseMethodDescriptor "(I)Ljava/lang/Object;" = some ⟨[.int], some (.object "java/lang/Object")⟩) rfl rfl rfl at_149 (by decide) (Nat.le_of_ble_eq_true rfl) (by decide) (by decide) (fun T109 h109 v109 S109 K109 q109 => ?_)
      obtain ⟨rfl, rfl⟩ := q109
      show own_F p e below s Z _ _ _ _ _ (T109.setTop (mkF m 154 #[.val (.int p0), .val (.int p1), .val (.int p2), .val (.int p3), .val (.int p4), .val (.int p5), .val (.int (1 : Int32)), .val (.int (0 : Int32)), .val (.ref b74), .val (.ref b75), .val (.ref b89), .val (.ref x89), .val (.int (1 : Int32)), .unset] [(.ref b78)]))
      have fq111 := (fq96.keep K97)
      refine own_cast S109 (own_w hw 139 rfl) (Ins.self fq111) at_154 (fun T110 S110 => ?_)
      show own_F p e below s Z _ _ _ _ _ (T110.setTop (mkF m 157 #[.val (.int p0), .val (.int p1), .val (.int p2), .val (.int p3), .val (.int p4), .val (.int p5), .val (.int (1 : Int32)), .val (.int (0 : Int32)), .val (.ref b74), .val (.ref b75), .val (.ref b89), .val (.ref x89), .val (.int (1 : Int32)), .unset] [(.ref b78)]))
      have fq112 := ((((F78.keep K83 (ninS (ne_exa fq111 (fq94.keep K97) (by decide)) nin0)).keep K89 nin0).keep K90 nin0).keep K97 (ninS (ne_exa fq111 (fq94.keep K97) (by decide)) (ninS (ne_exa fq111 V98.exa (by decide)) nin0)))
      refine own_callV S110 (y := (⟨"java/lang/Integer", "intValue", "()I"⟩ : MethodName)) (y' := (⟨"java/lang/Integer", "intValue", "()I"⟩ : MethodName)) (own_w hw 141 rfl) (own_w hw 142 rfl) (own_nf S110 (own_w hw 144 rfl)) (own_w hw 144 rfl) (own_w hw 143 rfl) (own_w hw 145 rfl) (own_w hw 2 rfl) (by decide) fq111 (argsL := []) (rest := []) (own_intV l Z a0 hw b78 p1 h97 S110.old fq112) all0 (by decide +kernel : parseMethodDescriptor "()I" = some ⟨[], some .int⟩) rfl rfl rfl at_157 (by decide) (Nat.le_of_ble_eq_true rfl) (by decide) (by decide) (fun T113 h113 v113 S113 K113 q113 => ?_)
      obtain ⟨rfl, rfl⟩ := q113
      show own_F p e below s Z _ _ _ _ _ (T113.setTop (mkF m 160 #[.val (.int p0), .val (.int p1), .val (.int p2), .val (.int p3), .val (.int p4), .val (.int p5), .val (.int (1 : Int32)), .val (.int (0 : Int32)), .val (.ref b74), .val (.ref b75), .val (.ref b89), .val (.ref x89), .val (.int (1 : Int32)), .unset] [(.int p1)]))
      refine own_F.of (fun _ => XS.iloadN S113.here S113.hx rfl (S113.dec at_160) rfl) ?_
      show own_F p e below s Z _ _ _ _ _ (T113.setTop (mkF m 161 #[.val (.int p0), .val (.int p1), .val (.int p2), .val (.int p3), .val (.int p4), .val (.int p5), .val (.int (1 : Int32)), .val (.int (0 : Int32)), .val (.ref b74), .val (.ref b75), .val (.ref b89), .val (.ref x89), .val (.int (1 : Int32)), .unset] [(.int p1), (.int p1)]))
      refine own_icmp S113 168 at_161 (by decide) (by decide) (fun (hc161_114 : ¬ (p1 = p1)) => False.elim (hc161_114 rfl)) (fun (hc161_114 : p1 = p1) => ?_)
      show own_F p e below s Z _ _ _ _ _ (T113.setTop (mkF m 164 #[.val (.int p0), .val (.int p1), .val (.int p2), .val (.int p3), .val (.int p4), .val (.int p5), .val (.int (1 : Int32)), .val (.int (0 : Int32)), .val (.ref b74), .val (.ref b75), .val (.ref b89), .val (.ref x89), .val (.int (1 : Int32)), .unset] []))
      refine own_F.of (fun _ => XS.iconst S113.here S113.hx rfl (S113.dec at_164)) ?_
      show own_F p e below s Z _ _ _ _ _ (T113.setTop (mkF m 165 #[.val (.int p0), .val (.int p1), .val (.int p2), .val (.int p3), .val (.int p4), .val (.int p5), .val (.int (1 : Int32)), .val (.int (0 : Int32)), .val (.ref b74), .val (.ref b75), .val (.ref b89), .val (.ref x89), .val (.int (1 : Int32)), .unset] [(.int (1 : Int32))]))
      refine own_F.of (fun _ => XS.goto S113.here S113.hx rfl (pc0 := 165) (pc' := 169) rfl (S113.dec at_165) (by decide) (by decide)) ?_
      show own_F p e below s Z _ _ _ _ _ (T113.setTop (mkF m 169 #[.val (.int p0), .val (.int p1), .val (.int p2), .val (.int p3), .val (.int p4), .val (.int p5), .val (.int (1 : Int32)), .val (.int (0 : Int32)), .val (.ref b74), .val (.ref b75), .val (.ref b89), .val (.ref x89), .val (.int (1 : Int32)), .unset] [(.int (1 : Int32))]))
      refine own_F.of (fun _ => XS.istore S113.here S113.hx rfl (S113.dec at_169) rfl (l' := #[.val (.int p0), .val (.int p1), .val (.int p2), .val (.int p3), .val (.int p4), .val (.int p5), .val (.int (1 : Int32)), .val (.int (0 : Int32)), .val (.ref b74), .val (.ref b75), .val (.ref b89), .val (.ref x89), .val (.int (1 : Int32)), .unset]) rfl) ?_
      show own_F p e below s Z _ _ _ _ _ (T113.setTop (mkF m 171 #[.val (.int p0), .val (.int p1), .val (.int p2), .val (.int p3), .val (.int p4), .val (.int p5), .val (.int (1 : Int32)), .val (.int (0 : Int32)), .val (.ref b74), .val (.ref b75), .val (.ref b89), .val (.ref x89), .val (.int (1 : Int32)), .unset] []))
      refine own_F.of (fun _ => XS.iload S113.here S113.hx rfl (S113.dec at_171) rfl) ?_
      show own_F p e below s Z _ _ _ _ _ (T113.setTop (mkF m 173 #[.val (.int p0), .val (.int p1), .val (.int p2), .val (.int p3), .val (.int p4), .val (.int p5), .val (.int (1 : Int32)), .val (.int (0 : Int32)), .val (.ref b74), .val (.ref b75), .val (.ref b89), .val (.ref x89), .val (.int (1 : Int32)), .unset] [(.int (1 : Int32))]))
      refine own_if S113 207 at_173 (by decide) (by decide) (fun (hc173_115 : (1 : Int32) = (0 : Int32)) => False.elim (absurd hc173_115 (by decide))) (fun (hc173_115 : ¬ ((1 : Int32) = (0 : Int32))) => ?_)
      show own_F p e below s Z _ _ _ _ _ (T113.setTop (mkF m 176 #[.val (.int p0), .val (.int p1), .val (.int p2), .val (.int p3), .val (.int p4), .val (.int p5), .val (.int (1 : Int32)), .val (.int (0 : Int32)), .val (.ref b74), .val (.ref b75), .val (.ref b89), .val (.ref x89), .val (.int (1 : Int32)), .unset] []))
      refine own_F.of (fun _ => XS.iload S113.here S113.hx rfl (S113.dec at_176) rfl) ?_
      refine own_F.of (fun _ => XS.iconst S113.here S113.hx rfl (S113.dec at_178)) ?_
      show own_F p e below s Z _ _ _ _ _ (T113.setTop (mkF m 179 #[.val (.int p0), .val (.int p1), .val (.int p2), .val (.int p3), .val (.int p4), .val (.int p5), .val (.int (1 : Int32)), .val (.int (0 : Int32)), .val (.ref b74), .val (.ref b75), .val (.ref b89), .val (.ref x89), .val (.int (1 : Int32)), .unset] [(.int (1 : Int32)), (.int (1 : Int32))]))
      refine own_icmp S113 207 at_179 (by decide) (by decide) (fun (hc179_116 : ¬ ((1 : Int32) < (1 : Int32))) => ?_) (fun (hc179_116 : (1 : Int32) < (1 : Int32)) => False.elim (absurd hc179_116 (by decide)))
      show own_F p e below s Z _ _ _ _ _ (T113.setTop (mkF m 207 #[.val (.int p0), .val (.int p1), .val (.int p2), .val (.int p3), .val (.int p4), .val (.int p5), .val (.int (1 : Int32)), .val (.int (0 : Int32)), .val (.ref b74), .val (.ref b75), .val (.ref b89), .val (.ref x89), .val (.int (1 : Int32)), .unset] []))
      refine own_F.of (fun _ => XS.iload S113.here S113.hx rfl (S113.dec at_207) rfl) ?_
      show own_F p e below s Z _ _ _ _ _ (T113.setTop (mkF m 209 #[.val (.int p0), .val (.int p1), .val (.int p2), .val (.int p3), .val (.int p4), .val (.int p5), .val (.int (1 : Int32)), .val (.int (0 : Int32)), .val (.ref b74), .val (.ref b75), .val (.ref b89), .val (.ref x89), .val (.int (1 : Int32)), .unset] [(.int (1 : Int32))]))
      refine own_if S113 243 at_209 (by decide) (by decide) (fun (hc209_117 : (1 : Int32) = (0 : Int32)) => False.elim (absurd hc209_117 (by decide))) (fun (hc209_117 : ¬ ((1 : Int32) = (0 : Int32))) => ?_)
      show own_F p e below s Z _ _ _ _ _ (T113.setTop (mkF m 212 #[.val (.int p0), .val (.int p1), .val (.int p2), .val (.int p3), .val (.int p4), .val (.int p5), .val (.int (1 : Int32)), .val (.int (0 : Int32)), .val (.ref b74), .val (.ref b75), .val (.ref b89), .val (.ref x89), .val (.int (1 : Int32)), .unset] []))
      refine own_F.of (fun _ => XS.iload S113.here S113.hx rfl (S113.dec at_212) rfl) ?_
      refine own_F.of (fun _ => XS.iconst S113.here S113.hx rfl (S113.dec at_214)) ?_
      show own_F p e below s Z _ _ _ _ _ (T113.setTop (mkF m 215 #[.val (.int p0), .val (.int p1), .val (.int p2), .val (.int p3), .val (.int p4), .val (.int p5), .val (.int (1 : Int32)), .val (.int (0 : Int32)), .val (.ref b74), .val (.ref b75), .val (.ref b89), .val (.ref x89), .val (.int (1 : Int32)), .unset] [(.int (2 : Int32)), (.int (1 : Int32))]))
      refine own_icmp S113 243 at_215 (by decide) (by decide) (fun (hc215_118 : ¬ ((2 : Int32) < (1 : Int32))) => ?_) (fun (hc215_118 : (2 : Int32) < (1 : Int32)) => False.elim (absurd hc215_118 (by decide)))
      show own_F p e below s Z _ _ _ _ _ (T113.setTop (mkF m 243 #[.val (.int p0), .val (.int p1), .val (.int p2), .val (.int p3), .val (.int p4), .val (.int p5), .val (.int (1 : Int32)), .val (.int (0 : Int32)), .val (.ref b74), .val (.ref b75), .val (.ref b89), .val (.ref x89), .val (.int (1 : Int32)), .unset] []))
      refine own_F.of (fun _ => XS.aload S113.here S113.hx rfl (S113.dec at_243) rfl rfl) ?_
      show own_F p e below s Z _ _ _ _ _ (T113.setTop (mkF m 245 #[.val (.int p0), .val (.int p1), .val (.int p2), .val (.int p3), .val (.int p4), .val (.int p5), .val (.int (1 : Int32)), .val (.int (0 : Int32)), .val (.ref b74), .val (.ref b75), .val (.ref b89), .val (.ref x89), .val (.int (1 : Int32)), .unset] [(.ref b89)]))
      have fq119 := ((Fk89.keep K90 nin0).keep K97 (ninS (ne_exa fq101 (fq94.keep K97) (by decide)) (ninS (ne_exa fq101 V98.exa (by decide)) nin0)))
      refine own_callV S113 (y := (⟨"com/example/tidemark/tidemark/Page", "nextKey", "()Ljava/lang/Object;"⟩ : MethodName)) (y' := (⟨"com/example/tidemark/tidemark/Page", "nextKey", "()Ljava/lang/Object;"⟩ : MethodName)) (own_w hw 134 rfl) (own_w hw 135 rfl) (own_nf S113 (own_w hw 137 rfl)) (own_w hw 137 rfl) (own_w hw 136 rfl) (own_w hw 138 rfl) (own_w hw 35 rfl) (by decide) fq101 (argsL := []) (rest := []) (own_pgK l Z a0 hw b89 (.ref b74) h97 S113.old rfl fq119) all0 (by decide +kernel : parseMethodDescriptor "()Ljava/lang/Object;" = some ⟨[], some (.object "java/lang/Object")⟩) rfl rfl rfl at_245 (by decide) (Nat.le_of_ble_eq_true rfl) (by decide) (by decide) (fun T120 h120 v120 S120 K120 q120 => ?_)
      obtain ⟨rfl, rfl⟩ := q120
      show own_F p e below s Z _ _ _ _ _ (T120.setTop (mkF m 248 #[.val (.int p0), .val (.int p1), .val (.int p2), .val (.int p3), .val (.int p4), .val (.int p5), .val (.int (1 : Int32)), .val (.int (0 : Int32)), .val (.ref b74), .val (.ref b75), .val (.ref b89), .val (.ref x89), .val (.int (1 : Int32)), .unset] [(.ref b74)]))
      have fq122 := (((((((X74.ext E75).keep K76).keep K78).keep K83).keep K89).keep K90).keep K97)
      refine own_cast S120 (own_w hw 139 rfl) (Ins.self fq122) at_248 (fun T121 S121 => ?_)
      show own_F p e below s Z _ _ _ _ _ (T121.setTop (mkF m 251 #[.val (.int p0), .val (.int p1), .val (.int p2), .val (.int p3), .val (.int p4), .val (.int p5), .val (.int (1 : Int32)), .val (.int (0 : Int32)), .val (.ref b74), .val (.ref b75), .val (.ref b89), .val (.ref x89), .val (.int (1 : Int32)), .unset] [(.ref b74)]))
      refine own_F.of (fun _ => XS.astore S121.here S121.hx rfl (S121.dec at_251) rfl rfl (l' := #[.val (.int p0), .val (.int p1), .val (.int p2), .val (.int p3), .val (.int p4), .val (.int p5), .val (.int (1 : Int32)), .val (.int (0 : Int32)), .val (.ref b74), .val (.ref b75), .val (.ref b89), .val (.ref x89), .val (.int (1 : Int32)), .val (.ref b74)]) rfl) ?_
      show own_F p e below s Z _ _ _ _ _ (T121.setTop (mkF m 253 #[.val (.int p0), .val (.int p1), .val (.int p2), .val (.int p3), .val (.int p4), .val (.int p5), .val (.int (1 : Int32)), .val (.int (0 : Int32)), .val (.ref b74), .val (.ref b75), .val (.ref b89), .val (.ref x89), .val (.int (1 : Int32)), .val (.ref b74)] []))
      refine own_F.of (fun _ => XS.iload S121.here S121.hx rfl (S121.dec at_253) rfl) ?_
      show own_F p e below s Z _ _ _ _ _ (T121.setTop (mkF m 255 #[.val (.int p0), .val (.int p1), .val (.int p2), .val (.int p3), .val (.int p4), .val (.int p5), .val (.int (1 : Int32)), .val (.int (0 : Int32)), .val (.ref b74), .val (.ref b75), .val (.ref b89), .val (.ref x89), .val (.int (1 : Int32)), .val (.ref b74)] [(.int (1 : Int32))]))
      refine own_if S121 272 at_255 (by decide) (by decide) (fun (hc255_123 : (1 : Int32) = (0 : Int32)) => False.elim (absurd hc255_123 (by decide))) (fun (hc255_123 : ¬ ((1 : Int32) = (0 : Int32))) => ?_)
      show own_F p e below s Z _ _ _ _ _ (T121.setTop (mkF m 258 #[.val (.int p0), .val (.int p1), .val (.int p2), .val (.int p3), .val (.int p4), .val (.int p5), .val (.int (1 : Int32)), .val (.int (0 : Int32)), .val (.ref b74), .val (.ref b75), .val (.ref b89), .val (.ref x89), .val (.int (1 : Int32)), .val (.ref b74)] []))
      refine own_F.of (fun _ => XS.aload S121.here S121.hx rfl (S121.dec at_258) rfl rfl) ?_
      refine own_F.of (fun _ => XS.aload S121.here S121.hx rfl (S121.dec at_260) rfl rfl) ?_
      show own_F p e below s Z _ _ _ _ _ (T121.setTop (mkF m 262 #[.val (.int p0), .val (.int p1), .val (.int p2), .val (.int p3), .val (.int p4), .val (.int p5), .val (.int (1 : Int32)), .val (.int (0 : Int32)), .val (.ref b74), .val (.ref b75), .val (.ref b89), .val (.ref x89), .val (.int (1 : Int32)), .val (.ref b74)] [(.ref b74), (.ref b74)]))
      refine own_acmp S121 rfl rfl 269 at_262 (by decide) (by decide) (fun (hc262_124 : ¬ ((Value.ref b74) = (Value.ref b74))) => False.elim (hc262_124 rfl)) (fun (hc262_124 : (Value.ref b74) = (Value.ref b74)) => ?_)
      show own_F p e below s Z _ _ _ _ _ (T121.setTop (mkF m 265 #[.val (.int p0), .val (.int p1), .val (.int p2), .val (.int p3), .val (.int p4), .val (.int p5), .val (.int (1 : Int32)), .val (.int (0 : Int32)), .val (.ref b74), .val (.ref b75), .val (.ref b89), .val (.ref x89), .val (.int (1 : Int32)), .val (.ref b74)] []))
      refine own_F.of (fun _ => XS.iconst S121.here S121.hx rfl (S121.dec at_265)) ?_
      show own_F p e below s Z _ _ _ _ _ (T121.setTop (mkF m 266 #[.val (.int p0), .val (.int p1), .val (.int p2), .val (.int p3), .val (.int p4), .val (.int p5), .val (.int (1 : Int32)), .val (.int (0 : Int32)), .val (.ref b74), .val (.ref b75), .val (.ref b89), .val (.ref x89), .val (.int (1 : Int32)), .val (.ref b74)] [(.int (1 : Int32))]))
      refine own_F.of (fun _ => XS.goto S121.here S121.hx rfl (pc0 := 266) (pc' := 270) rfl (S121.dec at_266) (by decide) (by decide)) ?_
      show own_F p e below s Z _ _ _ _ _ (T121.setTop (mkF m 270 #[.val (.int p0), .val (.int p1), .val (.int p2), .val (.int p3), .val (.int p4), .val (.int p5), .val (.int (1 : Int32)), .val (.int (0 : Int32)), .val (.ref b74), .val (.ref b75), .val (.ref b89), .val (.ref x89), .val (.int (1 : Int32)), .val (.ref b74)] [(.int (1 : Int32))]))
      refine own_F.of (fun _ => XS.istore S121.here S121.hx rfl (S121.dec at_270) rfl (l' := #[.val (.int p0), .val (.int p1), .val (.int p2), .val (.int p3), .val (.int p4), .val (.int p5), .val (.int (1 : Int32)), .val (.int (0 : Int32)), .val (.ref b74), .val (.ref b75), .val (.ref b89), .val (.ref x89), .val (.int (1 : Int32)), .val (.ref b74)]) rfl) ?_
      show own_F p e below s Z _ _ _ _ _ (T121.setTop (mkF m 272 #[.val (.int p0), .val (.int p1), .val (.int p2), .val (.int p3), .val (.int p4), .val (.int p5), .val (.int (1 : Int32)), .val (.int (0 : Int32)), .val (.ref b74), .val (.ref b75), .val (.ref b89), .val (.ref x89), .val (.int (1 : Int32)), .val (.ref b74)] []))
      refine own_F.of (fun _ => XS.iload S121.here S121.hx rfl (S121.dec at_272) rfl) ?_
      show own_F p e below s Z _ _ _ _ _ (T121.setTop (mkF m 274 #[.val (.int p0), .val (.int p1), .val (.int p2), .val (.int p3), .val (.int p4), .val (.int p5), .val (.int (1 : Int32)), .val (.int (0 : Int32)), .val (.ref b74), .val (.ref b75), .val (.ref b89), .val (.ref x89), .val (.int (1 : Int32)), .val (.ref b74)] [(.int (1 : Int32))]))
      refine own_if S121 304 at_274 (by decide) (by decide) (fun (hc274_125 : (1 : Int32) = (0 : Int32)) => False.elim (absurd hc274_125 (by decide))) (fun (hc274_125 : ¬ ((1 : Int32) = (0 : Int32))) => ?_)
      show own_F p e below s Z _ _ _ _ _ (T121.setTop (mkF m 277 #[.val (.int p0), .val (.int p1), .val (.int p2), .val (.int p3), .val (.int p4), .val (.int p5), .val (.int (1 : Int32)), .val (.int (0 : Int32)), .val (.ref b74), .val (.ref b75), .val (.ref b89), .val (.ref x89), .val (.int (1 : Int32)), .val (.ref b74)] []))
      refine own_F.of (fun _ => XS.iload S121.here S121.hx rfl (S121.dec at_277) rfl) ?_
      show own_F p e below s Z _ _ _ _ _ (T121.setTop (mkF m 279 #[.val (.int p0), .val (.int p1), .val (.int p2), .val (.int p3), .val (.int p4), .val (.int p5), .val (.int (1 : Int32)), .val (.int (0 : Int32)), .val (.ref b74), .val (.ref b75), .val (.ref b89), .val (.ref x89), .val (.int (1 : Int32)), .val (.ref b74)] [(.int (0 : Int32))]))
      refine own_if S121 304 at_279 (by decide) (by decide) (fun (hc279_126 : ¬ ((0 : Int32) = (0 : Int32))) => False.elim (absurd hc279_126 (by decide))) (fun (hc279_126 : (0 : Int32) = (0 : Int32)) => ?_)
      show own_F p e below s Z _ _ _ _ _ (T121.setTop (mkF m 282 #[.val (.int p0), .val (.int p1), .val (.int p2), .val (.int p3), .val (.int p4), .val (.int p5), .val (.int (1 : Int32)), .val (.int (0 : Int32)), .val (.ref b74), .val (.ref b75), .val (.ref b89), .val (.ref x89), .val (.int (1 : Int32)), .val (.ref b74)] []))
      refine own_F.of (fun _ => XS.aload S121.here S121.hx rfl (S121.dec at_282) rfl rfl) ?_
      show own_F p e below s Z _ _ _ _ _ (T121.setTop (mkF m 284 #[.val (.int p0), .val (.int p1), .val (.int p2), .val (.int p3), .val (.int p4), .val (.int p5), .val (.int (1 : Int32)), .val (.int (0 : Int32)), .val (.ref b74), .val (.ref b75), .val (.ref b89), .val (.ref x89), .val (.int (1 : Int32)), .val (.ref b74)] [(.ref b74)]))
      refine own_F.of (fun _ => XS.ifnullNo S121.here S121.hx rfl (S121.dec at_284) rfl) ?_
      show own_F p e below s Z _ _ _ _ _ (T121.setTop (mkF m 287 #[.val (.int p0), .val (.int p1), .val (.int p2), .val (.int p3), .val (.int p4), .val (.int p5), .val (.int (1 : Int32)), .val (.int (0 : Int32)), .val (.ref b74), .val (.ref b75), .val (.ref b89), .val (.ref x89), .val (.int (1 : Int32)), .val (.ref b74)] []))
      refine own_F.of (fun _ => XS.aload S121.here S121.hx rfl (S121.dec at_287) rfl rfl) ?_
      show own_F p e below s Z _ _ _ _ _ (T121.setTop (mkF m 289 #[.val (.int p0), .val (.int p1), .val (.int p2), .val (.int p3), .val (.int p4), .val (.int p5), .val (.int (1 : Int32)), .val (.int (0 : Int32)), .val (.ref b74), .val (.ref b75), .val (.ref b89), .val (.ref x89), .val (.int (1 : Int32)), .val (.ref b74)] [(.ref b74)]))
      have fq127 := (((((((F74.ext E75).keep K76 (ninS (ne_exa fq122 (fq94.keep K97) (by decide)) nin0)).keep K78 nin0).keep K83 (ninS (ne_exa fq122 (fq94.keep K97) (by decide)) nin0)).keep K89 nin0).keep K90 nin0).keep K97 (ninS (ne_exa fq122 (fq94.keep K97) (by decide)) (ninS (ne_exa fq122 V98.exa (by decide)) nin0)))
      refine own_callV S121 (y := (⟨"java/lang/Integer", "intValue", "()I"⟩ : MethodName)) (y' := (⟨"java/lang/Integer", "intValue", "()I"⟩ : MethodName)) (own_w hw 141 rfl) (own_w hw 142 rfl) (own_nf S121 (own_w hw 144 rfl)) (own_w hw 144 rfl) (own_w hw 143 rfl) (own_w hw 145 rfl) (own_w hw 2 rfl) (by decide) fq122 (argsL := []) (rest := []) (own_intV l Z a0 hw b74 p5 h97 S121.old fq127) all0 (by decide +kernel : parseMethodDescriptor "()I" = some ⟨[], some .int⟩) rfl rfl rfl at_289 (by decide) (Nat.le_of_ble_eq_true rfl) (by decide) (by decide) (fun T128 h128 v128 S128 K128 q128 => ?_)
      obtain ⟨rfl, rfl⟩ := q128
      show own_F p e below s Z _ _ _ _ _ (T128.setTop (mkF m 292 #[.val (.int p0), .val (.int p1), .val (.int p2), .val (.int p3), .val (.int p4), .val (.int p5), .val (.int (1 : Int32)), .val (.int (0 : Int32)), .val (.ref b74), .val (.ref b75), .val (.ref b89), .val (.ref x89), .val (.int (1 : Int32)), .val (.ref b74)] [(.int p5)]))
      refine own_F.of (fun _ => XS.iload S128.here S128.hx rfl (S128.dec at_292) rfl) ?_
      show own_F p e below s Z _ _ _ _ _ (T128.setTop (mkF m 294 #[.val (.int p0), .val (.int p1), .val (.int p2), .val (.int p3), .val (.int p4), .val (.int p5), .val (.int (1 : Int32)), .val (.int (0 : Int32)), .val (.ref b74), .val (.ref b75), .val (.ref b89), .val (.ref x89), .val (.int (1 : Int32)), .val (.ref b74)] [(.int p5), (.int p5)]))
      refine own_icmp S128 301 at_294 (by decide) (by decide) (fun (hc294_129 : ¬ (p5 = p5)) => False.elim (hc294_129 rfl)) (fun (hc294_129 : p5 = p5) => ?_)
      show own_F p e below s Z _ _ _ _ _ (T128.setTop (mkF m 297 #[.val (.int p0), .val (.int p1), .val (.int p2), .val (.int p3), .val (.int p4), .val (.int p5), .val (.int (1 : Int32)), .val (.int (0 : Int32)), .val (.ref b74), .val (.ref b75), .val (.ref b89), .val (.ref x89), .val (.int (1 : Int32)), .val (.ref b74)] []))
      refine own_F.of (fun _ => XS.iconst S128.here S128.hx rfl (S128.dec at_297)) ?_
      show own_F p e below s Z _ _ _ _ _ (T128.setTop (mkF m 298 #[.val (.int p0), .val (.int p1), .val (.int p2), .val (.int p3), .val (.int p4), .val (.int p5), .val (.int (1 : Int32)), .val (.int (0 : Int32)), .val (.ref b74), .val (.ref b75), .val (.ref b89), .val (.ref x89), .val (.int (1 : Int32)), .val (.ref b74)] [(.int (1 : Int32))]))
      refine own_F.of (fun _ => XS.goto S128.here S128.hx rfl (pc0 := 298) (pc' := 302) rfl (S128.dec at_298) (by decide) (by decide)) ?_
      show own_F p e below s Z _ _ _ _ _ (T128.setTop (mkF m 302 #[.val (.int p0), .val (.int p1), .val (.int p2), .val (.int p3), .val (.int p4), .val (.int p5), .val (.int (1 : Int32)), .val (.int (0 : Int32)), .val (.ref b74), .val (.ref b75), .val (.ref b89), .val (.ref x89), .val (.int (1 : Int32)), .val (.ref b74)] [(.int (1 : Int32))]))
      refine own_F.of (fun _ => XS.istore S128.here S128.hx rfl (S128.dec at_302) rfl (l' := #[.val (.int p0), .val (.int p1), .val (.int p2), .val (.int p3), .val (.int p4), .val (.int p5), .val (.int (1 : Int32)), .val (.int (0 : Int32)), .val (.ref b74), .val (.ref b75), .val (.ref b89), .val (.ref x89), .val (.int (1 : Int32)), .val (.ref b74)]) rfl) ?_
      show own_F p e below s Z _ _ _ _ _ (T128.setTop (mkF m 304 #[.val (.int p0), .val (.int p1), .val (.int p2), .val (.int p3), .val (.int p4), .val (.int p5), .val (.int (1 : Int32)), .val (.int (0 : Int32)), .val (.ref b74), .val (.ref b75), .val (.ref b89), .val (.ref x89), .val (.int (1 : Int32)), .val (.ref b74)] []))
      refine own_F.of (fun _ => XS.iload S128.here S128.hx rfl (S128.dec at_304) rfl) ?_
      show own_F p e below s Z _ _ _ _ _ (T128.setTop (mkF m 306 #[.val (.int p0), .val (.int p1), .val (.int p2), .val (.int p3), .val (.int p4), .val (.int p5), .val (.int (1 : Int32)), .val (.int (0 : Int32)), .val (.ref b74), .val (.ref b75), .val (.ref b89), .val (.ref x89), .val (.int (1 : Int32)), .val (.ref b74)] [(.int (1 : Int32))]))
      refine own_retZ S128 (by simp) at_306 (by decide) (by decide) ?_
      rfl
    · show own_F p e below s Z _ _ _ _ _ (T0.setTop (mkF m 12 #[.val (.int p0), .val (.int p1), .val (.int p2), .val (.int p3), .val (.int p4), .val (.int p5), .val (.int (1 : Int32)), .unset, .unset, .unset, .unset, .unset, .unset, .unset] []))
      refine own_F.of (fun _ => XS.iconst S0.here S0.hx rfl (S0.dec at_12)) ?_
      show own_F p e below s Z _ _ _ _ _ (T0.setTop (mkF m 13 #[.val (.int p0), .val (.int p1), .val (.int p2), .val (.int p3), .val (.int p4), .val (.int p5), .val (.int (1 : Int32)), .unset, .unset, .unset, .unset, .unset, .unset, .unset] [(.int (1 : Int32))]))
      refine own_F.of (fun _ => XS.goto S0.here S0.hx rfl (pc0 := 13) (pc' := 17) rfl (S0.dec at_13) (by decide) (by decide)) ?_
      show own_F p e below s Z _ _ _ _ _ (T0.setTop (mkF m 17 #[.val (.int p0), .val (.int p1), .val (.int p2), .val (.int p3), .val (.int p4), .val (.int p5), .val (.int (1 : Int32)), .unset, .unset, .unset, .unset, .unset, .unset, .unset] [(.int (1 : Int32))]))
      refine own_F.of (fun _ => XS.istore S0.here S0.hx rfl (S0.dec at_17) rfl (l' := #[.val (.int p0), .val (.int p1), .val (.int p2), .val (.int p3), .val (.int p4), .val (.int p5), .val (.int (1 : Int32)), .val (.int (1 : Int32)), .unset, .unset, .unset, .unset, .unset, .unset]) rfl) ?_
      show own_F p e below s Z _ _ _ _ _ (T0.setTop (mkF m 19 #[.val (.int p0), .val (.int p1), .val (.int p2), .val (.int p3), .val (.int p4), .val (.int p5), .val (.int (1 : Int32)), .val (.int (1 : Int32)), .unset, .unset, .unset, .unset, .unset, .unset] []))
      refine own_F.of (fun _ => XS.iload S0.here S0.hx rfl (S0.dec at_19) rfl) ?_
      show own_F p e below s Z _ _ _ _ _ (T0.setTop (mkF m 21 #[.val (.int p0), .val (.int p1), .val (.int p2), .val (.int p3), .val (.int p4), .val (.int p5), .val (.int (1 : Int32)), .val (.int (1 : Int32)), .unset, .unset, .unset, .unset, .unset, .unset] [(.int (1 : Int32))]))
      refine own_if S0 28 at_21 (by decide) (by decide) (fun (hc21_130 : (1 : Int32) = (0 : Int32)) => False.elim (absurd hc21_130 (by decide))) (fun (hc21_130 : ¬ ((1 : Int32) = (0 : Int32))) => ?_)
      show own_F p e below s Z _ _ _ _ _ (T0.setTop (mkF m 24 #[.val (.int p0), .val (.int p1), .val (.int p2), .val (.int p3), .val (.int p4), .val (.int p5), .val (.int (1 : Int32)), .val (.int (1 : Int32)), .unset, .unset, .unset, .unset, .unset, .unset] []))
      refine own_F.of (fun _ => XS.aconstNull S0.here S0.hx rfl (S0.dec at_24)) ?_
      show own_F p e below s Z _ _ _ _ _ (T0.setTop (mkF m 25 #[.val (.int p0), .val (.int p1), .val (.int p2), .val (.int p3), .val (.int p4), .val (.int p5), .val (.int (1 : Int32)), .val (.int (1 : Int32)), .unset, .unset, .unset, .unset, .unset, .unset] [.null]))
      refine own_F.of (fun _ => XS.goto S0.here S0.hx rfl (pc0 := 25) (pc' := 33) rfl (S0.dec at_25) (by decide) (by decide)) ?_
      show own_F p e below s Z _ _ _ _ _ (T0.setTop (mkF m 33 #[.val (.int p0), .val (.int p1), .val (.int p2), .val (.int p3), .val (.int p4), .val (.int p5), .val (.int (1 : Int32)), .val (.int (1 : Int32)), .unset, .unset, .unset, .unset, .unset, .unset] [.null]))
      refine own_F.of (fun _ => XS.astore S0.here S0.hx rfl (S0.dec at_33) rfl rfl (l' := #[.val (.int p0), .val (.int p1), .val (.int p2), .val (.int p3), .val (.int p4), .val (.int p5), .val (.int (1 : Int32)), .val (.int (1 : Int32)), .val .null, .unset, .unset, .unset, .unset, .unset]) rfl) ?_
      show own_F p e below s Z _ _ _ _ _ (T0.setTop (mkF m 35 #[.val (.int p0), .val (.int p1), .val (.int p2), .val (.int p3), .val (.int p4), .val (.int p5), .val (.int (1 : Int32)), .val (.int (1 : Int32)), .val .null, .unset, .unset, .unset, .unset, .unset] []))
      refine own_new S0 (own_w hw 7 rfl) (own_w hw 8 rfl) (own_w hw 9 rfl) at_35 (by decide) (by decide) (fun T131 h131 b131 g131 S131 E131 A131 D131 => ?_)
      have F131_modCount : Fld Z h131 b131 "java/util/AbstractList" "modCount" "I" (.int (0 : Int32)) := (D131 (Or.inl (own_w hw 29 rfl)) (ty := .int) (by decide))
      have F131_elementData : Fld Z h131 b131 "java/util/ArrayList" "elementData" "[Ljava/lang/Object;" .null := (D131 (Or.inl (own_w hw 32 rfl)) (ty := (.array (.object "java/lang/Object"))) (by decide))
      have F131_size : Fld Z h131 b131 "java/util/ArrayList" "size" "I" (.int (0 : Int32)) := (D131 (Or.inl (own_w hw 63 rfl)) (ty := .int) (by decide))
      show own_F p e below s Z _ _ _ _ _ (T131.setTop (mkF m 38 #[.val (.int p0), .val (.int p1), .val (.int p2), .val (.int p3), .val (.int p4), .val (.int p5), .val (.int (1 : Int32)), .val (.int (1 : Int32)), .val .null, .unset, .unset, .unset, .unset, .unset] [(.ref b131)]))
      refine own_F.of (fun _ => XS.dup S131.here S131.hx rfl (S131.dec at_38) rfl rfl) ?_
      show own_F p e below s Z _ _ _ _ _ (T131.setTop (mkF m 39 #[.val (.int p0), .val (.int p1), .val (.int p2), .val (.int p3), .val (.int p4), .val (.int p5), .val (.int (1 : Int32)), .val (.int (1 : Int32)), .val .null, .unset, .unset, .unset, .unset, .unset] [(.ref b131), (.ref b131)]))
      refine own_callI S131 (y := (⟨"java/util/ArrayList", "<init>", "()V"⟩ : MethodName)) rfl (own_w hw 10 rfl) (own_w hw 11 rfl) (own_w hw 9 rfl) (own_w hw 12 rfl) (by decide) (argsL := []) (rest := [(.ref b131)]) (own_ALI l Z a0 hw b131 aD h131 S131.old SD AD (own_mayN S131 (Or.inr (by rw [g131]; exact S0.size))) A131 F131_modCount F131_elementData F131_size) (allS (Or.inr (by rw [g131]; exact S0.size)) all0) (by decide +kernel : parseMethodDescriptor "()V" = some ⟨[], none⟩) rfl rfl rfl at_39 (by decide) (Nat.le_of_ble_eq_true rfl) (by decide) (by decide) (fun T132 h132 v132 S132 K132 q132 => ?_)
      obtain ⟨rfl, Fm132, Fe132, Fs132⟩ := q132
      show own_F p e below s Z _ _ _ _ _ (T132.setTop (mkF m 42 #[.val (.int p0), .val (.int p1), .val (.int p2), .val (.int p3), .val (.int p4), .val (.int p5), .val (.int (1 : Int32)), .val (.int (1 : Int32)), .val .null, .unset, .unset, .unset, .unset, .unset] [(.ref b131)]))
      refine own_F.of (fun _ => XS.astore S132.here S132.hx rfl (S132.dec at_42) rfl rfl (l' := #[.val (.int p0), .val (.int p1), .val (.int p2), .val (.int p3), .val (.int p4), .val (.int p5), .val (.int (1 : Int32)), .val (.int (1 : Int32)), .val .null, .val (.ref b131), .unset, .unset, .unset, .unset]) rfl) ?_
      show own_F p e below s Z _ _ _ _ _ (T132.setTop (mkF m 44 #[.val (.int p0), .val (.int p1), .val (.int p2), .val (.int p3), .val (.int p4), .val (.int p5), .val (.int (1 : Int32)), .val (.int (1 : Int32)), .val .null, .val (.ref b131), .unset, .unset, .unset, .unset] []))
      refine own_F.of (fun _ => XS.iload S132.here S132.hx rfl (S132.dec at_44) rfl) ?_
      show own_F p e below s Z _ _ _ _ _ (T132.setTop (mkF m 46 #[.val (.int p0), .val (.int p1), .val (.int p2), .val (.int p3), .val (.int p4), .val (.int p5), .val (.int (1 : Int32)), .val (.int (1 : Int32)), .val .null, .val (.ref b131), .unset, .unset, .unset, .unset] [(.int (1 : Int32))]))
      refine own_if S132 59 at_46 (by decide) (by decide) (fun (hc46_133 : ¬ ((0 : Int32) < (1 : Int32))) => False.elim (absurd hc46_133 (by decide))) (fun (hc46_133 : (0 : Int32) < (1 : Int32)) => ?_)
      show own_F p e below s Z _ _ _ _ _ (T132.setTop (mkF m 49 #[.val (.int p0), .val (.int p1), .val (.int p2), .val (.int p3), .val (.int p4), .val (.int p5), .val (.int (1 : Int32)), .val (.int (1 : Int32)), .val .null, .val (.ref b131), .unset, .unset, .unset, .unset] []))
      refine own_F.of (fun _ => XS.aload S132.here S132.hx rfl (S132.dec at_49) rfl rfl) ?_
      refine own_F.of (fun _ => XS.iloadN S132.here S132.hx rfl (S132.dec at_51) rfl) ?_
      show own_F p e below s Z _ _ _ _ _ (T132.setTop (mkF m 52 #[.val (.int p0), .val (.int p1), .val (.int p2), .val (.int p3), .val (.int p4), .val (.int p5), .val (.int (1 : Int32)), .val (.int (1 : Int32)), .val .null, .val (.ref b131), .unset, .unset, .unset, .unset] [(.int p1), (.ref b131)]))
      refine own_callS S132 (y := (⟨"java/lang/Integer", "valueOf", "(I)Ljava/lang/Integer;"⟩ : MethodName)) (own_w hw 0 rfl) (own_w hw 1 rfl) (own_w hw 2 rfl) (own_w hw 3 rfl) (by decide) (argsL := [(.int p1)]) (rest := [(.ref b131)]) (own_vOfI l Z a0 hw p1 aCI clCI h132 S132.old SHi SCaI BXI) all0 (by decide +kernel : parseMethodDescriptor "(I)Ljava/lang/Integer;" = some ⟨[.int], some (.object "java/lang/Integer")⟩) rfl rfl rfl at_52 (by decide) (Nat.le_of_ble_eq_true rfl) (by decide) (by decide) (fun T134 h134 v134 S134 K134 q134 => ?_)
      obtain ⟨b134, rfl, X134, F134⟩ := q134
      show own_F p e below s Z _ _ _ _ _ (T134.setTop (mkF m 55 #[.val (.int p0), .val (.int p1), .val (.int p2), .val (.int p3), .val (.int p4), .val (.int p5), .val (.int (1 : Int32)), .val (.int (1 : Int32)), .val .null, .val (.ref b131), .unset, .unset, .unset, .unset] [(.ref b134), (.ref b131)]))
      have fq135 := (Fe132.keep K134 nin0)
      have fq136 := (Fs132.keep K134 nin0)
      have fq137 := (Fm132.keep K134 nin0)
      have fq138 := ((A131.keep K132).keep K134)
      refine own_callV S134 (y := (⟨"java/util/ArrayList", "add", "(Ljava/lang/Object;)Z"⟩ : MethodName)) (y' := (⟨"java/util/ArrayList", "add", "(Ljava/lang/Object;)Z"⟩ : MethodName)) (own_w hw 89 rfl) (own_w hw 90 rfl) (own_nf S134 (own_w hw 92 rfl)) (own_w hw 92 rfl) (own_w hw 91 rfl) (own_w hw 93 rfl) (own_w hw 9 rfl) (by decide) fq138 (argsL := [(.ref b134)]) (rest := []) (own_add_0 l Z a0 hw b131 b134 aD (0 : Int32) h134 S134.old SD AD (own_mayN S134 (Or.inr (by rw [g131]; exact S0.size))) fq138 fq135 fq136 fq137 X134) (allS (Or.inr (by rw [g131]; exact S0.size)) all0) (by decide +kernel : parseMethodDescriptor "(Ljava/lang/Object;)Z" = some ⟨[(.object "java/lang/Object")], some .boolean⟩) rfl rfl rfl at_55 (by decide) (Nat.le_of_ble_eq_true rfl) (by decide) (by decide) (fun T139 h139 v139 S139 K139 q139 => ?_)
      obtain ⟨rfl, b139, g139, A139, Fe139, Fs139, Fm139⟩ := q139
      have V140 : own_AO Z h139 b139 [(.ref b134), .null, .null, .null, .null, .null, .null, .null, .null, .null] := A139
      show own_F p e below s Z _ _ _ _ _ (T139.setTop (mkF m 58 #[.val (.int p0), .val (.int p1), .val (.int p2), .val (.int p3), .val (.int p4), .val (.int p5), .val (.int (1 : Int32)), .val (.int (1 : Int32)), .val .null, .val (.ref b131), .unset, .unset, .unset, .unset] [(.int (1 : Int32))]))
      refine own_F.of (fun _ => XS.pop S139.here S139.hx rfl (S139.dec at_58) rfl rfl) ?_
      refine own_F.of (fun _ => XS.iload S139.here S139.hx rfl (S139.dec at_59) rfl) ?_
      refine own_F.of (fun _ => XS.iconst S139.here S139.hx rfl (S139.dec at_61)) ?_
      show own_F p e below s Z _ _ _ _ _ (T139.setTop (mkF m 62 #[.val (.int p0), .val (.int p1), .val (.int p2), .val (.int p3), .val (.int p4), .val (.int p5), .val (.int (1 : Int32)), .val (.int (1 : Int32)), .val .null, .val (.ref b131), .unset, .unset, .unset, .unset] [(.int (1 : Int32)), (.int (1 : Int32))]))
      refine own_icmp S139 75 at_62 (by decide) (by decide) (fun (hc62_141 : ¬ ((1 : Int32) < (1 : Int32))) => ?_) (fun (hc62_141 : (1 : Int32) < (1 : Int32)) => False.elim (absurd hc62_141 (by decide)))
      show own_F p e below s Z _ _ _ _ _ (T139.setTop (mkF m 75 #[.val (.int p0), .val (.int p1), .val (.int p2), .val (.int p3), .val (.int p4), .val (.int p5), .val (.int (1 : Int32)), .val (.int (1 : Int32)), .val .null, .val (.ref b131), .unset, .unset, .unset, .unset] []))
      refine own_F.of (fun _ => XS.iload S139.here S139.hx rfl (S139.dec at_75) rfl) ?_
      refine own_F.of (fun _ => XS.iconst S139.here S139.hx rfl (S139.dec at_77)) ?_
      show own_F p e below s Z _ _ _ _ _ (T139.setTop (mkF m 78 #[.val (.int p0), .val (.int p1), .val (.int p2), .val (.int p3), .val (.int p4), .val (.int p5), .val (.int (1 : Int32)), .val (.int (1 : Int32)), .val .null, .val (.ref b131), .unset, .unset, .unset, .unset] [(.int (2 : Int32)), (.int (1 : Int32))]))
      refine own_icmp S139 91 at_78 (by decide) (by decide) (fun (hc78_142 : ¬ ((2 : Int32) < (1 : Int32))) => ?_) (fun (hc78_142 : (2 : Int32) < (1 : Int32)) => False.elim (absurd hc78_142 (by decide)))
      show own_F p e below s Z _ _ _ _ _ (T139.setTop (mkF m 91 #[.val (.int p0), .val (.int p1), .val (.int p2), .val (.int p3), .val (.int p4), .val (.int p5), .val (.int (1 : Int32)), .val (.int (1 : Int32)), .val .null, .val (.ref b131), .unset, .unset, .unset, .unset] []))
      refine own_F.of (fun _ => XS.aload S139.here S139.hx rfl (S139.dec at_91) rfl rfl) ?_
      refine own_F.of (fun _ => XS.aload S139.here S139.hx rfl (S139.dec at_93) rfl rfl) ?_
      show own_F p e below s Z _ _ _ _ _ (T139.setTop (mkF m 95 #[.val (.int p0), .val (.int p1), .val (.int p2), .val (.int p3), .val (.int p4), .val (.int p5), .val (.int (1 : Int32)), .val (.int (1 : Int32)), .val .null, .val (.ref b131), .unset, .unset, .unset, .unset] [.null, (.ref b131)]))
      have fq143 := (fq138.keep K139)
      have fq144 := (X134.keep K139)
      refine own_callS S139 (y := (⟨"com/example/tidemark/tidemark/Page", "of", "(Ljava/util/List;Ljava/lang/Object;)Lcom/example/tidemark/tidemark/Page;"⟩ : MethodName)) (own_w hw 33 rfl) (own_w hw 34 rfl) (own_w hw 35 rfl) (own_w hw 36 rfl) (by decide) (argsL := [(.ref b131), .null]) (rest := []) (own_pof1 l Z a0 hw b131 .null b139 b134 aM mO h139 S139.old rfl SM MO fq143 Fs139 Fe139 V140 fq144) all0 (by decide +kernel : parseMethodDescriptor "(Ljava/util/List;Ljava/lang/Object;)Lcom/example/tidemark/tidemark/Page;" = some ⟨[(.object "java/util/List"), (.object "java/lang/Object")], some (.object "com/example/tidemark/tidemark/Page")⟩) rfl rfl rfl at_95 (by decide) (Nat.le_of_ble_eq_true rfl) (by decide) (by decide) (fun T145 h145 v145 S145 K145 q145 => ?_)
      obtain ⟨b145, rfl, E145, x145, Fi145, Fk145, X145, P145, R145⟩ := q145
      show own_F p e below s Z _ _ _ _ _ (T145.setTop (mkF m 98 #[.val (.int p0), .val (.int p1), .val (.int p2), .val (.int p3), .val (.int p4), .val (.int p5), .val (.int (1 : Int32)), .val (.int (1 : Int32)), .val .null, .val (.ref b131), .unset, .unset, .unset, .unset] [(.ref b145)]))
      refine own_F.of (fun _ => XS.astore S145.here S145.hx rfl (S145.dec at_98) rfl rfl (l' := #[.val (.int p0), .val (.int p1), .val (.int p2), .val (.int p3), .val (.int p4), .val (.int p5), .val (.int (1 : Int32)), .val (.int (1 : Int32)), .val .null, .val (.ref b131), .val (.ref b145), .unset, .unset, .unset]) rfl) ?_
      show own_F p e below s Z _ _ _ _ _ (T145.setTop (mkF m 100 #[.val (.int p0), .val (.int p1), .val (.int p2), .val (.int p3), .val (.int p4), .val (.int p5), .val (.int (1 : Int32)), .val (.int (1 : Int32)), .val .null, .val (.ref b131), .val (.ref b145), .unset, .unset, .unset] []))
      refine own_F.of (fun _ => XS.aload S145.here S145.hx rfl (S145.dec at_100) rfl rfl) ?_
      refine own_F.of (fun _ => XS.iloadN S145.here S145.hx rfl (S145.dec at_102) rfl) ?_
      show own_F p e below s Z _ _ _ _ _ (T145.setTop (mkF m 103 #[.val (.int p0), .val (.int p1), .val (.int p2), .val (.int p3), .val (.int p4), .val (.int p5), .val (.int (1 : Int32)), .val (.int (1 : Int32)), .val .null, .val (.ref b131), .val (.ref b145), .unset, .unset, .unset] [(.int p3), (.ref b131)]))
      refine own_callS S145 (y := (⟨"java/lang/Integer", "valueOf", "(I)Ljava/lang/Integer;"⟩ : MethodName)) (own_w hw 0 rfl) (own_w hw 1 rfl) (own_w hw 2 rfl) (own_w hw 3 rfl) (by decide) (argsL := [(.int p3)]) (rest := [(.ref b131)]) (own_vOfI l Z a0 hw p3 aCI clCI h145 S145.old SHi SCaI BXI) all0 (by decide +kernel : parseMethodDescriptor "(I)Ljava/lang/Integer;" = some ⟨[.int], some (.object "java/lang/Integer")⟩) rfl rfl rfl at_103 (by decide) (Nat.le_of_ble_eq_true rfl) (by decide) (by decide) (fun T146 h146 v146 S146 K146 q146 => ?_)
      obtain ⟨b146, rfl, X146, F146⟩ := q146
      show own_F p e below s Z _ _ _ _ _ (T146.setTop (mkF m 106 #[.val (.int p0), .val (.int p1), .val (.int p2), .val (.int p3), .val (.int p4), .val (.int p5), .val (.int (1 : Int32)), .val (.int (1 : Int32)), .val .null, .val (.ref b131), .val (.ref b145), .unset, .unset, .unset] [(.ref b146), (.ref b131)]))
      have fq147 := ((Fe139.keep K145 nin0).keep K146 nin0)
      have fq148 := ((Fs139.keep K145 nin0).keep K146 nin0)
      have fq149 := ((Fm139.keep K145 nin0).keep K146 nin0)
      have fq150 := ((fq143.keep K145).keep K146)
      have fq151 := ((V140.keep K145 nin0).keep K146 nin0)
      have fq152 := ((fq144.keep K145).keep K146)
      refine own_callV S146 (y := (⟨"java/util/ArrayList", "add", "(Ljava/lang/Object;)Z"⟩ : MethodName)) (y' := (⟨"java/util/ArrayList", "add", "(Ljava/lang/Object;)Z"⟩ : MethodName)) (own_w hw 89 rfl) (own_w hw 90 rfl) (own_nf S146 (own_w hw 92 rfl)) (own_w hw 92 rfl) (own_w hw 91 rfl) (own_w hw 93 rfl) (own_w hw 9 rfl) (by decide) fq150 (argsL := [(.ref b146)]) (rest := []) (own_add_1 l Z a0 hw b131 b139 b134 b146 ((0 : Int32) + (1 : Int32)) h146 S146.old (own_mayN S146 (Or.inr (by rw [g131]; exact S0.size))) fq150 (own_mayN S146 (Or.inr (Nat.le_trans S134.size g139))) fq151 fq147 fq148 fq149 fq152 X146) (allS (Or.inr (by rw [g131]; exact S0.size)) (allS (Or.inr (Nat.le_trans S134.size g139)) all0)) (by decide +kernel : parseMethodDescriptor "(Ljava/lang/Object;)Z" = some ⟨[(.object "java/lang/Object")], some .boolean⟩) rfl rfl rfl at_106 (by decide) (Nat.le_of_ble_eq_true rfl) (by decide) (by decide) (fun T153 h153 v153 S153 K153 q153 => ?_)
      obtain ⟨rfl, A153, Fe153, Fs153, Fm153⟩ := q153
      have V154 : own_AO Z h153 b139 [(.ref b134), (.ref b146), .null, .null, .null, .null, .null, .null, .null, .null] := A153
      show own_F p e below s Z _ _ _ _ _ (T153.setTop (mkF m 109 #[.val (.int p0), .val (.int p1), .val (.int p2), .val (.int p3), .val (.int p4), .val (.int p5), .val (.int (1 : Int32)), .val (.int (1 : Int32)), .val .null, .val (.ref b131), .val (.ref b145), .unset, .unset, .unset] [(.int (1 : Int32))]))
      refine own_F.of (fun _ => XS.pop S153.here S153.hx rfl (S153.dec at_109) rfl rfl) ?_
      refine own_F.of (fun _ => XS.aload S153.here S153.hx rfl (S153.dec at_110) rfl rfl) ?_
      show own_F p e below s Z _ _ _ _ _ (T153.setTop (mkF m 112 #[.val (.int p0), .val (.int p1), .val (.int p2), .val (.int p3), .val (.int p4), .val (.int p5), .val (.int (1 : Int32)), .val (.int (1 : Int32)), .val .null, .val (.ref b131), .val (.ref b145), .unset, .unset, .unset] [(.ref b145)]))
      have fq155 := ((Fi145.keep K146 nin0).keep K153 (ninS (ne_exa (E145.keep K146) fq150 (by decide)) (ninS (ne_exa ((E145.keep K146).keep K153) V154.exa (by decide)) nin0)))
      have fq157 := ((E145.keep K146).keep K153)
      refine own_callV S153 (y := (⟨"com/example/tidemark/tidemark/Page", "items", "()Ljava/util/List;"⟩ : MethodName)) (y' := (⟨"com/example/tidemark/tidemark/Page", "items", "()Ljava/util/List;"⟩ : MethodName)) (own_w hw 118 rfl) (own_w hw 119 rfl) (own_nf S153 (own_w hw 121 rfl)) (own_w hw 121 rfl) (own_w hw 120 rfl) (own_w hw 122 rfl) (own_w hw 35 rfl) (by decide) fq157 (argsL := []) (rest := []) (own_pgI l Z a0 hw b145 (.ref x145) h153 S153.old rfl fq155) all0 (by decide +kernel : parseMethodDescriptor "()Ljava/util/List;" = some ⟨[], some (.object "java/util/List")⟩) rfl rfl rfl at_112 (by decide) (Nat.le_of_ble_eq_true rfl) (by decide) (by decide) (fun T156 h156 v156 S156 K156 q156 => ?_)
      obtain ⟨rfl, rfl⟩ := q156
      show own_F p e below s Z _ _ _ _ _ (T156.setTop (mkF m 115 #[.val (.int p0), .val (.int p1), .val (.int p2), .val (.int p3), .val (.int p4), .val (.int p5), .val (.int (1 : Int32)), .val (.int (1 : Int32)), .val .null, .val (.ref b131), .val (.ref b145), .unset, .unset, .unset] [(.ref x145)]))
      refine own_F.of (fun _ => XS.astore S156.here S156.hx rfl (S156.dec at_115) rfl rfl (l' := #[.val (.int p0), .val (.int p1), .val (.int p2), .val (.int p3), .val (.int p4), .val (.int p5), .val (.int (1 : Int32)), .val (.int (1 : Int32)), .val .null, .val (.ref b131), .val (.ref b145), .val (.ref x145), .unset, .unset]) rfl) ?_
      show own_F p e below s Z _ _ _ _ _ (T156.setTop (mkF m 117 #[.val (.int p0), .val (.int p1), .val (.int p2), .val (.int p3), .val (.int p4), .val (.int p5), .val (.int (1 : Int32)), .val (.int (1 : Int32)), .val .null, .val (.ref b131), .val (.ref b145), .val (.ref x145), .unset, .unset] []))
      refine own_F.of (fun _ => XS.aload S156.here S156.hx rfl (S156.dec at_117) rfl rfl) ?_
      show own_F p e below s Z _ _ _ _ _ (T156.setTop (mkF m 119 #[.val (.int p0), .val (.int p1), .val (.int p2), .val (.int p3), .val (.int p4), .val (.int p5), .val (.int (1 : Int32)), .val (.int (1 : Int32)), .val .null, .val (.ref b131), .val (.ref b145), .val (.ref x145), .unset, .unset] [(.ref x145)]))
      have fq158 := ((R145.keep K146 nin0).keep K153 (ninS (ne_exa (X145.keep K146) fq150 (by decide)) (ninS (ne_exa ((X145.keep K146).keep K153) V154.exa (by decide)) nin0)))
      have fq160 := ((X145.keep K146).keep K153)
      refine own_callX S156 (y := (⟨"java/util/List", "size", "()I"⟩ : MethodName)) (y' := (⟨"java/util/ImmutableCollections$List12", "size", "()I"⟩ : MethodName)) (own_w hw 123 rfl) (own_w hw 124 rfl) (own_w hw 125 rfl) (own_w hw 224 rfl) (own_w hw 225 rfl) (own_w hw 226 rfl) (own_w hw 227 rfl) (own_w hw 211 rfl) (own_w hw 228 rfl) (own_w hw 183 rfl) (by decide) fq160 (argsL := []) (rest := []) (own_szT1 l Z a0 hw x145 aM aM h153 S156.old SM fq158 rfl) all0 (by decide +kernel : parseMethodDescriptor "()I" = some ⟨[], some .int⟩) rfl rfl rfl at_119 (by decide) (Nat.le_of_ble_eq_true rfl) (by decide) (by decide) (fun T159 h159 v159 S159 K159 q159 => ?_)
      obtain ⟨rfl, rfl⟩ := q159
      show own_F p e below s Z _ _ _ _ _ (T159.setTop (mkF m 124 #[.val (.int p0), .val (.int p1), .val (.int p2), .val (.int p3), .val (.int p4), .val (.int p5), .val (.int (1 : Int32)), .val (.int (1 : Int32)), .val .null, .val (.ref b131), .val (.ref b145), .val (.ref x145), .unset, .unset] [(.int (1 : Int32))]))
      refine own_F.of (fun _ => XS.iload S159.here S159.hx rfl (S159.dec at_124) rfl) ?_
      show own_F p e below s Z _ _ _ _ _ (T159.setTop (mkF m 126 #[.val (.int p0), .val (.int p1), .val (.int p2), .val (.int p3), .val (.int p4), .val (.int p5), .val (.int (1 : Int32)), .val (.int (1 : Int32)), .val .null, .val (.ref b131), .val (.ref b145), .val (.ref x145), .unset, .unset] [(.int (1 : Int32)), (.int (1 : Int32))]))
      refine own_icmp S159 133 at_126 (by decide) (by decide) (fun (hc126_161 : ¬ ((1 : Int32) = (1 : Int32))) => False.elim (absurd hc126_161 (by decide))) (fun (hc126_161 : (1 : Int32) = (1 : Int32)) => ?_)
      show own_F p e below s Z _ _ _ _ _ (T159.setTop (mkF m 129 #[.val (.int p0), .val (.int p1), .val (.int p2), .val (.int p3), .val (.int p4), .val (.int p5), .val (.int (1 : Int32)), .val (.int (1 : Int32)), .val .null, .val (.ref b131), .val (.ref b145), .val (.ref x145), .unset, .unset] []))
      refine own_F.of (fun _ => XS.iconst S159.here S159.hx rfl (S159.dec at_129)) ?_
      show own_F p e below s Z _ _ _ _ _ (T159.setTop (mkF m 130 #[.val (.int p0), .val (.int p1), .val (.int p2), .val (.int p3), .val (.int p4), .val (.int p5), .val (.int (1 : Int32)), .val (.int (1 : Int32)), .val .null, .val (.ref b131), .val (.ref b145), .val (.ref x145), .unset, .unset] [(.int (1 : Int32))]))
      refine own_F.of (fun _ => XS.goto S159.here S159.hx rfl (pc0 := 130) (pc' := 134) rfl (S159.dec at_130) (by decide) (by decide)) ?_
      show own_F p e below s Z _ _ _ _ _ (T159.setTop (mkF m 134 #[.val (.int p0), .val (.int p1), .val (.int p2), .val (.int p3), .val (.int p4), .val (.int p5), .val (.int (1 : Int32)), .val (.int (1 : Int32)), .val .null, .val (.ref b131), .val (.ref b145), .val (.ref x145), .unset, .unset] [(.int (1 : Int32))]))
      refine own_F.of (fun _ => XS.istore S159.here S159.hx rfl (S159.dec at_134) rfl (l' := #[.val (.int p0), .val (.int p1), .val (.int p2), .val (.int p3), .val (.int p4), .val (.int p5), .val (.int (1 : Int32)), .val (.int (1 : Int32)), .val .null, .val (.ref b131), .val (.ref b145), .val (.ref x145), .val (.int (1 : Int32)), .unset]) rfl) ?_
      show own_F p e below s Z _ _ _ _ _ (T159.setTop (mkF m 136 #[.val (.int p0), .val (.int p1), .val (.int p2), .val (.int p3), .val (.int p4), .val (.int p5), .val (.int (1 : Int32)), .val (.int (1 : Int32)), .val .null, .val (.ref b131), .val (.ref b145), .val (.ref x145), .val (.int (1 : Int32)), .unset] []))
      refine own_F.of (fun _ => XS.iload S159.here S159.hx rfl (S159.dec at_136) rfl) ?_
      show own_F p e below s Z _ _ _ _ _ (T159.setTop (mkF m 138 #[.val (.int p0), .val (.int p1), .val (.int p2), .val (.int p3), .val (.int p4), .val (.int p5), .val (.int (1 : Int32)), .val (.int (1 : Int32)), .val .null, .val (.ref b131), .val (.ref b145), .val (.ref x145), .val (.int (1 : Int32)), .unset] [(.int (1 : Int32))]))
      refine own_if S159 171 at_138 (by decide) (by decide) (fun (hc138_162 : (1 : Int32) = (0 : Int32)) => False.elim (absurd hc138_162 (by decide))) (fun (hc138_162 : ¬ ((1 : Int32) = (0 : Int32))) => ?_)
      show own_F p e below s Z _ _ _ _ _ (T159.setTop (mkF m 141 #[.val (.int p0), .val (.int p1), .val (.int p2), .val (.int p3), .val (.int p4), .val (.int p5), .val (.int (1 : Int32)), .val (.int (1 : Int32)), .val .null, .val (.ref b131), .val (.ref b145), .val (.ref x145), .val (.int (1 : Int32)), .unset] []))
      refine own_F.of (fun _ => XS.iload S159.here S159.hx rfl (S159.dec at_141) rfl) ?_
      show own_F p e below s Z _ _ _ _ _ (T159.setTop (mkF m 143 #[.val (.int p0), .val (.int p1), .val (.int p2), .val (.int p3), .val (.int p4), .val (.int p5), .val (.int (1 : Int32)), .val (.int (1 : Int32)), .val .null, .val (.ref b131), .val (.ref b145), .val (.ref x145), .val (.int (1 : Int32)), .unset] [(.int (1 : Int32))]))
      refine own_if S159 171 at_143 (by decide) (by decide) (fun (hc143_163 : ¬ ((0 : Int32) < (1 : Int32))) => False.elim (absurd hc143_163 (by decide))) (fun (hc143_163 : (0 : Int32) < (1 : Int32)) => ?_)
      show own_F p e below s Z _ _ _ _ _ (T159.setTop (mkF m 146 #[.val (.int p0), .val (.int p1), .val (.int p2), .val (.int p3), .val (.int p4), .val (.int p5), .val (.int (1 : Int32)), .val (.int (1 : Int32)), .val .null, .val (.ref b131), .val (.ref b145), .val (.ref x145), .val (.int (1 : Int32)), .unset] []))
      refine own_F.of (fun _ => XS.aload S159.here S159.hx rfl (S159.dec at_146) rfl rfl) ?_
      refine own_F.of (fun _ => XS.iconst S159.here S159.hx rfl (S159.dec at_148)) ?_
      show own_F p e below s Z _ _ _ _ _ (T159.setTop (mkF m 149 #[.val (.int p0), .val (.int p1), .val (.int p2), .val (.int p3), .val (.int p4), .val (.int p5), .val (.int (1 : Int32)), .val (.int (1 : Int32)), .val .null, .val (.ref b131), .val (.ref b145), .val (.ref x145), .val (.int (1 : Int32)), .unset] [(.int (0 : Int32)), (.ref x145)]))
      have fq164 := ((P145.keep K146 nin0).keep K153 (ninS (ne_exa fq160 (fq150.keep K153) (by decide)) (ninS (ne_exa fq160 V154.exa (by decide)) nin0)))
      refine own_callX S159 (y := (⟨"java/util/List", "get", "(I)Ljava/lang/Object;"⟩ : MethodName)) (y' := (⟨"java/util/ImmutableCollections$List12", "get", "(I)Ljava/lang/Object;"⟩ : MethodName)) (own_w hw 229 rfl) (own_w hw 230 rfl) (own_w hw 231 rfl) (own_w hw 232 rfl) (own_w hw 233 rfl) (own_w hw 234 rfl) (own_w hw 235 rfl) (own_w hw 211 rfl) (own_w hw 236 rfl) (own_w hw 183 rfl) (by decide) fq160 (argsL := [(.int (0 : Int32))]) (rest := []) (own_gtT_0 l Z a0 hw x145 b134 aM h153 S159.old fq164 fq158) all0 (by decide +kernel : parseMethodDescriptor "(I)Ljava/lang/Object;" = some ⟨[.int], some (.object "java/lang/Object")⟩) rfl rfl rfl at_149 (by decide) (Nat.le_of_ble_eq_true rfl) (by decide) (by decide) (fun T165 h165 v165 S165 K165 q165 => ?_)
      obtain ⟨rfl, rfl⟩ := q165
      show own_F p e below s Z _ _ _ _ _ (T165.setTop (mkF m 154 #[.val (.int p0), .val (.int p1), .val (.int p2), .val (.int p3), .val (.int p4), .val (.int p5), .val (.int (1 : Int32)), .val (.int (1 : Int32)), .val .null, .val (.ref b131), .val (.ref b145), .val (.ref x145), .val (.int (1 : Int32)), .unset] [(.ref b134)]))
      have fq167 := (fq152.keep K153)
      refine own_cast S165 (own_w hw 139 rfl) (Ins.self fq167) at_154 (fun T166 S166 => ?_)
      show own_F p e below s Z _ _ _ _ _ (T166.setTop (mkF m 157 #[.val (.int p0), .val (.int p1), .val (.int p2), .val (.int p3), .val (.int p4), .val (.int p5), .val (.int (1 : Int32)), .val (.int (1 : Int32)), .val .null, .val (.ref b131), .val (.ref b145), .val (.ref x145), .val (.int (1 : Int32)), .unset] [(.ref b134)]))
      have fq168 := ((((F134.keep K139 (ninS (ne_exa fq167 (fq150.keep K153) (by decide)) nin0)).keep K145 nin0).keep K146 nin0).keep K153 (ninS (ne_exa fq167 (fq150.keep K153) (by decide)) (ninS (ne_exa fq167 V154.exa (by decide)) nin0)))
      refine own_callV S166 (y := (⟨"java/lang/Integer", "intValue", "()I"⟩ : MethodName)) (y' := (⟨"java/lang/Integer", "intValue", "()I"⟩ : MethodName)) (own_w hw 141 rfl) (own_w hw 142 rfl) (own_nf S166 (own_w hw 144 rfl)) (own_w hw 144 rfl) (own_w hw 143 rfl) (own_w hw 145 rfl) (own_w hw 2 rfl) (by decide) fq167 (argsL := []) (rest := []) (own_intV l Z a0 hw b134 p1 h153 S166.old fq168) all0 (by decide +kernel : parseMethodDescriptor "()I" = some ⟨[], some .int⟩) rfl rfl rfl at_157 (by decide) (Nat.le_of_ble_eq_true rfl) (by decide) (by decide) (fun T169 h169 v169 S169 K169 q169 => ?_)
      obtain ⟨rfl, rfl⟩ := q169
      show own_F p e below s Z _ _ _ _ _ (T169.setTop (mkF m 160 #[.val (.int p0), .val (.int p1), .val (.int p2), .val (.int p3), .val (.int p4), .val (.int p5), .val (.int (1 : Int32)), .val (.int (1 : Int32)), .val .null, .val (.ref b131), .val (.ref b145), .val (.ref x145), .val (.int (1 : Int32)), .unset] [(.int p1)]))
      refine own_F.of (fun _ => XS.iloadN S169.here S169.hx rfl (S169.dec at_160) rfl) ?_
      show own_F p e below s Z _ _ _ _ _ (T169.setTop (mkF m 161 #[.val (.int p0), .val (.int p1), .val (.int p2), .val (.int p3), .val (.int p4), .val (.int p5), .val (.int (1 : Int32)), .val (.int (1 : Int32)), .val .null, .val (.ref b131), .val (.ref b145), .val (.ref x145), .val (.int (1 : Int32)), .unset] [(.int p1), (.int p1)]))
      refine own_icmp S169 168 at_161 (by decide) (by decide) (fun (hc161_170 : ¬ (p1 = p1)) => False.elim (hc161_170 rfl)) (fun (hc161_170 : p1 = p1) => ?_)
      show own_F p e below s Z _ _ _ _ _ (T169.setTop (mkF m 164 #[.val (.int p0), .val (.int p1), .val (.int p2), .val (.int p3), .val (.int p4), .val (.int p5), .val (.int (1 : Int32)), .val (.int (1 : Int32)), .val .null, .val (.ref b131), .val (.ref b145), .val (.ref x145), .val (.int (1 : Int32)), .unset] []))
      refine own_F.of (fun _ => XS.iconst S169.here S169.hx rfl (S169.dec at_164)) ?_
      show own_F p e below s Z _ _ _ _ _ (T169.setTop (mkF m 165 #[.val (.int p0), .val (.int p1), .val (.int p2), .val (.int p3), .val (.int p4), .val (.int p5), .val (.int (1 : Int32)), .val (.int (1 : Int32)), .val .null, .val (.ref b131), .val (.ref b145), .val (.ref x145), .val (.int (1 : Int32)), .unset] [(.int (1 : Int32))]))
      refine own_F.of (fun _ => XS.goto S169.here S169.hx rfl (pc0 := 165) (pc' := 169) rfl (S169.dec at_165) (by decide) (by decide)) ?_
      show own_F p e below s Z _ _ _ _ _ (T169.setTop (mkF m 169 #[.val (.int p0), .val (.int p1), .val (.int p2), .val (.int p3), .val (.int p4), .val (.int p5), .val (.int (1 : Int32)), .val (.int (1 : Int32)), .val .null, .val (.ref b131), .val (.ref b145), .val (.ref x145), .val (.int (1 : Int32)), .unset] [(.int (1 : Int32))]))
      refine own_F.of (fun _ => XS.istore S169.here S169.hx rfl (S169.dec at_169) rfl (l' := #[.val (.int p0), .val (.int p1), .val (.int p2), .val (.int p3), .val (.int p4), .val (.int p5), .val (.int (1 : Int32)), .val (.int (1 : Int32)), .val .null, .val (.ref b131), .val (.ref b145), .val (.ref x145), .val (.int (1 : Int32)), .unset]) rfl) ?_
      show own_F p e below s Z _ _ _ _ _ (T169.setTop (mkF m 171 #[.val (.int p0), .val (.int p1), .val (.int p2), .val (.int p3), .val (.int p4), .val (.int p5), .val (.int (1 : Int32)), .val (.int (1 : Int32)), .val .null, .val (.ref b131), .val (.ref b145), .val (.ref x145), .val (.int (1 : Int32)), .unset] []))
      refine own_F.of (fun _ => XS.iload S169.here S169.hx rfl (S169.dec at_171) rfl) ?_
      show own_F p e below s Z _ _ _ _ _ (T169.setTop (mkF m 173 #[.val (.int p0), .val (.int p1), .val (.int p2), .val (.int p3), .val (.int p4), .val (.int p5), .val (.int (1 : Int32)), .val (.int (1 : Int32)), .val .null, .val (.ref b131), .val (.ref b145), .val (.ref x145), .val (.int (1 : Int32)), .unset] [(.int (1 : Int32))]))
      refine own_if S169 207 at_173 (by decide) (by decide) (fun (hc173_171 : (1 : Int32) = (0 : Int32)) => False.elim (absurd hc173_171 (by decide))) (fun (hc173_171 : ¬ ((1 : Int32) = (0 : Int32))) => ?_)
      show own_F p e below s Z _ _ _ _ _ (T169.setTop (mkF m 176 #[.val (.int p0), .val (.int p1), .val (.int p2), .val (.int p3), .val (.int p4), .val (.int p5), .val (.int (1 : Int32)), .val (.int (1 : Int32)), .val .null, .val (.ref b131), .val (.ref b145), .val (.ref x145), .val (.int (1 : Int32)), .unset] []))
      refine own_F.of (fun _ => XS.iload S169.here S169.hx rfl (S169.dec at_176) rfl) ?_
      refine own_F.of (fun _ => XS.iconst S169.here S169.hx rfl (S169.dec at_178)) ?_
      show own_F p e below s Z _ _ _ _ _ (T169.setTop (mkF m 179 #[.val (.int p0), .val (.int p1), .val (.int p2), .val (.int p3), .val (.int p4), .val (.int p5), .val (.int (1 : Int32)), .val (.int (1 : Int32)), .val .null, .val (.ref b131), .val (.ref b145), .val (.ref x145), .val (.int (1 : Int32)), .unset] [(.int (1 : Int32)), (.int (1 : Int32))]))
      refine own_icmp S169 207 at_179 (by decide) (by decide) (fun (hc179_172 : ¬ ((1 : Int32) < (1 : Int32))) => ?_) (fun (hc179_172 : (1 : Int32) < (1 : Int32)) => False.elim (absurd hc179_172 (by decide)))
      show own_F p e below s Z _ _ _ _ _ (T169.setTop (mkF m 207 #[.val (.int p0), .val (.int p1), .val (.int p2), .val (.int p3), .val (.int p4), .val (.int p5), .val (.int (1 : Int32)), .val (.int (1 : Int32)), .val .null, .val (.ref b131), .val (.ref b145), .val (.ref x145), .val (.int (1 : Int32)), .unset] []))
      refine own_F.of (fun _ => XS.iload S169.here S169.hx rfl (S169.dec at_207) rfl) ?_
      show own_F p e below s Z _ _ _ _ _ (T169.setTop (mkF m 209 #[.val (.int p0), .val (.int p1), .val (.int p2), .val (.int p3), .val (.int p4), .val (.int p5), .val (.int (1 : Int32)), .val (.int (1 : Int32)), .val .null, .val (.ref b131), .val (.ref b145), .val (.ref x145), .val (.int (1 : Int32)), .unset] [(.int (1 : Int32))]))
      refine own_if S169 243 at_209 (by decide) (by decide) (fun (hc209_173 : (1 : Int32) = (0 : Int32)) => False.elim (absurd hc209_173 (by decide))) (fun (hc209_173 : ¬ ((1 : Int32) = (0 : Int32))) => ?_)
      show own_F p e below s Z _ _ _ _ _ (T169.setTop (mkF m 212 #[.val (.int p0), .val (.int p1), .val (.int p2), .val (.int p3), .val (.int p4), .val (.int p5), .val (.int (1 : Int32)), .val (.int (1 : Int32)), .val .null, .val (.ref b131), .val (.ref b145), .val (.ref x145), .val (.int (1 : Int32)), .unset] []))
      refine own_F.of (fun _ => XS.iload S169.here S169.hx rfl (S169.dec at_212) rfl) ?_
      refine own_F.of (fun _ => XS.iconst S169.here S169.hx rfl (S169.dec at_214)) ?_
      show own_F p e below s Z _ _ _ _ _ (T169.setTop (mkF m 215 #[.val (.int p0), .val (.int p1), .val (.int p2), .val (.int p3), .val (.int p4), .val (.int p5), .val (.int (1 : Int32)), .val (.int (1 : Int32)), .val .null, .val (.ref b131), .val (.ref b145), .val (.ref x145), .val (.int (1 : Int32)), .unset] [(.int (2 : Int32)), (.int (1 : Int32))]))
      refine own_icmp S169 243 at_215 (by decide) (by decide) (fun (hc215_174 : ¬ ((2 : Int32) < (1 : Int32))) => ?_) (fun (hc215_174 : (2 : Int32) < (1 : Int32)) => False.elim (absurd hc215_174 (by decide)))
      show own_F p e below s Z _ _ _ _ _ (T169.setTop (mkF m 243 #[.val (.int p0), .val (.int p1), .val (.int p2), .val (.int p3), .val (.int p4), .val (.int p5), .val (.int (1 : Int32)), .val (.int (1 : Int32)), .val .null, .val (.ref b131), .val (.ref b145), .val (.ref x145), .val (.int (1 : Int32)), .unset] []))
      refine own_F.of (fun _ => XS.aload S169.here S169.hx rfl (S169.dec at_243) rfl rfl) ?_
      show own_F p e below s Z _ _ _ _ _ (T169.setTop (mkF m 245 #[.val (.int p0), .val (.int p1), .val (.int p2), .val (.int p3), .val (.int p4), .val (.int p5), .val (.int (1 : Int32)), .val (.int (1 : Int32)), .val .null, .val (.ref b131), .val (.ref b145), .val (.ref x145), .val (.int (1 : Int32)), .unset] [(.ref b145)]))
      have fq175 := ((Fk145.keep K146 nin0).keep K153 (ninS (ne_exa fq157 (fq150.keep K153) (by decide)) (ninS (ne_exa fq157 V154.exa (by decide)) nin0)))
      refine own_callV S169 (y := (⟨"com/example/tidemark/tidemark/Page", "nextKey", "()Ljava/lang/Object;"⟩ : MethodName)) (y' := (⟨"com/example/tidemark/tidemark/Page", "nextKey", "()Ljava/lang/Object;"⟩ : MethodName)) (own_w hw 134 rfl) (own_w hw 135 rfl) (own_nf S169 (own_w hw 137 rfl)) (own_w hw 137 rfl) (own_w hw 136 rfl) (own_w hw 138 rfl) (own_w hw 35 rfl) (by decide) fq157 (argsL := []) (rest := []) (own_pgK l Z a0 hw b145 .null h153 S169.old rfl fq175) all0 (by decide +kernel : parseMethodDescriptor "()Ljava/lang/Object;" = some ⟨[], some (.object "java/lang/Object")⟩) rfl rfl rfl at_245 (by decide) (Nat.le_of_ble_eq_true rfl) (by decide) (by decide) (fun T176 h176 v176 S176 K176 q176 => ?_)
      obtain ⟨rfl, rfl⟩ := q176
      show own_F p e below s Z _ _ _ _ _ (T176.setTop (mkF m 248 #[.val (.int p0), .val (.int p1), .val (.int p2), .val (.int p3), .val (.int p4), .val (.int p5), .val (.int (1 : Int32)), .val (.int (1 : Int32)), .val .null, .val (.ref b131), .val (.ref b145), .val (.ref x145), .val (.int (1 : Int32)), .unset] [.null]))
      refine own_cast0 S176 at_248 ?_
      show own_F p e below s Z _ _ _ _ _ (T176.setTop (mkF m 251 #[.val (.int p0), .val (.int p1), .val (.int p2), .val (.int p3), .val (.int p4), .val (.int p5), .val (.int (1 : Int32)), .val (.int (1 : Int32)), .val .null, .val (.ref b131), .val (.ref b145), .val (.ref x145), .val (.int (1 : Int32)), .unset] [.null]))
      refine own_F.of (fun _ => XS.astore S176.here S176.hx rfl (S176.dec at_251) rfl rfl (l' := #[.val (.int p0), .val (.int p1), .val (.int p2), .val (.int p3), .val (.int p4), .val (.int p5), .val (.int (1 : Int32)), .val (.int (1 : Int32)), .val .null, .val (.ref b131), .val (.ref b145), .val (.ref x145), .val (.int (1 : Int32)), .val .null]) rfl) ?_
      show own_F p e below s Z _ _ _ _ _ (T176.setTop (mkF m 253 #[.val (.int p0), .val (.int p1), .val (.int p2), .val (.int p3), .val (.int p4), .val (.int p5), .val (.int (1 : Int32)), .val (.int (1 : Int32)), .val .null, .val (.ref b131), .val (.ref b145), .val (.ref x145), .val (.int (1 : Int32)), .val .null] []))
      refine own_F.of (fun _ => XS.iload S176.here S176.hx rfl (S176.dec at_253) rfl) ?_
      show own_F p e below s Z _ _ _ _ _ (T176.setTop (mkF m 255 #[.val (.int p0), .val (.int p1), .val (.int p2), .val (.int p3), .val (.int p4), .val (.int p5), .val (.int (1 : Int32)), .val (.int (1 : Int32)), .val .null, .val (.ref b131), .val (.ref b145), .val (.ref x145), .val (.int (1 : Int32)), .val .null] [(.int (1 : Int32))]))
      refine own_if S176 272 at_255 (by decide) (by decide) (fun (hc255_177 : (1 : Int32) = (0 : Int32)) => False.elim (absurd hc255_177 (by decide))) (fun (hc255_177 : ¬ ((1 : Int32) = (0 : Int32))) => ?_)
      show own_F p e below s Z _ _ _ _ _ (T176.setTop (mkF m 258 #[.val (.int p0), .val (.int p1), .val (.int p2), .val (.int p3), .val (.int p4), .val (.int p5), .val (.int (1 : Int32)), .val (.int (1 : Int32)), .val .null, .val (.ref b131), .val (.ref b145), .val (.ref x145), .val (.int (1 : Int32)), .val .null] []))
      refine own_F.of (fun _ => XS.aload S176.here S176.hx rfl (S176.dec at_258) rfl rfl) ?_
      refine own_F.of (fun _ => XS.aload S176.here S176.hx rfl (S176.dec at_260) rfl rfl) ?_
      show own_F p e below s Z _ _ _ _ _ (T176.setTop (mkF m 262 #[.val (.int p0), .val (.int p1), .val (.int p2), .val (.int p3), .val (.int p4), .val (.int p5), .val (.int (1 : Int32)), .val (.int (1 : Int32)), .val .null, .val (.ref b131), .val (.ref b145), .val (.ref x145), .val (.int (1 : Int32)), .val .null] [.null, .null]))
      refine own_acmp S176 rfl rfl 269 at_262 (by decide) (by decide) (fun (hc262_178 : ¬ (Value.null = Value.null)) => False.elim (hc262_178 rfl)) (fun (hc262_178 : Value.null = Value.null) => ?_)
      show own_F p e below s Z _ _ _ _ _ (T176.setTop (mkF m 265 #[.val (.int p0), .val (.int p1), .val (.int p2), .val (.int p3), .val (.int p4), .val (.int p5), .val (.int (1 : Int32)), .val (.int (1 : Int32)), .val .null, .val (.ref b131), .val (.ref b145), .val (.ref x145), .val (.int (1 : Int32)), .val .null] []))
      refine own_F.of (fun _ => XS.iconst S176.here S176.hx rfl (S176.dec at_265)) ?_
      show own_F p e below s Z _ _ _ _ _ (T176.setTop (mkF m 266 #[.val (.int p0), .val (.int p1), .val (.int p2), .val (.int p3), .val (.int p4), .val (.int p5), .val (.int (1 : Int32)), .val (.int (1 : Int32)), .val .null, .val (.ref b131), .val (.ref b145), .val (.ref x145), .val (.int (1 : Int32)), .val .null] [(.int (1 : Int32))]))
      refine own_F.of (fun _ => XS.goto S176.here S176.hx rfl (pc0 := 266) (pc' := 270) rfl (S176.dec at_266) (by decide) (by decide)) ?_
      show own_F p e below s Z _ _ _ _ _ (T176.setTop (mkF m 270 #[.val (.int p0), .val (.int p1), .val (.int p2), .val (.int p3), .val (.int p4), .val (.int p5), .val (.int (1 : Int32)), .val (.int (1 : Int32)), .val .null, .val (.ref b131), .val (.ref b145), .val (.ref x145), .val (.int (1 : Int32)), .val .null] [(.int (1 : Int32))]))
      refine own_F.of (fun _ => XS.istore S176.here S176.hx rfl (S176.dec at_270) rfl (l' := #[.val (.int p0), .val (.int p1), .val (.int p2), .val (.int p3), .val (.int p4), .val (.int p5), .val (.int (1 : Int32)), .val (.int (1 : Int32)), .val .null, .val (.ref b131), .val (.ref b145), .val (.ref x145), .val (.int (1 : Int32)), .val .null]) rfl) ?_
      show own_F p e below s Z _ _ _ _ _ (T176.setTop (mkF m 272 #[.val (.int p0), .val (.int p1), .val (.int p2), .val (.int p3), .val (.int p4), .val (.int p5), .val (.int (1 : Int32)), .val (.int (1 : Int32)), .val .null, .val (.ref b131), .val (.ref b145), .val (.ref x145), .val (.int (1 : Int32)), .val .null] []))
      refine own_F.of (fun _ => XS.iload S176.here S176.hx rfl (S176.dec at_272) rfl) ?_
      show own_F p e below s Z _ _ _ _ _ (T176.setTop (mkF m 274 #[.val (.int p0), .val (.int p1), .val (.int p2), .val (.int p3), .val (.int p4), .val (.int p5), .val (.int (1 : Int32)), .val (.int (1 : Int32)), .val .null, .val (.ref b131), .val (.ref b145), .val (.ref x145), .val (.int (1 : Int32)), .val .null] [(.int (1 : Int32))]))
      refine own_if S176 304 at_274 (by decide) (by decide) (fun (hc274_179 : (1 : Int32) = (0 : Int32)) => False.elim (absurd hc274_179 (by decide))) (fun (hc274_179 : ¬ ((1 : Int32) = (0 : Int32))) => ?_)
      show own_F p e below s Z _ _ _ _ _ (T176.setTop (mkF m 277 #[.val (.int p0), .val (.int p1), .val (.int p2), .val (.int p3), .val (.int p4), .val (.int p5), .val (.int (1 : Int32)), .val (.int (1 : Int32)), .val .null, .val (.ref b131), .val (.ref b145), .val (.ref x145), .val (.int (1 : Int32)), .val .null] []))
      refine own_F.of (fun _ => XS.iload S176.here S176.hx rfl (S176.dec at_277) rfl) ?_
      show own_F p e below s Z _ _ _ _ _ (T176.setTop (mkF m 279 #[.val (.int p0), .val (.int p1), .val (.int p2), .val (.int p3), .val (.int p4), .val (.int p5), .val (.int (1 : Int32)), .val (.int (1 : Int32)), .val .null, .val (.ref b131), .val (.ref b145), .val (.ref x145), .val (.int (1 : Int32)), .val .null] [(.int (1 : Int32))]))
      refine own_if S176 304 at_279 (by decide) (by decide) (fun (hc279_180 : ¬ ((1 : Int32) = (0 : Int32))) => ?_) (fun (hc279_180 : (1 : Int32) = (0 : Int32)) => False.elim (absurd hc279_180 (by decide)))
      show own_F p e below s Z _ _ _ _ _ (T176.setTop (mkF m 304 #[.val (.int p0), .val (.int p1), .val (.int p2), .val (.int p3), .val (.int p4), .val (.int p5), .val (.int (1 : Int32)), .val (.int (1 : Int32)), .val .null, .val (.ref b131), .val (.ref b145), .val (.ref x145), .val (.int (1 : Int32)), .val .null] []))
      refine own_F.of (fun _ => XS.iload S176.here S176.hx rfl (S176.dec at_304) rfl) ?_
      show own_F p e below s Z _ _ _ _ _ (T176.setTop (mkF m 306 #[.val (.int p0), .val (.int p1), .val (.int p2), .val (.int p3), .val (.int p4), .val (.int p5), .val (.int (1 : Int32)), .val (.int (1 : Int32)), .val .null, .val (.ref b131), .val (.ref b145), .val (.ref x145), .val (.int (1 : Int32)), .val .null] [(.int (1 : Int32))]))
      refine own_retZ S176 (by simp) at_306 (by decide) (by decide) ?_
      rfl
  · rw [hn]
    show own_F p e below s Z _ _ _ _ _ (T0.setTop (mkF m 5 #[.val (.int p0), .val (.int p1), .val (.int p2), .val (.int p3), .val (.int p4), .val (.int p5), .val (.int (2 : Int32)), .unset, .unset, .unset, .unset, .unset, .unset, .unset] []))
    refine own_F.of (fun _ => XS.iload S0.here S0.hx rfl (S0.dec at_5) rfl) ?_
    refine own_F.of (fun _ => XS.iconst S0.here S0.hx rfl (S0.dec at_7)) ?_
    show own_F p e below s Z _ _ _ _ _ (T0.setTop (mkF m 8 #[.val (.int p0), .val (.int p1), .val (.int p2), .val (.int p3), .val (.int p4), .val (.int p5), .val (.int (2 : Int32)), .unset, .unset, .unset, .unset, .unset, .unset, .unset] [(.int (1 : Int32)), (.int p4)]))
    refine own_F.of (fun _ => XS.iand S0.here S0.hx rfl (S0.dec at_8) rfl) ?_
    show own_F p e below s Z _ _ _ _ _ (T0.setTop (mkF m 9 #[.val (.int p0), .val (.int p1), .val (.int p2), .val (.int p3), .val (.int p4), .val (.int p5), .val (.int (2 : Int32)), .unset, .unset, .unset, .unset, .unset, .unset, .unset] [(.int (p4 &&& (1 : Int32)))]))
    refine own_if S0 16 at_9 (by decide) (by decide) (fun (hc9_181 : (p4 &&& (1 : Int32)) = (0 : Int32)) => ?_) (fun (hc9_181 : ¬ ((p4 &&& (1 : Int32)) = (0 : Int32))) => ?_)
    · show own_F p e below s Z _ _ _ _ _ (T0.setTop (mkF m 16 #[.val (.int p0), .val (.int p1), .val (.int p2), .val (.int p3), .val (.int p4), .val (.int p5), .val (.int (2 : Int32)), .unset, .unset, .unset, .unset, .unset, .unset, .unset] []))
      refine own_F.of (fun _ => XS.iconst S0.here S0.hx rfl (S0.dec at_16)) ?_
      show own_F p e below s Z _ _ _ _ _ (T0.setTop (mkF m 17 #[.val (.int p0), .val (.int p1), .val (.int p2), .val (.int p3), .val (.int p4), .val (.int p5), .val (.int (2 : Int32)), .unset, .unset, .unset, .unset, .unset, .unset, .unset] [(.int (0 : Int32))]))
      refine own_F.of (fun _ => XS.istore S0.here S0.hx rfl (S0.dec at_17) rfl (l' := #[.val (.int p0), .val (.int p1), .val (.int p2), .val (.int p3), .val (.int p4), .val (.int p5), .val (.int (2 : Int32)), .val (.int (0 : Int32)), .unset, .unset, .unset, .unset, .unset, .unset]) rfl) ?_
      show own_F p e below s Z _ _ _ _ _ (T0.setTop (mkF m 19 #[.val (.int p0), .val (.int p1), .val (.int p2), .val (.int p3), .val (.int p4), .val (.int p5), .val (.int (2 : Int32)), .val (.int (0 : Int32)), .unset, .unset, .unset, .unset, .unset, .unset] []))
      refine own_F.of (fun _ => XS.iload S0.here S0.hx rfl (S0.dec at_19) rfl) ?_
      show own_F p e below s Z _ _ _ _ _ (T0.setTop (mkF m 21 #[.val (.int p0), .val (.int p1), .val (.int p2), .val (.int p3), .val (.int p4), .val (.int p5), .val (.int (2 : Int32)), .val (.int (0 : Int32)), .unset, .unset, .unset, .unset, .unset, .unset] [(.int (0 : Int32))]))
      refine own_if S0 28 at_21 (by decide) (by decide) (fun (hc21_182 : (0 : Int32) = (0 : Int32)) => ?_) (fun (hc21_182 : ¬ ((0 : Int32) = (0 : Int32))) => False.elim (absurd hc21_182 (by decide)))
      show own_F p e below s Z _ _ _ _ _ (T0.setTop (mkF m 28 #[.val (.int p0), .val (.int p1), .val (.int p2), .val (.int p3), .val (.int p4), .val (.int p5), .val (.int (2 : Int32)), .val (.int (0 : Int32)), .unset, .unset, .unset, .unset, .unset, .unset] []))
      refine own_F.of (fun _ => XS.iload S0.here S0.hx rfl (S0.dec at_28) rfl) ?_
      show own_F p e below s Z _ _ _ _ _ (T0.setTop (mkF m 30 #[.val (.int p0), .val (.int p1), .val (.int p2), .val (.int p3), .val (.int p4), .val (.int p5), .val (.int (2 : Int32)), .val (.int (0 : Int32)), .unset, .unset, .unset, .unset, .unset, .unset] [(.int p5)]))
      refine own_callS S0 (y := (⟨"java/lang/Integer", "valueOf", "(I)Ljava/lang/Integer;"⟩ : MethodName)) (own_w hw 0 rfl) (own_w hw 1 rfl) (own_w hw 2 rfl) (own_w hw 3 rfl) (by decide) (argsL := [(.int p5)]) (rest := []) (own_vOfI l Z a0 hw p5 aCI clCI h0 S0.old SHi SCaI BXI) all0 (by decide +kernel : parseMethodDescriptor "(I)Ljava/lang/Integer;" = some ⟨[.int], some (.object "java/lang/Integer")⟩) rfl rfl rfl at_30 (by decide) (Nat.le_of_ble_eq_true rfl) (by decide) (by decide) (fun T183 h183 v183 S183 K183 q183 => ?_)
      obtain ⟨b183, rfl, X183, F183⟩ := q183
      show own_F p e below s Z _ _ _ _ _ (T183.setTop (mkF m 33 #[.val (.int p0), .val (.int p1), .val (.int p2), .val (.int p3), .val (.int p4), .val (.int p5), .val (.int (2 : Int32)), .val (.int (0 : Int32)), .unset, .unset, .unset, .unset, .unset, .unset] [(.ref b183)]))
      refine own_F.of (fun _ => XS.astore S183.here S183.hx rfl (S183.dec at_33) rfl rfl (l' := #[.val (.int p0), .val (.int p1), .val (.int p2), .val (.int p3), .val (.int p4), .val (.int p5), .val (.int (2 : Int32)), .val (.int (0 : Int32)), .val (.ref b183), .unset, .unset, .unset, .unset, .unset]) rfl) ?_
      show own_F p e below s Z _ _ _ _ _ (T183.setTop (mkF m 35 #[.val (.int p0), .val (.int p1), .val (.int p2), .val (.int p3), .val (.int p4), .val (.int p5), .val (.int (2 : Int32)), .val (.int (0 : Int32)), .val (.ref b183), .unset, .unset, .unset, .unset, .unset] []))
      refine own_new S183 (own_w hw 7 rfl) (own_w hw 8 rfl) (own_w hw 9 rfl) at_35 (by decide) (by decide) (fun T184 h184 b184 g184 S184 E184 A184 D184 => ?_)
      have F184_modCount : Fld Z h184 b184 "java/util/AbstractList" "modCount" "I" (.int (0 : Int32)) := (D184 (Or.inl (own_w hw 29 rfl)) (ty := .int) (by decide))
      have F184_elementData : Fld Z h184 b184 "java/util/ArrayList" "elementData" "[Ljava/lang/Object;" .null := (D184 (Or.inl (own_w hw 32 rfl)) (ty := (.array (.object "java/lang/Object"))) (by decide))
      have F184_size : Fld Z h184 b184 "java/util/ArrayList" "size" "I" (.int (0 : Int32)) := (D184 (Or.inl (own_w hw 63 rfl)) (ty := .int) (by decide))
      show own_F p e below s Z _ _ _ _ _ (T184.setTop (mkF m 38 #[.val (.int p0), .val (.int p1), .val (.int p2), .val (.int p3), .val (.int p4), .val (.int p5), .val (.int (2 : Int32)), .val (.int (0 : Int32)), .val (.ref b183), .unset, .unset, .unset, .unset, .unset] [(.ref b184)]))
      refine own_F.of (fun _ => XS.dup S184.here S184.hx rfl (S184.dec at_38) rfl rfl) ?_
      show own_F p e below s Z _ _ _ _ _ (T184.setTop (mkF m 39 #[.val (.int p0), .val (.int p1), .val (.int p2), .val (.int p3), .val (.int p4), .val (.int p5), .val (.int (2 : Int32)), .val (.int (0 : Int32)), .val (.ref b183), .unset, .unset, .unset, .unset, .unset] [(.ref b184), (.ref b184)]))
      refine own_callI S184 (y := (⟨"java/util/ArrayList", "<init>", "()V"⟩ : MethodName)) rfl (own_w hw 10 rfl) (own_w hw 11 rfl) (own_w hw 9 rfl) (own_w hw 12 rfl) (by decide) (argsL := []) (rest := [(.ref b184)]) (own_ALI l Z a0 hw b184 aD h184 S184.old SD AD (own_mayN S184 (Or.inr (by rw [g184]; exact S183.size))) A184 F184_modCount F184_elementData F184_size) (allS (Or.inr (by rw [g184]; exact S183.size)) all0) (by decide +kernel : parseMethodDescriptor "()V" = some ⟨[], none⟩) rfl rfl rfl at_39 (by decide) (Nat.le_of_ble_eq_true rfl) (by decide) (by decide) (fun T185 h185 v185 S185 K185 q185 => ?_)
      obtain ⟨rfl, Fm185, Fe185, Fs185⟩ := q185
      show own_F p e below s Z _ _ _ _ _ (T185.setTop (mkF m 42 #[.val (.int p0), .val (.int p1), .val (.int p2), .val (.int p3), .val (.int p4), .val (.int p5), .val (.int (2 : Int32)), .val (.int (0 : Int32)), .val (.ref b183), .unset, .unset, .unset, .unset, .unset] [(.ref b184)]))
      refine own_F.of (fun _ => XS.astore S185.here S185.hx rfl (S185.dec at_42) rfl rfl (l' := #[.val (.int p0), .val (.int p1), .val (.int p2), .val (.int p3), .val (.int p4), .val (.int p5), .val (.int (2 : Int32)), .val (.int (0 : Int32)), .val (.ref b183), .val (.ref b184), .unset, .unset, .unset, .unset]) rfl) ?_
      show own_F p e below s Z _ _ _ _ _ (T185.setTop (mkF m 44 #[.val (.int p0), .val (.int p1), .val (.int p2), .val (.int p3), .val (.int p4), .val (.int p5), .val (.int (2 : Int32)), .val (.int (0 : Int32)), .val (.ref b183), .val (.ref b184), .unset, .unset, .unset, .unset] []))
      refine own_F.of (fun _ => XS.iload S185.here S185.hx rfl (S185.dec at_44) rfl) ?_
      show own_F p e below s Z _ _ _ _ _ (T185.setTop (mkF m 46 #[.val (.int p0), .val (.int p1), .val (.int p2), .val (.int p3), .val (.int p4), .val (.int p5), .val (.int (2 : Int32)), .val (.int (0 : Int32)), .val (.ref b183), .val (.ref b184), .unset, .unset, .unset, .unset] [(.int (2 : Int32))]))
      refine own_if S185 59 at_46 (by decide) (by decide) (fun (hc46_186 : ¬ ((0 : Int32) < (2 : Int32))) => False.elim (absurd hc46_186 (by decide))) (fun (hc46_186 : (0 : Int32) < (2 : Int32)) => ?_)
      show own_F p e below s Z _ _ _ _ _ (T185.setTop (mkF m 49 #[.val (.int p0), .val (.int p1), .val (.int p2), .val (.int p3), .val (.int p4), .val (.int p5), .val (.int (2 : Int32)), .val (.int (0 : Int32)), .val (.ref b183), .val (.ref b184), .unset, .unset, .unset, .unset] []))
      refine own_F.of (fun _ => XS.aload S185.here S185.hx rfl (S185.dec at_49) rfl rfl) ?_
      refine own_F.of (fun _ => XS.iloadN S185.here S185.hx rfl (S185.dec at_51) rfl) ?_
      show own_F p e below s Z _ _ _ _ _ (T185.setTop (mkF m 52 #[.val (.int p0), .val (.int p1), .val (.int p2), .val (.int p3), .val (.int p4), .val (.int p5), .val (.int (2 : Int32)), .val (.int (0 : Int32)), .val (.ref b183), .val (.ref b184), .unset, .unset, .unset, .unset] [(.int p1), (.ref b184)]))
      refine own_callS S185 (y := (⟨"java/lang/Integer", "valueOf", "(I)Ljava/lang/Integer;"⟩ : MethodName)) (own_w hw 0 rfl) (own_w hw 1 rfl) (own_w hw 2 rfl) (own_w hw 3 rfl) (by decide) (argsL := [(.int p1)]) (rest := [(.ref b184)]) (own_vOfI l Z a0 hw p1 aCI clCI h185 S185.old SHi SCaI BXI) all0 (by decide +kernel : parseMethodDescriptor "(I)Ljava/lang/Integer;" = some ⟨[.int], some (.object "java/lang/Integer")⟩) rfl rfl rfl at_52 (by decide) (Nat.le_of_ble_eq_true rfl) (by decide) (by decide) (fun T187 h187 v187 S187 K187 q187 => ?_)
      obtain ⟨b187, rfl, X187, F187⟩ := q187
      show own_F p e below s Z _ _ _ _ _ (T187.setTop (mkF m 55 #[.val (.int p0), .val (.int p1), .val (.int p2), .val (.int p3), .val (.int p4), .val (.int p5), .val (.int (2 : Int32)), .val (.int (0 : Int32)), .val (.ref b183), .val (.ref b184), .unset, .unset, .unset, .unset] [(.ref b187), (.ref b184)]))
      have fq188 := (Fe185.keep K187 nin0)
      have fq189 := (Fs185.keep K187 nin0)
      have fq190 := (Fm185.keep K187 nin0)
      have fq191 := ((A184.keep K185).keep K187)
      refine own_callV S187 (y := (⟨"java/util/ArrayList", "add", "(Ljava/lang/Object;)Z"⟩ : MethodName)) (y' := (⟨"java/util/ArrayList", "add", "(Ljava/lang/Object;)Z"⟩ : MethodName)) (own_w hw 89 rfl) (own_w hw 90 rfl) (own_nf S187 (own_w hw 92 rfl)) (own_w hw 92 rfl) (own_w hw 91 rfl) (own_w hw 93 rfl) (own_w hw 9 rfl) (by decide) fq191 (argsL := [(.ref b187)]) (rest := []) (own_add_0 l Z a0 hw b184 b187 aD (0 : Int32) h187 S187.old SD AD (own_mayN S187 (Or.inr (by rw [g184]; exact S183.size))) fq191 fq188 fq189 fq190 X187) (allS (Or.inr (by rw [g184]; exact S183.size)) all0) (by decide +kernel : parseMethodDescriptor "(Ljava/lang/Object;)Z" = some ⟨[(.object "java/lang/Object")], some .boolean⟩) rfl rfl rfl at_55 (by decide) (Nat.le_of_ble_eq_true rfl) (by decide) (by decide) (fun T192 h192 v192 S192 K192 q192 => ?_)
      obtain ⟨rfl, b192, g192, A192, Fe192, Fs192, Fm192⟩ := q192
      have V193 : own_AO Z h192 b192 [(.ref b187), .null, .null, .null, .null, .null, .null, .null, .null, .null] := A192
      show own_F p e below s Z _ _ _ _ _ (T192.setTop (mkF m 58 #[.val (.int p0), .val (.int p1), .val (.int p2), .val (.int p3), .val (.int p4), .val (.int p5), .val (.int (2 : Int32)), .val (.int (0 : Int32)), .val (.ref b183), .val (.ref b184), .unset, .unset, .unset, .unset] [(.int (1 : Int32))]))
      refine own_F.of (fun _ => XS.pop S192.here S192.hx rfl (S192.dec at_58) rfl rfl) ?_
      refine own_F.of (fun _ => XS.iload S192.here S192.hx rfl (S192.dec at_59) rfl) ?_
      refine own_F.of (fun _ => XS.iconst S192.here S192.hx rfl (S192.dec at_61)) ?_
      show own_F p e below s Z _ _ _ _ _ (T192.setTop (mkF m 62 #[.val (.int p0), .val (.int p1), .val (.int p2), .val (.int p3), .val (.int p4), .val (.int p5), .val (.int (2 : Int32)), .val (.int (0 : Int32)), .val (.ref b183), .val (.ref b184), .unset, .unset, .unset, .unset] [(.int (1 : Int32)), (.int (2 : Int32))]))
      refine own_icmp S192 75 at_62 (by decide) (by decide) (fun (hc62_194 : ¬ ((1 : Int32) < (2 : Int32))) => False.elim (absurd hc62_194 (by decide))) (fun (hc62_194 : (1 : Int32) < (2 : Int32)) => ?_)
      show own_F p e below s Z _ _ _ _ _ (T192.setTop (mkF m 65 #[.val (.int p0), .val (.int p1), .val (.int p2), .val (.int p3), .val (.int p4), .val (.int p5), .val (.int (2 : Int32)), .val (.int (0 : Int32)), .val (.ref b183), .val (.ref b184), .unset, .unset, .unset, .unset] []))
      refine own_F.of (fun _ => XS.aload S192.here S192.hx rfl (S192.dec at_65) rfl rfl) ?_
      refine own_F.of (fun _ => XS.iloadN S192.here S192.hx rfl (S192.dec at_67) rfl) ?_
      show own_F p e below s Z _ _ _ _ _ (T192.setTop (mkF m 68 #[.val (.int p0), .val (.int p1), .val (.int p2), .val (.int p3), .val (.int p4), .val (.int p5), .val (.int (2 : Int32)), .val (.int (0 : Int32)), .val (.ref b183), .val (.ref b184), .unset, .unset, .unset, .unset] [(.int p2), (.ref b184)]))
      refine own_callS S192 (y := (⟨"java/lang/Integer", "valueOf", "(I)Ljava/lang/Integer;"⟩ : MethodName)) (own_w hw 0 rfl) (own_w hw 1 rfl) (own_w hw 2 rfl) (own_w hw 3 rfl) (by decide) (argsL := [(.int p2)]) (rest := [(.ref b184)]) (own_vOfI l Z a0 hw p2 aCI clCI h192 S192.old SHi SCaI BXI) all0 (by decide +kernel : parseMethodDescriptor "(I)Ljava/lang/Integer;" = some ⟨[.int], some (.object "java/lang/Integer")⟩) rfl rfl rfl at_68 (by decide) (Nat.le_of_ble_eq_true rfl) (by decide) (by decide) (fun T195 h195 v195 S195 K195 q195 => ?_)
      obtain ⟨b195, rfl, X195, F195⟩ := q195
      show own_F p e below s Z _ _ _ _ _ (T195.setTop (mkF m 71 #[.val (.int p0), .val (.int p1), .val (.int p2), .val (.int p3), .val (.int p4), .val (.int p5), .val (.int (2 : Int32)), .val (.int (0 : Int32)), .val (.ref b183), .val (.ref b184), .unset, .unset, .unset, .unset] [(.ref b195), (.ref b184)]))
      have fq196 := (Fe192.keep K195 nin0)
      have fq197 := (Fs192.keep K195 nin0)
      have fq198 := (Fm192.keep K195 nin0)
      have fq199 := ((fq191.keep K192).keep K195)
      have fq200 := (V193.keep K195 nin0)
      have fq201 := ((X187.keep K192).keep K195)
      refine own_callV S195 (y := (⟨"java/util/ArrayList", "add", "(Ljava/lang/Object;)Z"⟩ : MethodName)) (y' := (⟨"java/util/ArrayList", "add", "(Ljava/lang/Object;)Z"⟩ : MethodName)) (own_w hw 89 rfl) (own_w hw 90 rfl) (own_nf S195 (own_w hw 92 rfl)) (own_w hw 92 rfl) (own_w hw 91 rfl) (own_w hw 93 rfl) (own_w hw 9 rfl) (by decide) fq199 (argsL := [(.ref b195)]) (rest := []) (own_add_1 l Z a0 hw b184 b192 b187 b195 ((0 : Int32) + (1 : Int32)) h195 S195.old (own_mayN S195 (Or.inr (by rw [g184]; exact S183.size))) fq199 (own_mayN S195 (Or.inr (Nat.le_trans S187.size g192))) fq200 fq196 fq197 fq198 fq201 X195) (allS (Or.inr (by rw [g184]; exact S183.size)) (allS (Or.inr (Nat.le_trans S187.size g192)) all0)) (by decide +kernel : parseMethodDescriptor "(Ljava/lang/Object;)Z" = some ⟨[(.object "java/lang/Object")], some .boolean⟩) rfl rfl rfl at_71 (by decide) (Nat.le_of_ble_eq_true rfl) (by decide) (by decide) (fun T202 h202 v202 S202 K202 q202 => ?_)
      obtain ⟨rfl, A202, Fe202, Fs202, Fm202⟩ := q202
      have V203 : own_AO Z h202 b192 [(.ref b187), (.ref b195), .null, .null, .null, .null, .null, .null, .null, .null] := A202
      show own_F p e below s Z _ _ _ _ _ (T202.setTop (mkF m 74 #[.val (.int p0), .val (.int p1), .val (.int p2), .val (.int p3), .val (.int p4), .val (.int p5), .val (.int (2 : Int32)), .val (.int (0 : Int32)), .val (.ref b183), .val (.ref b184), .unset, .unset, .unset, .unset] [(.int (1 : Int32))]))
      refine own_F.of (fun _ => XS.pop S202.here S202.hx rfl (S202.dec at_74) rfl rfl) ?_
      refine own_F.of (fun _ => XS.iload S202.here S202.hx rfl (S202.dec at_75) rfl) ?_
      refine own_F.of (fun _ => XS.iconst S202.here S202.hx rfl (S202.dec at_77)) ?_
      show own_F p e below s Z _ _ _ _ _ (T202.setTop (mkF m 78 #[.val (.int p0), .val (.int p1), .val (.int p2), .val (.int p3), .val (.int p4), .val (.int p5), .val (.int (2 : Int32)), .val (.int (0 : Int32)), .val (.ref b183), .val (.ref b184), .unset, .unset, .unset, .unset] [(.int (2 : Int32)), (.int (2 : Int32))]))
      refine own_icmp S202 91 at_78 (by decide) (by decide) (fun (hc78_204 : ¬ ((2 : Int32) < (2 : Int32))) => ?_) (fun (hc78_204 : (2 : Int32) < (2 : Int32)) => False.elim (absurd hc78_204 (by decide)))
      show own_F p e below s Z _ _ _ _ _ (T202.setTop (mkF m 91 #[.val (.int p0), .val (.int p1), .val (.int p2), .val (.int p3), .val (.int p4), .val (.int p5), .val (.int (2 : Int32)), .val (.int (0 : Int32)), .val (.ref b183), .val (.ref b184), .unset, .unset, .unset, .unset] []))
      refine own_F.of (fun _ => XS.aload S202.here S202.hx rfl (S202.dec at_91) rfl rfl) ?_
      refine own_F.of (fun _ => XS.aload S202.here S202.hx rfl (S202.dec at_93) rfl rfl) ?_
      show own_F p e below s Z _ _ _ _ _ (T202.setTop (mkF m 95 #[.val (.int p0), .val (.int p1), .val (.int p2), .val (.int p3), .val (.int p4), .val (.int p5), .val (.int (2 : Int32)), .val (.int (0 : Int32)), .val (.ref b183), .val (.ref b184), .unset, .unset, .unset, .unset] [(.ref b183), (.ref b184)]))
      have fq205 := (fq199.keep K202)
      have fq206 := (fq201.keep K202)
      have fq207 := (X195.keep K202)
      refine own_callS S202 (y := (⟨"com/example/tidemark/tidemark/Page", "of", "(Ljava/util/List;Ljava/lang/Object;)Lcom/example/tidemark/tidemark/Page;"⟩ : MethodName)) (own_w hw 33 rfl) (own_w hw 34 rfl) (own_w hw 35 rfl) (own_w hw 36 rfl) (by decide) (argsL := [(.ref b184), (.ref b183)]) (rest := []) (own_pof2 l Z a0 hw b184 (.ref b183) b192 b187 b195 aM mO h202 S202.old rfl SM MO fq205 Fs202 Fe202 V203 fq206 fq207) all0 (by decide +kernel : parseMethodDescriptor "(Ljava/util/List;Ljava/lang/Object;)Lcom/example/tidemark/tidemark/Page;" = some ⟨[(.object "java/util/List"), (.object "java/lang/Object")], some (.object "com/example/tidemark/tidemark/Page")⟩) rfl rfl rfl at_95 (by decide) (Nat.le_of_ble_eq_true rfl) (by decide) (by decide) (fun T208 h208 v208 S208 K208 q208 => ?_)
      obtain ⟨b208, rfl, E208, x208, Fi208, Fk208, X208, P208, R208⟩ := q208
      show own_F p e below s Z _ _ _ _ _ (T208.setTop (mkF m 98 #[.val (.int p0), .val (.int p1), .val (.int p2), .val (.int p3), .val (.int p4), .val (.int p5), .val (.int (2 : Int32)), .val (.int (0 : Int32)), .val (.ref b183), .val (.ref b184), .unset, .unset, .unset, .unset] [(.ref b208)]))
      refine own_F.of (fun _ => XS.astore S208.here S208.hx rfl (S208.dec at_98) rfl rfl (l' := #[.val (.int p0), .val (.int p1), .val (.int p2), .val (.int p3), .val (.int p4), .val (.int p5), .val (.int (2 : Int32)), .val (.int (0 : Int32)), .val (.ref b183), .val (.ref b184), .val (.ref b208), .unset, .unset, .unset]) rfl) ?_
      show own_F p e below s Z _ _ _ _ _ (T208.setTop (mkF m 100 #[.val (.int p0), .val (.int p1), .val (.int p2), .val (.int p3), .val (.int p4), .val (.int p5), .val (.int (2 : Int32)), .val (.int (0 : Int32)), .val (.ref b183), .val (.ref b184), .val (.ref b208), .unset, .unset, .unset] []))
      refine own_F.of (fun _ => XS.aload S208.here S208.hx rfl (S208.dec at_100) rfl rfl) ?_
      refine own_F.of (fun _ => XS.iloadN S208.here S208.hx rfl (S208.dec at_102) rfl) ?_
      show own_F p e below s Z _ _ _ _ _ (T208.setTop (mkF m 103 #[.val (.int p0), .val (.int p1), .val (.int p2), .val (.int p3), .val (.int p4), .val (.int p5), .val (.int (2 : Int32)), .val (.int (0 : Int32)), .val (.ref b183), .val (.ref b184), .val (.ref b208), .unset, .unset, .unset] [(.int p3), (.ref b184)]))
      refine own_callS S208 (y := (⟨"java/lang/Integer", "valueOf", "(I)Ljava/lang/Integer;"⟩ : MethodName)) (own_w hw 0 rfl) (own_w hw 1 rfl) (own_w hw 2 rfl) (own_w hw 3 rfl) (by decide) (argsL := [(.int p3)]) (rest := [(.ref b184)]) (own_vOfI l Z a0 hw p3 aCI clCI h208 S208.old SHi SCaI BXI) all0 (by decide +kernel : parseMethodDescriptor "(I)Ljava/lang/Integer;" = some ⟨[.int], some (.object "java/lang/Integer")⟩) rfl rfl rfl at_103 (by decide) (Nat.le_of_ble_eq_true rfl) (by decide) (by decide) (fun T209 h209 v209 S209 K209 q209 => ?_)
      obtain ⟨b209, rfl, X209, F209⟩ := q209
      show own_F p e below s Z _ _ _ _ _ (T209.setTop (mkF m 106 #[.val (.int p0), .val (.int p1), .val (.int p2), .val (.int p3), .val (.int p4), .val (.int p5), .val (.int (2 : Int32)), .val (.int (0 : Int32)), .val (.ref b183), .val (.ref b184), .val (.ref b208), .unset, .unset, .unset] [(.ref b209), (.ref b184)]))
      have fq210 := ((Fe202.keep K208 nin0).keep K209 nin0)
      have fq211 := ((Fs202.keep K208 nin0).keep K209 nin0)
      have fq212 := ((Fm202.keep K208 nin0).keep K209 nin0)
      have fq213 := ((fq205.keep K208).keep K209)
      have fq214 := ((V203.keep K208 nin0).keep K209 nin0)
      have fq215 := ((fq206.keep K208).keep K209)
      have fq216 := ((fq207.keep K208).keep K209)
      refine own_callV S209 (y := (⟨"java/util/ArrayList", "add", "(Ljava/lang/Object;)Z"⟩ : MethodName)) (y' := (⟨"java/util/ArrayList", "add", "(Ljava/lang/Object;)Z"⟩ : MethodName)) (own_w hw 89 rfl) (own_w hw 90 rfl) (own_nf S209 (own_w hw 92 rfl)) (own_w hw 92 rfl) (own_w hw 91 rfl) (own_w hw 93 rfl) (own_w hw 9 rfl) (by decide) fq213 (argsL := [(.ref b209)]) (rest := []) (own_add_2 l Z a0 hw b184 b192 b187 b195 b209 (((0 : Int32) + (1 : Int32)) + (1 : Int32)) h209 S209.old (own_mayN S209 (Or.inr (by rw [g184]; exact S183.size))) fq213 (own_mayN S209 (Or.inr (Nat.le_trans S187.size g192))) fq214 fq210 fq211 fq212 fq215 fq216 X209) (allS (Or.inr (by rw [g184]; exact S183.size)) (allS (Or.inr (Nat.le_trans S187.size g192)) all0)) (by decide +kernel : parseMethodDescriptor "(Ljava/lang/Object;)Z" = some ⟨[(.object "java/lang/Object")], some .boolean⟩) rfl rfl rfl at_106 (by decide) (Nat.le_of_ble_eq_true rfl) (by decide) (by decide) (fun T217 h217 v217 S217 K217 q217 => ?_)
      obtain ⟨rfl, A217, Fe217, Fs217, Fm217⟩ := q217
      have V218 : own_AO Z h217 b192 [(.ref b187), (.ref b195), (.ref b209), .null, .null, .null, .null, .null, .null, .null] := A217
      show own_F p e below s Z _ _ _ _ _ (T217.setTop (mkF m 109 #[.val (.int p0), .val (.int p1), .val (.int p2), .val (.int p3), .val (.int p4), .val (.int p5), .val (.int (2 : Int32)), .val (.int (0 : Int32)), .val (.ref b183), .val (.ref b184), .val (.ref b208), .unset, .unset, .unset] [(.int (1 : Int32))]))
      refine own_F.of (fun _ => XS.pop S217.here S217.hx rfl (S217.dec at_109) rfl rfl) ?_
      refine own_F.of (fun _ => XS.aload S217.here S217.hx rfl (S217.dec at_110) rfl rfl) ?_
      show own_F p e below s Z _ _ _ _ _ (T217.setTop (mkF m 112 #[.val (.int p0), .val (.int p1), .val (.int p2), .val (.int p3), .val (.int p4), .val (.int p5), .val (.int (2 : Int32)), .val (.int (0 : Int32)), .val (.ref b183), .val (.ref b184), .val (.ref b208), .unset, .unset, .unset] [(.ref b208)]))
      have fq219 := ((Fi208.keep K209 nin0).keep K217 (ninS (ne_exa (E208.keep K209) fq213 (by decide)) (ninS (ne_exa ((E208.keep K209).keep K217) V218.exa (by decide)) nin0)))
      have fq221 := ((E208.keep K209).keep K217)
      refine own_callV S217 (y := (⟨"com/example/tidemark/tidemark/Page", "items", "()Ljava/util/List;"⟩ : MethodName)) (y' := (⟨"com/example/tidemark/tidemark/Page", "items", "()Ljava/util/List;"⟩ : MethodName)) (own_w hw 118 rfl) (own_w hw 119 rfl) (own_nf S217 (own_w hw 121 rfl)) (own_w hw 121 rfl) (own_w hw 120 rfl) (own_w hw 122 rfl) (own_w hw 35 rfl) (by decide) fq221 (argsL := []) (rest := []) (own_pgI l Z a0 hw b208 (.ref x208) h217 S217.old rfl fq219) all0 (by decide +kernel : parseMethodDescriptor "()Ljava/util/List;" = some ⟨[], some (.object "java/util/List")⟩) rfl rfl rfl at_112 (by decide) (Nat.le_of_ble_eq_true rfl) (by decide) (by decide) (fun T220 h220 v220 S220 K220 q220 => ?_)
      obtain ⟨rfl, rfl⟩ := q220
      show own_F p e below s Z _ _ _ _ _ (T220.setTop (mkF m 115 #[.val (.int p0), .val (.int p1), .val (.int p2), .val (.int p3), .val (.int p4), .val (.int p5), .val (.int (2 : Int32)), .val (.int (0 : Int32)), .val (.ref b183), .val (.ref b184), .val (.ref b208), .unset, .unset, .unset] [(.ref x208)]))
      refine own_F.of (fun _ => XS.astore S220.here S220.hx rfl (S220.dec at_115) rfl rfl (l' := #[.val (.int p0), .val (.int p1), .val (.int p2), .val (.int p3), .val (.int p4), .val (.int p5), .val (.int (2 : Int32)), .val (.int (0 : Int32)), .val (.ref b183), .val (.ref b184), .val (.ref b208), .val (.ref x208), .unset, .unset]) rfl) ?_
      show own_F p e below s Z _ _ _ _ _ (T220.setTop (mkF m 117 #[.val (.int p0), .val (.int p1), .val (.int p2), .val (.int p3), .val (.int p4), .val (.int p5), .val (.int (2 : Int32)), .val (.int (0 : Int32)), .val (.ref b183), .val (.ref b184), .val (.ref b208), .val (.ref x208), .unset, .unset] []))
      refine own_F.of (fun _ => XS.aload S220.here S220.hx rfl (S220.dec at_117) rfl rfl) ?_
      show own_F p e below s Z _ _ _ _ _ (T220.setTop (mkF m 119 #[.val (.int p0), .val (.int p1), .val (.int p2), .val (.int p3), .val (.int p4), .val (.int p5), .val (.int (2 : Int32)), .val (.int (0 : Int32)), .val (.ref b183), .val (.ref b184), .val (.ref b208), .val (.ref x208), .unset, .unset] [(.ref x208)]))
      have fq222 := ((R208.keep K209 nin0).keep K217 (ninS (ne_exa (X208.keep K209) fq213 (by decide)) (ninS (ne_exa ((X208.keep K209).keep K217) V218.exa (by decide)) nin0)))
      have fq223 := (fq216.keep K217)
      have fq225 := ((X208.keep K209).keep K217)
      refine own_callX S220 (y := (⟨"java/util/List", "size", "()I"⟩ : MethodName)) (y' := (⟨"java/util/ImmutableCollections$List12", "size", "()I"⟩ : MethodName)) (own_w hw 123 rfl) (own_w hw 124 rfl) (own_w hw 125 rfl) (own_w hw 224 rfl) (own_w hw 225 rfl) (own_w hw 226 rfl) (own_w hw 227 rfl) (own_w hw 211 rfl) (own_w hw 228 rfl) (own_w hw 183 rfl) (by decide) fq225 (argsL := []) (rest := []) (own_szT2 l Z a0 hw x208 b195 aM h217 S220.old SM fq222 (ne_exa fq223 (XM.ext S220.old) (by decide))) all0 (by decide +kernel : parseMethodDescriptor "()I" = some ⟨[], some .int⟩) rfl rfl rfl at_119 (by decide) (Nat.le_of_ble_eq_true rfl) (by decide) (by decide) (fun T224 h224 v224 S224 K224 q224 => ?_)
      obtain ⟨rfl, rfl⟩ := q224
      show own_F p e below s Z _ _ _ _ _ (T224.setTop (mkF m 124 #[.val (.int p0), .val (.int p1), .val (.int p2), .val (.int p3), .val (.int p4), .val (.int p5), .val (.int (2 : Int32)), .val (.int (0 : Int32)), .val (.ref b183), .val (.ref b184), .val (.ref b208), .val (.ref x208), .unset, .unset] [(.int (2 : Int32))]))
      refine own_F.of (fun _ => XS.iload S224.here S224.hx rfl (S224.dec at_124) rfl) ?_
      show own_F p e below s Z _ _ _ _ _ (T224.setTop (mkF m 126 #[.val (.int p0), .val (.int p1), .val (.int p2), .val (.int p3), .val (.int p4), .val (.int p5), .val (.int (2 : Int32)), .val (.int (0 : Int32)), .val (.ref b183), .val (.ref b184), .val (.ref b208), .val (.ref x208), .unset, .unset] [(.int (2 : Int32)), (.int (2 : Int32))]))
      refine own_icmp S224 133 at_126 (by decide) (by decide) (fun (hc126_226 : ¬ ((2 : Int32) = (2 : Int32))) => False.elim (absurd hc126_226 (by decide))) (fun (hc126_226 : (2 : Int32) = (2 : Int32)) => ?_)
      show own_F p e below s Z _ _ _ _ _ (T224.setTop (mkF m 129 #[.val (.int p0), .val (.int p1), .val (.int p2), .val (.int p3), .val (.int p4), .val (.int p5), .val (.int (2 : Int32)), .val (.int (0 : Int32)), .val (.ref b183), .val (.ref b184), .val (.ref b208), .val (.ref x208), .unset, .unset] []))
      refine own_F.of (fun _ => XS.iconst S224.here S224.hx rfl (S224.dec at_129)) ?_
      show own_F p e below s Z _ _ _ _ _ (T224.setTop (mkF m 130 #[.val (.int p0), .val (.int p1), .val (.int p2), .val (.int p3), .val (.int p4), .val (.int p5), .val (.int (2 : Int32)), .val (.int (0 : Int32)), .val (.ref b183), .val (.ref b184), .val (.ref b208), .val (.ref x208), .unset, .unset] [(.int (1 : Int32))]))
      refine own_F.of (fun _ => XS.goto S224.here S224.hx rfl (pc0 := 130) (pc' := 134) rfl (S224.dec at_130) (by decide) (by decide)) ?_
      show own_F p e below s Z _ _ _ _ _ (T224.setTop (mkF m 134 #[.val (.int p0), .val (.int p1), .val (.int p2), .val (.int p3), .val (.int p4), .val (.int p5), .val (.int (2 : Int32)), .val (.int (0 : Int32)), .val (.ref b183), .val (.ref b184), .val (.ref b208), .val (.ref x208), .unset, .unset] [(.int (1 : Int32))]))
      refine own_F.of (fun _ => XS.istore S224.here S224.hx rfl (S224.dec at_134) rfl (l' := #[.val (.int p0), .val (.int p1), .val (.int p2), .val (.int p3), .val (.int p4), .val (.int p5), .val (.int (2 : Int32)), .val (.int (0 : Int32)), .val (.ref b183), .val (.ref b184), .val (.ref b208), .val (.ref x208), .val (.int (1 : Int32)), .unset]) rfl) ?_
      show own_F p e below s Z _ _ _ _ _ (T224.setTop (mkF m 136 #[.val (.int p0), .val (.int p1), .val (.int p2), .val (.int p3), .val (.int p4), .val (.int p5), .val (.int (2 : Int32)), .val (.int (0 : Int32)), .val (.ref b183), .val (.ref b184), .val (.ref b208), .val (.ref x208), .val (.int (1 : Int32)), .unset] []))
      refine own_F.of (fun _ => XS.iload S224.here S224.hx rfl (S224.dec at_136) rfl) ?_
      show own_F p e below s Z _ _ _ _ _ (T224.setTop (mkF m 138 #[.val (.int p0), .val (.int p1), .val (.int p2), .val (.int p3), .val (.int p4), .val (.int p5), .val (.int (2 : Int32)), .val (.int (0 : Int32)), .val (.ref b183), .val (.ref b184), .val (.ref b208), .val (.ref x208), .val (.int (1 : Int32)), .unset] [(.int (1 : Int32))]))
      refine own_if S224 171 at_138 (by decide) (by decide) (fun (hc138_227 : (1 : Int32) = (0 : Int32)) => False.elim (absurd hc138_227 (by decide))) (fun (hc138_227 : ¬ ((1 : Int32) = (0 : Int32))) => ?_)
      show own_F p e below s Z _ _ _ _ _ (T224.setTop (mkF m 141 #[.val (.int p0), .val (.int p1), .val (.int p2), .val (.int p3), .val (.int p4), .val (.int p5), .val (.int (2 : Int32)), .val (.int (0 : Int32)), .val (.ref b183), .val (.ref b184), .val (.ref b208), .val (.ref x208), .val (.int (1 : Int32)), .unset] []))
      refine own_F.of (fun _ => XS.iload S224.here S224.hx rfl (S224.dec at_141) rfl) ?_
      show own_F p e below s Z _ _ _ _ _ (T224.setTop (mkF m 143 #[.val (.int p0), .val (.int p1), .val (.int p2), .val (.int p3), .val (.int p4), .val (.int p5), .val (.int (2 : Int32)), .val (.int (0 : Int32)), .val (.ref b183), .val (.ref b184), .val (.ref b208), .val (.ref x208), .val (.int (1 : Int32)), .unset] [(.int (2 : Int32))]))
      refine own_if S224 171 at_143 (by decide) (by decide) (fun (hc143_228 : ¬ ((0 : Int32) < (2 : Int32))) => False.elim (absurd hc143_228 (by decide))) (fun (hc143_228 : (0 : Int32) < (2 : Int32)) => ?_)
      show own_F p e below s Z _ _ _ _ _ (T224.setTop (mkF m 146 #[.val (.int p0), .val (.int p1), .val (.int p2), .val (.int p3), .val (.int p4), .val (.int p5), .val (.int (2 : Int32)), .val (.int (0 : Int32)), .val (.ref b183), .val (.ref b184), .val (.ref b208), .val (.ref x208), .val (.int (1 : Int32)), .unset] []))
      refine own_F.of (fun _ => XS.aload S224.here S224.hx rfl (S224.dec at_146) rfl rfl) ?_
      refine own_F.of (fun _ => XS.iconst S224.here S224.hx rfl (S224.dec at_148)) ?_
      show own_F p e below s Z _ _ _ _ _ (T224.setTop (mkF m 149 #[.val (.int p0), .val (.int p1), .val (.int p2), .val (.int p3), .val (.int p4), .val (.int p5), .val (.int (2 : Int32)), .val (.int (0 : Int32)), .val (.ref b183), .val (.ref b184), .val (.ref b208), .val (.ref x208), .val (.int (1 : Int32)), .unset] [(.int (0 : Int32)), (.ref x208)]))
      have fq229 := ((P208.keep K209 nin0).keep K217 (ninS (ne_exa fq225 (fq213.keep K217) (by decide)) (ninS (ne_exa fq225 V218.exa (by decide)) nin0)))
      refine own_callX S224 (y := (⟨"java/util/List", "get", "(I)Ljava/lang/Object;"⟩ : MethodName)) (y' := (⟨"java/util/ImmutableCollections$List12", "get", "(I)Ljava/lang/Object;"⟩ : MethodName)) (own_w hw 229 rfl) (own_w hw 230 rfl) (own_w hw 231 rfl) (own_w hw 232 rfl) (own_w hw 233 rfl) (own_w hw 234 rfl) (own_w hw 235 rfl) (own_w hw 211 rfl) (own_w hw 236 rfl) (own_w hw 183 rfl) (by decide) fq225 (argsL := [(.int (0 : Int32))]) (rest := []) (own_gtT_0 l Z a0 hw x208 b187 b195 h217 S224.old fq229 fq222) all0 (by decide +kernel : parseMethodDescriptor "(I)Ljava/lang/Object;" = some ⟨[.int], some (.object "java/lang/Object")⟩) rfl rfl rfl at_149 (by decide) (Nat.le_of_ble_eq_true rfl) (by decide) (by decide) (fun T230 h230 v230 S230 K230 q230 => ?_)
      obtain ⟨rfl, rfl⟩ := q230
      show own_F p e below s Z _ _ _ _ _ (T230.setTop (mkF m 154 #[.val (.int p0), .val (.int p1), .val (.int p2), .val (.int p3), .val (.int p4), .val (.int p5), .val (.int (2 : Int32)), .val (.int (0 : Int32)), .val (.ref b183), .val (.ref b184), .val (.ref b208), .val (.ref x208), .val (.int (1 : Int32)), .unset] [(.ref b187)]))
      have fq232 := (fq215.keep K217)
      refine own_cast S230 (own_w hw 139 rfl) (Ins.self fq232) at_154 (fun T231 S231 => ?_)
      show own_F p e below s Z _ _ _ _ _ (T231.setTop (mkF m 157 #[.val (.int p0), .val (.int p1), .val (.int p2), .val (.int p3), .val (.int p4), .val (.int p5), .val (.int (2 : Int32)), .val (.int (0 : Int32)), .val (.ref b183), .val (.ref b184), .val (.ref b208), .val (.ref x208), .val (.int (1 : Int32)), .unset] [(.ref b187)]))
      have fq233 := ((((((F187.keep K192 (ninS (ne_exa fq232 (fq213.keep K217) (by decide)) nin0)).keep K195 nin0).keep K202 (ninS (ne_exa fq232 (fq213.keep K217) (by decide)) (ninS (ne_exa fq232 V218.exa (by decide)) nin0))).keep K208 nin0).keep K209 nin0).keep K217 (ninS (ne_exa fq232 (fq213.keep K217) (by decide)) (ninS (ne_exa fq232 V218.exa (by decide)) nin0)))
      refine own_callV S231 (y := (⟨"java/lang/Integer", "intValue", "()I"⟩ : MethodName)) (y' := (⟨"java/lang/Integer", "intValue", "()I"⟩ : MethodName)) (own_w hw 141 rfl) (own_w hw 142 rfl) (own_nf S231 (own_w hw 144 rfl)) (own_w hw 144 rfl) (own_w hw 143 rfl) (own_w hw 145 rfl) (own_w hw 2 rfl) (by decide) fq232 (argsL := []) (rest := []) (own_intV l Z a0 hw b187 p1 h217 S231.old fq233) all0 (by decide +kernel : parseMethodDescriptor "()I" = some ⟨[], some .int⟩) rfl rfl rfl at_157 (by decide) (Nat.le_of_ble_eq_true rfl) (by decide) (by decide) (fun T234 h234 v234 S234 K234 q234 => ?_)
      obtain ⟨rfl, rfl⟩ := q234
      show own_F p e below s Z _ _ _ _ _ (T234.setTop (mkF m 160 #[.val (.int p0), .val (.int p1), .val (.int p2), .val (.int p3), .val (.int p4), .val (.int p5), .val (.int (2 : Int32)), .val (.int (0 : Int32)), .val (.ref b183), .val (.ref b184), .val (.ref b208), .val (.ref x208), .val (.int (1 : Int32)), .unset] [(.int p1)]))
      refine own_F.of (fun _ => XS.iloadN S234.here S234.hx rfl (S234.dec at_160) rfl) ?_
      show own_F p e below s Z _ _ _ _ _ (T234.setTop (mkF m 161 #[.val (.int p0), .val (.int p1), .val (.int p2), .val (.int p3), .val (.int p4), .val (.int p5), .val (.int (2 : Int32)), .val (.int (0 : Int32)), .val (.ref b183), .val (.ref b184), .val (.ref b208), .val (.ref x208), .val (.int (1 : Int32)), .unset] [(.int p1), (.int p1)]))
      refine own_icmp S234 168 at_161 (by decide) (by decide) (fun (hc161_235 : ¬ (p1 = p1)) => False.elim (hc161_235 rfl)) (fun (hc161_235 : p1 = p1) => ?_)
      show own_F p e below s Z _ _ _ _ _ (T234.setTop (mkF m 164 #[.val (.int p0), .val (.int p1), .val (.int p2), .val (.int p3), .val (.int p4), .val (.int p5), .val (.int (2 : Int32)), .val (.int (0 : Int32)), .val (.ref b183), .val (.ref b184), .val (.ref b208), .val (.ref x208), .val (.int (1 : Int32)), .unset] []))
      refine own_F.of (fun _ => XS.iconst S234.here S234.hx rfl (S234.dec at_164)) ?_
      show own_F p e below s Z _ _ _ _ _ (T234.setTop (mkF m 165 #[.val (.int p0), .val (.int p1), .val (.int p2), .val (.int p3), .val (.int p4), .val (.int p5), .val (.int (2 : Int32)), .val (.int (0 : Int32)), .val (.ref b183), .val (.ref b184), .val (.ref b208), .val (.ref x208), .val (.int (1 : Int32)), .unset] [(.int (1 : Int32))]))
      refine own_F.of (fun _ => XS.goto S234.here S234.hx rfl (pc0 := 165) (pc' := 169) rfl (S234.dec at_165) (by decide) (by decide)) ?_
      show own_F p e below s Z _ _ _ _ _ (T234.setTop (mkF m 169 #[.val (.int p0), .val (.int p1), .val (.int p2), .val (.int p3), .val (.int p4), .val (.int p5), .val (.int (2 : Int32)), .val (.int (0 : Int32)), .val (.ref b183), .val (.ref b184), .val (.ref b208), .val (.ref x208), .val (.int (1 : Int32)), .unset] [(.int (1 : Int32))]))
      refine own_F.of (fun _ => XS.istore S234.here S234.hx rfl (S234.dec at_169) rfl (l' := #[.val (.int p0), .val (.int p1), .val (.int p2), .val (.int p3), .val (.int p4), .val (.int p5), .val (.int (2 : Int32)), .val (.int (0 : Int32)), .val (.ref b183), .val (.ref b184), .val (.ref b208), .val (.ref x208), .val (.int (1 : Int32)), .unset]) rfl) ?_
      show own_F p e below s Z _ _ _ _ _ (T234.setTop (mkF m 171 #[.val (.int p0), .val (.int p1), .val (.int p2), .val (.int p3), .val (.int p4), .val (.int p5), .val (.int (2 : Int32)), .val (.int (0 : Int32)), .val (.ref b183), .val (.ref b184), .val (.ref b208), .val (.ref x208), .val (.int (1 : Int32)), .unset] []))
      refine own_F.of (fun _ => XS.iload S234.here S234.hx rfl (S234.dec at_171) rfl) ?_
      show own_F p e below s Z _ _ _ _ _ (T234.setTop (mkF m 173 #[.val (.int p0), .val (.int p1), .val (.int p2), .val (.int p3), .val (.int p4), .val (.int p5), .val (.int (2 : Int32)), .val (.int (0 : Int32)), .val (.ref b183), .val (.ref b184), .val (.ref b208), .val (.ref x208), .val (.int (1 : Int32)), .unset] [(.int (1 : Int32))]))
      refine own_if S234 207 at_173 (by decide) (by decide) (fun (hc173_236 : (1 : Int32) = (0 : Int32)) => False.elim (absurd hc173_236 (by decide))) (fun (hc173_236 : ¬ ((1 : Int32) = (0 : Int32))) => ?_)
      show own_F p e below s Z _ _ _ _ _ (T234.setTop (mkF m 176 #[.val (.int p0), .val (.int p1), .val (.int p2), .val (.int p3), .val (.int p4), .val (.int p5), .val (.int (2 : Int32)), .val (.int (0 : Int32)), .val (.ref b183), .val (.ref b184), .val (.ref b208), .val (.ref x208), .val (.int (1 : Int32)), .unset] []))
      refine own_F.of (fun _ => XS.iload S234.here S234.hx rfl (S234.dec at_176) rfl) ?_
      refine own_F.of (fun _ => XS.iconst S234.here S234.hx rfl (S234.dec at_178)) ?_
      show own_F p e below s Z _ _ _ _ _ (T234.setTop (mkF m 179 #[.val (.int p0), .val (.int p1), .val (.int p2), .val (.int p3), .val (.int p4), .val (.int p5), .val (.int (2 : Int32)), .val (.int (0 : Int32)), .val (.ref b183), .val (.ref b184), .val (.ref b208), .val (.ref x208), .val (.int (1 : Int32)), .unset] [(.int (1 : Int32)), (.int (2 : Int32))]))
      refine own_icmp S234 207 at_179 (by decide) (by decide) (fun (hc179_237 : ¬ ((1 : Int32) < (2 : Int32))) => False.elim (absurd hc179_237 (by decide))) (fun (hc179_237 : (1 : Int32) < (2 : Int32)) => ?_)
      show own_F p e below s Z _ _ _ _ _ (T234.setTop (mkF m 182 #[.val (.int p0), .val (.int p1), .val (.int p2), .val (.int p3), .val (.int p4), .val (.int p5), .val (.int (2 : Int32)), .val (.int (0 : Int32)), .val (.ref b183), .val (.ref b184), .val (.ref b208), .val (.ref x208), .val (.int (1 : Int32)), .unset] []))
      refine own_F.of (fun _ => XS.aload S234.here S234.hx rfl (S234.dec at_182) rfl rfl) ?_
      refine own_F.of (fun _ => XS.iconst S234.here S234.hx rfl (S234.dec at_184)) ?_
      show own_F p e below s Z _ _ _ _ _ (T234.setTop (mkF m 185 #[.val (.int p0), .val (.int p1), .val (.int p2), .val (.int p3), .val (.int p4), .val (.int p5), .val (.int (2 : Int32)), .val (.int (0 : Int32)), .val (.ref b183), .val (.ref b184), .val (.ref b208), .val (.ref x208), .val (.int (1 : Int32)), .unset] [(.int (1 : Int32)), (.ref x208)]))
      refine own_callX S234 (y := (⟨"java/util/List", "get", "(I)Ljava/lang/Object;"⟩ : MethodName)) (y' := (⟨"java/util/ImmutableCollections$List12", "get", "(I)Ljava/lang/Object;"⟩ : MethodName)) (own_w hw 229 rfl) (own_w hw 230 rfl) (own_w hw 231 rfl) (own_w hw 232 rfl) (own_w hw 233 rfl) (own_w hw 234 rfl) (own_w hw 235 rfl) (own_w hw 211 rfl) (own_w hw 236 rfl) (own_w hw 183 rfl) (by decide) fq225 (argsL := [(.int (1 : Int32))]) (rest := []) (own_gtT_1 l Z a0 hw x208 b187 b195 aM h217 S234.old SM fq229 fq222 (ne_exa fq223 (XM.ext S234.old) (by decide))) all0 (by decide +kernel : parseMethodDescriptor "(I)Ljava/lang/Object;" = some ⟨[.int], some (.object "java/lang/Object")⟩) rfl rfl rfl at_185 (by decide) (Nat.le_of_ble_eq_true rfl) (by decide) (by decide) (fun T238 h238 v238 S238 K238 q238 => ?_)
      obtain ⟨rfl, rfl⟩ := q238
      show own_F p e below s Z _ _ _ _ _ (T238.setTop (mkF m 190 #[.val (.int p0), .val (.int p1), .val (.int p2), .val (.int p3), .val (.int p4), .val (.int p5), .val (.int (2 : Int32)), .val (.int (0 : Int32)), .val (.ref b183), .val (.ref b184), .val (.ref b208), .val (.ref x208), .val (.int (1 : Int32)), .unset] [(.ref b195)]))
      refine own_cast S238 (own_w hw 139 rfl) (Ins.self fq223) at_190 (fun T239 S239 => ?_)
      show own_F p e below s Z _ _ _ _ _ (T239.setTop (mkF m 193 #[.val (.int p0), .val (.int p1), .val (.int p2), .val (.int p3), .val (.int p4), .val (.int p5), .val (.int (2 : Int32)), .val (.int (0 : Int32)), .val (.ref b183), .val (.ref b184), .val (.ref b208), .val (.ref x208), .val (.int (1 : Int32)), .unset] [(.ref b195)]))
      have fq240 := ((((F195.keep K202 (ninS (ne_exa fq223 (fq213.keep K217) (by decide)) (ninS (ne_exa fq223 V218.exa (by decide)) nin0))).keep K208 nin0).keep K209 nin0).keep K217 (ninS (ne_exa fq223 (fq213.keep K217) (by decide)) (ninS (ne_exa fq223 V218.exa (by decide)) nin0)))
      refine own_callV S239 (y := (⟨"java/lang/Integer", "intValue", "()I"⟩ : MethodName)) (y' := (⟨"java/lang/Integer", "intValue", "()I"⟩ : MethodName)) (own_w hw 141 rfl) (own_w hw 142 rfl) (own_nf S239 (own_w hw 144 rfl)) (own_w hw 144 rfl) (own_w hw 143 rfl) (own_w hw 145 rfl) (own_w hw 2 rfl) (by decide) fq223 (argsL := []) (rest := []) (own_intV l Z a0 hw b195 p2 h217 S239.old fq240) all0 (by decide +kernel : parseMethodDescriptor "()I" = some ⟨[], some .int⟩) rfl rfl rfl at_193 (by decide) (Nat.le_of_ble_eq_true rfl) (by decide) (by decide) (fun T241 h241 v241 S241 K241 q241 => ?_)
      obtain ⟨rfl, rfl⟩ := q241
      show own_F p e below s Z _ _ _ _ _ (T241.setTop (mkF m 196 #[.val (.int p0), .val (.int p1), .val (.int p2), .val (.int p3), .val (.int p4), .val (.int p5), .val (.int (2 : Int32)), .val (.int (0 : Int32)), .val (.ref b183), .val (.ref b184), .val (.ref b208), .val (.ref x208), .val (.int (1 : Int32)), .unset] [(.int p2)]))
      refine own_F.of (fun _ => XS.iloadN S241.here S241.hx rfl (S241.dec at_196) rfl) ?_
      show own_F p e below s Z _ _ _ _ _ (T241.setTop (mkF m 197 #[.val (.int p0), .val (.int p1), .val (.int p2), .val (.int p3), .val (.int p4), .val (.int p5), .val (.int (2 : Int32)), .val (.int (0 : Int32)), .val (.ref b183), .val (.ref b184), .val (.ref b208), .val (.ref x208), .val (.int (1 : Int32)), .unset] [(.int p2), (.int p2)]))
      refine own_icmp S241 204 at_197 (by decide) (by decide) (fun (hc197_242 : ¬ (p2 = p2)) => False.elim (hc197_242 rfl)) (fun (hc197_242 : p2 = p2) => ?_)
      show own_F p e below s Z _ _ _ _ _ (T241.setTop (mkF m 200 #[.val (.int p0), .val (.int p1), .val (.int p2), .val (.int p3), .val (.int p4), .val (.int p5), .val (.int (2 : Int32)), .val (.int (0 : Int32)), .val (.ref b183), .val (.ref b184), .val (.ref b208), .val (.ref x208), .val (.int (1 : Int32)), .unset] []))
      refine own_F.of (fun _ => XS.iconst S241.here S241.hx rfl (S241.dec at_200)) ?_
      show own_F p e below s Z _ _ _ _ _ (T241.setTop (mkF m 201 #[.val (.int p0), .val (.int p1), .val (.int p2), .val (.int p3), .val (.int p4), .val (.int p5), .val (.int (2 : Int32)), .val (.int (0 : Int32)), .val (.ref b183), .val (.ref b184), .val (.ref b208), .val (.ref x208), .val (.int (1 : Int32)), .unset] [(.int (1 : Int32))]))
      refine own_F.of (fun _ => XS.goto S241.here S241.hx rfl (pc0 := 201) (pc' := 205) rfl (S241.dec at_201) (by decide) (by decide)) ?_
      show own_F p e below s Z _ _ _ _ _ (T241.setTop (mkF m 205 #[.val (.int p0), .val (.int p1), .val (.int p2), .val (.int p3), .val (.int p4), .val (.int p5), .val (.int (2 : Int32)), .val (.int (0 : Int32)), .val (.ref b183), .val (.ref b184), .val (.ref b208), .val (.ref x208), .val (.int (1 : Int32)), .unset] [(.int (1 : Int32))]))
      refine own_F.of (fun _ => XS.istore S241.here S241.hx rfl (S241.dec at_205) rfl (l' := #[.val (.int p0), .val (.int p1), .val (.int p2), .val (.int p3), .val (.int p4), .val (.int p5), .val (.int (2 : Int32)), .val (.int (0 : Int32)), .val (.ref b183), .val (.ref b184), .val (.ref b208), .val (.ref x208), .val (.int (1 : Int32)), .unset]) rfl) ?_
      show own_F p e below s Z _ _ _ _ _ (T241.setTop (mkF m 207 #[.val (.int p0), .val (.int p1), .val (.int p2), .val (.int p3), .val (.int p4), .val (.int p5), .val (.int (2 : Int32)), .val (.int (0 : Int32)), .val (.ref b183), .val (.ref b184), .val (.ref b208), .val (.ref x208), .val (.int (1 : Int32)), .unset] []))
      refine own_F.of (fun _ => XS.iload S241.here S241.hx rfl (S241.dec at_207) rfl) ?_
      show own_F p e below s Z _ _ _ _ _ (T241.setTop (mkF m 209 #[.val (.int p0), .val (.int p1), .val (.int p2), .val (.int p3), .val (.int p4), .val (.int p5), .val (.int (2 : Int32)), .val (.int (0 : Int32)), .val (.ref b183), .val (.ref b184), .val (.ref b208), .val (.ref x208), .val (.int (1 : Int32)), .unset] [(.int (1 : Int32))]))
      refine own_if S241 243 at_209 (by decide) (by decide) (fun (hc209_243 : (1 : Int32) = (0 : Int32)) => False.elim (absurd hc209_243 (by decide))) (fun (hc209_243 : ¬ ((1 : Int32) = (0 : Int32))) => ?_)
      show own_F p e below s Z _ _ _ _ _ (T241.setTop (mkF m 212 #[.val (.int p0), .val (.int p1), .val (.int p2), .val (.int p3), .val (.int p4), .val (.int p5), .val (.int (2 : Int32)), .val (.int (0 : Int32)), .val (.ref b183), .val (.ref b184), .val (.ref b208), .val (.ref x208), .val (.int (1 : Int32)), .unset] []))
      refine own_F.of (fun _ => XS.iload S241.here S241.hx rfl (S241.dec at_212) rfl) ?_
      refine own_F.of (fun _ => XS.iconst S241.here S241.hx rfl (S241.dec at_214)) ?_
      show own_F p e below s Z _ _ _ _ _ (T241.setTop (mkF m 215 #[.val (.int p0), .val (.int p1), .val (.int p2), .val (.int p3), .val (.int p4), .val (.int p5), .val (.int (2 : Int32)), .val (.int (0 : Int32)), .val (.ref b183), .val (.ref b184), .val (.ref b208), .val (.ref x208), .val (.int (1 : Int32)), .unset] [(.int (2 : Int32)), (.int (2 : Int32))]))
      refine own_icmp S241 243 at_215 (by decide) (by decide) (fun (hc215_244 : ¬ ((2 : Int32) < (2 : Int32))) => ?_) (fun (hc215_244 : (2 : Int32) < (2 : Int32)) => False.elim (absurd hc215_244 (by decide)))
      show own_F p e below s Z _ _ _ _ _ (T241.setTop (mkF m 243 #[.val (.int p0), .val (.int p1), .val (.int p2), .val (.int p3), .val (.int p4), .val (.int p5), .val (.int (2 : Int32)), .val (.int (0 : Int32)), .val (.ref b183), .val (.ref b184), .val (.ref b208), .val (.ref x208), .val (.int (1 : Int32)), .unset] []))
      refine own_F.of (fun _ => XS.aload S241.here S241.hx rfl (S241.dec at_243) rfl rfl) ?_
      show own_F p e below s Z _ _ _ _ _ (T241.setTop (mkF m 245 #[.val (.int p0), .val (.int p1), .val (.int p2), .val (.int p3), .val (.int p4), .val (.int p5), .val (.int (2 : Int32)), .val (.int (0 : Int32)), .val (.ref b183), .val (.ref b184), .val (.ref b208), .val (.ref x208), .val (.int (1 : Int32)), .unset] [(.ref b208)]))
      have fq245 := ((Fk208.keep K209 nin0).keep K217 (ninS (ne_exa fq221 (fq213.keep K217) (by decide)) (ninS (ne_exa fq221 V218.exa (by decide)) nin0)))
      refine own_callV S241 (y := (⟨"com/example/tidemark/tidemark/Page", "nextKey", "()Ljava/lang/Object;"⟩ : MethodName)) (y' := (⟨"com/example/tidemark/tidemark/Page", "nextKey", "()Ljava/lang/Object;"⟩ : MethodName)) (own_w hw 134 rfl) (own_w hw 135 rfl) (own_nf S241 (own_w hw 137 rfl)) (own_w hw 137 rfl) (own_w hw 136 rfl) (own_w hw 138 rfl) (own_w hw 35 rfl) (by decide) fq221 (argsL := []) (rest := []) (own_pgK l Z a0 hw b208 (.ref b183) h217 S241.old rfl fq245) all0 (by decide +kernel : parseMethodDescriptor "()Ljava/lang/Object;" = some ⟨[], some (.object "java/lang/Object")⟩) rfl rfl rfl at_245 (by decide) (Nat.le_of_ble_eq_true rfl) (by decide) (by decide) (fun T246 h246 v246 S246 K246 q246 => ?_)
      obtain ⟨rfl, rfl⟩ := q246
      show own_F p e below s Z _ _ _ _ _ (T246.setTop (mkF m 248 #[.val (.int p0), .val (.int p1), .val (.int p2), .val (.int p3), .val (.int p4), .val (.int p5), .val (.int (2 : Int32)), .val (.int (0 : Int32)), .val (.ref b183), .val (.ref b184), .val (.ref b208), .val (.ref x208), .val (.int (1 : Int32)), .unset] [(.ref b183)]))
      have fq248 := (((((((((X183.ext E184).keep K185).keep K187).keep K192).keep K195).keep K202).keep K208).keep K209).keep K217)
      refine own_cast S246 (own_w hw 139 rfl) (Ins.self fq248) at_248 (fun T247 S247 => ?_)
      show own_F p e below s Z _ _ _ _ _ (T247.setTop (mkF m 251 #[.val (.int p0), .val (.int p1), .val (.int p2), .val (.int p3), .val (.int p4), .val (.int p5), .val (.int (2 : Int32)), .val (.int (0 : Int32)), .val (.ref b183), .val (.ref b184), .val (.ref b208), .val (.ref x208), .val (.int (1 : Int32)), .unset] [(.ref b183)]))
      refine own_F.of (fun _ => XS.astore S247.here S247.hx rfl (S247.dec at_251) rfl rfl (l' := #[.val (.int p0), .val (.int p1), .val (.int p2), .val (.int p3), .val (.int p4), .val (.int p5), .val (.int (2 : Int32)), .val (.int (0 : Int32)), .val (.ref b183), .val (.ref b184), .val (.ref b208), .val (.ref x208), .val (.int (1 : Int32)), .val (.ref b183)]) rfl) ?_
      show own_F p e below s Z _ _ _ _ _ (T247.setTop (mkF m 253 #[.val (.int p0), .val (.int p1), .val (.int p2), .val (.int p3), .val (.int p4), .val (.int p5), .val (.int (2 : Int32)), .val (.int (0 : Int32)), .val (.ref b183), .val (.ref b184), .val (.ref b208), .val (.ref x208), .val (.int (1 : Int32)), .val (.ref b183)] []))
      refine own_F.of (fun _ => XS.iload S247.here S247.hx rfl (S247.dec at_253) rfl) ?_
      show own_F p e below s Z _ _ _ _ _ (T247.setTop (mkF m 255 #[.val (.int p0), .val (.int p1), .val (.int p2), .val (.int p3), .val (.int p4), .val (.int p5), .val (.int (2 : Int32)), .val (.int (0 : Int32)), .val (.ref b183), .val (.ref b184), .val (.ref b208), .val (.ref x208), .val (.int (1 : Int32)), .val (.ref b183)] [(.int (1 : Int32))]))
      refine own_if S247 272 at_255 (by decide) (by decide) (fun (hc255_249 : (1 : Int32) = (0 : Int32)) => False.elim (absurd hc255_249 (by decide))) (fun (hc255_249 : ¬ ((1 : Int32) = (0 : Int32))) => ?_)
      show own_F p e below s Z _ _ _ _ _ (T247.setTop (mkF m 258 #[.val (.int p0), .val (.int p1), .val (.int p2), .val (.int p3), .val (.int p4), .val (.int p5), .val (.int (2 : Int32)), .val (.int (0 : Int32)), .val (.ref b183), .val (.ref b184), .val (.ref b208), .val (.ref x208), .val (.int (1 : Int32)), .val (.ref b183)] []))
      refine own_F.of (fun _ => XS.aload S247.here S247.hx rfl (S247.dec at_258) rfl rfl) ?_
      refine own_F.of (fun _ => XS.aload S247.here S247.hx rfl (S247.dec at_260) rfl rfl) ?_
      show own_F p e below s Z _ _ _ _ _ (T247.setTop (mkF m 262 #[.val (.int p0), .val (.int p1), .val (.int p2), .val (.int p3), .val (.int p4), .val (.int p5), .val (.int (2 : Int32)), .val (.int (0 : Int32)), .val (.ref b183), .val (.ref b184), .val (.ref b208), .val (.ref x208), .val (.int (1 : Int32)), .val (.ref b183)] [(.ref b183), (.ref b183)]))
      refine own_acmp S247 rfl rfl 269 at_262 (by decide) (by decide) (fun (hc262_250 : ¬ ((Value.ref b183) = (Value.ref b183))) => False.elim (hc262_250 rfl)) (fun (hc262_250 : (Value.ref b183) = (Value.ref b183)) => ?_)
      show own_F p e below s Z _ _ _ _ _ (T247.setTop (mkF m 265 #[.val (.int p0), .val (.int p1), .val (.int p2), .val (.int p3), .val (.int p4), .val (.int p5), .val (.int (2 : Int32)), .val (.int (0 : Int32)), .val (.ref b183), .val (.ref b184), .val (.ref b208), .val (.ref x208), .val (.int (1 : Int32)), .val (.ref b183)] []))
      refine own_F.of (fun _ => XS.iconst S247.here S247.hx rfl (S247.dec at_265)) ?_
      show own_F p e below s Z _ _ _ _ _ (T247.setTop (mkF m 266 #[.val (.int p0), .val (.int p1), .val (.int p2), .val (.int p3), .val (.int p4), .val (.int p5), .val (.int (2 : Int32)), .val (.int (0 : Int32)), .val (.ref b183), .val (.ref b184), .val (.ref b208), .val (.ref x208), .val (.int (1 : Int32)), .val (.ref b183)] [(.int (1 : Int32))]))
      refine own_F.of (fun _ => XS.goto S247.here S247.hx rfl (pc0 := 266) (pc' := 270) rfl (S247.dec at_266) (by decide) (by decide)) ?_
      show own_F p e below s Z _ _ _ _ _ (T247.setTop (mkF m 270 #[.val (.int p0), .val (.int p1), .val (.int p2), .val (.int p3), .val (.int p4), .val (.int p5), .val (.int (2 : Int32)), .val (.int (0 : Int32)), .val (.ref b183), .val (.ref b184), .val (.ref b208), .val (.ref x208), .val (.int (1 : Int32)), .val (.ref b183)] [(.int (1 : Int32))]))
      refine own_F.of (fun _ => XS.istore S247.here S247.hx rfl (S247.dec at_270) rfl (l' := #[.val (.int p0), .val (.int p1), .val (.int p2), .val (.int p3), .val (.int p4), .val (.int p5), .val (.int (2 : Int32)), .val (.int (0 : Int32)), .val (.ref b183), .val (.ref b184), .val (.ref b208), .val (.ref x208), .val (.int (1 : Int32)), .val (.ref b183)]) rfl) ?_
      show own_F p e below s Z _ _ _ _ _ (T247.setTop (mkF m 272 #[.val (.int p0), .val (.int p1), .val (.int p2), .val (.int p3), .val (.int p4), .val (.int p5), .val (.int (2 : Int32)), .val (.int (0 : Int32)), .val (.ref b183), .val (.ref b184), .val (.ref b208), .val (.ref x208), .val (.int (1 : Int32)), .val (.ref b183)] []))
      refine own_F.of (fun _ => XS.iload S247.here S247.hx rfl (S247.dec at_272) rfl) ?_
      show own_F p e below s Z _ _ _ _ _ (T247.setTop (mkF m 274 #[.val (.int p0), .val (.int p1), .val (.int p2), .val (.int p3), .val (.int p4), .val (.int p5), .val (.int (2 : Int32)), .val (.int (0 : Int32)), .val (.ref b183), .val (.ref b184), .val (.ref b208), .val (.ref x208), .val (.int (1 : Int32)), .val (.ref b183)] [(.int (1 : Int32))]))
      refine own_if S247 304 at_274 (by decide) (by decide) (fun (hc274_251 : (1 : Int32) = (0 : Int32)) => False.elim (absurd hc274_251 (by decide))) (fun (hc274_251 : ¬ ((1 : Int32) = (0 : Int32))) => ?_)
      show own_F p e below s Z _ _ _ _ _ (T247.setTop (mkF m 277 #[.val (.int p0), .val (.int p1), .val (.int p2), .val (.int p3), .val (.int p4), .val (.int p5), .val (.int (2 : Int32)), .val (.int (0 : Int32)), .val (.ref b183), .val (.ref b184), .val (.ref b208), .val (.ref x208), .val (.int (1 : Int32)), .val (.ref b183)] []))
      refine own_F.of (fun _ => XS.iload S247.here S247.hx rfl (S247.dec at_277) rfl) ?_
      show own_F p e below s Z _ _ _ _ _ (T247.setTop (mkF m 279 #[.val (.int p0), .val (.int p1), .val (.int p2), .val (.int p3), .val (.int p4), .val (.int p5), .val (.int (2 : Int32)), .val (.int (0 : Int32)), .val (.ref b183), .val (.ref b184), .val (.ref b208), .val (.ref x208), .val (.int (1 : Int32)), .val (.ref b183)] [(.int (0 : Int32))]))
      refine own_if S247 304 at_279 (by decide) (by decide) (fun (hc279_252 : ¬ ((0 : Int32) = (0 : Int32))) => False.elim (absurd hc279_252 (by decide))) (fun (hc279_252 : (0 : Int32) = (0 : Int32)) => ?_)
      show own_F p e below s Z _ _ _ _ _ (T247.setTop (mkF m 282 #[.val (.int p0), .val (.int p1), .val (.int p2), .val (.int p3), .val (.int p4), .val (.int p5), .val (.int (2 : Int32)), .val (.int (0 : Int32)), .val (.ref b183), .val (.ref b184), .val (.ref b208), .val (.ref x208), .val (.int (1 : Int32)), .val (.ref b183)] []))
      refine own_F.of (fun _ => XS.aload S247.here S247.hx rfl (S247.dec at_282) rfl rfl) ?_
      show own_F p e below s Z _ _ _ _ _ (T247.setTop (mkF m 284 #[.val (.int p0), .val (.int p1), .val (.int p2), .val (.int p3), .val (.int p4), .val (.int p5), .val (.int (2 : Int32)), .val (.int (0 : Int32)), .val (.ref b183), .val (.ref b184), .val (.ref b208), .val (.ref x208), .val (.int (1 : Int32)), .val (.ref b183)] [(.ref b183)]))
      refine own_F.of (fun _ => XS.ifnullNo S247.here S247.hx rfl (S247.dec at_284) rfl) ?_
      show own_F p e below s Z _ _ _ _ _ (T247.setTop (mkF m 287 #[.val (.int p0), .val (.int p1), .val (.int p2), .val (.int p3), .val (.int p4), .val (.int p5), .val (.int (2 : Int32)), .val (.int (0 : Int32)), .val (.ref b183), .val (.ref b184), .val (.ref b208), .val (.ref x208), .val (.int (1 : Int32)), .val (.ref b183)] []))
      refine own_F.of (fun _ => XS.aload S247.here S247.hx rfl (S247.dec at_287) rfl rfl) ?_
      show own_F p e below s Z _ _ _ _ _ (T247.setTop (mkF m 289 #[.val (.int p0), .val (.int p1), .val (.int p2), .val (.int p3), .val (.int p4), .val (.int p5), .val (.int (2 : Int32)), .val (.int (0 : Int32)), .val (.ref b183), .val (.ref b184), .val (.ref b208), .val (.ref x208), .val (.int (1 : Int32)), .val (.ref b183)] [(.ref b183)]))
      have fq253 := (((((((((F183.ext E184).keep K185 (ninS (ne_exa fq248 (fq213.keep K217) (by decide)) nin0)).keep K187 nin0).keep K192 (ninS (ne_exa fq248 (fq213.keep K217) (by decide)) nin0)).keep K195 nin0).keep K202 (ninS (ne_exa fq248 (fq213.keep K217) (by decide)) (ninS (ne_exa fq248 V218.exa (by decide)) nin0))).keep K208 nin0).keep K209 nin0).keep K217 (ninS (ne_exa fq248 (fq213.keep K217) (by decide)) (ninS (ne_exa fq248 V218.exa (by decide)) nin0)))
      refine own_callV S247 (y := (⟨"java/lang/Integer", "intValue", "()I"⟩ : MethodName)) (y' := (⟨"java/lang/Integer", "intValue", "()I"⟩ : MethodName)) (own_w hw 141 rfl) (own_w hw 142 rfl) (own_nf S247 (own_w hw 144 rfl)) (own_w hw 144 rfl) (own_w hw 143 rfl) (own_w hw 145 rfl) (own_w hw 2 rfl) (by decide) fq248 (argsL := []) (rest := []) (own_intV l Z a0 hw b183 p5 h217 S247.old fq253) all0 (by decide +kernel : parseMethodDescriptor "()I" = some ⟨[], some .int⟩) rfl rfl rfl at_289 (by decide) (Nat.le_of_ble_eq_true rfl) (by decide) (by decide) (fun T254 h254 v254 S254 K254 q254 => ?_)
      obtain ⟨rfl, rfl⟩ := q254
      show own_F p e below s Z _ _ _ _ _ (T254.setTop (mkF m 292 #[.val (.int p0), .val (.int p1), .val (.int p2), .val (.int p3), .val (.int p4), .val (.int p5), .val (.int (2 : Int32)), .val (.int (0 : Int32)), .val (.ref b183), .val (.ref b184), .val (.ref b208), .val (.ref x208), .val (.int (1 : Int32)), .val (.ref b183)] [(.int p5)]))
      refine own_F.of (fun _ => XS.iload S254.here S254.hx rfl (S254.dec at_292) rfl) ?_
      show own_F p e below s Z _ _ _ _ _ (T254.setTop (mkF m 294 #[.val (.int p0), .val (.int p1), .val (.int p2), .val (.int p3), .val (.int p4), .val (.int p5), .val (.int (2 : Int32)), .val (.int (0 : Int32)), .val (.ref b183), .val (.ref b184), .val (.ref b208), .val (.ref x208), .val (.int (1 : Int32)), .val (.ref b183)] [(.int p5), (.int p5)]))
      refine own_icmp S254 301 at_294 (by decide) (by decide) (fun (hc294_255 : ¬ (p5 = p5)) => False.elim (hc294_255 rfl)) (fun (hc294_255 : p5 = p5) => ?_)
      show own_F p e below s Z _ _ _ _ _ (T254.setTop (mkF m 297 #[.val (.int p0), .val (.int p1), .val (.int p2), .val (.int p3), .val (.int p4), .val (.int p5), .val (.int (2 : Int32)), .val (.int (0 : Int32)), .val (.ref b183), .val (.ref b184), .val (.ref b208), .val (.ref x208), .val (.int (1 : Int32)), .val (.ref b183)] []))
      refine own_F.of (fun _ => XS.iconst S254.here S254.hx rfl (S254.dec at_297)) ?_
      show own_F p e below s Z _ _ _ _ _ (T254.setTop (mkF m 298 #[.val (.int p0), .val (.int p1), .val (.int p2), .val (.int p3), .val (.int p4), .val (.int p5), .val (.int (2 : Int32)), .val (.int (0 : Int32)), .val (.ref b183), .val (.ref b184), .val (.ref b208), .val (.ref x208), .val (.int (1 : Int32)), .val (.ref b183)] [(.int (1 : Int32))]))
      refine own_F.of (fun _ => XS.goto S254.here S254.hx rfl (pc0 := 298) (pc' := 302) rfl (S254.dec at_298) (by decide) (by decide)) ?_
      show own_F p e below s Z _ _ _ _ _ (T254.setTop (mkF m 302 #[.val (.int p0), .val (.int p1), .val (.int p2), .val (.int p3), .val (.int p4), .val (.int p5), .val (.int (2 : Int32)), .val (.int (0 : Int32)), .val (.ref b183), .val (.ref b184), .val (.ref b208), .val (.ref x208), .val (.int (1 : Int32)), .val (.ref b183)] [(.int (1 : Int32))]))
      refine own_F.of (fun _ => XS.istore S254.here S254.hx rfl (S254.dec at_302) rfl (l' := #[.val (.int p0), .val (.int p1), .val (.int p2), .val (.int p3), .val (.int p4), .val (.int p5), .val (.int (2 : Int32)), .val (.int (0 : Int32)), .val (.ref b183), .val (.ref b184), .val (.ref b208), .val (.ref x208), .val (.int (1 : Int32)), .val (.ref b183)]) rfl) ?_
      show own_F p e below s Z _ _ _ _ _ (T254.setTop (mkF m 304 #[.val (.int p0), .val (.int p1), .val (.int p2), .val (.int p3), .val (.int p4), .val (.int p5), .val (.int (2 : Int32)), .val (.int (0 : Int32)), .val (.ref b183), .val (.ref b184), .val (.ref b208), .val (.ref x208), .val (.int (1 : Int32)), .val (.ref b183)] []))
      refine own_F.of (fun _ => XS.iload S254.here S254.hx rfl (S254.dec at_304) rfl) ?_
      show own_F p e below s Z _ _ _ _ _ (T254.setTop (mkF m 306 #[.val (.int p0), .val (.int p1), .val (.int p2), .val (.int p3), .val (.int p4), .val (.int p5), .val (.int (2 : Int32)), .val (.int (0 : Int32)), .val (.ref b183), .val (.ref b184), .val (.ref b208), .val (.ref x208), .val (.int (1 : Int32)), .val (.ref b183)] [(.int (1 : Int32))]))
      refine own_retZ S254 (by simp) at_306 (by decide) (by decide) ?_
      rfl
    · show own_F p e below s Z _ _ _ _ _ (T0.setTop (mkF m 12 #[.val (.int p0), .val (.int p1), .val (.int p2), .val (.int p3), .val (.int p4), .val (.int p5), .val (.int (2 : Int32)), .unset, .unset, .unset, .unset, .unset, .unset, .unset] []))
      refine own_F.of (fun _ => XS.iconst S0.here S0.hx rfl (S0.dec at_12)) ?_
      show own_F p e below s Z _ _ _ _ _ (T0.setTop (mkF m 13 #[.val (.int p0), .val (.int p1), .val (.int p2), .val (.int p3), .val (.int p4), .val (.int p5), .val (.int (2 : Int32)), .unset, .unset, .unset, .unset, .unset, .unset, .unset] [(.int (1 : Int32))]))
      refine own_F.of (fun _ => XS.goto S0.here S0.hx rfl (pc0 := 13) (pc' := 17) rfl (S0.dec at_13) (by decide) (by decide)) ?_
      show own_F p e below s Z _ _ _ _ _ (T0.setTop (mkF m 17 #[.val (.int p0), .val (.int p1), .val (.int p2), .val (.int p3), .val (.int p4), .val (.int p5), .val (.int (2 : Int32)), .unset, .unset, .unset, .unset, .unset, .unset, .unset] [(.int (1 : Int32))]))
      refine own_F.of (fun _ => XS.istore S0.here S0.hx rfl (S0.dec at_17) rfl (l' := #[.val (.int p0), .val (.int p1), .val (.int p2), .val (.int p3), .val (.int p4), .val (.int p5), .val (.int (2 : Int32)), .val (.int (1 : Int32)), .unset, .unset, .unset, .unset, .unset, .unset]) rfl) ?_
      show own_F p e below s Z _ _ _ _ _ (T0.setTop (mkF m 19 #[.val (.int p0), .val (.int p1), .val (.int p2), .val (.int p3), .val (.int p4), .val (.int p5), .val (.int (2 : Int32)), .val (.int (1 : Int32)), .unset, .unset, .unset, .unset, .unset, .unset] []))
      refine own_F.of (fun _ => XS.iload S0.here S0.hx rfl (S0.dec at_19) rfl) ?_
      show own_F p e below s Z _ _ _ _ _ (T0.setTop (mkF m 21 #[.val (.int p0), .val (.int p1), .val (.int p2), .val (.int p3), .val (.int p4), .val (.int p5), .val (.int (2 : Int32)), .val (.int (1 : Int32)), .unset, .unset, .unset, .unset, .unset, .unset] [(.int (1 : Int32))]))
      refine own_if S0 28 at_21 (by decide) (by decide) (fun (hc21_256 : (1 : Int32) = (0 : Int32)) => False.elim (absurd hc21_256 (by decide))) (fun (hc21_256 : ¬ ((1 : Int32) = (0 : Int32))) => ?_)
      show own_F p e below s Z _ _ _ _ _ (T0.setTop (mkF m 24 #[.val (.int p0), .val (.int p1), .val (.int p2), .val (.int p3), .val (.int p4), .val (.int p5), .val (.int (2 : Int32)), .val (.int (1 : Int32)), .unset, .unset, .unset, .unset, .unset, .unset] []))
      refine own_F.of (fun _ => XS.aconstNull S0.here S0.hx rfl (S0.dec at_24)) ?_
      show own_F p e below s Z _ _ _ _ _ (T0.setTop (mkF m 25 #[.val (.int p0), .val (.int p1), .val (.int p2), .val (.int p3), .val (.int p4), .val (.int p5), .val (.int (2 : Int32)), .val (.int (1 : Int32)), .unset, .unset, .unset, .unset, .unset, .unset] [.null]))
      refine own_F.of (fun _ => XS.goto S0.here S0.hx rfl (pc0 := 25) (pc' := 33) rfl (S0.dec at_25) (by decide) (by decide)) ?_
      show own_F p e below s Z _ _ _ _ _ (T0.setTop (mkF m 33 #[.val (.int p0), .val (.int p1), .val (.int p2), .val (.int p3), .val (.int p4), .val (.int p5), .val (.int (2 : Int32)), .val (.int (1 : Int32)), .unset, .unset, .unset, .unset, .unset, .unset] [.null]))
      refine own_F.of (fun _ => XS.astore S0.here S0.hx rfl (S0.dec at_33) rfl rfl (l' := #[.val (.int p0), .val (.int p1), .val (.int p2), .val (.int p3), .val (.int p4), .val (.int p5), .val (.int (2 : Int32)), .val (.int (1 : Int32)), .val .null, .unset, .unset, .unset, .unset, .unset]) rfl) ?_
      show own_F p e below s Z _ _ _ _ _ (T0.setTop (mkF m 35 #[.val (.int p0), .val (.int p1), .val (.int p2), .val (.int p3), .val (.int p4), .val (.int p5), .val (.int (2 : Int32)), .val (.int (1 : Int32)), .val .null, .unset, .unset, .unset, .unset, .unset] []))
      refine own_new S0 (own_w hw 7 rfl) (own_w hw 8 rfl) (own_w hw 9 rfl) at_35 (by decide) (by decide) (fun T257 h257 b257 g257 S257 E257 A257 D257 => ?_)
      have F257_modCount : Fld Z h257 b257 "java/util/AbstractList" "modCount" "I" (.int (0 : Int32)) := (D257 (Or.inl (own_w hw 29 rfl)) (ty := .int) (by decide))
      have F257_elementData : Fld Z h257 b257 "java/util/ArrayList" "elementData" "[Ljava/lang/Object;" .null := (D257 (Or.inl (own_w hw 32 rfl)) (ty := (.array (.object "java/lang/Object"))) (by decide))
      have F257_size : Fld Z h257 b257 "java/util/ArrayList" "size" "I" (.int (0 : Int32)) := (D257 (Or.inl (own_w hw 63 rfl)) (ty := .int) (by decide))
      show own_F p e below s Z _ _ _ _ _ (T257.setTop (mkF m 38 #[.val (.int p0), .val (.int p1), .val (.int p2), .val (.int p3), .val (.int p4), .val (.int p5), .val (.int (2 : Int32)), .val (.int (1 : Int32)), .val .null, .unset, .unset, .unset, .unset, .unset] [(.ref b257)]))
      refine own_F.of (fun _ => XS.dup S257.here S257.hx rfl (S257.dec at_38) rfl rfl) ?_
      show own_F p e below s Z _ _ _ _ _ (T257.setTop (mkF m 39 #[.val (.int p0), .val (.int p1), .val (.int p2), .val (.int p3), .val (.int p4), .val (.int p5), .val (.int (2 : Int32)), .val (.int (1 : Int32)), .val .null, .unset, .unset, .unset, .unset, .unset] [(.ref b257), (.ref b257)]))
      refine own_callI S257 (y := (⟨"java/util/ArrayList", "<init>", "()V"⟩ : MethodName)) rfl (own_w hw 10 rfl) (own_w hw 11 rfl) (own_w hw 9 rfl) (own_w hw 12 rfl) (by decide) (argsL := []) (rest := [(.ref b257)]) (own_ALI l Z a0 hw b257 aD h257 S257.old SD AD (own_mayN S257 (Or.inr (by rw [g257]; exact S0.size))) A257 F257_modCount F257_elementData F257_size) (allS (Or.inr (by rw [g257]; exact S0.size)) all0) (by decide +kernel : parseMethodDescriptor "()V" = some ⟨[], none⟩) rfl rfl rfl at_39 (by decide) (Nat.le_of_ble_eq_true rfl) (by decide) (by decide) (fun T258 h258 v258 S258 K258 q258 => ?_)
      obtain ⟨rfl, Fm258, Fe258, Fs258⟩ := q258
      show own_F p e below s Z _ _ _ _ _ (T258.setTop (mkF m 42 #[.val (.int p0), .val (.int p1), .val (.int p2), .val (.int p3), .val (.int p4), .val (.int p5), .val (.int (2 : Int32)), .val (.int (1 : Int32)), .val .null, .unset, .unset, .unset, .unset, .unset] [(.ref b257)]))
      refine own_F.of (fun _ => XS.astore S258.here S258.hx rfl (S258.dec at_42) rfl rfl (l' := #[.val (.int p0), .val (.int p1), .val (.int p2), .val (.int p3), .val (.int p4), .val (.int p5), .val (.int (2 : Int32)), .val (.int (1 : Int32)), .val .null, .val (.ref b257), .unset, .unset, .unset, .unset]) rfl) ?_
      show own_F p e below s Z _ _ _ _ _ (T258.setTop (mkF m 44 #[.val (.int p0), .val (.int p1), .val (.int p2), .val (.int p3), .val (.int p4), .val (.int p5), .val (.int (2 : Int32)), .val (.int (1 : Int32)), .val .null, .val (.ref b257), .unset, .unset, .unset, .unset] []))
      refine own_F.of (fun _ => XS.iload S258.here S258.hx rfl (S258.dec at_44) rfl) ?_
      show own_F p e below s Z _ _ _ _ _ (T258.setTop (mkF m 46 #[.val (.int p0), .val (.int p1), .val (.int p2), .val (.int p3), .val (.int p4), .val (.int p5), .val (.int (2 : Int32)), .val (.int (1 : Int32)), .val .null, .val (.ref b257), .unset, .unset, .unset, .unset] [(.int (2 : Int32))]))
      refine own_if S258 59 at_46 (by decide) (by decide) (fun (hc46_259 : ¬ ((0 : Int32) < (2 : Int32))) => False.elim (absurd hc46_259 (by decide))) (fun (hc46_259 : (0 : Int32) < (2 : Int32)) => ?_)
      show own_F p e below s Z _ _ _ _ _ (T258.setTop (mkF m 49 #[.val (.int p0), .val (.int p1), .val (.int p2), .val (.int p3), .val (.int p4), .val (.int p5), .val (.int (2 : Int32)), .val (.int (1 : Int32)), .val .null, .val (.ref b257), .unset, .unset, .unset, .unset] []))
      refine own_F.of (fun _ => XS.aload S258.here S258.hx rfl (S258.dec at_49) rfl rfl) ?_
      refine own_F.of (fun _ => XS.iloadN S258.here S258.hx rfl (S258.dec at_51) rfl) ?_
      show own_F p e below s Z _ _ _ _ _ (T258.setTop (mkF m 52 #[.val (.int p0), .val (.int p1), .val (.int p2), .val (.int p3), .val (.int p4), .val (.int p5), .val (.int (2 : Int32)), .val (.int (1 : Int32)), .val .null, .val (.ref b257), .unset, .unset, .unset, .unset] [(.int p1), (.ref b257)]))
      refine own_callS S258 (y := (⟨"java/lang/Integer", "valueOf", "(I)Ljava/lang/Integer;"⟩ : MethodName)) (own_w hw 0 rfl) (own_w hw 1 rfl) (own_w hw 2 rfl) (own_w hw 3 rfl) (by decide) (argsL := [(.int p1)]) (rest := [(.ref b257)]) (own_vOfI l Z a0 hw p1 aCI clCI h258 S258.old SHi SCaI BXI) all0 (by decide +kernel : parseMethodDescriptor "(I)Ljava/lang/Integer;" = some ⟨[.int], some (.object "java/lang/Integer")⟩) rfl rfl rfl at_52 (by decide) (Nat.le_of_ble_eq_true rfl) (by decide) (by decide) (fun T260 h260 v260 S260 K260 q260 => ?_)
      obtain ⟨b260, rfl, X260, F260⟩ := q260
      show own_F p e below s Z _ _ _ _ _ (T260.setTop (mkF m 55 #[.val (.int p0), .val (.int p1), .val (.int p2), .val (.int p3), .val (.int p4), .val (.int p5), .val (.int (2 : Int32)), .val (.int (1 : Int32)), .val .null, .val (.ref b257), .unset, .unset, .unset, .unset] [(.ref b260), (.ref b257)]))
      have fq261 := (Fe258.keep K260 nin0)
      have fq262 := (Fs258.keep K260 nin0)
      have fq263 := (Fm258.keep K260 nin0)
      have fq264 := ((A257.keep K258).keep K260)
      refine own_callV S260 (y := (⟨"java/util/ArrayList", "add", "(Ljava/lang/Object;)Z"⟩ : MethodName)) (y' := (⟨"java/util/ArrayList", "add", "(Ljava/lang/Object;)Z"⟩ : MethodName)) (own_w hw 89 rfl) (own_w hw 90 rfl) (own_nf S260 (own_w hw 92 rfl)) (own_w hw 92 rfl) (own_w hw 91 rfl) (own_w hw 93 rfl) (own_w hw 9 rfl) (by decide) fq264 (argsL := [(.ref b260)]) (rest := []) (own_add_0 l Z a0 hw b257 b260 aD (0 : Int32) h260 S260.old SD AD (own_mayN S260 (Or.inr (by rw [g257]; exact S0.size))) fq264 fq261 fq262 fq263 X260) (allS (Or.inr (by rw [g257]; exact S0.size)) all0) (by decide +kernel : parseMethodDescriptor "(Ljava/lang/Object;)Z" = some ⟨[(.object "java/lang/Object")], some .boolean⟩) rfl rfl rfl at_55 (by decide) (Nat.le_of_ble_eq_true rfl) (by decide) (by decide) (fun T265 h265 v265 S265 K265 q265 => ?_)
      obtain ⟨rfl, b265, g265, A265, Fe265, Fs265, Fm265⟩ := q265
      have V266 : own_AO Z h265 b265 [(.ref b260), .null, .null, .null, .null, .null, .null, .null, .null, .null] := A265
      show own_F p e below s Z _ _ _ _ _ (T265.setTop (mkF m 58 #[.val (.int p0), .val (.int p1), .val (.int p2), .val (.int p3), .val (.int p4), .val (.int p5), .val (.int (2 : Int32)), .val (.int (1 : Int32)), .val .null, .val (.ref b257), .unset, .unset, .unset, .unset] [(.int (1 : Int32))]))
      refine own_F.of (fun _ => XS.pop S265.here S265.hx rfl (S265.dec at_58) rfl rfl) ?_
      refine own_F.of (fun _ => XS.iload S265.here S265.hx rfl (S265.dec at_59) rfl) ?_
      refine own_F.of (fun _ => XS.iconst S265.here S265.hx rfl (S265.dec at_61)) ?_
      show own_F p e below s Z _ _ _ _ _ (T265.setTop (mkF m 62 #[.val (.int p0), .val (.int p1), .val (.int p2), .val (.int p3), .val (.int p4), .val (.int p5), .val (.int (2 : Int32)), .val (.int (1 : Int32)), .val .null, .val (.ref b257), .unset, .unset, .unset, .unset] [(.int (1 : Int32)), (.int (2 : Int32))]))
      refine own_icmp S265 75 at_62 (by decide) (by decide) (fun (hc62_267 : ¬ ((1 : Int32) < (2 : Int32))) => False.elim (absurd hc62_267 (by decide))) (fun (hc62_267 : (1 : Int32) < (2 : Int32)) => ?_)
      show own_F p e below s Z _ _ _ _ _ (T265.setTop (mkF m 65 #[.val (.int p0), .val (.int p1), .val (.int p2), .val (.int p3), .val (.int p4), .val (.int p5), .val (.int (2 : Int32)), .val (.int (1 : Int32)), .val .null, .val (.ref b257), .unset, .unset, .unset, .unset] []))
      refine own_F.of (fun _ => XS.aload S265.here S265.hx rfl (S265.dec at_65) rfl rfl) ?_
      refine own_F.of (fun _ => XS.iloadN S265.here S265.hx rfl (S265.dec at_67) rfl) ?_
      show own_F p e below s Z _ _ _ _ _ (T265.setTop (mkF m 68 #[.val (.int p0), .val (.int p1), .val (.int p2), .val (.int p3), .val (.int p4), .val (.int p5), .val (.int (2 : Int32)), .val (.int (1 : Int32)), .val .null, .val (.ref b257), .unset, .unset, .unset, .unset] [(.int p2), (.ref b257)]))
      refine own_callS S265 (y := (⟨"java/lang/Integer", "valueOf", "(I)Ljava/lang/Integer;"⟩ : MethodName)) (own_w hw 0 rfl) (own_w hw 1 rfl) (own_w hw 2 rfl) (own_w hw 3 rfl) (by decide) (argsL := [(.int p2)]) (rest := [(.ref b257)]) (own_vOfI l Z a0 hw p2 aCI clCI h265 S265.old SHi SCaI BXI) all0 (by decide +kernel : parseMethodDescriptor "(I)Ljava/lang/Integer;" = some ⟨[.int], some (.object "java/lang/Integer")⟩) rfl rfl rfl at_68 (by decide) (Nat.le_of_ble_eq_true rfl) (by decide) (by decide) (fun T268 h268 v268 S268 K268 q268 => ?_)
      obtain ⟨b268, rfl, X268, F268⟩ := q268
      show own_F p e below s Z _ _ _ _ _ (T268.setTop (mkF m 71 #[.val (.int p0), .val (.int p1), .val (.int p2), .val (.int p3), .val (.int p4), .val (.int p5), .val (.int (2 : Int32)), .val (.int (1 : Int32)), .val .null, .val (.ref b257), .unset, .unset, .unset, .unset] [(.ref b268), (.ref b257)]))
      have fq269 := (Fe265.keep K268 nin0)
      have fq270 := (Fs265.keep K268 nin0)
      have fq271 := (Fm265.keep K268 nin0)
      have fq272 := ((fq264.keep K265).keep K268)
      have fq273 := (V266.keep K268 nin0)
      have fq274 := ((X260.keep K265).keep K268)
      refine own_callV S268 (y := (⟨"java/util/ArrayList", "add", "(Ljava/lang/Object;)Z"⟩ : MethodName)) (y' := (⟨"java/util/ArrayList", "add", "(Ljava/lang/Object;)Z"⟩ : MethodName)) (own_w hw 89 rfl) (own_w hw 90 rfl) (own_nf S268 (own_w hw 92 rfl)) (own_w hw 92 rfl) (own_w hw 91 rfl) (own_w hw 93 rfl) (own_w hw 9 rfl) (by decide) fq272 (argsL := [(.ref b268)]) (rest := []) (own_add_1 l Z a0 hw b257 b265 b260 b268 ((0 : Int32) + (1 : Int32)) h268 S268.old (own_mayN S268 (Or.inr (by rw [g257]; exact S0.size))) fq272 (own_mayN S268 (Or.inr (Nat.le_trans S260.size g265))) fq273 fq269 fq270 fq271 fq274 X268) (allS (Or.inr (by rw [g257]; exact S0.size)) (allS (Or.inr (Nat.le_trans S260.size g265)) all0)) (by decide +kernel : parseMethodDescriptor "(Ljava/lang/Object;)Z" = some ⟨[(.object "java/lang/Object")], some .boolean⟩) rfl rfl rfl at_71 (by decide) (Nat.le_of_ble_eq_true rfl) (by decide) (by decide) (fun T275 h275 v275 S275 K275 q275 => ?_)
      obtain ⟨rfl, A275, Fe275, Fs275, Fm275⟩ := q275
      have V276 : own_AO Z h275 b265 [(.ref b260), (.ref b268), .null, .null, .null, .null, .null, .null, .null, .null] := A275
      show own_F p e below s Z _ _ _ _ _ (T275.setTop (mkF m 74 #[.val (.int p0), .val (.int p1), .val (.int p2), .val (.int p3), .val (.int p4), .val (.int p5), .val (.int (2 : Int32)), .val (.int (1 : Int32)), .val .null, .val (.ref b257), .unset, .unset, .unset, .unset] [(.int (1 : Int32))]))
      refine own_F.of (fun _ => XS.pop S275.here S275.hx rfl (S275.dec at_74) rfl rfl) ?_
      refine own_F.of (fun _ => XS.iload S275.here S275.hx rfl (S275.dec at_75) rfl) ?_
      refine own_F.of (fun _ => XS.iconst S275.here S275.hx rfl (S275.dec at_77)) ?_
      show own_F p e below s Z _ _ _ _ _ (T275.setTop (mkF m 78 #[.val (.int p0), .val (.int p1), .val (.int p2), .val (.int p3), .val (.int p4), .val (.int p5), .val (.int (2 : Int32)), .val (.int (1 : Int32)), .val .null, .val (.ref b257), .unset, .unset, .unset, .unset] [(.int (2 : Int32)), (.int (2 : Int32))]))
      refine own_icmp S275 91 at_78 (by decide) (by decide) (fun (hc78_277 : ¬ ((2 : Int32) < (2 : Int32))) => ?_) (fun (hc78_277 : (2 : Int32) < (2 : Int32)) => False.elim (absurd hc78_277 (by decide)))
      show own_F p e below s Z _ _ _ _ _ (T275.setTop (mkF m 91 #[.val (.int p0), .val (.int p1), .val (.int p2), .val (.int p3), .val (.int p4), .val (.int p5), .val (.int (2 : Int32)), .val (.int (1 : Int32)), .val .null, .val (.ref b257), .unset, .unset, .unset, .unset] []))
      refine own_F.of (fun _ => XS.aload S275.here S275.hx rfl (S275.dec at_91) rfl rfl) ?_
      refine own_F.of (fun _ => XS.aload S275.here S275.hx rfl (S275.dec at_93) rfl rfl) ?_
      show own_F p e below s Z _ _ _ _ _ (T275.setTop (mkF m 95 #[.val (.int p0), .val (.int p1), .val (.int p2), .val (.int p3), .val (.int p4), .val (.int p5), .val (.int (2 : Int32)), .val (.int (1 : Int32)), .val .null, .val (.ref b257), .unset, .unset, .unset, .unset] [.null, (.ref b257)]))
      have fq278 := (fq272.keep K275)
      have fq279 := (fq274.keep K275)
      have fq280 := (X268.keep K275)
      refine own_callS S275 (y := (⟨"com/example/tidemark/tidemark/Page", "of", "(Ljava/util/List;Ljava/lang/Object;)Lcom/example/tidemark/tidemark/Page;"⟩ : MethodName)) (own_w hw 33 rfl) (own_w hw 34 rfl) (own_w hw 35 rfl) (own_w hw 36 rfl) (by decide) (argsL := [(.ref b257), .null]) (rest := []) (own_pof2 l Z a0 hw b257 .null b265 b260 b268 aM mO h275 S275.old rfl SM MO fq278 Fs275 Fe275 V276 fq279 fq280) all0 (by decide +kernel : parseMethodDescriptor "(Ljava/util/List;Ljava/lang/Object;)Lcom/example/tidemark/tidemark/Page;" = some ⟨[(.object "java/util/List"), (.object "java/lang/Object")], some (.object "com/example/tidemark/tidemark/Page")⟩) rfl rfl rfl at_95 (by decide) (Nat.le_of_ble_eq_true rfl) (by decide) (by decide) (fun T281 h281 v281 S281 K281 q281 => ?_)
      obtain ⟨b281, rfl, E281, x281, Fi281, Fk281, X281, P281, R281⟩ := q281
      show own_F p e below s Z _ _ _ _ _ (T281.setTop (mkF m 98 #[.val (.int p0), .val (.int p1), .val (.int p2), .val (.int p3), .val (.int p4), .val (.int p5), .val (.int (2 : Int32)), .val (.int (1 : Int32)), .val .null, .val (.ref b257), .unset, .unset, .unset, .unset] [(.ref b281)]))
      refine own_F.of (fun _ => XS.astore S281.here S281.hx rfl (S281.dec at_98) rfl rfl (l' := #[.val (.int p0), .val (.int p1), .val (.int p2), .val (.int p3), .val (.int p4), .val (.int p5), .val (.int (2 : Int32)), .val (.int (1 : Int32)), .val .null, .val (.ref b257), .val (.ref b281), .unset, .unset, .unset]) rfl) ?_
      show own_F p e below s Z _ _ _ _ _ (T281.setTop (mkF m 100 #[.val (.int p0), .val (.int p1), .val (.int p2), .val (.int p3), .val (.int p4), .val (.int p5), .val (.int (2 : Int32)), .val (.int (1 : Int32)), .val .null, .val (.ref b257), .val (.ref b281), .unset, .unset, .unset] []))
      refine own_F.of (fun _ => XS.aload S281.here S281.hx rfl (S281.dec at_100) rfl rfl) ?_
      refine own_F.of (fun _ => XS.iloadN S281.here S281.hx rfl (S281.dec at_102) rfl) ?_
      show own_F p e below s Z _ _ _ _ _ (T281.setTop (mkF m 103 #[.val (.int p0), .val (.int p1), .val (.int p2), .val (.int p3), .val (.int p4), .val (.int p5), .val (.int (2 : Int32)), .val (.int (1 : Int32)), .val .null, .val (.ref b257), .val (.ref b281), .unset, .unset, .unset] [(.int p3), (.ref b257)]))
      refine own_callS S281 (y := (⟨"java/lang/Integer", "valueOf", "(I)Ljava/lang/Integer;"⟩ : MethodName)) (own_w hw 0 rfl) (own_w hw 1 rfl) (own_w hw 2 rfl) (own_w hw 3 rfl) (by decide) (argsL := [(.int p3)]) (rest := [(.ref b257)]) (own_vOfI l Z a0 hw p3 aCI clCI h281 S281.old SHi SCaI BXI) all0 (by decide +kernel : parseMethodDescriptor "(I)Ljava/lang/Integer;" = some ⟨[.int], some (.object "java/lang/Integer")⟩) rfl rfl rfl at_103 (by decide) (Nat.le_of_ble_eq_true rfl) (by decide) (by decide) (fun T282 h282 v282 S282 K282 q282 => ?_)
      obtain ⟨b282, rfl, X282, F282⟩ := q282
      show own_F p e below s Z _ _ _ _ _ (T282.setTop (mkF m 106 #[.val (.int p0), .val (.int p1), .val (.int p2), .val (.int p3), .val (.int p4), .val (.int p5), .val (.int (2 : Int32)), .val (.int (1 : Int32)), .val .null, .val (.ref b257), .val (.ref b281), .unset, .unset, .unset] [(.ref b282), (.ref b257)]))
      have fq283 := ((Fe275.keep K281 nin0).keep K282 nin0)
      have fq284 := ((Fs275.keep K281 nin0).keep K282 nin0)
      have fq285 := ((Fm275.keep K281 nin0).keep K282 nin0)
      have fq286 := ((fq278.keep K281).keep K282)
      have fq287 := ((V276.keep K281 nin0).keep K282 nin0)
      have fq288 := ((fq279.keep K281).keep K282)
      have fq289 := ((fq280.keep K281).keep K282)
      refine own_callV S282 (y := (⟨"java/util/ArrayList", "add", "(Ljava/lang/Object;)Z"⟩ : MethodName)) (y' := (⟨"java/util/ArrayList", "add", "(Ljava/lang/Object;)Z"⟩ : MethodName)) (own_w hw 89 rfl) (own_w hw 90 rfl) (own_nf S282 (own_w hw 92 rfl)) (own_w hw 92 rfl) (own_w hw 91 rfl) (own_w hw 93 rfl) (own_w hw 9 rfl) (by decide) fq286 (argsL := [(.ref b282)]) (rest := []) (own_add_2 l Z a0 hw b257 b265 b260 b268 b282 (((0 : Int32) + (1 : Int32)) + (1 : Int32)) h282 S282.old (own_mayN S282 (Or.inr (by rw [g257]; exact S0.size))) fq286 (own_mayN S282 (Or.inr (Nat.le_trans S260.size g265))) fq287 fq283 fq284 fq285 fq288 fq289 X282) (allS (Or.inr (by rw [g257]; exact S0.size)) (allS (Or.inr (Nat.le_trans S260.size g265)) all0)) (by decide +kernel : parseMethodDescriptor "(Ljava/lang/Object;)Z" = some ⟨[(.object "java/lang/Object")], some .boolean⟩) rfl rfl rfl at_106 (by decide) (Nat.le_of_ble_eq_true rfl) (by decide) (by decide) (fun T290 h290 v290 S290 K290 q290 => ?_)
      obtain ⟨rfl, A290, Fe290, Fs290, Fm290⟩ := q290
      have V291 : own_AO Z h290 b265 [(.ref b260), (.ref b268), (.ref b282), .null, .null, .null, .null, .null, .null, .null] := A290
      show own_F p e below s Z _ _ _ _ _ (T290.setTop (mkF m 109 #[.val (.int p0), .val (.int p1), .val (.int p2), .val (.int p3), .val (.int p4), .val (.int p5), .val (.int (2 : Int32)), .val (.int (1 : Int32)), .val .null, .val (.ref b257), .val (.ref b281), .unset, .unset, .unset] [(.int (1 : Int32))]))
      refine own_F.of (fun _ => XS.pop S290.here S290.hx rfl (S290.dec at_109) rfl rfl) ?_
      refine own_F.of (fun _ => XS.aload S290.here S290.hx rfl (S290.dec at_110) rfl rfl) ?_
      show own_F p e below s Z _ _ _ _ _ (T290.setTop (mkF m 112 #[.val (.int p0), .val (.int p1), .val (.int p2), .val (.int p3), .val (.int p4), .val (.int p5), .val (.int (2 : Int32)), .val (.int (1 : Int32)), .val .null, .val (.ref b257), .val (.ref b281), .unset, .unset, .unset] [(.ref b281)]))
      have fq292 := ((Fi281.keep K282 nin0).keep K290 (ninS (ne_exa (E281.keep K282) fq286 (by decide)) (ninS (ne_exa ((E281.keep K282).keep K290) V291.exa (by decide)) nin0)))
      have fq294 := ((E281.keep K282).keep K290)
      refine own_callV S290 (y := (⟨"com/example/tidemark/tidemark/Page", "items", "()Ljava/util/List;"⟩ : MethodName)) (y' := (⟨"com/example/tidemark/tidemark/Page", "items", "()Ljava/util/List;"⟩ : MethodName)) (own_w hw 118 rfl) (own_w hw 119 rfl) (own_nf S290 (own_w hw 121 rfl)) (own_w hw 121 rfl) (own_w hw 120 rfl) (own_w hw 122 rfl) (own_w hw 35 rfl) (by decide) fq294 (argsL := []) (rest := []) (own_pgI l Z a0 hw b281 (.ref x281) h290 S290.old rfl fq292) all0 (by decide +kernel : parseMethodDescriptor "()Ljava/util/List;" = some ⟨[], some (.object "java/util/List")⟩) rfl rfl rfl at_112 (by decide) (Nat.le_of_ble_eq_true rfl) (by decide) (by decide) (fun T293 h293 v293 S293 K293 q293 => ?_)
      obtain ⟨rfl, rfl⟩ := q293
      show own_F p e below s Z _ _ _ _ _ (T293.setTop (mkF m 115 #[.val (.int p0), .val (.int p1), .val (.int p2), .val (.int p3), .val (.int p4), .val (.int p5), .val (.int (2 : Int32)), .val (.int (1 : Int32)), .val .null, .val (.ref b257), .val (.ref b281), .unset, .unset, .unset] [(.ref x281)]))
      refine own_F.of (fun _ => XS.astore S293.here S293.hx rfl (S293.dec at_115) rfl rfl (l' := #[.val (.int p0), .val (.int p1), .val (.int p2), .val (.int p3), .val (.int p4), .val (.int p5), .val (.int (2 : Int32)), .val (.int (1 : Int32)), .val .null, .val (.ref b257), .val (.ref b281), .val (.ref x281), .unset, .unset]) rfl) ?_
      show own_F p e below s Z _ _ _ _ _ (T293.setTop (mkF m 117 #[.val (.int p0), .val (.int p1), .val (.int p2), .val (.int p3), .val (.int p4), .val (.int p5), .val (.int (2 : Int32)), .val (.int (1 : Int32)), .val .null, .val (.ref b257), .val (.ref b281), .val (.ref x281), .unset, .unset] []))
      refine own_F.of (fun _ => XS.aload S293.here S293.hx rfl (S293.dec at_117) rfl rfl) ?_
      show own_F p e below s Z _ _ _ _ _ (T293.setTop (mkF m 119 #[.val (.int p0), .val (.int p1), .val (.int p2), .val (.int p3), .val (.int p4), .val (.int p5), .val (.int (2 : Int32)), .val (.int (1 : Int32)), .val .null, .val (.ref b257), .val (.ref b281), .val (.ref x281), .unset, .unset] [(.ref x281)]))
      have fq295 := ((R281.keep K282 nin0).keep K290 (ninS (ne_exa (X281.keep K282) fq286 (by decide)) (ninS (ne_exa ((X281.keep K282).keep K290) V291.exa (by decide)) nin0)))
      have fq296 := (fq289.keep K290)
      have fq298 := ((X281.keep K282).keep K290)
      refine own_callX S293 (y := (⟨"java/util/List", "size", "()I"⟩ : MethodName)) (y' := (⟨"java/util/ImmutableCollections$List12", "size", "()I"⟩ : MethodName)) (own_w hw 123 rfl) (own_w hw 124 rfl) (own_w hw 125 rfl) (own_w hw 224 rfl) (own_w hw 225 rfl) (own_w hw 226 rfl) (own_w hw 227 rfl) (own_w hw 211 rfl) (own_w hw 228 rfl) (own_w hw 183 rfl) (by decide) fq298 (argsL := []) (rest := []) (own_szT2 l Z a0 hw x281 b268 aM h290 S293.old SM fq295 (ne_exa fq296 (XM.ext S293.old) (by decide))) all0 (by decide +kernel : parseMethodDescriptor "()I" = some ⟨[], some .int⟩) rfl rfl rfl at_119 (by decide) (Nat.le_of_ble_eq_true rfl) (by decide) (by decide) (fun T297 h297 v297 S297 K297 q297 => ?_)
      obtain ⟨rfl, rfl⟩ := q297
      show own_F p e below s Z _ _ _ _ _ (T297.setTop (mkF m 124 #[.val (.int p0), .val (.int p1), .val (.int p2), .val (.int p3), .val (.int p4), .val (.int p5), .val (.int (2 : Int32)), .val (.int (1 : Int32)), .val .null, .val (.ref b257), .val (.ref b281), .val (.ref x281), .unset, .unset] [(.int (2 : Int32))]))
      refine own_F.of (fun _ => XS.iload S297.here S297.hx rfl (S297.dec at_124) rfl) ?_
      show own_F p e below s Z _ _ _ _ _ (T297.setTop (mkF m 126 #[.val (.int p0), .val (.int p1), .val (.int p2), .val (.int p3), .val (.int p4), .val (.int p5), .val (.int (2 : Int32)), .val (.int (1 : Int32)), .val .null, .val (.ref b257), .val (.ref b281), .val (.ref x281), .unset, .unset] [(.int (2 : Int32)), (.int (2 : Int32))]))
      refine own_icmp S297 133 at_126 (by decide) (by decide) (fun (hc126_299 : ¬ ((2 : Int32) = (2 : Int32))) => False.elim (absurd hc126_299 (by decide))) (fun (hc126_299 : (2 : Int32) = (2 : Int32)) => ?_)
      show own_F p e below s Z _ _ _ _ _ (T297.setTop (mkF m 129 #[.val (.int p0), .val (.int p1), .val (.int p2), .val (.int p3), .val (.int p4), .val (.int p5), .val (.int (2 : Int32)), .val (.int (1 : Int32)), .val .null, .val (.ref b257), .val (.ref b281), .val (.ref x281), .unset, .unset] []))
      refine own_F.of (fun _ => XS.iconst S297.here S297.hx rfl (S297.dec at_129)) ?_
      show own_F p e below s Z _ _ _ _ _ (T297.setTop (mkF m 130 #[.val (.int p0), .val (.int p1), .val (.int p2), .val (.int p3), .val (.int p4), .val (.int p5), .val (.int (2 : Int32)), .val (.int (1 : Int32)), .val .null, .val (.ref b257), .val (.ref b281), .val (.ref x281), .unset, .unset] [(.int (1 : Int32))]))
      refine own_F.of (fun _ => XS.goto S297.here S297.hx rfl (pc0 := 130) (pc' := 134) rfl (S297.dec at_130) (by decide) (by decide)) ?_
      show own_F p e below s Z _ _ _ _ _ (T297.setTop (mkF m 134 #[.val (.int p0), .val (.int p1), .val (.int p2), .val (.int p3), .val (.int p4), .val (.int p5), .val (.int (2 : Int32)), .val (.int (1 : Int32)), .val .null, .val (.ref b257), .val (.ref b281), .val (.ref x281), .unset, .unset] [(.int (1 : Int32))]))
      refine own_F.of (fun _ => XS.istore S297.here S297.hx rfl (S297.dec at_134) rfl (l' := #[.val (.int p0), .val (.int p1), .val (.int p2), .val (.int p3), .val (.int p4), .val (.int p5), .val (.int (2 : Int32)), .val (.int (1 : Int32)), .val .null, .val (.ref b257), .val (.ref b281), .val (.ref x281), .val (.int (1 : Int32)), .unset]) rfl) ?_
      show own_F p e below s Z _ _ _ _ _ (T297.setTop (mkF m 136 #[.val (.int p0), .val (.int p1), .val (.int p2), .val (.int p3), .val (.int p4), .val (.int p5), .val (.int (2 : Int32)), .val (.int (1 : Int32)), .val .null, .val (.ref b257), .val (.ref b281), .val (.ref x281), .val (.int (1 : Int32)), .unset] []))
      refine own_F.of (fun _ => XS.iload S297.here S297.hx rfl (S297.dec at_136) rfl) ?_
      show own_F p e below s Z _ _ _ _ _ (T297.setTop (mkF m 138 #[.val (.int p0), .val (.int p1), .val (.int p2), .val (.int p3), .val (.int p4), .val (.int p5), .val (.int (2 : Int32)), .val (.int (1 : Int32)), .val .null, .val (.ref b257), .val (.ref b281), .val (.ref x281), .val (.int (1 : Int32)), .unset] [(.int (1 : Int32))]))
      refine own_if S297 171 at_138 (by decide) (by decide) (fun (hc138_300 : (1 : Int32) = (0 : Int32)) => False.elim (absurd hc138_300 (by decide))) (fun (hc138_300 : ¬ ((1 : Int32) = (0 : Int32))) => ?_)
      show own_F p e below s Z _ _ _ _ _ (T297.setTop (mkF m 141 #[.val (.int p0), .val (.int p1), .val (.int p2), .val (.int p3), .val (.int p4), .val (.int p5), .val (.int (2 : Int32)), .val (.int (1 : Int32)), .val .null, .val (.ref b257), .val (.ref b281), .val (.ref x281), .val (.int (1 : Int32)), .unset] []))
      refine own_F.of (fun _ => XS.iload S297.here S297.hx rfl (S297.dec at_141) rfl) ?_
      show own_F p e below s Z _ _ _ _ _ (T297.setTop (mkF m 143 #[.val (.int p0), .val (.int p1), .val (.int p2), .val (.int p3), .val (.int p4), .val (.int p5), .val (.int (2 : Int32)), .val (.int (1 : Int32)), .val .null, .val (.ref b257), .val (.ref b281), .val (.ref x281), .val (.int (1 : Int32)), .unset] [(.int (2 : Int32))]))
      refine own_if S297 171 at_143 (by decide) (by decide) (fun (hc143_301 : ¬ ((0 : Int32) < (2 : Int32))) => False.elim (absurd hc143_301 (by decide))) (fun (hc143_301 : (0 : Int32) < (2 : Int32)) => ?_)
      show own_F p e below s Z _ _ _ _ _ (T297.setTop (mkF m 146 #[.val (.int p0), .val (.int p1), .val (.int p2), .val (.int p3), .val (.int p4), .val (.int p5), .val (.int (2 : Int32)), .val (.int (1 : Int32)), .val .null, .val (.ref b257), .val (.ref b281), .val (.ref x281), .val (.int (1 : Int32)), .unset] []))
      refine own_F.of (fun _ => XS.aload S297.here S297.hx rfl (S297.dec at_146) rfl rfl) ?_
      refine own_F.of (fun _ => XS.iconst S297.here S297.hx rfl (S297.dec at_148)) ?_
      show own_F p e below s Z _ _ _ _ _ (T297.setTop (mkF m 149 #[.val (.int p0), .val (.int p1), .val (.int p2), .val (.int p3), .val (.int p4), .val (.int p5), .val (.int (2 : Int32)), .val (.int (1 : Int32)), .val .null, .val (.ref b257), .val (.ref b281), .val (.ref x281), .val (.int (1 : Int32)), .unset] [(.int (0 : Int32)), (.ref x281)]))
      have fq302 := ((P281.keep K282 nin0).keep K290 (ninS (ne_exa fq298 (fq286.keep K290) (by decide)) (ninS (ne_exa fq298 V291.exa (by decide)) nin0)))
      refine own_callX S297 (y := (⟨"java/util/List", "get", "(I)Ljava/lang/Object;"⟩ : MethodName)) (y' := (⟨"java/util/ImmutableCollections$List12", "get", "(I)Ljava/lang/Object;"⟩ : MethodName)) (own_w hw 229 rfl) (own_w hw 230 rfl) (own_w hw 231 rfl) (own_w hw 232 rfl) (own_w hw 233 rfl) (own_w hw 234 rfl) (own_w hw 235 rfl) (own_w hw 211 rfl) (own_w hw 236 rfl) (own_w hw 183 rfl) (by decide) fq298 (argsL := [(.int (0 : Int32))]) (rest := []) (own_gtT_0 l Z a0 hw x281 b260 b268 h290 S297.old fq302 fq295) all0 (by decide +kernel : parseMethodDescriptor "(I)Ljava/lang/Object;" = some ⟨[.int], some (.object "java/lang/Object")⟩) rfl rfl rfl at_149 (by decide) (Nat.le_of_ble_eq_true rfl) (by decide) (by decide) (fun T303 h303 v303 S303 K303 q303 => ?_)
      obtain ⟨rfl, rfl⟩ := q303
      show own_F p e below s Z _ _ _ _ _ (T303.setTop (mkF m 154 #[.val (.int p0), .val (.int p1), .val (.int p2), .val (.int p3), .val (.int p4), .val (.int p5), .val (.int (2 : Int32)), .val (.int (1 : Int32)), .val .null, .val (.ref b257), .val (.ref b281), .val (.ref x281), .val (.int (1 : Int32)), .unset] [(.ref b260)]))
      have fq305 := (fq288.keep K290)
      refine own_cast S303 (own_w hw 139 rfl) (Ins.self fq305) at_154 (fun T304 S304 => ?_)
      show own_F p e below s Z _ _ _ _ _ (T304.setTop (mkF m 157 #[.val (.int p0), .val (.int p1), .val (.int p2), .val (.int p3), .val (.int p4), .val (.int p5), .val (.int (2 : Int32)), .val (.int (1 : Int32)), .val .null, .val (.ref b257), .val (.ref b281), .val (.ref x281), .val (.int (1 : Int32)), .unset] [(.ref b260)]))
      have fq306 := ((((((F260.keep K265 (ninS (ne_exa fq305 (fq286.keep K290) (by decide)) nin0)).keep K268 nin0).keep K275 (ninS (ne_exa fq305 (fq286.keep K290) (by decide)) (ninS (ne_exa fq305 V291.exa (by decide)) nin0))).keep K281 nin0).keep K282 nin0).keep K290 (ninS (ne_exa fq305 (fq286.keep K290) (by decide)) (ninS (ne_exa fq305 V291.exa (by decide)) nin0)))
      refine own_callV S304 (y := (⟨"java/lang/Integer", "intValue", "()I"⟩ : MethodName)) (y' := (⟨"java/lang/Integer", "intValue", "()I"⟩ : MethodName)) (own_w hw 141 rfl) (own_w hw 142 rfl) (own_nf S304 (own_w hw 144 rfl)) (own_w hw 144 rfl) (own_w hw 143 rfl) (own_w hw 145 rfl) (own_w hw 2 rfl) (by decide) fq305 (argsL := []) (rest := []) (own_intV l Z a0 hw b260 p1 h290 S304.old fq306) all0 (by decide +kernel : parseMethodDescriptor "()I" = some ⟨[], some .int⟩) rfl rfl rfl at_157 (by decide) (Nat.le_of_ble_eq_true rfl) (by decide) (by decide) (fun T307 h307 v307 S307 K307 q307 => ?_)
      obtain ⟨rfl, rfl⟩ := q307
      show own_F p e below s Z _ _ _ _ _ (T307.setTop (mkF m 160 #[.val (.int p0), .val (.int p1), .val (.int p2), .val (.int p3), .val (.int p4), .val (.int p5), .val (.int (2 : Int32)), .val (.int (1 : Int32)), .val .null, .val (.ref b257), .val (.ref b281), .val (.ref x281), .val (.int (1 : Int32)), .unset] [(.int p1)]))
      refine own_F.of (fun _ => XS.iloadN S307.here S307.hx rfl (S307.dec at_160) rfl) ?_
      show own_F p e below s Z _ _ _ _ _ (T307.setTop (mkF m 161 #[.val (.int p0), .val (.int p1), .val (.int p2), .val (.int p3), .val (.int p4), .val (.int p5), .val (.int (2 : Int32)), .val (.int (1 : Int32)), .val .null, .val (.ref b257), .val (.ref b281), .val (.ref x281), .val (.int (1 : Int32)), .unset] [(.int p1), (.int p1)]))
      refine own_icmp S307 168 at_161 (by decide) (by decide) (fun (hc161_308 : ¬ (p1 = p1)) => False.elim (hc161_308 rfl)) (fun (hc161_308 : p1 = p1) => ?_)
      show own_F p e below s Z _ _ _ _ _ (T307.setTop (mkF m 164 #[.val (.int p0), .val (.int p1), .val (.int p2), .val (.int p3), .val (.int p4), .val (.int p5), .val (.int (2 : Int32)), .val (.int (1 : Int32)), .val .null, .val (.ref b257), .val (.ref b281), .val (.ref x281), .val (.int (1 : Int32)), .unset] []))
      refine own_F.of (fun _ => XS.iconst S307.here S307.hx rfl (S307.dec at_164)) ?_
      show own_F p e below s Z _ _ _ _ _ (T307.setTop (mkF m 165 #[.val (.int p0), .val (.int p1), .val (.int p2), .val (.int p3), .val (.int p4), .val (.int p5), .val (.int (2 : Int32)), .val (.int (1 : Int32)), .val .null, .val (.ref b257), .val (.ref b281), .val (.ref x281), .val (.int (1 : Int32)), .unset] [(.int (1 : Int32))]))
      refine own_F.of (fun _ => XS.goto S307.here S307.hx rfl (pc0 := 165) (pc' := 169) rfl (S307.dec at_165) (by decide) (by decide)) ?_
      show own_F p e below s Z _ _ _ _ _ (T307.setTop (mkF m 169 #[.val (.int p0), .val (.int p1), .val (.int p2), .val (.int p3), .val (.int p4), .val (.int p5), .val (.int (2 : Int32)), .val (.int (1 : Int32)), .val .null, .val (.ref b257), .val (.ref b281), .val (.ref x281), .val (.int (1 : Int32)), .unset] [(.int (1 : Int32))]))
      refine own_F.of (fun _ => XS.istore S307.here S307.hx rfl (S307.dec at_169) rfl (l' := #[.val (.int p0), .val (.int p1), .val (.int p2), .val (.int p3), .val (.int p4), .val (.int p5), .val (.int (2 : Int32)), .val (.int (1 : Int32)), .val .null, .val (.ref b257), .val (.ref b281), .val (.ref x281), .val (.int (1 : Int32)), .unset]) rfl) ?_
      show own_F p e below s Z _ _ _ _ _ (T307.setTop (mkF m 171 #[.val (.int p0), .val (.int p1), .val (.int p2), .val (.int p3), .val (.int p4), .val (.int p5), .val (.int (2 : Int32)), .val (.int (1 : Int32)), .val .null, .val (.ref b257), .val (.ref b281), .val (.ref x281), .val (.int (1 : Int32)), .unset] []))
      refine own_F.of (fun _ => XS.iload S307.here S307.hx rfl (S307.dec at_171) rfl) ?_
      show own_F p e below s Z _ _ _ _ _ (T307.setTop (mkF m 173 #[.val (.int p0), .val (.int p1), .val (.int p2), .val (.int p3), .val (.int p4), .val (.int p5), .val (.int (2 : Int32)), .val (.int (1 : Int32)), .val .null, .val (.ref b257), .val (.ref b281), .val (.ref x281), .val (.int (1 : Int32)), .unset] [(.int (1 : Int32))]))
      refine own_if S307 207 at_173 (by decide) (by decide) (fun (hc173_309 : (1 : Int32) = (0 : Int32)) => False.elim (absurd hc173_309 (by decide))) (fun (hc173_309 : ¬ ((1 : Int32) = (0 : Int32))) => ?_)
      show own_F p e below s Z _ _ _ _ _ (T307.setTop (mkF m 176 #[.val (.int p0), .val (.int p1), .val (.int p2), .val (.int p3), .val (.int p4), .val (.int p5), .val (.int (2 : Int32)), .val (.int (1 : Int32)), .val .null, .val (.ref b257), .val (.ref b281), .val (.ref x281), .val (.int (1 : Int32)), .unset] []))
      refine own_F.of (fun _ => XS.iload S307.here S307.hx rfl (S307.dec at_176) rfl) ?_
      refine own_F.of (fun _ => XS.iconst S307.here S307.hx rfl (S307.dec at_178)) ?_
      show own_F p e below s Z _ _ _ _ _ (T307.setTop (mkF m 179 #[.val (.int p0), .val (.int p1), .val (.int p2), .val (.int p3), .val (.int p4), .val (.int p5), .val (.int (2 : Int32)), .val (.int (1 : Int32)), .val .null, .val (.ref b257), .val (.ref b281), .val (.ref x281), .val (.int (1 : Int32)), .unset] [(.int (1 : Int32)), (.int (2 : Int32))]))
      refine own_icmp S307 207 at_179 (by decide) (by decide) (fun (hc179_310 : ¬ ((1 : Int32) < (2 : Int32))) => False.elim (absurd hc179_310 (by decide))) (fun (hc179_310 : (1 : Int32) < (2 : Int32)) => ?_)
      show own_F p e below s Z _ _ _ _ _ (T307.setTop (mkF m 182 #[.val (.int p0), .val (.int p1), .val (.int p2), .val (.int p3), .val (.int p4), .val (.int p5), .val (.int (2 : Int32)), .val (.int (1 : Int32)), .val .null, .val (.ref b257), .val (.ref b281), .val (.ref x281), .val (.int (1 : Int32)), .unset] []))
      refine own_F.of (fun _ => XS.aload S307.here S307.hx rfl (S307.dec at_182) rfl rfl) ?_
      refine own_F.of (fun _ => XS.iconst S307.here S307.hx rfl (S307.dec at_184)) ?_
      show own_F p e below s Z _ _ _ _ _ (T307.setTop (mkF m 185 #[.val (.int p0), .val (.int p1), .val (.int p2), .val (.int p3), .val (.int p4), .val (.int p5), .val (.int (2 : Int32)), .val (.int (1 : Int32)), .val .null, .val (.ref b257), .val (.ref b281), .val (.ref x281), .val (.int (1 : Int32)), .unset] [(.int (1 : Int32)), (.ref x281)]))
      refine own_callX S307 (y := (⟨"java/util/List", "get", "(I)Ljava/lang/Object;"⟩ : MethodName)) (y' := (⟨"java/util/ImmutableCollections$List12", "get", "(I)Ljava/lang/Object;"⟩ : MethodName)) (own_w hw 229 rfl) (own_w hw 230 rfl) (own_w hw 231 rfl) (own_w hw 232 rfl) (own_w hw 233 rfl) (own_w hw 234 rfl) (own_w hw 235 rfl) (own_w hw 211 rfl) (own_w hw 236 rfl) (own_w hw 183 rfl) (by decide) fq298 (argsL := [(.int (1 : Int32))]) (rest := []) (own_gtT_1 l Z a0 hw x281 b260 b268 aM h290 S307.old SM fq302 fq295 (ne_exa fq296 (XM.ext S307.old) (by decide))) all0 (by decide +kernel : parseMethodDescriptor "(I)Ljava/lang/Object;" = some ⟨[.int], some (.object "java/lang/Object")⟩) rfl rfl rfl at_185 (by decide) (Nat.le_of_ble_eq_true rfl) (by decide) (by decide) (fun T311 h311 v311 S311 K311 q311 => ?_)
      obtain ⟨rfl, rfl⟩ := q311
      show own_F p e below s Z _ _ _ _ _ (T311.setTop (mkF m 190 #[.val (.int p0), .val (.int p1), .val (.int p2), .val (.int p3), .val (.int p4), .val (.int p5), .val (.int (2 : Int32)), .val (.int (1 : Int32)), .val .null, .val (.ref b257), .val (.ref b281), .val (.ref x281), .val (.int (1 : Int32)), .unset] [(.ref b268)]))
      refine own_cast S311 (own_w hw 139 rfl) (Ins.self fq296) at_190 (fun T312 S312 => ?_)
      show own_F p e below s Z _ _ _ _ _ (T312.setTop (mkF m 193 #[.val (.int p0), .val (.int p1), .val (.int p2), .val (.int p3), .val (.int p4), .val (.int p5), .val (.int (2 : Int32)), .val (.int (1 : Int32)), .val .null, .val (.ref b257), .val (.ref b281), .val (.ref x281), .val (.int (1 : Int32)), .unset] [(.ref b268)]))
      have fq313 := ((((F268.keep K275 (ninS (ne_exa fq296 (fq286.keep K290) (by decide)) (ninS (ne_exa fq296 V291.exa (by decide)) nin0))).keep K281 nin0).keep K282 nin0).keep K290 (ninS (ne_exa fq296 (fq286.keep K290) (by decide)) (ninS (ne_exa fq296 V291.exa (by decide)) nin0)))
      refine own_callV S312 (y := (⟨"java/lang/Integer", "intValue", "()I"⟩ : MethodName)) (y' := (⟨"java/lang/Integer", "intValue", "()I"⟩ : MethodName)) (own_w hw 141 rfl) (own_w hw 142 rfl) (own_nf S312 (own_w hw 144 rfl)) (own_w hw 144 rfl) (own_w hw 143 rfl) (own_w hw 145 rfl) (own_w hw 2 rfl) (by decide) fq296 (argsL := []) (rest := []) (own_intV l Z a0 hw b268 p2 h290 S312.old fq313) all0 (by decide +kernel : parseMethodDescriptor "()I" = some ⟨[], some .int⟩) rfl rfl rfl at_193 (by decide) (Nat.le_of_ble_eq_true rfl) (by decide) (by decide) (fun T314 h314 v314 S314 K314 q314 => ?_)
      obtain ⟨rfl, rfl⟩ := q314
      show own_F p e below s Z _ _ _ _ _ (T314.setTop (mkF m 196 #[.val (.int p0), .val (.int p1), .val (.int p2), .val (.int p3), .val (.int p4), .val (.int p5), .val (.int (2 : Int32)), .val (.int (1 : Int32)), .val .null, .val (.ref b257), .val (.ref b281), .val (.ref x281), .val (.int (1 : Int32)), .unset] [(.int p2)]))
      refine own_F.of (fun _ => XS.iloadN S314.here S314.hx rfl (S314.dec at_196) rfl) ?_
      show own_F p e below s Z _ _ _ _ _ (T314.setTop (mkF m 197 #[.val (.int p0), .val (.int p1), .val (.int p2), .val (.int p3), .val (.int p4), .val (.int p5), .val (.int (2 : Int32)), .val (.int (1 : Int32)), .val .null, .val (.ref b257), .val (.ref b281), .val (.ref x281), .val (.int (1 : Int32)), .unset] [(.int p2), (.int p2)]))
      refine own_icmp S314 204 at_197 (by decide) (by decide) (fun (hc197_315 : ¬ (p2 = p2)) => False.elim (hc197_315 rfl)) (fun (hc197_315 : p2 = p2) => ?_)
      show own_F p e below s Z _ _ _ _ _ (T314.setTop (mkF m 200 #[.val (.int p0), .val (.int p1), .val (.int p2), .val (.int p3), .val (.int p4), .val (.int p5), .val (.int (2 : Int32)), .val (.int (1 : Int32)), .val .null, .val (.ref b257), .val (.ref b281), .val (.ref x281), .val (.int (1 : Int32)), .unset] []))
      refine own_F.of (fun _ => XS.iconst S314.here S314.hx rfl (S314.dec at_200)) ?_
      show own_F p e below s Z _ _ _ _ _ (T314.setTop (mkF m 201 #[.val (.int p0), .val (.int p1), .val (.int p2), .val (.int p3), .val (.int p4), .val (.int p5), .val (.int (2 : Int32)), .val (.int (1 : Int32)), .val .null, .val (.ref b257), .val (.ref b281), .val (.ref x281), .val (.int (1 : Int32)), .unset] [(.int (1 : Int32))]))
      refine own_F.of (fun _ => XS.goto S314.here S314.hx rfl (pc0 := 201) (pc' := 205) rfl (S314.dec at_201) (by decide) (by decide)) ?_
      show own_F p e below s Z _ _ _ _ _ (T314.setTop (mkF m 205 #[.val (.int p0), .val (.int p1), .val (.int p2), .val (.int p3), .val (.int p4), .val (.int p5), .val (.int (2 : Int32)), .val (.int (1 : Int32)), .val .null, .val (.ref b257), .val (.ref b281), .val (.ref x281), .val (.int (1 : Int32)), .unset] [(.int (1 : Int32))]))
      refine own_F.of (fun _ => XS.istore S314.here S314.hx rfl (S314.dec at_205) rfl (l' := #[.val (.int p0), .val (.int p1), .val (.int p2), .val (.int p3), .val (.int p4), .val (.int p5), .val (.int (2 : Int32)), .val (.int (1 : Int32)), .val .null, .val (.ref b257), .val (.ref b281), .val (.ref x281), .val (.int (1 : Int32)), .unset]) rfl) ?_
      show own_F p e below s Z _ _ _ _ _ (T314.setTop (mkF m 207 #[.val (.int p0), .val (.int p1), .val (.int p2), .val (.int p3), .val (.int p4), .val (.int p5), .val (.int (2 : Int32)), .val (.int (1 : Int32)), .val .null, .val (.ref b257), .val (.ref b281), .val (.ref x281), .val (.int (1 : Int32)), .unset] []))
      refine own_F.of (fun _ => XS.iload S314.here S314.hx rfl (S314.dec at_207) rfl) ?_
      show own_F p e below s Z _ _ _ _ _ (T314.setTop (mkF m 209 #[.val (.int p0), .val (.int p1), .val (.int p2), .val (.int p3), .val (.int p4), .val (.int p5), .val (.int (2 : Int32)), .val (.int (1 : Int32)), .val .null, .val (.ref b257), .val (.ref b281), .val (.ref x281), .val (.int (1 : Int32)), .unset] [(.int (1 : Int32))]))
      refine own_if S314 243 at_209 (by decide) (by decide) (fun (hc209_316 : (1 : Int32) = (0 : Int32)) => False.elim (absurd hc209_316 (by decide))) (fun (hc209_316 : ¬ ((1 : Int32) = (0 : Int32))) => ?_)
      show own_F p e below s Z _ _ _ _ _ (T314.setTop (mkF m 212 #[.val (.int p0), .val (.int p1), .val (.int p2), .val (.int p3), .val (.int p4), .val (.int p5), .val (.int (2 : Int32)), .val (.int (1 : Int32)), .val .null, .val (.ref b257), .val (.ref b281), .val (.ref x281), .val (.int (1 : Int32)), .unset] []))
      refine own_F.of (fun _ => XS.iload S314.here S314.hx rfl (S314.dec at_212) rfl) ?_
      refine own_F.of (fun _ => XS.iconst S314.here S314.hx rfl (S314.dec at_214)) ?_
      show own_F p e below s Z _ _ _ _ _ (T314.setTop (mkF m 215 #[.val (.int p0), .val (.int p1), .val (.int p2), .val (.int p3), .val (.int p4), .val (.int p5), .val (.int (2 : Int32)), .val (.int (1 : Int32)), .val .null, .val (.ref b257), .val (.ref b281), .val (.ref x281), .val (.int (1 : Int32)), .unset] [(.int (2 : Int32)), (.int (2 : Int32))]))
      refine own_icmp S314 243 at_215 (by decide) (by decide) (fun (hc215_317 : ¬ ((2 : Int32) < (2 : Int32))) => ?_) (fun (hc215_317 : (2 : Int32) < (2 : Int32)) => False.elim (absurd hc215_317 (by decide)))
      show own_F p e below s Z _ _ _ _ _ (T314.setTop (mkF m 243 #[.val (.int p0), .val (.int p1), .val (.int p2), .val (.int p3), .val (.int p4), .val (.int p5), .val (.int (2 : Int32)), .val (.int (1 : Int32)), .val .null, .val (.ref b257), .val (.ref b281), .val (.ref x281), .val (.int (1 : Int32)), .unset] []))
      refine own_F.of (fun _ => XS.aload S314.here S314.hx rfl (S314.dec at_243) rfl rfl) ?_
      show own_F p e below s Z _ _ _ _ _ (T314.setTop (mkF m 245 #[.val (.int p0), .val (.int p1), .val (.int p2), .val (.int p3), .val (.int p4), .val (.int p5), .val (.int (2 : Int32)), .val (.int (1 : Int32)), .val .null, .val (.ref b257), .val (.ref b281), .val (.ref x281), .val (.int (1 : Int32)), .unset] [(.ref b281)]))
      have fq318 := ((Fk281.keep K282 nin0).keep K290 (ninS (ne_exa fq294 (fq286.keep K290) (by decide)) (ninS (ne_exa fq294 V291.exa (by decide)) nin0)))
      refine own_callV S314 (y := (⟨"com/example/tidemark/tidemark/Page", "nextKey", "()Ljava/lang/Object;"⟩ : MethodName)) (y' := (⟨"com/example/tidemark/tidemark/Page", "nextKey", "()Ljava/lang/Object;"⟩ : MethodName)) (own_w hw 134 rfl) (own_w hw 135 rfl) (own_nf S314 (own_w hw 137 rfl)) (own_w hw 137 rfl) (own_w hw 136 rfl) (own_w hw 138 rfl) (own_w hw 35 rfl) (by decide) fq294 (argsL := []) (rest := []) (own_pgK l Z a0 hw b281 .null h290 S314.old rfl fq318) all0 (by decide +kernel : parseMethodDescriptor "()Ljava/lang/Object;" = some ⟨[], some (.object "java/lang/Object")⟩) rfl rfl rfl at_245 (by decide) (Nat.le_of_ble_eq_true rfl) (by decide) (by decide) (fun T319 h319 v319 S319 K319 q319 => ?_)
      obtain ⟨rfl, rfl⟩ := q319
      show own_F p e below s Z _ _ _ _ _ (T319.setTop (mkF m 248 #[.val (.int p0), .val (.int p1), .val (.int p2), .val (.int p3), .val (.int p4), .val (.int p5), .val (.int (2 : Int32)), .val (.int (1 : Int32)), .val .null, .val (.ref b257), .val (.ref b281), .val (.ref x281), .val (.int (1 : Int32)), .unset] [.null]))
      refine own_cast0 S319 at_248 ?_
      show own_F p e below s Z _ _ _ _ _ (T319.setTop (mkF m 251 #[.val (.int p0), .val (.int p1), .val (.int p2), .val (.int p3), .val (.int p4), .val (.int p5), .val (.int (2 : Int32)), .val (.int (1 : Int32)), .val .null, .val (.ref b257), .val (.ref b281), .val (.ref x281), .val (.int (1 : Int32)), .unset] [.null]))
      refine own_F.of (fun _ => XS.astore S319.here S319.hx rfl (S319.dec at_251) rfl rfl (l' := #[.val (.int p0), .val (.int p1), .val (.int p2), .val (.int p3), .val (.int p4), .val (.int p5), .val (.int (2 : Int32)), .val (.int (1 : Int32)), .val .null, .val (.ref b257), .val (.ref b281), .val (.ref x281), .val (.int (1 : Int32)), .val .null]) rfl) ?_
      show own_F p e below s Z _ _ _ _ _ (T319.setTop (mkF m 253 #[.val (.int p0), .val (.int p1), .val (.int p2), .val (.int p3), .val (.int p4), .val (.int p5), .val (.int (2 : Int32)), .val (.int (1 : Int32)), .val .null, .val (.ref b257), .val (.ref b281), .val (.ref x281), .val (.int (1 : Int32)), .val .null] []))
      refine own_F.of (fun _ => XS.iload S319.here S319.hx rfl (S319.dec at_253) rfl) ?_
      show own_F p e below s Z _ _ _ _ _ (T319.setTop (mkF m 255 #[.val (.int p0), .val (.int p1), .val (.int p2), .val (.int p3), .val (.int p4), .val (.int p5), .val (.int (2 : Int32)), .val (.int (1 : Int32)), .val .null, .val (.ref b257), .val (.ref b281), .val (.ref x281), .val (.int (1 : Int32)), .val .null] [(.int (1 : Int32))]))
      refine own_if S319 272 at_255 (by decide) (by decide) (fun (hc255_320 : (1 : Int32) = (0 : Int32)) => False.elim (absurd hc255_320 (by decide))) (fun (hc255_320 : ¬ ((1 : Int32) = (0 : Int32))) => ?_)
      show own_F p e below s Z _ _ _ _ _ (T319.setTop (mkF m 258 #[.val (.int p0), .val (.int p1), .val (.int p2), .val (.int p3), .val (.int p4), .val (.int p5), .val (.int (2 : Int32)), .val (.int (1 : Int32)), .val .null, .val (.ref b257), .val (.ref b281), .val (.ref x281), .val (.int (1 : Int32)), .val .null] []))
      refine own_F.of (fun _ => XS.aload S319.here S319.hx rfl (S319.dec at_258) rfl rfl) ?_
      refine own_F.of (fun _ => XS.aload S319.here S319.hx rfl (S319.dec at_260) rfl rfl) ?_
      show own_F p e below s Z _ _ _ _ _ (T319.setTop (mkF m 262 #[.val (.int p0), .val (.int p1), .val (.int p2), .val (.int p3), .val (.int p4), .val (.int p5), .val (.int (2 : Int32)), .val (.int (1 : Int32)), .val .null, .val (.ref b257), .val (.ref b281), .val (.ref x281), .val (.int (1 : Int32)), .val .null] [.null, .null]))
      refine own_acmp S319 rfl rfl 269 at_262 (by decide) (by decide) (fun (hc262_321 : ¬ (Value.null = Value.null)) => False.elim (hc262_321 rfl)) (fun (hc262_321 : Value.null = Value.null) => ?_)
      show own_F p e below s Z _ _ _ _ _ (T319.setTop (mkF m 265 #[.val (.int p0), .val (.int p1), .val (.int p2), .val (.int p3), .val (.int p4), .val (.int p5), .val (.int (2 : Int32)), .val (.int (1 : Int32)), .val .null, .val (.ref b257), .val (.ref b281), .val (.ref x281), .val (.int (1 : Int32)), .val .null] []))
      refine own_F.of (fun _ => XS.iconst S319.here S319.hx rfl (S319.dec at_265)) ?_
      show own_F p e below s Z _ _ _ _ _ (T319.setTop (mkF m 266 #[.val (.int p0), .val (.int p1), .val (.int p2), .val (.int p3), .val (.int p4), .val (.int p5), .val (.int (2 : Int32)), .val (.int (1 : Int32)), .val .null, .val (.ref b257), .val (.ref b281), .val (.ref x281), .val (.int (1 : Int32)), .val .null] [(.int (1 : Int32))]))
      refine own_F.of (fun _ => XS.goto S319.here S319.hx rfl (pc0 := 266) (pc' := 270) rfl (S319.dec at_266) (by decide) (by decide)) ?_
      show own_F p e below s Z _ _ _ _ _ (T319.setTop (mkF m 270 #[.val (.int p0), .val (.int p1), .val (.int p2), .val (.int p3), .val (.int p4), .val (.int p5), .val (.int (2 : Int32)), .val (.int (1 : Int32)), .val .null, .val (.ref b257), .val (.ref b281), .val (.ref x281), .val (.int (1 : Int32)), .val .null] [(.int (1 : Int32))]))
      refine own_F.of (fun _ => XS.istore S319.here S319.hx rfl (S319.dec at_270) rfl (l' := #[.val (.int p0), .val (.int p1), .val (.int p2), .val (.int p3), .val (.int p4), .val (.int p5), .val (.int (2 : Int32)), .val (.int (1 : Int32)), .val .null, .val (.ref b257), .val (.ref b281), .val (.ref x281), .val (.int (1 : Int32)), .val .null]) rfl) ?_
      show own_F p e below s Z _ _ _ _ _ (T319.setTop (mkF m 272 #[.val (.int p0), .val (.int p1), .val (.int p2), .val (.int p3), .val (.int p4), .val (.int p5), .val (.int (2 : Int32)), .val (.int (1 : Int32)), .val .null, .val (.ref b257), .val (.ref b281), .val (.ref x281), .val (.int (1 : Int32)), .val .null] []))
      refine own_F.of (fun _ => XS.iload S319.here S319.hx rfl (S319.dec at_272) rfl) ?_
      show own_F p e below s Z _ _ _ _ _ (T319.setTop (mkF m 274 #[.val (.int p0), .val (.int p1), .val (.int p2), .val (.int p3), .val (.int p4), .val (.int p5), .val (.int (2 : Int32)), .val (.int (1 : Int32)), .val .null, .val (.ref b257), .val (.ref b281), .val (.ref x281), .val (.int (1 : Int32)), .val .null] [(.int (1 : Int32))]))
      refine own_if S319 304 at_274 (by decide) (by decide) (fun (hc274_322 : (1 : Int32) = (0 : Int32)) => False.elim (absurd hc274_322 (by decide))) (fun (hc274_322 : ¬ ((1 : Int32) = (0 : Int32))) => ?_)
      show own_F p e below s Z _ _ _ _ _ (T319.setTop (mkF m 277 #[.val (.int p0), .val (.int p1), .val (.int p2), .val (.int p3), .val (.int p4), .val (.int p5), .val (.int (2 : Int32)), .val (.int (1 : Int32)), .val .null, .val (.ref b257), .val (.ref b281), .val (.ref x281), .val (.int (1 : Int32)), .val .null] []))
      refine own_F.of (fun _ => XS.iload S319.here S319.hx rfl (S319.dec at_277) rfl) ?_
      show own_F p e below s Z _ _ _ _ _ (T319.setTop (mkF m 279 #[.val (.int p0), .val (.int p1), .val (.int p2), .val (.int p3), .val (.int p4), .val (.int p5), .val (.int (2 : Int32)), .val (.int (1 : Int32)), .val .null, .val (.ref b257), .val (.ref b281), .val (.ref x281), .val (.int (1 : Int32)), .val .null] [(.int (1 : Int32))]))
      refine own_if S319 304 at_279 (by decide) (by decide) (fun (hc279_323 : ¬ ((1 : Int32) = (0 : Int32))) => ?_) (fun (hc279_323 : (1 : Int32) = (0 : Int32)) => False.elim (absurd hc279_323 (by decide)))
      show own_F p e below s Z _ _ _ _ _ (T319.setTop (mkF m 304 #[.val (.int p0), .val (.int p1), .val (.int p2), .val (.int p3), .val (.int p4), .val (.int p5), .val (.int (2 : Int32)), .val (.int (1 : Int32)), .val .null, .val (.ref b257), .val (.ref b281), .val (.ref x281), .val (.int (1 : Int32)), .val .null] []))
      refine own_F.of (fun _ => XS.iload S319.here S319.hx rfl (S319.dec at_304) rfl) ?_
      show own_F p e below s Z _ _ _ _ _ (T319.setTop (mkF m 306 #[.val (.int p0), .val (.int p1), .val (.int p2), .val (.int p3), .val (.int p4), .val (.int p5), .val (.int (2 : Int32)), .val (.int (1 : Int32)), .val .null, .val (.ref b257), .val (.ref b281), .val (.ref x281), .val (.int (1 : Int32)), .val .null] [(.int (1 : Int32))]))
      refine own_retZ S319 (by simp) at_306 (by decide) (by decide) ?_
      rfl
  · rw [hn]
    show own_F p e below s Z _ _ _ _ _ (T0.setTop (mkF m 5 #[.val (.int p0), .val (.int p1), .val (.int p2), .val (.int p3), .val (.int p4), .val (.int p5), .val (.int (3 : Int32)), .unset, .unset, .unset, .unset, .unset, .unset, .unset] []))
    refine own_F.of (fun _ => XS.iload S0.here S0.hx rfl (S0.dec at_5) rfl) ?_
    refine own_F.of (fun _ => XS.iconst S0.here S0.hx rfl (S0.dec at_7)) ?_
    show own_F p e below s Z _ _ _ _ _ (T0.setTop (mkF m 8 #[.val (.int p0), .val (.int p1), .val (.int p2), .val (.int p3), .val (.int p4), .val (.int p5), .val (.int (3 : Int32)), .unset, .unset, .unset, .unset, .unset, .unset, .unset] [(.int (1 : Int32)), (.int p4)]))
    refine own_F.of (fun _ => XS.iand S0.here S0.hx rfl (S0.dec at_8) rfl) ?_
    show own_F p e below s Z _ _ _ _ _ (T0.setTop (mkF m 9 #[.val (.int p0), .val (.int p1), .val (.int p2), .val (.int p3), .val (.int p4), .val (.int p5), .val (.int (3 : Int32)), .unset, .unset, .unset, .unset, .unset, .unset, .unset] [(.int (p4 &&& (1 : Int32)))]))
    refine own_if S0 16 at_9 (by decide) (by decide) (fun (hc9_324 : (p4 &&& (1 : Int32)) = (0 : Int32)) => ?_) (fun (hc9_324 : ¬ ((p4 &&& (1 : Int32)) = (0 : Int32))) => ?_)
    · show own_F p e below s Z _ _ _ _ _ (T0.setTop (mkF m 16 #[.val (.int p0), .val (.int p1), .val (.int p2), .val (.int p3), .val (.int p4), .val (.int p5), .val (.int (3 : Int32)), .unset, .unset, .unset, .unset, .unset, .unset, .unset] []))
      refine own_F.of (fun _ => XS.iconst S0.here S0.hx rfl (S0.dec at_16)) ?_
      show own_F p e below s Z _ _ _ _ _ (T0.setTop (mkF m 17 #[.val (.int p0), .val (.int p1), .val (.int p2), .val (.int p3), .val (.int p4), .val (.int p5), .val (.int (3 : Int32)), .unset, .unset, .unset, .unset, .unset, .unset, .unset] [(.int (0 : Int32))]))
      refine own_F.of (fun _ => XS.istore S0.here S0.hx rfl (S0.dec at_17) rfl (l' := #[.val (.int p0), .val (.int p1), .val (.int p2), .val (.int p3), .val (.int p4), .val (.int p5), .val (.int (3 : Int32)), .val (.int (0 : Int32)), .unset, .unset, .unset, .unset, .unset, .unset]) rfl) ?_
      show own_F p e below s Z _ _ _ _ _ (T0.setTop (mkF m 19 #[.val (.int p0), .val (.int p1), .val (.int p2), .val (.int p3), .val (.int p4), .val (.int p5), .val (.int (3 : Int32)), .val (.int (0 : Int32)), .unset, .unset, .unset, .unset, .unset, .unset] []))
      refine own_F.of (fun _ => XS.iload S0.here S0.hx rfl (S0.dec at_19) rfl) ?_
      show own_F p e below s Z _ _ _ _ _ (T0.setTop (mkF m 21 #[.val (.int p0), .val (.int p1), .val (.int p2), .val (.int p3), .val (.int p4), .val (.int p5), .val (.int (3 : Int32)), .val (.int (0 : Int32)), .unset, .unset, .unset, .unset, .unset, .unset] [(.int (0 : Int32))]))
      refine own_if S0 28 at_21 (by decide) (by decide) (fun (hc21_325 : (0 : Int32) = (0 : Int32)) => ?_) (fun (hc21_325 : ¬ ((0 : Int32) = (0 : Int32))) => False.elim (absurd hc21_325 (by decide)))
      show own_F p e below s Z _ _ _ _ _ (T0.setTop (mkF m 28 #[.val (.int p0), .val (.int p1), .val (.int p2), .val (.int p3), .val (.int p4), .val (.int p5), .val (.int (3 : Int32)), .val (.int (0 : Int32)), .unset, .unset, .unset, .unset, .unset, .unset] []))
      refine own_F.of (fun _ => XS.iload S0.here S0.hx rfl (S0.dec at_28) rfl) ?_
      show own_F p e below s Z _ _ _ _ _ (T0.setTop (mkF m 30 #[.val (.int p0), .val (.int p1), .val (.int p2), .val (.int p3), .val (.int p4), .val (.int p5), .val (.int (3 : Int32)), .val (.int (0 : Int32)), .unset, .unset, .unset, .unset, .unset, .unset] [(.int p5)]))
      refine own_callS S0 (y := (⟨"java/lang/Integer", "valueOf", "(I)Ljava/lang/Integer;"⟩ : MethodName)) (own_w hw 0 rfl) (own_w hw 1 rfl) (own_w hw 2 rfl) (own_w hw 3 rfl) (by decide) (argsL := [(.int p5)]) (rest := []) (own_vOfI l Z a0 hw p5 aCI clCI h0 S0.old SHi SCaI BXI) all0 (by decide +kernel : parseMethodDescriptor "(I)Ljava/lang/Integer;" = some ⟨[.int], some (.object "java/lang/Integer")⟩) rfl rfl rfl at_30 (by decide) (Nat.le_of_ble_eq_true rfl) (by decide) (by decide) (fun T326 h326 v326 S326 K326 q326 => ?_)
      obtain ⟨b326, rfl, X326, F326⟩ := q326
      show own_F p e below s Z _ _ _ _ _ (T326.setTop (mkF m 33 #[.val (.int p0), .val (.int p1), .val (.int p2), .val (.int p3), .val (.int p4), .val (.int p5), .val (.int (3 : Int32)), .val (.int (0 : Int32)), .unset, .unset, .unset, .unset, .unset, .unset] [(.ref b326)]))
      refine own_F.of (fun _ => XS.astore S326.here S326.hx rfl (S326.dec at_33) rfl rfl (l' := #[.val (.int p0), .val (.int p1), .val (.int p2), .val (.int p3), .val (.int p4), .val (.int p5), .val (.int (3 : Int32)), .val (.int (0 : Int32)), .val (.ref b326), .unset, .unset, .unset, .unset, .unset]) rfl) ?_
      show own_F p e below s Z _ _ _ _ _ (T326.setTop (mkF m 35 #[.val (.int p0), .val (.int p1), .val (.int p2), .val (.int p3), .val (.int p4), .val (.int p5), .val (.int (3 : Int32)), .val (.int (0 : Int32)), .val (.ref b326), .unset, .unset, .unset, .unset, .unset] []))
      refine own_new S326 (own_w hw 7 rfl) (own_w hw 8 rfl) (own_w hw 9 rfl) at_35 (by decide) (by decide) (fun T327 h327 b327 g327 S327 E327 A327 D327 => ?_)
      have F327_modCount : Fld Z h327 b327 "java/util/AbstractList" "modCount" "I" (.int (0 : Int32)) := (D327 (Or.inl (own_w hw 29 rfl)) (ty := .int) (by decide))
      have F327_elementData : Fld Z h327 b327 "java/util/ArrayList" "elementData" "[Ljava/lang/Object;" .null := (D327 (Or.inl (own_w hw 32 rfl)) (ty := (.array (.object "java/lang/Object"))) (by decide))
      have F327_size : Fld Z h327 b327 "java/util/ArrayList" "size" "I" (.int (0 : Int32)) := (D327 (Or.inl (own_w hw 63 rfl)) (ty := .int) (by decide))
      show own_F p e below s Z _ _ _ _ _ (T327.setTop (mkF m 38 #[.val (.int p0), .val (.int p1), .val (.int p2), .val (.int p3), .val (.int p4), .val (.int p5), .val (.int (3 : Int32)), .val (.int (0 : Int32)), .val (.ref b326), .unset, .unset, .unset, .unset, .unset] [(.ref b327)]))
      refine own_F.of (fun _ => XS.dup S327.here S327.hx rfl (S327.dec at_38) rfl rfl) ?_
      show own_F p e below s Z _ _ _ _ _ (T327.setTop (mkF m 39 #[.val (.int p0), .val (.int p1), .val (.int p2), .val (.int p3), .val (.int p4), .val (.int p5), .val (.int (3 : Int32)), .val (.int (0 : Int32)), .val (.ref b326), .unset, .unset, .unset, .unset, .unset] [(.ref b327), (.ref b327)]))
      refine own_callI S327 (y := (⟨"java/util/ArrayList", "<init>", "()V"⟩ : MethodName)) rfl (own_w hw 10 rfl) (own_w hw 11 rfl) (own_w hw 9 rfl) (own_w hw 12 rfl) (by decide) (argsL := []) (rest := [(.ref b327)]) (own_ALI l Z a0 hw b327 aD h327 S327.old SD AD (own_mayN S327 (Or.inr (by rw [g327]; exact S326.size))) A327 F327_modCount F327_elementData F327_size) (allS (Or.inr (by rw [g327]; exact S326.size)) all0) (by decide +kernel : parseMethodDescriptor "()V" = some ⟨[], none⟩) rfl rfl rfl at_39 (by decide) (Nat.le_of_ble_eq_true rfl) (by decide) (by decide) (fun T328 h328 v328 S328 K328 q328 => ?_)
      obtain ⟨rfl, Fm328, Fe328, Fs328⟩ := q328
      show own_F p e below s Z _ _ _ _ _ (T328.setTop (mkF m 42 #[.val (.int p0), .val (.int p1), .val (.int p2), .val (.int p3), .val (.int p4), .val (.int p5), .val (.int (3 : Int32)), .val (.int (0 : Int32)), .val (.ref b326), .unset, .unset, .unset, .unset, .unset] [(.ref b327)]))
      refine own_F.of (fun _ => XS.astore S328.here S328.hx rfl (S328.dec at_42) rfl rfl (l' := #[.val (.int p0), .val (.int p1), .val (.int p2), .val (.int p3), .val (.int p4), .val (.int p5), .val (.int (3 : Int32)), .val (.int (0 : Int32)), .val (.ref b326), .val (.ref b327), .unset, .unset, .unset, .unset]) rfl) ?_
      show own_F p e below s Z _ _ _ _ _ (T328.setTop (mkF m 44 #[.val (.int p0), .val (.int p1), .val (.int p2), .val (.int p3), .val (.int p4), .val (.int p5), .val (.int (3 : Int32)), .val (.int (0 : Int32)), .val (.ref b326), .val (.ref b327), .unset, .unset, .unset, .unset] []))
      refine own_F.of (fun _ => XS.iload S328.here S328.hx rfl (S328.dec at_44) rfl) ?_
      show own_F p e below s Z _ _ _ _ _ (T328.setTop (mkF m 46 #[.val (.int p0), .val (.int p1), .val (.int p2), .val (.int p3), .val (.int p4), .val (.int p5), .val (.int (3 : Int32)), .val (.int (0 : Int32)), .val (.ref b326), .val (.ref b327), .unset, .unset, .unset, .unset] [(.int (3 : Int32))]))
      refine own_if S328 59 at_46 (by decide) (by decide) (fun (hc46_329 : ¬ ((0 : Int32) < (3 : Int32))) => False.elim (absurd hc46_329 (by decide))) (fun (hc46_329 : (0 : Int32) < (3 : Int32)) => ?_)
      show own_F p e below s Z _ _ _ _ _ (T328.setTop (mkF m 49 #[.val (.int p0), .val (.int p1), .val (.int p2), .val (.int p3), .val (.int p4), .val (.int p5), .val (.int (3 : Int32)), .val (.int (0 : Int32)), .val (.ref b326), .val (.ref b327), .unset, .unset, .unset, .unset] []))
      refine own_F.of (fun _ => XS.aload S328.here S328.hx rfl (S328.dec at_49) rfl rfl) ?_
      refine own_F.of (fun _ => XS.iloadN S328.here S328.hx rfl (S328.dec at_51) rfl) ?_
      show own_F p e below s Z _ _ _ _ _ (T328.setTop (mkF m 52 #[.val (.int p0), .val (.int p1), .val (.int p2), .val (.int p3), .val (.int p4), .val (.int p5), .val (.int (3 : Int32)), .val (.int (0 : Int32)), .val (.ref b326), .val (.ref b327), .unset, .unset, .unset, .unset] [(.int p1), (.ref b327)]))
      refine own_callS S328 (y := (⟨"java/lang/Integer", "valueOf", "(I)Ljava/lang/Integer;"⟩ : MethodName)) (own_w hw 0 rfl) (own_w hw 1 rfl) (own_w hw 2 rfl) (own_w hw 3 rfl) (by decide) (argsL := [(.int p1)]) (rest := [(.ref b327)]) (own_vOfI l Z a0 hw p1 aCI clCI h328 S328.old SHi SCaI BXI) all0 (by decide +kernel : parseMethodDescriptor "(I)Ljava/lang/Integer;" = some ⟨[.int], some (.object "java/lang/Integer")⟩) rfl rfl rfl at_52 (by decide) (Nat.le_of_ble_eq_true rfl) (by decide) (by decide) (fun T330 h330 v330 S330 K330 q330 => ?_)
      obtain ⟨b330, rfl, X330, F330⟩ := q330
      show own_F p e below s Z _ _ _ _ _ (T330.setTop (mkF m 55 #[.val (.int p0), .val (.int p1), .val (.int p2), .val (.int p3), .val (.int p4), .val (.int p5), .val (.int (3 : Int32)), .val (.int (0 : Int32)), .val (.ref b326), .val (.ref b327), .unset, .unset, .unset, .unset] [(.ref b330), (.ref b327)]))
      have fq331 := (Fe328.keep K330 nin0)
      have fq332 := (Fs328.keep K330 nin0)
      have fq333 := (Fm328.keep K330 nin0)
      have fq334 := ((A327.keep K328).keep K330)
      refine own_callV S330 (y := (⟨"java/util/ArrayList", "add", "(Ljava/lang/Object;)Z"⟩ : MethodName)) (y' := (⟨"java/util/ArrayList", "add", "(Ljava/lang/Object;)Z"⟩ : MethodName)) (own_w hw 89 rfl) (own_w hw 90 rfl) (own_nf S330 (own_w hw 92 rfl)) (own_w hw 92 rfl) (own_w hw 91 rfl) (own_w hw 93 rfl) (own_w hw 9 rfl) (by decide) fq334 (argsL := [(.ref b330)]) (rest := []) (own_add_0 l Z a0 hw b327 b330 aD (0 : Int32) h330 S330.old SD AD (own_mayN S330 (Or.inr (by rw [g327]; exact S326.size))) fq334 fq331 fq332 fq333 X330) (allS (Or.inr (by rw [g327]; exact S326.size)) all0) (by decide +kernel : parseMethodDescriptor "(Ljava/lang/Object;)Z" = some ⟨[(.object "java/lang/Object")], some .boolean⟩) rfl rfl rfl at_55 (by decide) (Nat.le_of_ble_eq_true rfl) (by decide) (by decide) (fun T335 h335 v335 S335 K335 q335 => ?_)
      obtain ⟨rfl, b335, g335, A335, Fe335, Fs335, Fm335⟩ := q335
      have V336 : own_AO Z h335 b335 [(.ref b330), .null, .null, .null, .null, .null, .null, .null, .null, .null] := A335
      show own_F p e below s Z _ _ _ _ _ (T335.setTop (mkF m 58 #[.val (.int p0), .val (.int p1), .val (.int p2), .val (.int p3), .val (.int p4), .val (.int p5), .val (.int (3 : Int32)), .val (.int (0 : Int32)), .val (.ref b326), .val (.ref b327), .unset, .unset, .unset, .unset] [(.int (1 : Int32))]))
      refine own_F.of (fun _ => XS.pop S335.here S335.hx rfl (S335.dec at_58) rfl rfl) ?_
      refine own_F.of (fun _ => XS.iload S335.here S335.hx rfl (S335.dec at_59) rfl) ?_
      refine own_F.of (fun _ => XS.iconst S335.here S335.hx rfl (S335.dec at_61)) ?_
      show own_F p e below s Z _ _ _ _ _ (T335.setTop (mkF m 62 #[.val (.int p0), .val (.int p1), .val (.int p2), .val (.int p3), .val (.int p4), .val (.int p5), .val (.int (3 : Int32)), .val (.int (0 : Int32)), .val (.ref b326), .val (.ref b327), .unset, .unset, .unset, .unset] [(.int (1 : Int32)), (.int (3 : Int32))]))
      refine own_icmp S335 75 at_62 (by decide) (by decide) (fun (hc62_337 : ¬ ((1 : Int32) < (3 : Int32))) => False.elim (absurd hc62_337 (by decide))) (fun (hc62_337 : (1 : Int32) < (3 : Int32)) => ?_)
      show own_F p e below s Z _ _ _ _ _ (T335.setTop (mkF m 65 #[.val (.int p0), .val (.int p1), .val (.int p2), .val (.int p3), .val (.int p4), .val (.int p5), .val (.int (3 : Int32)), .val (.int (0 : Int32)), .val (.ref b326), .val (.ref b327), .unset, .unset, .unset, .unset] []))
      refine own_F.of (fun _ => XS.aload S335.here S335.hx rfl (S335.dec at_65) rfl rfl) ?_
      refine own_F.of (fun _ => XS.iloadN S335.here S335.hx rfl (S335.dec at_67) rfl) ?_
      show own_F p e below s Z _ _ _ _ _ (T335.setTop (mkF m 68 #[.val (.int p0), .val (.int p1), .val (.int p2), .val (.int p3), .val (.int p4), .val (.int p5), .val (.int (3 : Int32)), .val (.int (0 : Int32)), .val (.ref b326), .val (.ref b327), .unset, .unset, .unset, .unset] [(.int p2), (.ref b327)]))
      refine own_callS S335 (y := (⟨"java/lang/Integer", "valueOf", "(I)Ljava/lang/Integer;"⟩ : MethodName)) (own_w hw 0 rfl) (own_w hw 1 rfl) (own_w hw 2 rfl) (own_w hw 3 rfl) (by decide) (argsL := [(.int p2)]) (rest := [(.ref b327)]) (own_vOfI l Z a0 hw p2 aCI clCI h335 S335.old SHi SCaI BXI) all0 (by decide +kernel : parseMethodDescriptor "(I)Ljava/lang/Integer;" = some ⟨[.int], some (.object "java/lang/Integer")⟩) rfl rfl rfl at_68 (by decide) (Nat.le_of_ble_eq_true rfl) (by decide) (by decide) (fun T338 h338 v338 S338 K338 q338 => ?_)
      obtain ⟨b338, rfl, X338, F338⟩ := q338
      show own_F p e below s Z _ _ _ _ _ (T338.setTop (mkF m 71 #[.val (.int p0), .val (.int p1), .val (.int p2), .val (.int p3), .val (.int p4), .val (.int p5), .val (.int (3 : Int32)), .val (.int (0 : Int32)), .val (.ref b326), .val (.ref b327), .unset, .unset, .unset, .unset] [(.ref b338), (.ref b327)]))
      have fq339 := (Fe335.keep K338 nin0)
      have fq340 := (Fs335.keep K338 nin0)
      have fq341 := (Fm335.keep K338 nin0)
      have fq342 := ((fq334.keep K335).keep K338)
      have fq343 := (V336.keep K338 nin0)
      have fq344 := ((X330.keep K335).keep K338)
      refine own_callV S338 (y := (⟨"java/util/ArrayList", "add", "(Ljava/lang/Object;)Z"⟩ : MethodName)) (y' := (⟨"java/util/ArrayList", "add", "(Ljava/lang/Object;)Z"⟩ : MethodName)) (own_w hw 89 rfl) (own_w hw 90 rfl) (own_nf S338 (own_w hw 92 rfl)) (own_w hw 92 rfl) (own_w hw 91 rfl) (own_w hw 93 rfl) (own_w hw 9 rfl) (by decide) fq342 (argsL := [(.ref b338)]) (rest := []) (own_add_1 l Z a0 hw b327 b335 b330 b338 ((0 : Int32) + (1 : Int32)) h338 S338.old (own_mayN S338 (Or.inr (by rw [g327]; exact S326.size))) fq342 (own_mayN S338 (Or.inr (Nat.le_trans S330.size g335))) fq343 fq339 fq340 fq341 fq344 X338) (allS (Or.inr (by rw [g327]; exact S326.size)) (allS (Or.inr (Nat.le_trans S330.size g335)) all0)) (by decide +kernel : parseMethodDescriptor "(Ljava/lang/Object;)Z" = some ⟨[(.object "java/lang/Object")], some .boolean⟩) rfl rfl rfl at_71 (by decide) (Nat.le_of_ble_eq_true rfl) (by decide) (by decide) (fun T345 h345 v345 S345 K345 q345 => ?_)
      obtain ⟨rfl, A345, Fe345, Fs345, Fm345⟩ := q345
      have V346 : own_AO Z h345 b335 [(.ref b330), (.ref b338), .null, .null, .null, .null, .null, .null, .null, .null] := A345
      show own_F p e below s Z _ _ _ _ _ (T345.setTop (mkF m 74 #[.val (.int p0), .val (.int p1), .val (.int p2), .val (.int p3), .val (.int p4), .val (.int p5), .val (.int (3 : Int32)), .val (.int (0 : Int32)), .val (.ref b326), .val (.ref b327), .unset, .unset, .unset, .unset] [(.int (1 : Int32))]))
      refine own_F.of (fun _ => XS.pop S345.here S345.hx rfl (S345.dec at_74) rfl rfl) ?_
      refine own_F.of (fun _ => XS.iload S345.here S345.hx rfl (S345.dec at_75) rfl) ?_
      refine own_F.of (fun _ => XS.iconst S345.here S345.hx rfl (S345.dec at_77)) ?_
      show own_F p e below s Z _ _ _ _ _ (T345.setTop (mkF m 78 #[.val (.int p0), .val (.int p1), .val (.int p2), .val (.int p3), .val (.int p4), .val (.int p5), .val (.int (3 : Int32)), .val (.int (0 : Int32)), .val (.ref b326), .val (.ref b327), .unset, .unset, .unset, .unset] [(.int (2 : Int32)), (.int (3 : Int32))]))
      refine own_icmp S345 91 at_78 (by decide) (by decide) (fun (hc78_347 : ¬ ((2 : Int32) < (3 : Int32))) => False.elim (absurd hc78_347 (by decide))) (fun (hc78_347 : (2 : Int32) < (3 : Int32)) => ?_)
      show own_F p e below s Z _ _ _ _ _ (T345.setTop (mkF m 81 #[.val (.int p0), .val (.int p1), .val (.int p2), .val (.int p3), .val (.int p4), .val (.int p5), .val (.int (3 : Int32)), .val (.int (0 : Int32)), .val (.ref b326), .val (.ref b327), .unset, .unset, .unset, .unset] []))
      refine own_F.of (fun _ => XS.aload S345.here S345.hx rfl (S345.dec at_81) rfl rfl) ?_
      refine own_F.of (fun _ => XS.iloadN S345.here S345.hx rfl (S345.dec at_83) rfl) ?_
      show own_F p e below s Z _ _ _ _ _ (T345.setTop (mkF m 84 #[.val (.int p0), .val (.int p1), .val (.int p2), .val (.int p3), .val (.int p4), .val (.int p5), .val (.int (3 : Int32)), .val (.int (0 : Int32)), .val (.ref b326), .val (.ref b327), .unset, .unset, .unset, .unset] [(.int p3), (.ref b327)]))
      refine own_callS S345 (y := (⟨"java/lang/Integer", "valueOf", "(I)Ljava/lang/Integer;"⟩ : MethodName)) (own_w hw 0 rfl) (own_w hw 1 rfl) (own_w hw 2 rfl) (own_w hw 3 rfl) (by decide) (argsL := [(.int p3)]) (rest := [(.ref b327)]) (own_vOfI l Z a0 hw p3 aCI clCI h345 S345.old SHi SCaI BXI) all0 (by decide +kernel : parseMethodDescriptor "(I)Ljava/lang/Integer;" = some ⟨[.int], some (.object "java/lang/Integer")⟩) rfl rfl rfl at_84 (by decide) (Nat.le_of_ble_eq_true rfl) (by decide) (by decide) (fun T348 h348 v348 S348 K348 q348 => ?_)
      obtain ⟨b348, rfl, X348, F348⟩ := q348
      show own_F p e below s Z _ _ _ _ _ (T348.setTop (mkF m 87 #[.val (.int p0), .val (.int p1), .val (.int p2), .val (.int p3), .val (.int p4), .val (.int p5), .val (.int (3 : Int32)), .val (.int (0 : Int32)), .val (.ref b326), .val (.ref b327), .unset, .unset, .unset, .unset] [(.ref b348), (.ref b327)]))
      have fq349 := (Fe345.keep K348 nin0)
      have fq350 := (Fs345.keep K348 nin0)
      have fq351 := (Fm345.keep K348 nin0)
      have fq352 := ((fq342.keep K345).keep K348)
      have fq353 := (V346.keep K348 nin0)
      have fq354 := ((fq344.keep K345).keep K348)
      have fq355 := ((X338.keep K345).keep K348)
      refine own_callV S348 (y := (⟨"java/util/ArrayList", "add", "(Ljava/lang/Object;)Z"⟩ : MethodName)) (y' := (⟨"java/util/ArrayList", "add", "(Ljava/lang/Object;)Z"⟩ : MethodName)) (own_w hw 89 rfl) (own_w hw 90 rfl) (own_nf S348 (own_w hw 92 rfl)) (own_w hw 92 rfl) (own_w hw 91 rfl) (own_w hw 93 rfl) (own_w hw 9 rfl) (by decide) fq352 (argsL := [(.ref b348)]) (rest := []) (own_add_2 l Z a0 hw b327 b335 b330 b338 b348 (((0 : Int32) + (1 : Int32)) + (1 : Int32)) h348 S348.old (own_mayN S348 (Or.inr (by rw [g327]; exact S326.size))) fq352 (own_mayN S348 (Or.inr (Nat.le_trans S330.size g335))) fq353 fq349 fq350 fq351 fq354 fq355 X348) (allS (Or.inr (by rw [g327]; exact S326.size)) (allS (Or.inr (Nat.le_trans S330.size g335)) all0)) (by decide +kernel : parseMethodDescriptor "(Ljava/lang/Object;)Z" = some ⟨[(.object "java/lang/Object")], some .boolean⟩) rfl rfl rfl at_87 (by decide) (Nat.le_of_ble_eq_true rfl) (by decide) (by decide) (fun T356 h356 v356 S356 K356 q356 => ?_)
      obtain ⟨rfl, A356, Fe356, Fs356, Fm356⟩ := q356
      have V357 : own_AO Z h356 b335 [(.ref b330), (.ref b338), (.ref b348), .null, .null, .null, .null, .null, .null, .null] := A356
      show own_F p e below s Z _ _ _ _ _ (T356.setTop (mkF m 90 #[.val (.int p0), .val (.int p1), .val (.int p2), .val (.int p3), .val (.int p4), .val (.int p5), .val (.int (3 : Int32)), .val (.int (0 : Int32)), .val (.ref b326), .val (.ref b327), .unset, .unset, .unset, .unset] [(.int (1 : Int32))]))
      refine own_F.of (fun _ => XS.pop S356.here S356.hx rfl (S356.dec at_90) rfl rfl) ?_
      refine own_F.of (fun _ => XS.aload S356.here S356.hx rfl (S356.dec at_91) rfl rfl) ?_
      refine own_F.of (fun _ => XS.aload S356.here S356.hx rfl (S356.dec at_93) rfl rfl) ?_
      show own_F p e below s Z _ _ _ _ _ (T356.setTop (mkF m 95 #[.val (.int p0), .val (.int p1), .val (.int p2), .val (.int p3), .val (.int p4), .val (.int p5), .val (.int (3 : Int32)), .val (.int (0 : Int32)), .val (.ref b326), .val (.ref b327), .unset, .unset, .unset, .unset] [(.ref b326), (.ref b327)]))
      have fq358 := (fq352.keep K356)
      have fq359 := (fq354.keep K356)
      have fq360 := (fq355.keep K356)
      have fq361 := (X348.keep K356)
      refine own_callS S356 (y := (⟨"com/example/tidemark/tidemark/Page", "of", "(Ljava/util/List;Ljava/lang/Object;)Lcom/example/tidemark/tidemark/Page;"⟩ : MethodName)) (own_w hw 33 rfl) (own_w hw 34 rfl) (own_w hw 35 rfl) (own_w hw 36 rfl) (by decide) (argsL := [(.ref b327), (.ref b326)]) (rest := []) (own_pof3 l Z a0 hw b327 (.ref b326) b335 b330 b338 b348 aM mO h356 S356.old rfl SM MO fq358 Fs356 Fe356 V357 fq359 fq360 fq361) all0 (by decide +kernel : parseMethodDescriptor "(Ljava/util/List;Ljava/lang/Object;)Lcom/example/tidemark/tidemark/Page;" = some ⟨[(.object "java/util/List"), (.object "java/lang/Object")], some (.object "com/example/tidemark/tidemark/Page")⟩) rfl rfl rfl at_95 (by decide) (Nat.le_of_ble_eq_true rfl) (by decide) (by decide) (fun T362 h362 v362 S362 K362 q362 => ?_)
      obtain ⟨b362, rfl, E362, x362, Fi362, Fk362, ar362, X362, P362, R362, U362⟩ := q362
      have fq363 := (V357.keep K362 nin0)
      show own_F p e below s Z _ _ _ _ _ (T362.setTop (mkF m 98 #[.val (.int p0), .val (.int p1), .val (.int p2), .val (.int p3), .val (.int p4), .val (.int p5), .val (.int (3 : Int32)), .val (.int (0 : Int32)), .val (.ref b326), .val (.ref b327), .unset, .unset, .unset, .unset] [(.ref b362)]))
      refine own_F.of (fun _ => XS.astore S362.here S362.hx rfl (S362.dec at_98) rfl rfl (l' := #[.val (.int p0), .val (.int p1), .val (.int p2), .val (.int p3), .val (.int p4), .val (.int p5), .val (.int (3 : Int32)), .val (.int (0 : Int32)), .val (.ref b326), .val (.ref b327), .val (.ref b362), .unset, .unset, .unset]) rfl) ?_
      show own_F p e below s Z _ _ _ _ _ (T362.setTop (mkF m 100 #[.val (.int p0), .val (.int p1), .val (.int p2), .val (.int p3), .val (.int p4), .val (.int p5), .val (.int (3 : Int32)), .val (.int (0 : Int32)), .val (.ref b326), .val (.ref b327), .val (.ref b362), .unset, .unset, .unset] []))
      refine own_F.of (fun _ => XS.aload S362.here S362.hx rfl (S362.dec at_100) rfl rfl) ?_
      refine own_F.of (fun _ => XS.iloadN S362.here S362.hx rfl (S362.dec at_102) rfl) ?_
      show own_F p e below s Z _ _ _ _ _ (T362.setTop (mkF m 103 #[.val (.int p0), .val (.int p1), .val (.int p2), .val (.int p3), .val (.int p4), .val (.int p5), .val (.int (3 : Int32)), .val (.int (0 : Int32)), .val (.ref b326), .val (.ref b327), .val (.ref b362), .unset, .unset, .unset] [(.int p3), (.ref b327)]))
      refine own_callS S362 (y := (⟨"java/lang/Integer", "valueOf", "(I)Ljava/lang/Integer;"⟩ : MethodName)) (own_w hw 0 rfl) (own_w hw 1 rfl) (own_w hw 2 rfl) (own_w hw 3 rfl) (by decide) (argsL := [(.int p3)]) (rest := [(.ref b327)]) (own_vOfI l Z a0 hw p3 aCI clCI h362 S362.old SHi SCaI BXI) all0 (by decide +kernel : parseMethodDescriptor "(I)Ljava/lang/Integer;" = some ⟨[.int], some (.object "java/lang/Integer")⟩) rfl rfl rfl at_103 (by decide) (Nat.le_of_ble_eq_true rfl) (by decide) (by decide) (fun T364 h364 v364 S364 K364 q364 => ?_)
      obtain ⟨b364, rfl, X364, F364⟩ := q364
      show own_F p e below s Z _ _ _ _ _ (T364.setTop (mkF m 106 #[.val (.int p0), .val (.int p1), .val (.int p2), .val (.int p3), .val (.int p4), .val (.int p5), .val (.int (3 : Int32)), .val (.int (0 : Int32)), .val (.ref b326), .val (.ref b327), .val (.ref b362), .unset, .unset, .unset] [(.ref b364), (.ref b327)]))
      have fq365 := ((Fe356.keep K362 nin0).keep K364 nin0)
      have fq366 := ((Fs356.keep K362 nin0).keep K364 nin0)
      have fq367 := ((Fm356.keep K362 nin0).keep K364 nin0)
      have fq368 := ((fq358.keep K362).keep K364)
      have fq369 := (fq363.keep K364 nin0)
      have fq370 := ((fq359.keep K362).keep K364)
      have fq371 := ((fq360.keep K362).keep K364)
      have fq372 := ((fq361.keep K362).keep K364)
      refine own_callV S364 (y := (⟨"java/util/ArrayList", "add", "(Ljava/lang/Object;)Z"⟩ : MethodName)) (y' := (⟨"java/util/ArrayList", "add", "(Ljava/lang/Object;)Z"⟩ : MethodName)) (own_w hw 89 rfl) (own_w hw 90 rfl) (own_nf S364 (own_w hw 92 rfl)) (own_w hw 92 rfl) (own_w hw 91 rfl) (own_w hw 93 rfl) (own_w hw 9 rfl) (by decide) fq368 (argsL := [(.ref b364)]) (rest := []) (own_add_3 l Z a0 hw b327 b335 b330 b338 b348 b364 ((((0 : Int32) + (1 : Int32)) + (1 : Int32)) + (1 : Int32)) h364 S364.old (own_mayN S364 (Or.inr (by rw [g327]; exact S326.size))) fq368 (own_mayN S364 (Or.inr (Nat.le_trans S330.size g335))) fq369 fq365 fq366 fq367 fq370 fq371 fq372 X364) (allS (Or.inr (by rw [g327]; exact S326.size)) (allS (Or.inr (Nat.le_trans S330.size g335)) all0)) (by decide +kernel : parseMethodDescriptor "(Ljava/lang/Object;)Z" = some ⟨[(.object "java/lang/Object")], some .boolean⟩) rfl rfl rfl at_106 (by decide) (Nat.le_of_ble_eq_true rfl) (by decide) (by decide) (fun T373 h373 v373 S373 K373 q373 => ?_)
      obtain ⟨rfl, A373, Fe373, Fs373, Fm373⟩ := q373
      have V374 : own_AO Z h373 b335 [(.ref b330), (.ref b338), (.ref b348), (.ref b364), .null, .null, .null, .null, .null, .null] := A373
      show own_F p e below s Z _ _ _ _ _ (T373.setTop (mkF m 109 #[.val (.int p0), .val (.int p1), .val (.int p2), .val (.int p3), .val (.int p4), .val (.int p5), .val (.int (3 : Int32)), .val (.int (0 : Int32)), .val (.ref b326), .val (.ref b327), .val (.ref b362), .unset, .unset, .unset] [(.int (1 : Int32))]))
      refine own_F.of (fun _ => XS.pop S373.here S373.hx rfl (S373.dec at_109) rfl rfl) ?_
      refine own_F.of (fun _ => XS.aload S373.here S373.hx rfl (S373.dec at_110) rfl rfl) ?_
      show own_F p e below s Z _ _ _ _ _ (T373.setTop (mkF m 112 #[.val (.int p0), .val (.int p1), .val (.int p2), .val (.int p3), .val (.int p4), .val (.int p5), .val (.int (3 : Int32)), .val (.int (0 : Int32)), .val (.ref b326), .val (.ref b327), .val (.ref b362), .unset, .unset, .unset] [(.ref b362)]))
      have fq375 := ((Fi362.keep K364 nin0).keep K373 (ninS (ne_exa (E362.keep K364) fq368 (by decide)) (ninS (ne_exa ((E362.keep K364).keep K373) V374.exa (by decide)) nin0)))
      have fq377 := ((E362.keep K364).keep K373)
      refine own_callV S373 (y := (⟨"com/example/tidemark/tidemark/Page", "items", "()Ljava/util/List;"⟩ : MethodName)) (y' := (⟨"com/example/tidemark/tidemark/Page", "items", "()Ljava/util/List;"⟩ : MethodName)) (own_w hw 118 rfl) (own_w hw 119 rfl) (own_nf S373 (own_w hw 121 rfl)) (own_w hw 121 rfl) (own_w hw 120 rfl) (own_w hw 122 rfl) (own_w hw 35 rfl) (by decide) fq377 (argsL := []) (rest := []) (own_pgI l Z a0 hw b362 (.ref x362) h373 S373.old rfl fq375) all0 (by decide +kernel : parseMethodDescriptor "()Ljava/util/List;" = some ⟨[], some (.object "java/util/List")⟩) rfl rfl rfl at_112 (by decide) (Nat.le_of_ble_eq_true rfl) (by decide) (by decide) (fun T376 h376 v376 S376 K376 q376 => ?_)
      obtain ⟨rfl, rfl⟩ := q376
      show own_F p e below s Z _ _ _ _ _ (T376.setTop (mkF m 115 #[.val (.int p0), .val (.int p1), .val (.int p2), .val (.int p3), .val (.int p4), .val (.int p5), .val (.int (3 : Int32)), .val (.int (0 : Int32)), .val (.ref b326), .val (.ref b327), .val (.ref b362), .unset, .unset, .unset] [(.ref x362)]))
      refine own_F.of (fun _ => XS.astore S376.here S376.hx rfl (S376.dec at_115) rfl rfl (l' := #[.val (.int p0), .val (.int p1), .val (.int p2), .val (.int p3), .val (.int p4), .val (.int p5), .val (.int (3 : Int32)), .val (.int (0 : Int32)), .val (.ref b326), .val (.ref b327), .val (.ref b362), .val (.ref x362), .unset, .unset]) rfl) ?_
      show own_F p e below s Z _ _ _ _ _ (T376.setTop (mkF m 117 #[.val (.int p0), .val (.int p1), .val (.int p2), .val (.int p3), .val (.int p4), .val (.int p5), .val (.int (3 : Int32)), .val (.int (0 : Int32)), .val (.ref b326), .val (.ref b327), .val (.ref b362), .val (.ref x362), .unset, .unset] []))
      refine own_F.of (fun _ => XS.aload S376.here S376.hx rfl (S376.dec at_117) rfl rfl) ?_
      show own_F p e below s Z _ _ _ _ _ (T376.setTop (mkF m 119 #[.val (.int p0), .val (.int p1), .val (.int p2), .val (.int p3), .val (.int p4), .val (.int p5), .val (.int (3 : Int32)), .val (.int (0 : Int32)), .val (.ref b326), .val (.ref b327), .val (.ref b362), .val (.ref x362), .unset, .unset] [(.ref x362)]))
      have fq378 := ((P362.keep K364 nin0).keep K373 (ninS (ne_exa (X362.keep K364) fq368 (by decide)) (ninS (ne_exa ((X362.keep K364).keep K373) V374.exa (by decide)) nin0)))
      have fq379 := ((R362.keep K364 nin0).keep K373 (ninS (ne_exa (R362.exa.keep K364) fq368 (by decide)) (ninS (own_AO.neL R362 fq363 (by show (3 : Nat) ≠ 10; decide)) nin0)))
      have fq381 := ((X362.keep K364).keep K373)
      refine own_callX S376 (y := (⟨"java/util/List", "size", "()I"⟩ : MethodName)) (y' := (⟨"java/util/ImmutableCollections$ListN", "size", "()I"⟩ : MethodName)) (own_w hw 123 rfl) (own_w hw 124 rfl) (own_w hw 125 rfl) (own_w hw 126 rfl) (own_w hw 127 rfl) (own_w hw 128 rfl) (own_w hw 129 rfl) (own_w hw 84 rfl) (own_w hw 131 rfl) (own_w hw 130 rfl) (by decide) fq381 (argsL := []) (rest := []) (own_szN3 l Z a0 hw x362 ar362 b330 b338 b348 h373 S376.old fq378 fq379.A) all0 (by decide +kernel : parseMethodDescriptor "()I" = some ⟨[], some .int⟩) rfl rfl rfl at_119 (by decide) (Nat.le_of_ble_eq_true rfl) (by decide) (by decide) (fun T380 h380 v380 S380 K380 q380 => ?_)
      obtain ⟨rfl, rfl⟩ := q380
      show own_F p e below s Z _ _ _ _ _ (T380.setTop (mkF m 124 #[.val (.int p0), .val (.int p1), .val (.int p2), .val (.int p3), .val (.int p4), .val (.int p5), .val (.int (3 : Int32)), .val (.int (0 : Int32)), .val (.ref b326), .val (.ref b327), .val (.ref b362), .val (.ref x362), .unset, .unset] [(.int (3 : Int32))]))
      refine own_F.of (fun _ => XS.iload S380.here S380.hx rfl (S380.dec at_124) rfl) ?_
      show own_F p e below s Z _ _ _ _ _ (T380.setTop (mkF m 126 #[.val (.int p0), .val (.int p1), .val (.int p2), .val (.int p3), .val (.int p4), .val (.int p5), .val (.int (3 : Int32)), .val (.int (0 : Int32)), .val (.ref b326), .val (.ref b327), .val (.ref b362), .val (.ref x362), .unset, .unset] [(.int (3 : Int32)), (.int (3 : Int32))]))
      refine own_icmp S380 133 at_126 (by decide) (by decide) (fun (hc126_382 : ¬ ((3 : Int32) = (3 : Int32))) => False.elim (absurd hc126_382 (by decide))) (fun (hc126_382 : (3 : Int32) = (3 : Int32)) => ?_)
      show own_F p e below s Z _ _ _ _ _ (T380.setTop (mkF m 129 #[.val (.int p0), .val (.int p1), .val (.int p2), .val (.int p3), .val (.int p4), .val (.int p5), .val (.int (3 : Int32)), .val (.int (0 : Int32)), .val (.ref b326), .val (.ref b327), .val (.ref b362), .val (.ref x362), .unset, .unset] []))
      refine own_F.of (fun _ => XS.iconst S380.here S380.hx rfl (S380.dec at_129)) ?_
      show own_F p e below s Z _ _ _ _ _ (T380.setTop (mkF m 130 #[.val (.int p0), .val (.int p1), .val (.int p2), .val (.int p3), .val (.int p4), .val (.int p5), .val (.int (3 : Int32)), .val (.int (0 : Int32)), .val (.ref b326), .val (.ref b327), .val (.ref b362), .val (.ref x362), .unset, .unset] [(.int (1 : Int32))]))
      refine own_F.of (fun _ => XS.goto S380.here S380.hx rfl (pc0 := 130) (pc' := 134) rfl (S380.dec at_130) (by decide) (by decide)) ?_
      show own_F p e below s Z _ _ _ _ _ (T380.setTop (mkF m 134 #[.val (.int p0), .val (.int p1), .val (.int p2), .val (.int p3), .val (.int p4), .val (.int p5), .val (.int (3 : Int32)), .val (.int (0 : Int32)), .val (.ref b326), .val (.ref b327), .val (.ref b362), .val (.ref x362), .unset, .unset] [(.int (1 : Int32))]))
      refine own_F.of (fun _ => XS.istore S380.here S380.hx rfl (S380.dec at_134) rfl (l' := #[.val (.int p0), .val (.int p1), .val (.int p2), .val (.int p3), .val (.int p4), .val (.int p5), .val (.int (3 : Int32)), .val (.int (0 : Int32)), .val (.ref b326), .val (.ref b327), .val (.ref b362), .val (.ref x362), .val (.int (1 : Int32)), .unset]) rfl) ?_
      show own_F p e below s Z _ _ _ _ _ (T380.setTop (mkF m 136 #[.val (.int p0), .val (.int p1), .val (.int p2), .val (.int p3), .val (.int p4), .val (.int p5), .val (.int (3 : Int32)), .val (.int (0 : Int32)), .val (.ref b326), .val (.ref b327), .val (.ref b362), .val (.ref x362), .val (.int (1 : Int32)), .unset] []))
      refine own_F.of (fun _ => XS.iload S380.here S380.hx rfl (S380.dec at_136) rfl) ?_
      show own_F p e below s Z _ _ _ _ _ (T380.setTop (mkF m 138 #[.val (.int p0), .val (.int p1), .val (.int p2), .val (.int p3), .val (.int p4), .val (.int p5), .val (.int (3 : Int32)), .val (.int (0 : Int32)), .val (.ref b326), .val (.ref b327), .val (.ref b362), .val (.ref x362), .val (.int (1 : Int32)), .unset] [(.int (1 : Int32))]))
      refine own_if S380 171 at_138 (by decide) (by decide) (fun (hc138_383 : (1 : Int32) = (0 : Int32)) => False.elim (absurd hc138_383 (by decide))) (fun (hc138_383 : ¬ ((1 : Int32) = (0 : Int32))) => ?_)
      show own_F p e below s Z _ _ _ _ _ (T380.setTop (mkF m 141 #[.val (.int p0), .val (.int p1), .val (.int p2), .val (.int p3), .val (.int p4), .val (.int p5), .val (.int (3 : Int32)), .val (.int (0 : Int32)), .val (.ref b326), .val (.ref b327), .val (.ref b362), .val (.ref x362), .val (.int (1 : Int32)), .unset] []))
      refine own_F.of (fun _ => XS.iload S380.here S380.hx rfl (S380.dec at_141) rfl) ?_
      show own_F p e below s Z _ _ _ _ _ (T380.setTop (mkF m 143 #[.val (.int p0), .val (.int p1), .val (.int p2), .val (.int p3), .val (.int p4), .val (.int p5), .val (.int (3 : Int32)), .val (.int (0 : Int32)), .val (.ref b326), .val (.ref b327), .val (.ref b362), .val (.ref x362), .val (.int (1 : Int32)), .unset] [(.int (3 : Int32))]))
      refine own_if S380 171 at_143 (by decide) (by decide) (fun (hc143_384 : ¬ ((0 : Int32) < (3 : Int32))) => False.elim (absurd hc143_384 (by decide))) (fun (hc143_384 : (0 : Int32) < (3 : Int32)) => ?_)
      show own_F p e below s Z _ _ _ _ _ (T380.setTop (mkF m 146 #[.val (.int p0), .val (.int p1), .val (.int p2), .val (.int p3), .val (.int p4), .val (.int p5), .val (.int (3 : Int32)), .val (.int (0 : Int32)), .val (.ref b326), .val (.ref b327), .val (.ref b362), .val (.ref x362), .val (.int (1 : Int32)), .unset] []))
      refine own_F.of (fun _ => XS.aload S380.here S380.hx rfl (S380.dec at_146) rfl rfl) ?_
      refine own_F.of (fun _ => XS.iconst S380.here S380.hx rfl (S380.dec at_148)) ?_
      show own_F p e below s Z _ _ _ _ _ (T380.setTop (mkF m 149 #[.val (.int p0), .val (.int p1), .val (.int p2), .val (.int p3), .val (.int p4), .val (.int p5), .val (.int (3 : Int32)), .val (.int (0 : Int32)), .val (.ref b326), .val (.ref b327), .val (.ref b362), .val (.ref x362), .val (.int (1 : Int32)), .unset] [(.int (0 : Int32)), (.ref x362)]))
      refine own_callX S380 (y := (⟨"java/util/List", "get", "(I)Ljava/lang/Object;"⟩ : MethodName)) (y' := (⟨"java/util/ImmutableCollections$ListN", "get", "(I)Ljava/lang/Object;"⟩ : MethodName)) (own_w hw 229 rfl) (own_w hw 230 rfl) (own_w hw 231 rfl) (own_w hw 251 rfl) (own_w hw 252 rfl) (own_w hw 253 rfl) (own_w hw 254 rfl) (own_w hw 84 rfl) (own_w hw 255 rfl) (own_w hw 130 rfl) (by decide) fq381 (argsL := [(.int (0 : Int32))]) (rest := []) (own_gtN_0 l Z a0 hw x362 ar362 b330 b338 b348 h373 S380.old fq378 fq379) all0 (by decide +kernel : parseMethodDescriptor "(I)Ljava/lang/Object;" = some ⟨[.int], some (.object "java/lang/Object")⟩) rfl rfl rfl at_149 (by decide) (Nat.le_of_ble_eq_true rfl) (by decide) (by decide) (fun T385 h385 v385 S385 K385 q385 => ?_)
      obtain ⟨rfl, rfl⟩ := q385
      show own_F p e below s Z _ _ _ _ _ (T385.setTop (mkF m 154 #[.val (.int p0), .val (.int p1), .val (.int p2), .val (.int p3), .val (.int p4), .val (.int p5), .val (.int (3 : Int32)), .val (.int (0 : Int32)), .val (.ref b326), .val (.ref b327), .val (.ref b362), .val (.ref x362), .val (.int (1 : Int32)), .unset] [(.ref b330)]))
      have fq387 := (fq370.keep K373)
      refine own_cast S385 (own_w hw 139 rfl) (Ins.self fq387) at_154 (fun T386 S386 => ?_)
      show own_F p e below s Z _ _ _ _ _ (T386.setTop (mkF m 157 #[.val (.int p0), .val (.int p1), .val (.int p2), .val (.int p3), .val (.int p4), .val (.int p5), .val (.int (3 : Int32)), .val (.int (0 : Int32)), .val (.ref b326), .val (.ref b327), .val (.ref b362), .val (.ref x362), .val (.int (1 : Int32)), .unset] [(.ref b330)]))
      have fq388 := ((((((((F330.keep K335 (ninS (ne_exa fq387 (fq368.keep K373) (by decide)) nin0)).keep K338 nin0).keep K345 (ninS (ne_exa fq387 (fq368.keep K373) (by decide)) (ninS (ne_exa fq387 V374.exa (by decide)) nin0))).keep K348 nin0).keep K356 (ninS (ne_exa fq387 (fq368.keep K373) (by decide)) (ninS (ne_exa fq387 V374.exa (by decide)) nin0))).keep K362 nin0).keep K364 nin0).keep K373 (ninS (ne_exa fq387 (fq368.keep K373) (by decide)) (ninS (ne_exa fq387 V374.exa (by decide)) nin0)))
      refine own_callV S386 (y := (⟨"java/lang/Integer", "intValue", "()I"⟩ : MethodName)) (y' := (⟨"java/lang/Integer", "intValue", "()I"⟩ : MethodName)) (own_w hw 141 rfl) (own_w hw 142 rfl) (own_nf S386 (own_w hw 144 rfl)) (own_w hw 144 rfl) (own_w hw 143 rfl) (own_w hw 145 rfl) (own_w hw 2 rfl) (by decide) fq387 (argsL := []) (rest := []) (own_intV l Z a0 hw b330 p1 h373 S386.old fq388) all0 (by decide +kernel : parseMethodDescriptor "()I" = some ⟨[], some .int⟩) rfl rfl rfl at_157 (by decide) (Nat.le_of_ble_eq_true rfl) (by decide) (by decide) (fun T389 h389 v389 S389 K389 q389 => ?_)
      obtain ⟨rfl, rfl⟩ := q389
      show own_F p e below s Z _ _ _ _ _ (T389.setTop (mkF m 160 #[.val (.int p0), .val (.int p1), .val (.int p2), .val (.int p3), .val (.int p4), .val (.int p5), .val (.int (3 : Int32)), .val (.int (0 : Int32)), .val (.ref b326), .val (.ref b327), .val (.ref b362), .val (.ref x362), .val (.int (1 : Int32)), .unset] [(.int p1)]))
      refine own_F.of (fun _ => XS.iloadN S389.here S389.hx rfl (S389.dec at_160) rfl) ?_
      show own_F p e below s Z _ _ _ _ _ (T389.setTop (mkF m 161 #[.val (.int p0), .val (.int p1), .val (.int p2), .val (.int p3), .val (.int p4), .val (.int p5), .val (.int (3 : Int32)), .val (.int (0 : Int32)), .val (.ref b326), .val (.ref b327), .val (.ref b362), .val (.ref x362), .val (.int (1 : Int32)), .unset] [(.int p1), (.int p1)]))
      refine own_icmp S389 168 at_161 (by decide) (by decide) (fun (hc161_390 : ¬ (p1 = p1)) => False.elim (hc161_390 rfl)) (fun (hc161_390 : p1 = p1) => ?_)
      show own_F p e below s Z _ _ _ _ _ (T389.setTop (mkF m 164 #[.val (.int p0), .val (.int p1), .val (.int p2), .val (.int p3), .val (.int p4), .val (.int p5), .val (.int (3 : Int32)), .val (.int (0 : Int32)), .val (.ref b326), .val (.ref b327), .val (.ref b362), .val (.ref x362), .val (.int (1 : Int32)), .unset] []))
      refine own_F.of (fun _ => XS.iconst S389.here S389.hx rfl (S389.dec at_164)) ?_
      show own_F p e below s Z _ _ _ _ _ (T389.setTop (mkF m 165 #[.val (.int p0), .val (.int p1), .val (.int p2), .val (.int p3), .val (.int p4), .val (.int p5), .val (.int (3 : Int32)), .val (.int (0 : Int32)), .val (.ref b326), .val (.ref b327), .val (.ref b362), .val (.ref x362), .val (.int (1 : Int32)), .unset] [(.int (1 : Int32))]))
      refine own_F.of (fun _ => XS.goto S389.here S389.hx rfl (pc0 := 165) (pc' := 169) rfl (S389.dec at_165) (by decide) (by decide)) ?_
      show own_F p e below s Z _ _ _ _ _ (T389.setTop (mkF m 169 #[.val (.int p0), .val (.int p1), .val (.int p2), .val (.int p3), .val (.int p4), .val (.int p5), .val (.int (3 : Int32)), .val (.int (0 : Int32)), .val (.ref b326), .val (.ref b327), .val (.ref b362), .val (.ref x362), .val (.int (1 : Int32)), .unset] [(.int (1 : Int32))]))
      refine own_F.of (fun _ => XS.istore S389.here S389.hx rfl (S389.dec at_169) rfl (l' := #[.val (.int p0), .val (.int p1), .val (.int p2), .val (.int p3), .val (.int p4), .val (.int p5), .val (.int (3 : Int32)), .val (.int (0 : Int32)), .val (.ref b326), .val (.ref b327), .val (.ref b362), .val (.ref x362), .val (.int (1 : Int32)), .unset]) rfl) ?_
      show own_F p e below s Z _ _ _ _ _ (T389.setTop (mkF m 171 #[.val (.int p0), .val (.int p1), .val (.int p2), .val (.int p3), .val (.int p4), .val (.int p5), .val (.int (3 : Int32)), .val (.int (0 : Int32)), .val (.ref b326), .val (.ref b327), .val (.ref b362), .val (.ref x362), .val (.int (1 : Int32)), .unset] []))
      refine own_F.of (fun _ => XS.iload S389.here S389.hx rfl (S389.dec at_171) rfl) ?_
      show own_F p e below s Z _ _ _ _ _ (T389.setTop (mkF m 173 #[.val (.int p0), .val (.int p1), .val (.int p2), .val (.int p3), .val (.int p4), .val (.int p5), .val (.int (3 : Int32)), .val (.int (0 : Int32)), .val (.ref b326), .val (.ref b327), .val (.ref b362), .val (.ref x362), .val (.int (1 : Int32)), .unset] [(.int (1 : Int32))]))
      refine own_if S389 207 at_173 (by decide) (by decide) (fun (hc173_391 : (1 : Int32) = (0 : Int32)) => False.elim (absurd hc173_391 (by decide))) (fun (hc173_391 : ¬ ((1 : Int32) = (0 : Int32))) => ?_)
      show own_F p e below s Z _ _ _ _ _ (T389.setTop (mkF m 176 #[.val (.int p0), .val (.int p1), .val (.int p2), .val (.int p3), .val (.int p4), .val (.int p5), .val (.int (3 : Int32)), .val (.int (0 : Int32)), .val (.ref b326), .val (.ref b327), .val (.ref b362), .val (.ref x362), .val (.int (1 : Int32)), .unset] []))
      refine own_F.of (fun _ => XS.iload S389.here S389.hx rfl (S389.dec at_176) rfl) ?_
      refine own_F.of (fun _ => XS.iconst S389.here S389.hx rfl (S389.dec at_178)) ?_
      show own_F p e below s Z _ _ _ _ _ (T389.setTop (mkF m 179 #[.val (.int p0), .val (.int p1), .val (.int p2), .val (.int p3), .val (.int p4), .val (.int p5), .val (.int (3 : Int32)), .val (.int (0 : Int32)), .val (.ref b326), .val (.ref b327), .val (.ref b362), .val (.ref x362), .val (.int (1 : Int32)), .unset] [(.int (1 : Int32)), (.int (3 : Int32))]))
      refine own_icmp S389 207 at_179 (by decide) (by decide) (fun (hc179_392 : ¬ ((1 : Int32) < (3 : Int32))) => False.elim (absurd hc179_392 (by decide))) (fun (hc179_392 : (1 : Int32) < (3 : Int32)) => ?_)
      show own_F p e below s Z _ _ _ _ _ (T389.setTop (mkF m 182 #[.val (.int p0), .val (.int p1), .val (.int p2), .val (.int p3), .val (.int p4), .val (.int p5), .val (.int (3 : Int32)), .val (.int (0 : Int32)), .val (.ref b326), .val (.ref b327), .val (.ref b362), .val (.ref x362), .val (.int (1 : Int32)), .unset] []))
      refine own_F.of (fun _ => XS.aload S389.here S389.hx rfl (S389.dec at_182) rfl rfl) ?_
      refine own_F.of (fun _ => XS.iconst S389.here S389.hx rfl (S389.dec at_184)) ?_
      show own_F p e below s Z _ _ _ _ _ (T389.setTop (mkF m 185 #[.val (.int p0), .val (.int p1), .val (.int p2), .val (.int p3), .val (.int p4), .val (.int p5), .val (.int (3 : Int32)), .val (.int (0 : Int32)), .val (.ref b326), .val (.ref b327), .val (.ref b362), .val (.ref x362), .val (.int (1 : Int32)), .unset] [(.int (1 : Int32)), (.ref x362)]))
      refine own_callX S389 (y := (⟨"java/util/List", "get", "(I)Ljava/lang/Object;"⟩ : MethodName)) (y' := (⟨"java/util/ImmutableCollections$ListN", "get", "(I)Ljava/lang/Object;"⟩ : MethodName)) (own_w hw 229 rfl) (own_w hw 230 rfl) (own_w hw 231 rfl) (own_w hw 251 rfl) (own_w hw 252 rfl) (own_w hw 253 rfl) (own_w hw 254 rfl) (own_w hw 84 rfl) (own_w hw 255 rfl) (own_w hw 130 rfl) (by decide) fq381 (argsL := [(.int (1 : Int32))]) (rest := []) (own_gtN_1 l Z a0 hw x362 ar362 b330 b338 b348 h373 S389.old fq378 fq379) all0 (by decide +kernel : parseMethodDescriptor "(I)Ljava/lang/Object;" = some ⟨[.int], some (.object "java/lang/Object")⟩) rfl rfl rfl at_185 (by decide) (Nat.le_of_ble_eq_true rfl) (by decide) (by decide) (fun T393 h393 v393 S393 K393 q393 => ?_)
      obtain ⟨rfl, rfl⟩ := q393
      show own_F p e below s Z _ _ _ _ _ (T393.setTop (mkF m 190 #[.val (.int p0), .val (.int p1), .val (.int p2), .val (.int p3), .val (.int p4), .val (.int p5), .val (.int (3 : Int32)), .val (.int (0 : Int32)), .val (.ref b326), .val (.ref b327), .val (.ref b362), .val (.ref x362), .val (.int (1 : Int32)), .unset] [(.ref b338)]))
      have fq395 := (fq371.keep K373)
      refine own_cast S393 (own_w hw 139 rfl) (Ins.self fq395) at_190 (fun T394 S394 => ?_)
      show own_F p e below s Z _ _ _ _ _ (T394.setTop (mkF m 193 #[.val (.int p0), .val (.int p1), .val (.int p2), .val (.int p3), .val (.int p4), .val (.int p5), .val (.int (3 : Int32)), .val (.int (0 : Int32)), .val (.ref b326), .val (.ref b327), .val (.ref b362), .val (.ref x362), .val (.int (1 : Int32)), .unset] [(.ref b338)]))
      have fq396 := ((((((F338.keep K345 (ninS (ne_exa fq395 (fq368.keep K373) (by decide)) (ninS (ne_exa fq395 V374.exa (by decide)) nin0))).keep K348 nin0).keep K356 (ninS (ne_exa fq395 (fq368.keep K373) (by decide)) (ninS (ne_exa fq395 V374.exa (by decide)) nin0))).keep K362 nin0).keep K364 nin0).keep K373 (ninS (ne_exa fq395 (fq368.keep K373) (by decide)) (ninS (ne_exa fq395 V374.exa (by decide)) nin0)))
      refine own_callV S394 (y := (⟨"java/lang/Integer", "intValue", "()I"⟩ : MethodName)) (y' := (⟨"java/lang/Integer", "intValue", "()I"⟩ : MethodName)) (own_w hw 141 rfl) (own_w hw 142 rfl) (own_nf S394 (own_w hw 144 rfl)) (own_w hw 144 rfl) (own_w hw 143 rfl) (own_w hw 145 rfl) (own_w hw 2 rfl) (by decide) fq395 (argsL := []) (rest := []) (own_intV l Z a0 hw b338 p2 h373 S394.old fq396) all0 (by decide +kernel : parseMethodDescriptor "()I" = some ⟨[], some .int⟩) rfl rfl rfl at_193 (by decide) (Nat.le_of_ble_eq_true rfl) (by decide) (by decide) (fun T397 h397 v397 S397 K397 q397 => ?_)
      obtain ⟨rfl, rfl⟩ := q397
      show own_F p e below s Z _ _ _ _ _ (T397.setTop (mkF m 196 #[.val (.int p0), .val (.int p1), .val (.int p2), .val (.int p3), .val (.int p4), .val (.int p5), .val (.int (3 : Int32)), .val (.int (0 : Int32)), .val (.ref b326), .val (.ref b327), .val (.ref b362), .val (.ref x362), .val (.int (1 : Int32)), .unset] [(.int p2)]))
      refine own_F.of (fun _ => XS.iloadN S397.here S397.hx rfl (S397.dec at_196) rfl) ?_
      show own_F p e below s Z _ _ _ _ _ (T397.setTop (mkF m 197 #[.val (.int p0), .val (.int p1), .val (.int p2), .val (.int p3), .val (.int p4), .val (.int p5), .val (.int (3 : Int32)), .val (.int (0 : Int32)), .val (.ref b326), .val (.ref b327), .val (.ref b362), .val (.ref x362), .val (.int (1 : Int32)), .unset] [(.int p2), (.int p2)]))
      refine own_icmp S397 204 at_197 (by decide) (by decide) (fun (hc197_398 : ¬ (p2 = p2)) => False.elim (hc197_398 rfl)) (fun (hc197_398 : p2 = p2) => ?_)
      show own_F p e below s Z _ _ _ _ _ (T397.setTop (mkF m 200 #[.val (.int p0), .val (.int p1), .val (.int p2), .val (.int p3), .val (.int p4), .val (.int p5), .val (.int (3 : Int32)), .val (.int (0 : Int32)), .val (.ref b326), .val (.ref b327), .val (.ref b362), .val (.ref x362), .val (.int (1 : Int32)), .unset] []))
      refine own_F.of (fun _ => XS.iconst S397.here S397.hx rfl (S397.dec at_200)) ?_
      show own_F p e below s Z _ _ _ _ _ (T397.setTop (mkF m 201 #[.val (.int p0), .val (.int p1), .val (.int p2), .val (.int p3), .val (.int p4), .val (.int p5), .val (.int (3 : Int32)), .val (.int (0 : Int32)), .val (.ref b326), .val (.ref b327), .val (.ref b362), .val (.ref x362), .val (.int (1 : Int32)), .unset] [(.int (1 : Int32))]))
      refine own_F.of (fun _ => XS.goto S397.here S397.hx rfl (pc0 := 201) (pc' := 205) rfl (S397.dec at_201) (by decide) (by decide)) ?_
      show own_F p e below s Z _ _ _ _ _ (T397.setTop (mkF m 205 #[.val (.int p0), .val (.int p1), .val (.int p2), .val (.int p3), .val (.int p4), .val (.int p5), .val (.int (3 : Int32)), .val (.int (0 : Int32)), .val (.ref b326), .val (.ref b327), .val (.ref b362), .val (.ref x362), .val (.int (1 : Int32)), .unset] [(.int (1 : Int32))]))
      refine own_F.of (fun _ => XS.istore S397.here S397.hx rfl (S397.dec at_205) rfl (l' := #[.val (.int p0), .val (.int p1), .val (.int p2), .val (.int p3), .val (.int p4), .val (.int p5), .val (.int (3 : Int32)), .val (.int (0 : Int32)), .val (.ref b326), .val (.ref b327), .val (.ref b362), .val (.ref x362), .val (.int (1 : Int32)), .unset]) rfl) ?_
      show own_F p e below s Z _ _ _ _ _ (T397.setTop (mkF m 207 #[.val (.int p0), .val (.int p1), .val (.int p2), .val (.int p3), .val (.int p4), .val (.int p5), .val (.int (3 : Int32)), .val (.int (0 : Int32)), .val (.ref b326), .val (.ref b327), .val (.ref b362), .val (.ref x362), .val (.int (1 : Int32)), .unset] []))
      refine own_F.of (fun _ => XS.iload S397.here S397.hx rfl (S397.dec at_207) rfl) ?_
      show own_F p e below s Z _ _ _ _ _ (T397.setTop (mkF m 209 #[.val (.int p0), .val (.int p1), .val (.int p2), .val (.int p3), .val (.int p4), .val (.int p5), .val (.int (3 : Int32)), .val (.int (0 : Int32)), .val (.ref b326), .val (.ref b327), .val (.ref b362), .val (.ref x362), .val (.int (1 : Int32)), .unset] [(.int (1 : Int32))]))
      refine own_if S397 243 at_209 (by decide) (by decide) (fun (hc209_399 : (1 : Int32) = (0 : Int32)) => False.elim (absurd hc209_399 (by decide))) (fun (hc209_399 : ¬ ((1 : Int32) = (0 : Int32))) => ?_)
      show own_F p e below s Z _ _ _ _ _ (T397.setTop (mkF m 212 #[.val (.int p0), .val (.int p1), .val (.int p2), .val (.int p3), .val (.int p4), .val (.int p5), .val (.int (3 : Int32)), .val (.int (0 : Int32)), .val (.ref b326), .val (.ref b327), .val (.ref b362), .val (.ref x362), .val (.int (1 : Int32)), .unset] []))
      refine own_F.of (fun _ => XS.iload S397.here S397.hx rfl (S397.dec at_212) rfl) ?_
      refine own_F.of (fun _ => XS.iconst S397.here S397.hx rfl (S397.dec at_214)) ?_
      show own_F p e below s Z _ _ _ _ _ (T397.setTop (mkF m 215 #[.val (.int p0), .val (.int p1), .val (.int p2), .val (.int p3), .val (.int p4), .val (.int p5), .val (.int (3 : Int32)), .val (.int (0 : Int32)), .val (.ref b326), .val (.ref b327), .val (.ref b362), .val (.ref x362), .val (.int (1 : Int32)), .unset] [(.int (2 : Int32)), (.int (3 : Int32))]))
      refine own_icmp S397 243 at_215 (by decide) (by decide) (fun (hc215_400 : ¬ ((2 : Int32) < (3 : Int32))) => False.elim (absurd hc215_400 (by decide))) (fun (hc215_400 : (2 : Int32) < (3 : Int32)) => ?_)
      show own_F p e below s Z _ _ _ _ _ (T397.setTop (mkF m 218 #[.val (.int p0), .val (.int p1), .val (.int p2), .val (.int p3), .val (.int p4), .val (.int p5), .val (.int (3 : Int32)), .val (.int (0 : Int32)), .val (.ref b326), .val (.ref b327), .val (.ref b362), .val (.ref x362), .val (.int (1 : Int32)), .unset] []))
      refine own_F.of (fun _ => XS.aload S397.here S397.hx rfl (S397.dec at_218) rfl rfl) ?_
      refine own_F.of (fun _ => XS.iconst S397.here S397.hx rfl (S397.dec at_220)) ?_
      show own_F p e below s Z _ _ _ _ _ (T397.setTop (mkF m 221 #[.val (.int p0), .val (.int p1), .val (.int p2), .val (.int p3), .val (.int p4), .val (.int p5), .val (.int (3 : Int32)), .val (.int (0 : Int32)), .val (.ref b326), .val (.ref b327), .val (.ref b362), .val (.ref x362), .val (.int (1 : Int32)), .unset] [(.int (2 : Int32)), (.ref x362)]))
      refine own_callX S397 (y := (⟨"java/util/List", "get", "(I)Ljava/lang/Object;"⟩ : MethodName)) (y' := (⟨"java/util/ImmutableCollections$ListN", "get", "(I)Ljava/lang/Object;"⟩ : MethodName)) (own_w hw 229 rfl) (own_w hw 230 rfl) (own_w hw 231 rfl) (own_w hw 251 rfl) (own_w hw 252 rfl) (own_w hw 253 rfl) (own_w hw 254 rfl) (own_w hw 84 rfl) (own_w hw 255 rfl) (own_w hw 130 rfl) (by decide) fq381 (argsL := [(.int (2 : Int32))]) (rest := []) (own_gtN_2 l Z a0 hw x362 ar362 b330 b338 b348 h373 S397.old fq378 fq379) all0 (by decide +kernel : parseMethodDescriptor "(I)Ljava/lang/Object;" = some ⟨[.int], some (.object "java/lang/Object")⟩) rfl rfl rfl at_221 (by decide) (Nat.le_of_ble_eq_true rfl) (by decide) (by decide) (fun T401 h401 v401 S401 K401 q401 => ?_)
      obtain ⟨rfl, rfl⟩ := q401
      show own_F p e below s Z _ _ _ _ _ (T401.setTop (mkF m 226 #[.val (.int p0), .val (.int p1), .val (.int p2), .val (.int p3), .val (.int p4), .val (.int p5), .val (.int (3 : Int32)), .val (.int (0 : Int32)), .val (.ref b326), .val (.ref b327), .val (.ref b362), .val (.ref x362), .val (.int (1 : Int32)), .unset] [(.ref b348)]))
      have fq403 := (fq372.keep K373)
      refine own_cast S401 (own_w hw 139 rfl) (Ins.self fq403) at_226 (fun T402 S402 => ?_)
      show own_F p e below s Z _ _ _ _ _ (T402.setTop (mkF m 229 #[.val (.int p0), .val (.int p1), .val (.int p2), .val (.int p3), .val (.int p4), .val (.int p5), .val (.int (3 : Int32)), .val (.int (0 : Int32)), .val (.ref b326), .val (.ref b327), .val (.ref b362), .val (.ref x362), .val (.int (1 : Int32)), .unset] [(.ref b348)]))
      have fq404 := ((((F348.keep K356 (ninS (ne_exa fq403 (fq368.keep K373) (by decide)) (ninS (ne_exa fq403 V374.exa (by decide)) nin0))).keep K362 nin0).keep K364 nin0).keep K373 (ninS (ne_exa fq403 (fq368.keep K373) (by decide)) (ninS (ne_exa fq403 V374.exa (by decide)) nin0)))
      refine own_callV S402 (y := (⟨"java/lang/Integer", "intValue", "()I"⟩ : MethodName)) (y' := (⟨"java/lang/Integer", "intValue", "()I"⟩ : MethodName)) (own_w hw 141 rfl) (own_w hw 142 rfl) (own_nf S402 (own_w hw 144 rfl)) (own_w hw 144 rfl) (own_w hw 143 rfl) (own_w hw 145 rfl) (own_w hw 2 rfl) (by decide) fq403 (argsL := []) (rest := []) (own_intV l Z a0 hw b348 p3 h373 S402.old fq404) all0 (by decide +kernel : parseMethodDescriptor "()I" = some ⟨[], some .int⟩) rfl rfl rfl at_229 (by decide) (Nat.le_of_ble_eq_true rfl) (by decide) (by decide) (fun T405 h405 v405 S405 K405 q405 => ?_)
      obtain ⟨rfl, rfl⟩ := q405
      show own_F p e below s Z _ _ _ _ _ (T405.setTop (mkF m 232 #[.val (.int p0), .val (.int p1), .val (.int p2), .val (.int p3), .val (.int p4), .val (.int p5), .val (.int (3 : Int32)), .val (.int (0 : Int32)), .val (.ref b326), .val (.ref b327), .val (.ref b362), .val (.ref x362), .val (.int (1 : Int32)), .unset] [(.int p3)]))
      refine own_F.of (fun _ => XS.iloadN S405.here S405.hx rfl (S405.dec at_232) rfl) ?_
      show own_F p e below s Z _ _ _ _ _ (T405.setTop (mkF m 233 #[.val (.int p0), .val (.int p1), .val (.int p2), .val (.int p3), .val (.int p4), .val (.int p5), .val (.int (3 : Int32)), .val (.int (0 : Int32)), .val (.ref b326), .val (.ref b327), .val (.ref b362), .val (.ref x362), .val (.int (1 : Int32)), .unset] [(.int p3), (.int p3)]))
      refine own_icmp S405 240 at_233 (by decide) (by decide) (fun (hc233_406 : ¬ (p3 = p3)) => False.elim (hc233_406 rfl)) (fun (hc233_406 : p3 = p3) => ?_)
      show own_F p e below s Z _ _ _ _ _ (T405.setTop (mkF m 236 #[.val (.int p0), .val (.int p1), .val (.int p2), .val (.int p3), .val (.int p4), .val (.int p5), .val (.int (3 : Int32)), .val (.int (0 : Int32)), .val (.ref b326), .val (.ref b327), .val (.ref b362), .val (.ref x362), .val (.int (1 : Int32)), .unset] []))
      refine own_F.of (fun _ => XS.iconst S405.here S405.hx rfl (S405.dec at_236)) ?_
      show own_F p e below s Z _ _ _ _ _ (T405.setTop (mkF m 237 #[.val (.int p0), .val (.int p1), .val (.int p2), .val (.int p3), .val (.int p4), .val (.int p5), .val (.int (3 : Int32)), .val (.int (0 : Int32)), .val (.ref b326), .val (.ref b327), .val (.ref b362), .val (.ref x362), .val (.int (1 : Int32)), .unset] [(.int (1 : Int32))]))
      refine own_F.of (fun _ => XS.goto S405.here S405.hx rfl (pc0 := 237) (pc' := 241) rfl (S405.dec at_237) (by decide) (by decide)) ?_
      show own_F p e below s Z _ _ _ _ _ (T405.setTop (mkF m 241 #[.val (.int p0), .val (.int p1), .val (.int p2), .val (.int p3), .val (.int p4), .val (.int p5), .val (.int (3 : Int32)), .val (.int (0 : Int32)), .val (.ref b326), .val (.ref b327), .val (.ref b362), .val (.ref x362), .val (.int (1 : Int32)), .unset] [(.int (1 : Int32))]))
      refine own_F.of (fun _ => XS.istore S405.here S405.hx rfl (S405.dec at_241) rfl (l' := #[.val (.int p0), .val (.int p1), .val (.int p2), .val (.int p3), .val (.int p4), .val (.int p5), .val (.int (3 : Int32)), .val (.int (0 : Int32)), .val (.ref b326), .val (.ref b327), .val (.ref b362), .val (.ref x362), .val (.int (1 : Int32)), .unset]) rfl) ?_
      show own_F p e below s Z _ _ _ _ _ (T405.setTop (mkF m 243 #[.val (.int p0), .val (.int p1), .val (.int p2), .val (.int p3), .val (.int p4), .val (.int p5), .val (.int (3 : Int32)), .val (.int (0 : Int32)), .val (.ref b326), .val (.ref b327), .val (.ref b362), .val (.ref x362), .val (.int (1 : Int32)), .unset] []))
      refine own_F.of (fun _ => XS.aload S405.here S405.hx rfl (S405.dec at_243) rfl rfl) ?_
      show own_F p e below s Z _ _ _ _ _ (T405.setTop (mkF m 245 #[.val (.int p0), .val (.int p1), .val (.int p2), .val (.int p3), .val (.int p4), .val (.int p5), .val (.int (3 : Int32)), .val (.int (0 : Int32)), .val (.ref b326), .val (.ref b327), .val (.ref b362), .val (.ref x362), .val (.int (1 : Int32)), .unset] [(.ref b362)]))
      have fq407 := ((Fk362.keep K364 nin0).keep K373 (ninS (ne_exa fq377 (fq368.keep K373) (by decide)) (ninS (ne_exa fq377 V374.exa (by decide)) nin0)))
      refine own_callV S405 (y := (⟨"com/example/tidemark/tidemark/Page", "nextKey", "()Ljava/lang/Object;"⟩ : MethodName)) (y' := (⟨"com/example/tidemark/tidemark/Page", "nextKey", "()Ljava/lang/Object;"⟩ : MethodName)) (own_w hw 134 rfl) (own_w hw 135 rfl) (own_nf S405 (own_w hw 137 rfl)) (own_w hw 137 rfl) (own_w hw 136 rfl) (own_w hw 138 rfl) (own_w hw 35 rfl) (by decide) fq377 (argsL := []) (rest := []) (own_pgK l Z a0 hw b362 (.ref b326) h373 S405.old rfl fq407) all0 (by decide +kernel : parseMethodDescriptor "()Ljava/lang/Object;" = some ⟨[], some (.object "java/lang/Object")⟩) rfl rfl rfl at_245 (by decide) (Nat.le_of_ble_eq_true rfl) (by decide) (by decide) (fun T408 h408 v408 S408 K408 q408 => ?_)
      obtain ⟨rfl, rfl⟩ := q408
      show own_F p e below s Z _ _ _ _ _ (T408.setTop (mkF m 248 #[.val (.int p0), .val (.int p1), .val (.int p2), .val (.int p3), .val (.int p4), .val (.int p5), .val (.int (3 : Int32)), .val (.int (0 : Int32)), .val (.ref b326), .val (.ref b327), .val (.ref b362), .val (.ref x362), .val (.int (1 : Int32)), .unset] [(.ref b326)]))
      have fq410 := (((((((((((X326.ext E327).keep K328).keep K330).keep K335).keep K338).keep K345).keep K348).keep K356).keep K362).keep K364).keep K373)
      refine own_cast S408 (own_w hw 139 rfl) (Ins.self fq410) at_248 (fun T409 S409 => ?_)
      show own_F p e below s Z _ _ _ _ _ (T409.setTop (mkF m 251 #[.val (.int p0), .val (.int p1), .val (.int p2), .val (.int p3), .val (.int p4), .val (.int p5), .val (.int (3 : Int32)), .val (.int (0 : Int32)), .val (.ref b326), .val (.ref b327), .val (.ref b362), .val (.ref x362), .val (.int (1 : Int32)), .unset] [(.ref b326)]))
      refine own_F.of (fun _ => XS.astore S409.here S409.hx rfl (S409.dec at_251) rfl rfl (l' := #[.val (.int p0), .val (.int p1), .val (.int p2), .val (.int p3), .val (.int p4), .val (.int p5), .val (.int (3 : Int32)), .val (.int (0 : Int32)), .val (.ref b326), .val (.ref b327), .val (.ref b362), .val (.ref x362), .val (.int (1 : Int32)), .val (.ref b326)]) rfl) ?_
      show own_F p e below s Z _ _ _ _ _ (T409.setTop (mkF m 253 #[.val (.int p0), .val (.int p1), .val (.int p2), .val (.int p3), .val (.int p4), .val (.int p5), .val (.int (3 : Int32)), .val (.int (0 : Int32)), .val (.ref b326), .val (.ref b327), .val (.ref b362), .val (.ref x362), .val (.int (1 : Int32)), .val (.ref b326)] []))
      refine own_F.of (fun _ => XS.iload S409.here S409.hx rfl (S409.dec at_253) rfl) ?_
      show own_F p e below s Z _ _ _ _ _ (T409.setTop (mkF m 255 #[.val (.int p0), .val (.int p1), .val (.int p2), .val (.int p3), .val (.int p4), .val (.int p5), .val (.int (3 : Int32)), .val (.int (0 : Int32)), .val (.ref b326), .val (.ref b327), .val (.ref b362), .val (.ref x362), .val (.int (1 : Int32)), .val (.ref b326)] [(.int (1 : Int32))]))
      refine own_if S409 272 at_255 (by decide) (by decide) (fun (hc255_411 : (1 : Int32) = (0 : Int32)) => False.elim (absurd hc255_411 (by decide))) (fun (hc255_411 : ¬ ((1 : Int32) = (0 : Int32))) => ?_)
      show own_F p e below s Z _ _ _ _ _ (T409.setTop (mkF m 258 #[.val (.int p0), .val (.int p1), .val (.int p2), .val (.int p3), .val (.int p4), .val (.int p5), .val (.int (3 : Int32)), .val (.int (0 : Int32)), .val (.ref b326), .val (.ref b327), .val (.ref b362), .val (.ref x362), .val (.int (1 : Int32)), .val (.ref b326)] []))
      refine own_F.of (fun _ => XS.aload S409.here S409.hx rfl (S409.dec at_258) rfl rfl) ?_
      refine own_F.of (fun _ => XS.aload S409.here S409.hx rfl (S409.dec at_260) rfl rfl) ?_
      show own_F p e below s Z _ _ _ _ _ (T409.setTop (mkF m 262 #[.val (.int p0), .val (.int p1), .val (.int p2), .val (.int p3), .val (.int p4), .val (.int p5), .val (.int (3 : Int32)), .val (.int (0 : Int32)), .val (.ref b326), .val (.ref b327), .val (.ref b362), .val (.ref x362), .val (.int (1 : Int32)), .val (.ref b326)] [(.ref b326), (.ref b326)]))
      refine own_acmp S409 rfl rfl 269 at_262 (by decide) (by decide) (fun (hc262_412 : ¬ ((Value.ref b326) = (Value.ref b326))) => False.elim (hc262_412 rfl)) (fun (hc262_412 : (Value.ref b326) = (Value.ref b326)) => ?_)
      show own_F p e below s Z _ _ _ _ _ (T409.setTop (mkF m 265 #[.val (.int p0), .val (.int p1), .val (.int p2), .val (.int p3), .val (.int p4), .val (.int p5), .val (.int (3 : Int32)), .val (.int (0 : Int32)), .val (.ref b326), .val (.ref b327), .val (.ref b362), .val (.ref x362), .val (.int (1 : Int32)), .val (.ref b326)] []))
      refine own_F.of (fun _ => XS.iconst S409.here S409.hx rfl (S409.dec at_265)) ?_
      show own_F p e below s Z _ _ _ _ _ (T409.setTop (mkF m 266 #[.val (.int p0), .val (.int p1), .val (.int p2), .val (.int p3), .val (.int p4), .val (.int p5), .val (.int (3 : Int32)), .val (.int (0 : Int32)), .val (.ref b326), .val (.ref b327), .val (.ref b362), .val (.ref x362), .val (.int (1 : Int32)), .val (.ref b326)] [(.int (1 : Int32))]))
      refine own_F.of (fun _ => XS.goto S409.here S409.hx rfl (pc0 := 266) (pc' := 270) rfl (S409.dec at_266) (by decide) (by decide)) ?_
      show own_F p e below s Z _ _ _ _ _ (T409.setTop (mkF m 270 #[.val (.int p0), .val (.int p1), .val (.int p2), .val (.int p3), .val (.int p4), .val (.int p5), .val (.int (3 : Int32)), .val (.int (0 : Int32)), .val (.ref b326), .val (.ref b327), .val (.ref b362), .val (.ref x362), .val (.int (1 : Int32)), .val (.ref b326)] [(.int (1 : Int32))]))
      refine own_F.of (fun _ => XS.istore S409.here S409.hx rfl (S409.dec at_270) rfl (l' := #[.val (.int p0), .val (.int p1), .val (.int p2), .val (.int p3), .val (.int p4), .val (.int p5), .val (.int (3 : Int32)), .val (.int (0 : Int32)), .val (.ref b326), .val (.ref b327), .val (.ref b362), .val (.ref x362), .val (.int (1 : Int32)), .val (.ref b326)]) rfl) ?_
      show own_F p e below s Z _ _ _ _ _ (T409.setTop (mkF m 272 #[.val (.int p0), .val (.int p1), .val (.int p2), .val (.int p3), .val (.int p4), .val (.int p5), .val (.int (3 : Int32)), .val (.int (0 : Int32)), .val (.ref b326), .val (.ref b327), .val (.ref b362), .val (.ref x362), .val (.int (1 : Int32)), .val (.ref b326)] []))
      refine own_F.of (fun _ => XS.iload S409.here S409.hx rfl (S409.dec at_272) rfl) ?_
      show own_F p e below s Z _ _ _ _ _ (T409.setTop (mkF m 274 #[.val (.int p0), .val (.int p1), .val (.int p2), .val (.int p3), .val (.int p4), .val (.int p5), .val (.int (3 : Int32)), .val (.int (0 : Int32)), .val (.ref b326), .val (.ref b327), .val (.ref b362), .val (.ref x362), .val (.int (1 : Int32)), .val (.ref b326)] [(.int (1 : Int32))]))
      refine own_if S409 304 at_274 (by decide) (by decide) (fun (hc274_413 : (1 : Int32) = (0 : Int32)) => False.elim (absurd hc274_413 (by decide))) (fun (hc274_413 : ¬ ((1 : Int32) = (0 : Int32))) => ?_)
      show own_F p e below s Z _ _ _ _ _ (T409.setTop (mkF m 277 #[.val (.int p0), .val (.int p1), .val (.int p2), .val (.int p3), .val (.int p4), .val (.int p5), .val (.int (3 : Int32)), .val (.int (0 : Int32)), .val (.ref b326), .val (.ref b327), .val (.ref b362), .val (.ref x362), .val (.int (1 : Int32)), .val (.ref b326)] []))
      refine own_F.of (fun _ => XS.iload S409.here S409.hx rfl (S409.dec at_277) rfl) ?_
      show own_F p e below s Z _ _ _ _ _ (T409.setTop (mkF m 279 #[.val (.int p0), .val (.int p1), .val (.int p2), .val (.int p3), .val (.int p4), .val (.int p5), .val (.int (3 : Int32)), .val (.int (0 : Int32)), .val (.ref b326), .val (.ref b327), .val (.ref b362), .val (.ref x362), .val (.int (1 : Int32)), .val (.ref b326)] [(.int (0 : Int32))]))
      refine own_if S409 304 at_279 (by decide) (by decide) (fun (hc279_414 : ¬ ((0 : Int32) = (0 : Int32))) => False.elim (absurd hc279_414 (by decide))) (fun (hc279_414 : (0 : Int32) = (0 : Int32)) => ?_)
      show own_F p e below s Z _ _ _ _ _ (T409.setTop (mkF m 282 #[.val (.int p0), .val (.int p1), .val (.int p2), .val (.int p3), .val (.int p4), .val (.int p5), .val (.int (3 : Int32)), .val (.int (0 : Int32)), .val (.ref b326), .val (.ref b327), .val (.ref b362), .val (.ref x362), .val (.int (1 : Int32)), .val (.ref b326)] []))
      refine own_F.of (fun _ => XS.aload S409.here S409.hx rfl (S409.dec at_282) rfl rfl) ?_
      show own_F p e below s Z _ _ _ _ _ (T409.setTop (mkF m 284 #[.val (.int p0), .val (.int p1), .val (.int p2), .val (.int p3), .val (.int p4), .val (.int p5), .val (.int (3 : Int32)), .val (.int (0 : Int32)), .val (.ref b326), .val (.ref b327), .val (.ref b362), .val (.ref x362), .val (.int (1 : Int32)), .val (.ref b326)] [(.ref b326)]))
      refine own_F.of (fun _ => XS.ifnullNo S409.here S409.hx rfl (S409.dec at_284) rfl) ?_
      show own_F p e below s Z _ _ _ _ _ (T409.setTop (mkF m 287 #[.val (.int p0), .val (.int p1), .val (.int p2), .val (.int p3), .val (.int p4), .val (.int p5), .val (.int (3 : Int32)), .val (.int (0 : Int32)), .val (.ref b326), .val (.ref b327), .val (.ref b362), .val (.ref x362), .val (.int (1 : Int32)), .val (.ref b326)] []))
      refine own_F.of (fun _ => XS.aload S409.here S409.hx rfl (S409.dec at_287) rfl rfl) ?_
      show own_F p e below s Z _ _ _ _ _ (T409.setTop (mkF m 289 #[.val (.int p0), .val (.int p1), .val (.int p2), .val (.int p3), .val (.int p4), .val (.int p5), .val (.int (3 : Int32)), .val (.int (0 : Int32)), .val (.ref b326), .val (.ref b327), .val (.ref b362), .val (.ref x362), .val (.int (1 : Int32)), .val (.ref b326)] [(.ref b326)]))
      have fq415 := (((((((((((F326.ext E327).keep K328 (ninS (ne_exa fq410 (fq368.keep K373) (by decide)) nin0)).keep K330 nin0).keep K335 (ninS (ne_exa fq410 (fq368.keep K373) (by decide)) nin0)).keep K338 nin0).keep K345 (ninS (ne_exa fq410 (fq368.keep K373) (by decide)) (ninS (ne_exa fq410 V374.exa (by decide)) nin0))).keep K348 nin0).keep K356 (ninS (ne_exa fq410 (fq368.keep K373) (by decide)) (ninS (ne_exa fq410 V374.exa (by decide)) nin0))).keep K362 nin0).keep K364 nin0).keep K373 (ninS (ne_exa fq410 (fq368.keep K373) (by decide)) (ninS (ne_exa fq410 V374.exa (by decide)) nin0)))
      refine own_callV S409 (y := (⟨"java/lang/Integer", "intValue", "()I"⟩ : MethodName)) (y' := (⟨"java/lang/Integer", "intValue", "()I"⟩ : MethodName)) (own_w hw 141 rfl) (own_w hw 142 rfl) (own_nf S409 (own_w hw 144 rfl)) (own_w hw 144 rfl) (own_w hw 143 rfl) (own_w hw 145 rfl) (own_w hw 2 rfl) (by decide) fq410 (argsL := []) (rest := []) (own_intV l Z a0 hw b326 p5 h373 S409.old fq415) all0 (by decide +kernel : parseMethodDescriptor "()I" = some ⟨[], some .int⟩) rfl rfl rfl at_289 (by decide) (Nat.le_of_ble_eq_true rfl) (by decide) (by decide) (fun T416 h416 v416 S416 K416 q416 => ?_)
      obtain ⟨rfl, rfl⟩ := q416
      show own_F p e below s Z _ _ _ _ _ (T416.setTop (mkF m 292 #[.val (.int p0), .val (.int p1), .val (.int p2), .val (.int p3), .val (.int p4), .val (.int p5), .val (.int (3 : Int32)), .val (.int (0 : Int32)), .val (.ref b326), .val (.ref b327), .val (.ref b362), .val (.ref x362), .val (.int (1 : Int32)), .val (.ref b326)] [(.int p5)]))
      refine own_F.of (fun _ => XS.iload S416.here S416.hx rfl (S416.dec at_292) rfl) ?_
      show own_F p e below s Z _ _ _ _ _ (T416.setTop (mkF m 294 #[.val (.int p0), .val (.int p1), .val (.int p2), .val (.int p3), .val (.int p4), .val (.int p5), .val (.int (3 : Int32)), .val (.int (0 : Int32)), .val (.ref b326), .val (.ref b327), .val (.ref b362), .val (.ref x362), .val (.int (1 : Int32)), .val (.ref b326)] [(.int p5), (.int p5)]))
      refine own_icmp S416 301 at_294 (by decide) (by decide) (fun (hc294_417 : ¬ (p5 = p5)) => False.elim (hc294_417 rfl)) (fun (hc294_417 : p5 = p5) => ?_)
      show own_F p e below s Z _ _ _ _ _ (T416.setTop (mkF m 297 #[.val (.int p0), .val (.int p1), .val (.int p2), .val (.int p3), .val (.int p4), .val (.int p5), .val (.int (3 : Int32)), .val (.int (0 : Int32)), .val (.ref b326), .val (.ref b327), .val (.ref b362), .val (.ref x362), .val (.int (1 : Int32)), .val (.ref b326)] []))
      refine own_F.of (fun _ => XS.iconst S416.here S416.hx rfl (S416.dec at_297)) ?_
      show own_F p e below s Z _ _ _ _ _ (T416.setTop (mkF m 298 #[.val (.int p0), .val (.int p1), .val (.int p2), .val (.int p3), .val (.int p4), .val (.int p5), .val (.int (3 : Int32)), .val (.int (0 : Int32)), .val (.ref b326), .val (.ref b327), .val (.ref b362), .val (.ref x362), .val (.int (1 : Int32)), .val (.ref b326)] [(.int (1 : Int32))]))
      refine own_F.of (fun _ => XS.goto S416.here S416.hx rfl (pc0 := 298) (pc' := 302) rfl (S416.dec at_298) (by decide) (by decide)) ?_
      show own_F p e below s Z _ _ _ _ _ (T416.setTop (mkF m 302 #[.val (.int p0), .val (.int p1), .val (.int p2), .val (.int p3), .val (.int p4), .val (.int p5), .val (.int (3 : Int32)), .val (.int (0 : Int32)), .val (.ref b326), .val (.ref b327), .val (.ref b362), .val (.ref x362), .val (.int (1 : Int32)), .val (.ref b326)] [(.int (1 : Int32))]))
      refine own_F.of (fun _ => XS.istore S416.here S416.hx rfl (S416.dec at_302) rfl (l' := #[.val (.int p0), .val (.int p1), .val (.int p2), .val (.int p3), .val (.int p4), .val (.int p5), .val (.int (3 : Int32)), .val (.int (0 : Int32)), .val (.ref b326), .val (.ref b327), .val (.ref b362), .val (.ref x362), .val (.int (1 : Int32)), .val (.ref b326)]) rfl) ?_
      show own_F p e below s Z _ _ _ _ _ (T416.setTop (mkF m 304 #[.val (.int p0), .val (.int p1), .val (.int p2), .val (.int p3), .val (.int p4), .val (.int p5), .val (.int (3 : Int32)), .val (.int (0 : Int32)), .val (.ref b326), .val (.ref b327), .val (.ref b362), .val (.ref x362), .val (.int (1 : Int32)), .val (.ref b326)] []))
      refine own_F.of (fun _ => XS.iload S416.here S416.hx rfl (S416.dec at_304) rfl) ?_
      show own_F p e below s Z _ _ _ _ _ (T416.setTop (mkF m 306 #[.val (.int p0), .val (.int p1), .val (.int p2), .val (.int p3), .val (.int p4), .val (.int p5), .val (.int (3 : Int32)), .val (.int (0 : Int32)), .val (.ref b326), .val (.ref b327), .val (.ref b362), .val (.ref x362), .val (.int (1 : Int32)), .val (.ref b326)] [(.int (1 : Int32))]))
      refine own_retZ S416 (by simp) at_306 (by decide) (by decide) ?_
      rfl
    · show own_F p e below s Z _ _ _ _ _ (T0.setTop (mkF m 12 #[.val (.int p0), .val (.int p1), .val (.int p2), .val (.int p3), .val (.int p4), .val (.int p5), .val (.int (3 : Int32)), .unset, .unset, .unset, .unset, .unset, .unset, .unset] []))
      refine own_F.of (fun _ => XS.iconst S0.here S0.hx rfl (S0.dec at_12)) ?_
      show own_F p e below s Z _ _ _ _ _ (T0.setTop (mkF m 13 #[.val (.int p0), .val (.int p1), .val (.int p2), .val (.int p3), .val (.int p4), .val (.int p5), .val (.int (3 : Int32)), .unset, .unset, .unset, .unset, .unset, .unset, .unset] [(.int (1 : Int32))]))
      refine own_F.of (fun _ => XS.goto S0.here S0.hx rfl (pc0 := 13) (pc' := 17) rfl (S0.dec at_13) (by decide) (by decide)) ?_
      show own_F p e below s Z _ _ _ _ _ (T0.setTop (mkF m 17 #[.val (.int p0), .val (.int p1), .val (.int p2), .val (.int p3), .val (.int p4), .val (.int p5), .val (.int (3 : Int32)), .unset, .unset, .unset, .unset, .unset, .unset, .unset] [(.int (1 : Int32))]))
      refine own_F.of (fun _ => XS.istore S0.here S0.hx rfl (S0.dec at_17) rfl (l' := #[.val (.int p0), .val (.int p1), .val (.int p2), .val (.int p3), .val (.int p4), .val (.int p5), .val (.int (3 : Int32)), .val (.int (1 : Int32)), .unset, .unset, .unset, .unset, .unset, .unset]) rfl) ?_
      show own_F p e below s Z _ _ _ _ _ (T0.setTop (mkF m 19 #[.val (.int p0), .val (.int p1), .val (.int p2), .val (.int p3), .val (.int p4), .val (.int p5), .val (.int (3 : Int32)), .val (.int (1 : Int32)), .unset, .unset, .unset, .unset, .unset, .unset] []))
      refine own_F.of (fun _ => XS.iload S0.here S0.hx rfl (S0.dec at_19) rfl) ?_
      show own_F p e below s Z _ _ _ _ _ (T0.setTop (mkF m 21 #[.val (.int p0), .val (.int p1), .val (.int p2), .val (.int p3), .val (.int p4), .val (.int p5), .val (.int (3 : Int32)), .val (.int (1 : Int32)), .unset, .unset, .unset, .unset, .unset, .unset] [(.int (1 : Int32))]))
      refine own_if S0 28 at_21 (by decide) (by decide) (fun (hc21_418 : (1 : Int32) = (0 : Int32)) => False.elim (absurd hc21_418 (by decide))) (fun (hc21_418 : ¬ ((1 : Int32) = (0 : Int32))) => ?_)
      show own_F p e below s Z _ _ _ _ _ (T0.setTop (mkF m 24 #[.val (.int p0), .val (.int p1), .val (.int p2), .val (.int p3), .val (.int p4), .val (.int p5), .val (.int (3 : Int32)), .val (.int (1 : Int32)), .unset, .unset, .unset, .unset, .unset, .unset] []))
      refine own_F.of (fun _ => XS.aconstNull S0.here S0.hx rfl (S0.dec at_24)) ?_
      show own_F p e below s Z _ _ _ _ _ (T0.setTop (mkF m 25 #[.val (.int p0), .val (.int p1), .val (.int p2), .val (.int p3), .val (.int p4), .val (.int p5), .val (.int (3 : Int32)), .val (.int (1 : Int32)), .unset, .unset, .unset, .unset, .unset, .unset] [.null]))
      refine own_F.of (fun _ => XS.goto S0.here S0.hx rfl (pc0 := 25) (pc' := 33) rfl (S0.dec at_25) (by decide) (by decide)) ?_
      show own_F p e below s Z _ _ _ _ _ (T0.setTop (mkF m 33 #[.val (.int p0), .val (.int p1), .val (.int p2), .val (.int p3), .val (.int p4), .val (.int p5), .val (.int (3 : Int32)), .val (.int (1 : Int32)), .unset, .unset, .unset, .unset, .unset, .unset] [.null]))
      refine own_F.of (fun _ => XS.astore S0.here S0.hx rfl (S0.dec at_33) rfl rfl (l' := #[.val (.int p0), .val (.int p1), .val (.int p2), .val (.int p3), .val (.int p4), .val (.int p5), .val (.int (3 : Int32)), .val (.int (1 : Int32)), .val .null, .unset, .unset, .unset, .unset, .unset]) rfl) ?_
      show own_F p e below s Z _ _ _ _ _ (T0.setTop (mkF m 35 #[.val (.int p0), .val (.int p1), .val (.int p2), .val (.int p3), .val (.int p4), .val (.int p5), .val (.int (3 : Int32)), .val (.int (1 : Int32)), .val .null, .unset, .unset, .unset, .unset, .unset] []))
      refine own_new S0 (own_w hw 7 rfl) (own_w hw 8 rfl) (own_w hw 9 rfl) at_35 (by decide) (by decide) (fun T419 h419 b419 g419 S419 E419 A419 D419 => ?_)
      have F419_modCount : Fld Z h419 b419 "java/util/AbstractList" "modCount" "I" (.int (0 : Int32)) := (D419 (Or.inl (own_w hw 29 rfl)) (ty := .int) (by decide))
      have F419_elementData : Fld Z h419 b419 "java/util/ArrayList" "elementData" "[Ljava/lang/Object;" .null := (D419 (Or.inl (own_w hw 32 rfl)) (ty := (.array (.object "java/lang/Object"))) (by decide))
      have F419_size : Fld Z h419 b419 "java/util/ArrayList" "size" "I" (.int (0 : Int32)) := (D419 (Or.inl (own_w hw 63 rfl)) (ty := .int) (by decide))
      show own_F p e below s Z _ _ _ _ _ (T419.setTop (mkF m 38 #[.val (.int p0), .val (.int p1), .val (.int p2), .val (.int p3), .val (.int p4), .val (.int p5), .val (.int (3 : Int32)), .val (.int (1 : Int32)), .val .null, .unset, .unset, .unset, .unset, .unset] [(.ref b419)]))
      refine own_F.of (fun _ => XS.dup S419.here S419.hx rfl (S419.dec at_38) rfl rfl) ?_
      show own_F p e below s Z _ _ _ _ _ (T419.setTop (mkF m 39 #[.val (.int p0), .val (.int p1), .val (.int p2), .val (.int p3), .val (.int p4), .val (.int p5), .val (.int (3 : Int32)), .val (.int (1 : Int32)), .val .null, .unset, .unset, .unset, .unset, .unset] [(.ref b419), (.ref b419)]))
      refine own_callI S419 (y := (⟨"java/util/ArrayList", "<init>", "()V"⟩ : MethodName)) rfl (own_w hw 10 rfl) (own_w hw 11 rfl) (own_w hw 9 rfl) (own_w hw 12 rfl) (by decide) (argsL := []) (rest := [(.ref b419)]) (own_ALI l Z a0 hw b419 aD h419 S419.old SD AD (own_mayN S419 (Or.inr (by rw [g419]; exact S0.size))) A419 F419_modCount F419_elementData F419_size) (allS (Or.inr (by rw [g419]; exact S0.size)) all0) (by decide +kernel : parseMethodDescriptor "()V" = some ⟨[], none⟩) rfl rfl rfl at_39 (by decide) (Nat.le_of_ble_eq_true rfl) (by decide) (by decide) (fun T420 h420 v420 S420 K420 q420 => ?_)
      obtain ⟨rfl, Fm420, Fe420, Fs420⟩ := q420
      show own_F p e below s Z _ _ _ _ _ (T420.setTop (mkF m 42 #[.val (.int p0), .val (.int p1), .val (.int p2), .val (.int p3), .val (.int p4), .val (.int p5), .val (.int (3 : Int32)), .val (.int (1 : Int32)), .val .null, .unset, .unset, .unset, .unset, .unset] [(.ref b419)]))
      refine own_F.of (fun _ => XS.astore S420.here S420.hx rfl (S420.dec at_42) rfl rfl (l' := #[.val (.int p0), .val (.int p1), .val (.int p2), .val (.int p3), .val (.int p4), .val (.int p5), .val (.int (3 : Int32)), .val (.int (1 : Int32)), .val .null, .val (.ref b419), .unset, .unset, .unset, .unset]) rfl) ?_
      show own_F p e below s Z _ _ _ _ _ (T420.setTop (mkF m 44 #[.val (.int p0), .val (.int p1), .val (.int p2), .val (.int p3), .val (.int p4), .val (.int p5), .val (.int (3 : Int32)), .val (.int (1 : Int32)), .val .null, .val (.ref b419), .unset, .unset, .unset, .unset] []))
      refine own_F.of (fun _ => XS.iload S420.here S420.hx rfl (S420.dec at_44) rfl) ?_
      show own_F p e below s Z _ _ _ _ _ (T420.setTop (mkF m 46 #[.val (.int p0), .val (.int p1), .val (.int p2), .val (.int p3), .val (.int p4), .val (.int p5), .val (.int (3 : Int32)), .val (.int (1 : Int32)), .val .null, .val (.ref b419), .unset, .unset, .unset, .unset] [(.int (3 : Int32))]))
      refine own_if S420 59 at_46 (by decide) (by decide) (fun (hc46_421 : ¬ ((0 : Int32) < (3 : Int32))) => False.elim (absurd hc46_421 (by decide))) (fun (hc46_421 : (0 : Int32) < (3 : Int32)) => ?_)
      show own_F p e below s Z _ _ _ _ _ (T420.setTop (mkF m 49 #[.val (.int p0), .val (.int p1), .val (.int p2), .val (.int p3), .val (.int p4), .val (.int p5), .val (.int (3 : Int32)), .val (.int (1 : Int32)), .val .null, .val (.ref b419), .unset, .unset, .unset, .unset] []))
      refine own_F.of (fun _ => XS.aload S420.here S420.hx rfl (S420.dec at_49) rfl rfl) ?_
      refine own_F.of (fun _ => XS.iloadN S420.here S420.hx rfl (S420.dec at_51) rfl) ?_
      show own_F p e below s Z _ _ _ _ _ (T420.setTop (mkF m 52 #[.val (.int p0), .val (.int p1), .val (.int p2), .val (.int p3), .val (.int p4), .val (.int p5), .val (.int (3 : Int32)), .val (.int (1 : Int32)), .val .null, .val (.ref b419), .unset, .unset, .unset, .unset] [(.int p1), (.ref b419)]))
      refine own_callS S420 (y := (⟨"java/lang/Integer", "valueOf", "(I)Ljava/lang/Integer;"⟩ : MethodName)) (own_w hw 0 rfl) (own_w hw 1 rfl) (own_w hw 2 rfl) (own_w hw 3 rfl) (by decide) (argsL := [(.int p1)]) (rest := [(.ref b419)]) (own_vOfI l Z a0 hw p1 aCI clCI h420 S420.old SHi SCaI BXI) all0 (by decide +kernel : parseMethodDescriptor "(I)Ljava/lang/Integer;" = some ⟨[.int], some (.object "java/lang/Integer")⟩) rfl rfl rfl at_52 (by decide) (Nat.le_of_ble_eq_true rfl) (by decide) (by decide) (fun T422 h422 v422 S422 K422 q422 => ?_)
      obtain ⟨b422, rfl, X422, F422⟩ := q422
      show own_F p e below s Z _ _ _ _ _ (T422.setTop (mkF m 55 #[.val (.int p0), .val (.int p1), .val (.int p2), .val (.int p3), .val (.int p4), .val (.int p5), .val (.int (3 : Int32)), .val (.int (1 : Int32)), .val .null, .val (.ref b419), .unset, .unset, .unset, .unset] [(.ref b422), (.ref b419)]))
      have fq423 := (Fe420.keep K422 nin0)
      have fq424 := (Fs420.keep K422 nin0)
      have fq425 := (Fm420.keep K422 nin0)
      have fq426 := ((A419.keep K420).keep K422)
      refine own_callV S422 (y := (⟨"java/util/ArrayList", "add", "(Ljava/lang/Object;)Z"⟩ : MethodName)) (y' := (⟨"java/util/ArrayList", "add", "(Ljava/lang/Object;)Z"⟩ : MethodName)) (own_w hw 89 rfl) (own_w hw 90 rfl) (own_nf S422 (own_w hw 92 rfl)) (own_w hw 92 rfl) (own_w hw 91 rfl) (own_w hw 93 rfl) (own_w hw 9 rfl) (by decide) fq426 (argsL := [(.ref b422)]) (rest := []) (own_add_0 l Z a0 hw b419 b422 aD (0 : Int32) h422 S422.old SD AD (own_mayN S422 (Or.inr (by rw [g419]; exact S0.size))) fq426 fq423 fq424 fq425 X422) (allS (Or.inr (by rw [g419]; exact S0.size)) all0) (by decide +kernel : parseMethodDescriptor "(Ljava/lang/Object;)Z" = some ⟨[(.object "java/lang/Object")], some .boolean⟩) rfl rfl rfl at_55 (by decide) (Nat.le_of_ble_eq_true rfl) (by decide) (by decide) (fun T427 h427 v427 S427 K427 q427 => ?_)
      obtain ⟨rfl, b427, g427, A427, Fe427, Fs427, Fm427⟩ := q427
      have V428 : own_AO Z h427 b427 [(.ref b422), .null, .null, .null, .null, .null, .null, .null, .null, .null] := A427
      show own_F p e below s Z _ _ _ _ _ (T427.setTop (mkF m 58 #[.val (.int p0), .val (.int p1), .val (.int p2), .val (.int p3), .val (.int p4), .val (.int p5), .val (.int (3 : Int32)), .val (.int (1 : Int32)), .val .null, .val (.ref b419), .unset, .unset, .unset, .unset] [(.int (1 : Int32))]))
      refine own_F.of (fun _ => XS.pop S427.here S427.hx rfl (S427.dec at_58) rfl rfl) ?_
      refine own_F.of (fun _ => XS.iload S427.here S427.hx rfl (S427.dec at_59) rfl) ?_
      refine own_F.of (fun _ => XS.iconst S427.here S427.hx rfl (S427.dec at_61)) ?_
      show own_F p e below s Z _ _ _ _ _ (T427.setTop (mkF m 62 #[.val (.int p0), .val (.int p1), .val (.int p2), .val (.int p3), .val (.int p4), .val (.int p5), .val (.int (3 : Int32)), .val (.int (1 : Int32)), .val .null, .val (.ref b419), .unset, .unset, .unset, .unset] [(.int (1 : Int32)), (.int (3 : Int32))]))
      refine own_icmp S427 75 at_62 (by decide) (by decide) (fun (hc62_429 : ¬ ((1 : Int32) < (3 : Int32))) => False.elim (absurd hc62_429 (by decide))) (fun (hc62_429 : (1 : Int32) < (3 : Int32)) => ?_)
      show own_F p e below s Z _ _ _ _ _ (T427.setTop (mkF m 65 #[.val (.int p0), .val (.int p1), .val (.int p2), .val (.int p3), .val (.int p4), .val (.int p5), .val (.int (3 : Int32)), .val (.int (1 : Int32)), .val .null, .val (.ref b419), .unset, .unset, .unset, .unset] []))
      refine own_F.of (fun _ => XS.aload S427.here S427.hx rfl (S427.dec at_65) rfl rfl) ?_
      refine own_F.of (fun _ => XS.iloadN S427.here S427.hx rfl (S427.dec at_67) rfl) ?_
      show own_F p e below s Z _ _ _ _ _ (T427.setTop (mkF m 68 #[.val (.int p0), .val (.int p1), .val (.int p2), .val (.int p3), .val (.int p4), .val (.int p5), .val (.int (3 : Int32)), .val (.int (1 : Int32)), .val .null, .val (.ref b419), .unset, .unset, .unset, .unset] [(.int p2), (.ref b419)]))
      refine own_callS S427 (y := (⟨"java/lang/Integer", "valueOf", "(I)Ljava/lang/Integer;"⟩ : MethodName)) (own_w hw 0 rfl) (own_w hw 1 rfl) (own_w hw 2 rfl) (own_w hw 3 rfl) (by decide) (argsL := [(.int p2)]) (rest := [(.ref b419)]) (own_vOfI l Z a0 hw p2 aCI clCI h427 S427.old SHi SCaI BXI) all0 (by decide +kernel : parseMethodDescriptor "(I)Ljava/lang/Integer;" = some ⟨[.int], some (.object "java/lang/Integer")⟩) rfl rfl rfl at_68 (by decide) (Nat.le_of_ble_eq_true rfl) (by decide) (by decide) (fun T430 h430 v430 S430 K430 q430 => ?_)
      obtain ⟨b430, rfl, X430, F430⟩ := q430
      show own_F p e below s Z _ _ _ _ _ (T430.setTop (mkF m 71 #[.val (.int p0), .val (.int p1), .val (.int p2), .val (.int p3), .val (.int p4), .val (.int p5), .val (.int (3 : Int32)), .val (.int (1 : Int32)), .val .null, .val (.ref b419), .unset, .unset, .unset, .unset] [(.ref b430), (.ref b419)]))
      have fq431 := (Fe427.keep K430 nin0)
      have fq432 := (Fs427.keep K430 nin0)
      have fq433 := (Fm427.keep K430 nin0)
      have fq434 := ((fq426.keep K427).keep K430)
      have fq435 := (V428.keep K430 nin0)
      have fq436 := ((X422.keep K427).keep K430)
      refine own_callV S430 (y := (⟨"java/util/ArrayList", "add", "(Ljava/lang/Object;)Z"⟩ : MethodName)) (y' := (⟨"java/util/ArrayList", "add", "(Ljava/lang/Object;)Z"⟩ : MethodName)) (own_w hw 89 rfl) (own_w hw 90 rfl) (own_nf S430 (own_w hw 92 rfl)) (own_w hw 92 rfl) (own_w hw 91 rfl) (own_w hw 93 rfl) (own_w hw 9 rfl) (by decide) fq434 (argsL := [(.ref b430)]) (rest := []) (own_add_1 l Z a0 hw b419 b427 b422 b430 ((0 : Int32) + (1 : Int32)) h430 S430.old (own_mayN S430 (Or.inr (by rw [g419]; exact S0.size))) fq434 (own_mayN S430 (Or.inr (Nat.le_trans S422.size g427))) fq435 fq431 fq432 fq433 fq436 X430) (allS (Or.inr (by rw [g419]; exact S0.size)) (allS (Or.inr (Nat.le_trans S422.size g427)) all0)) (by decide +kernel : parseMethodDescriptor "(Ljava/lang/Object;)Z" = some ⟨[(.object "java/lang/Object")], some .boolean⟩) rfl rfl rfl at_71 (by decide) (Nat.le_of_ble_eq_true rfl) (by decide) (by decide) (fun T437 h437 v437 S437 K437 q437 => ?_)
      obtain ⟨rfl, A437, Fe437, Fs437, Fm437⟩ := q437
      have V438 : own_AO Z h437 b427 [(.ref b422), (.ref b430), .null, .null, .null, .null, .null, .null, .null, .null] := A437
      show own_F p e below s Z _ _ _ _ _ (T437.setTop (mkF m 74 #[.val (.int p0), .val (.int p1), .val (.int p2), .val (.int p3), .val (.int p4), .val (.int p5), .val (.int (3 : Int32)), .val (.int (1 : Int32)), .val .null, .val (.ref b419), .unset, .unset, .unset, .unset] [(.int (1 : Int32))]))
      refine own_F.of (fun _ => XS.pop S437.here S437.hx rfl (S437.dec at_74) rfl rfl) ?_
      refine own_F.of (fun _ => XS.iload S437.here S437.hx rfl (S437.dec at_75) rfl) ?_
      refine own_F.of (fun _ => XS.iconst S437.here S437.hx rfl (S437.dec at_77)) ?_
      show own_F p e below s Z _ _ _ _ _ (T437.setTop (mkF m 78 #[.val (.int p0), .val (.int p1), .val (.int p2), .val (.int p3), .val (.int p4), .val (.int p5), .val (.int (3 : Int32)), .val (.int (1 : Int32)), .val .null, .val (.ref b419), .unset, .unset, .unset, .unset] [(.int (2 : Int32)), (.int (3 : Int32))]))
      refine own_icmp S437 91 at_78 (by decide) (by decide) (fun (hc78_439 : ¬ ((2 : Int32) < (3 : Int32))) => False.elim (absurd hc78_439 (by decide))) (fun (hc78_439 : (2 : Int32) < (3 : Int32)) => ?_)
      show own_F p e below s Z _ _ _ _ _ (T437.setTop (mkF m 81 #[.val (.int p0), .val (.int p1), .val (.int p2), .val (.int p3), .val (.int p4), .val (.int p5), .val (.int (3 : Int32)), .val (.int (1 : Int32)), .val .null, .val (.ref b419), .unset, .unset, .unset, .unset] []))
      refine own_F.of (fun _ => XS.aload S437.here S437.hx rfl (S437.dec at_81) rfl rfl) ?_
      refine own_F.of (fun _ => XS.iloadN S437.here S437.hx rfl (S437.dec at_83) rfl) ?_
      show own_F p e below s Z _ _ _ _ _ (T437.setTop (mkF m 84 #[.val (.int p0), .val (.int p1), .val (.int p2), .val (.int p3), .val (.int p4), .val (.int p5), .val (.int (3 : Int32)), .val (.int (1 : Int32)), .val .null, .val (.ref b419), .unset, .unset, .unset, .unset] [(.int p3), (.ref b419)]))
      refine own_callS S437 (y := (⟨"java/lang/Integer", "valueOf", "(I)Ljava/lang/Integer;"⟩ : MethodName)) (own_w hw 0 rfl) (own_w hw 1 rfl) (own_w hw 2 rfl) (own_w hw 3 rfl) (by decide) (argsL := [(.int p3)]) (rest := [(.ref b419)]) (own_vOfI l Z a0 hw p3 aCI clCI h437 S437.old SHi SCaI BXI) all0 (by decide +kernel : parseMethodDescriptor "(I)Ljava/lang/Integer;" = some ⟨[.int], some (.object "java/lang/Integer")⟩) rfl rfl rfl at_84 (by decide) (Nat.le_of_ble_eq_true rfl) (by decide) (by decide) (fun T440 h440 v440 S440 K440 q440 => ?_)
      obtain ⟨b440, rfl, X440, F440⟩ := q440
      show own_F p e below s Z _ _ _ _ _ (T440.setTop (mkF m 87 #[.val (.int p0), .val (.int p1), .val (.int p2), .val (.int p3), .val (.int p4), .val (.int p5), .val (.int (3 : Int32)), .val (.int (1 : Int32)), .val .null, .val (.ref b419), .unset, .unset, .unset, .unset] [(.ref b440), (.ref b419)]))
      have fq441 := (Fe437.keep K440 nin0)
      have fq442 := (Fs437.keep K440 nin0)
      have fq443 := (Fm437.keep K440 nin0)
      have fq444 := ((fq434.keep K437).keep K440)
      have fq445 := (V438.keep K440 nin0)
      have fq446 := ((fq436.keep K437).keep K440)
      have fq447 := ((X430.keep K437).keep K440)
      refine own_callV S440 (y := (⟨"java/util/ArrayList", "add", "(Ljava/lang/Object;)Z"⟩ : MethodName)) (y' := (⟨"java/util/ArrayList", "add", "(Ljava/lang/Object;)Z"⟩ : MethodName)) (own_w hw 89 rfl) (own_w hw 90 rfl) (own_nf S440 (own_w hw 92 rfl)) (own_w hw 92 rfl) (own_w hw 91 rfl) (own_w hw 93 rfl) (own_w hw 9 rfl) (by decide) fq444 (argsL := [(.ref b440)]) (rest := []) (own_add_2 l Z a0 hw b419 b427 b422 b430 b440 (((0 : Int32) + (1 : Int32)) + (1 : Int32)) h440 S440.old (own_mayN S440 (Or.inr (by rw [g419]; exact S0.size))) fq444 (own_mayN S440 (Or.inr (Nat.le_trans S422.size g427))) fq445 fq441 fq442 fq443 fq446 fq447 X440) (allS (Or.inr (by rw [g419]; exact S0.size)) (allS (Or.inr (Nat.le_trans S422.size g427)) all0)) (by decide +kernel : parseMethodDescriptor "(Ljava/lang/Object;)Z" = some ⟨[(.object "java/lang/Object")], some .boolean⟩) rfl rfl rfl at_87 (by decide) (Nat.le_of_ble_eq_true rfl) (by decide) (by decide) (fun T448 h448 v448 S448 K448 q448 => ?_)
      obtain ⟨rfl, A448, Fe448, Fs448, Fm448⟩ := q448
      have V449 : own_AO Z h448 b427 [(.ref b422), (.ref b430), (.ref b440), .null, .null, .null, .null, .null, .null, .null] := A448
      show own_F p e below s Z _ _ _ _ _ (T448.setTop (mkF m 90 #[.val (.int p0), .val (.int p1), .val (.int p2), .val (.int p3), .val (.int p4), .val (.int p5), .val (.int (3 : Int32)), .val (.int (1 : Int32)), .val .null, .val (.ref b419), .unset, .unset, .unset, .unset] [(.int (1 : Int32))]))
      refine own_F.of (fun _ => XS.pop S448.here S448.hx rfl (S448.dec at_90) rfl rfl) ?_
      refine own_F.of (fun _ => XS.aload S448.here S448.hx rfl (S448.dec at_91) rfl rfl) ?_
      refine own_F.of (fun _ => XS.aload S448.here S448.hx rfl (S448.dec at_93) rfl rfl) ?_
      show own_F p e below s Z _ _ _ _ _ (T448.setTop (mkF m 95 #[.val (.int p0), .val (.int p1), .val (.int p2), .val (.int p3), .val (.int p4), .val (.int p5), .val (.int (3 : Int32)), .val (.int (1 : Int32)), .val .null, .val (.ref b419), .unset, .unset, .unset, .unset] [.null, (.ref b419)]))
      have fq450 := (fq444.keep K448)
      have fq451 := (fq446.keep K448)
      have fq452 := (fq447.keep K448)
      have fq453 := (X440.keep K448)
      refine own_callS S448 (y := (⟨"com/example/tidemark/tidemark/Page", "of", "(Ljava/util/List;Ljava/lang/Object;)Lcom/example/tidemark/tidemark/Page;"⟩ : MethodName)) (own_w hw 33 rfl) (own_w hw 34 rfl) (own_w hw 35 rfl) (own_w hw 36 rfl) (by decide) (argsL := [(.ref b419), .null]) (rest := []) (own_pof3 l Z a0 hw b419 .null b427 b422 b430 b440 aM mO h448 S448.old rfl SM MO fq450 Fs448 Fe448 V449 fq451 fq452 fq453) all0 (by decide +kernel : parseMethodDescriptor "(Ljava/util/List;Ljava/lang/Object;)Lcom/example/tidemark/tidemark/Page;" = some ⟨[(.object "java/util/List"), (.object "java/lang/Object")], some (.object "com/example/tidemark/tidemark/Page")⟩) rfl rfl rfl at_95 (by decide) (Nat.le_of_ble_eq_true rfl) (by decide) (by decide) (fun T454 h454 v454 S454 K454 q454 => ?_)
      obtain ⟨b454, rfl, E454, x454, Fi454, Fk454, ar454, X454, P454, R454, U454⟩ := q454
      have fq455 := (V449.keep K454 nin0)
      show own_F p e below s Z _ _ _ _ _ (T454.setTop (mkF m 98 #[.val (.int p0), .val (.int p1), .val (.int p2), .val (.int p3), .val (.int p4), .val (.int p5), .val (.int (3 : Int32)), .val (.int (1 : Int32)), .val .null, .val (.ref b419), .unset, .unset, .unset, .unset] [(.ref b454)]))
      refine own_F.of (fun _ => XS.astore S454.here S454.hx rfl (S454.dec at_98) rfl rfl (l' := #[.val (.int p0), .val (.int p1), .val (.int p2), .val (.int p3), .val (.int p4), .val (.int p5), .val (.int (3 : Int32)), .val (.int (1 : Int32)), .val .null, .val (.ref b419), .val (.ref b454), .unset, .unset, .unset]) rfl) ?_
      show own_F p e below s Z _ _ _ _ _ (T454.setTop (mkF m 100 #[.val (.int p0), .val (.int p1), .val (.int p2), .val (.int p3), .val (.int p4), .val (.int p5), .val (.int (3 : Int32)), .val (.int (1 : Int32)), .val .null, .val (.ref b419), .val (.ref b454), .unset, .unset, .unset] []))
      refine own_F.of (fun _ => XS.aload S454.here S454.hx rfl (S454.dec at_100) rfl rfl) ?_
      refine own_F.of (fun _ => XS.iloadN S454.here S454.hx rfl (S454.dec at_102) rfl) ?_
      show own_F p e below s Z _ _ _ _ _ (T454.setTop (mkF m 103 #[.val (.int p0), .val (.int p1), .val (.int p2), .val (.int p3), .val (.int p4), .val (.int p5), .val (.int (3 : Int32)), .val (.int (1 : Int32)), .val .null, .val (.ref b419), .val (.ref b454), .unset, .unset, .unset] [(.int p3), (.ref b419)]))
      refine own_callS S454 (y := (⟨"java/lang/Integer", "valueOf", "(I)Ljava/lang/Integer;"⟩ : MethodName)) (own_w hw 0 rfl) (own_w hw 1 rfl) (own_w hw 2 rfl) (own_w hw 3 rfl) (by decide) (argsL := [(.int p3)]) (rest := [(.ref b419)]) (own_vOfI l Z a0 hw p3 aCI clCI h454 S454.old SHi SCaI BXI) all0 (by decide +kernel : parseMethodDescriptor "(I)Ljava/lang/Integer;" = some ⟨[.int], some (.object "java/lang/Integer")⟩) rfl rfl rfl at_103 (by decide) (Nat.le_of_ble_eq_true rfl) (by decide) (by decide) (fun T456 h456 v456 S456 K456 q456 => ?_)
      obtain ⟨b456, rfl, X456, F456⟩ := q456
      show own_F p e below s Z _ _ _ _ _ (T456.setTop (mkF m 106 #[.val (.int p0), .val (.int p1), .val (.int p2), .val (.int p3), .val (.int p4), .val (.int p5), .val (.int (3 : Int32)), .val (.int (1 : Int32)), .val .null, .val (.ref b419), .val (.ref b454), .unset, .unset, .unset] [(.ref b456), (.ref b419)]))
      have fq457 := ((Fe448.keep K454 nin0).keep K456 nin0)
      have fq458 := ((Fs448.keep K454 nin0).keep K456 nin0)
      have fq459 := ((Fm448.keep K454 nin0).keep K456 nin0)
      have fq460 := ((fq450.keep K454).keep K456)
      have fq461 := (fq455.keep K456 nin0)
      have fq462 := ((fq451.keep K454).keep K456)
      have fq463 := ((fq452.keep K454).keep K456)
      have fq464 := ((fq453.keep K454).keep K456)
      refine own_callV S456 (y := (⟨"java/util/ArrayList", "add", "(Ljava/lang/Object;)Z"⟩ : MethodName)) (y' := (⟨"java/util/ArrayList", "add", "(Ljava/lang/Object;)Z"⟩ : MethodName)) (own_w hw 89 rfl) (own_w hw 90 rfl) (own_nf S456 (own_w hw 92 rfl)) (own_w hw 92 rfl) (own_w hw 91 rfl) (own_w hw 93 rfl) (own_w hw 9 rfl) (by decide) fq460 (argsL := [(.ref b456)]) (rest := []) (own_add_3 l Z a0 hw b419 b427 b422 b430 b440 b456 ((((0 : Int32) + (1 : Int32)) + (1 : Int32)) + (1 : Int32)) h456 S456.old (own_mayN S456 (Or.inr (by rw [g419]; exact S0.size))) fq460 (own_mayN S456 (Or.inr (Nat.le_trans S422.size g427))) fq461 fq457 fq458 fq459 fq462 fq463 fq464 X456) (allS (Or.inr (by rw [g419]; exact S0.size)) (allS (Or.inr (Nat.le_trans S422.size g427)) all0)) (by decide +kernel : parseMethodDescriptor "(Ljava/lang/Object;)Z" = some ⟨[(.object "java/lang/Object")], some .boolean⟩) rfl rfl rfl at_106 (by decide) (Nat.le_of_ble_eq_true rfl) (by decide) (by decide) (fun T465 h465 v465 S465 K465 q465 => ?_)
      obtain ⟨rfl, A465, Fe465, Fs465, Fm465⟩ := q465
      have V466 : own_AO Z h465 b427 [(.ref b422), (.ref b430), (.ref b440), (.ref b456), .null, .null, .null, .null, .null, .null] := A465
      show own_F p e below s Z _ _ _ _ _ (T465.setTop (mkF m 109 #[.val (.int p0), .val (.int p1), .val (.int p2), .val (.int p3), .val (.int p4), .val (.int p5), .val (.int (3 : Int32)), .val (.int (1 : Int32)), .val .null, .val (.ref b419), .val (.ref b454), .unset, .unset, .unset] [(.int (1 : Int32))]))
      refine own_F.of (fun _ => XS.pop S465.here S465.hx rfl (S465.dec at_109) rfl rfl) ?_
      refine own_F.of (fun _ => XS.aload S465.here S465.hx rfl (S465.dec at_110) rfl rfl) ?_
      show own_F p e below s Z _ _ _ _ _ (T465.setTop (mkF m 112 #[.val (.int p0), .val (.int p1), .val (.int p2), .val (.int p3), .val (.int p4), .val (.int p5), .val (.int (3 : Int32)), .val (.int (1 : Int32)), .val .null, .val (.ref b419), .val (.ref b454), .unset, .unset, .unset] [(.ref b454)]))
      have fq467 := ((Fi454.keep K456 nin0).keep K465 (ninS (ne_exa (E454.keep K456) fq460 (by decide)) (ninS (ne_exa ((E454.keep K456).keep K465) V466.exa (by decide)) nin0)))
      have fq469 := ((E454.keep K456).keep K465)
      refine own_callV S465 (y := (⟨"com/example/tidemark/tidemark/Page", "items", "()Ljava/util/List;"⟩ : MethodName)) (y' := (⟨"com/example/tidemark/tidemark/Page", "items", "()Ljava/util/List;"⟩ : MethodName)) (own_w hw 118 rfl) (own_w hw 119 rfl) (own_nf S465 (own_w hw 121 rfl)) (own_w hw 121 rfl) (own_w hw 120 rfl) (own_w hw 122 rfl) (own_w hw 35 rfl) (by decide) fq469 (argsL := []) (rest := []) (own_pgI l Z a0 hw b454 (.ref x454) h465 S465.old rfl fq467) all0 (by decide +kernel : parseMethodDescriptor "()Ljava/util/List;" = some ⟨[], some (.object "java/util/List")⟩) rfl rfl rfl at_112 (by decide) (Nat.le_of_ble_eq_true rfl) (by decide) (by decide) (fun T468 h468 v468 S468 K468 q468 => ?_)
      obtain ⟨rfl, rfl⟩ := q468
      show own_F p e below s Z _ _ _ _ _ (T468.setTop (mkF m 115 #[.val (.int p0), .val (.int p1), .val (.int p2), .val (.int p3), .val (.int p4), .val (.int p5), .val (.int (3 : Int32)), .val (.int (1 : Int32)), .val .null, .val (.ref b419), .val (.ref b454), .unset, .unset, .unset] [(.ref x454)]))
      refine own_F.of (fun _ => XS.astore S468.here S468.hx rfl (S468.dec at_115) rfl rfl (l' := #[.val (.int p0), .val (.int p1), .val (.int p2), .val (.int p3), .val (.int p4), .val (.int p5), .val (.int (3 : Int32)), .val (.int (1 : Int32)), .val .null, .val (.ref b419), .val (.ref b454), .val (.ref x454), .unset, .unset]) rfl) ?_
      show own_F p e below s Z _ _ _ _ _ (T468.setTop (mkF m 117 #[.val (.int p0), .val (.int p1), .val (.int p2), .val (.int p3), .val (.int p4), .val (.int p5), .val (.int (3 : Int32)), .val (.int (1 : Int32)), .val .null, .val (.ref b419), .val (.ref b454), .val (.ref x454), .unset, .unset] []))
      refine own_F.of (fun _ => XS.aload S468.here S468.hx rfl (S468.dec at_117) rfl rfl) ?_
      show own_F p e below s Z _ _ _ _ _ (T468.setTop (mkF m 119 #[.val (.int p0), .val (.int p1), .val (.int p2), .val (.int p3), .val (.int p4), .val (.int p5), .val (.int (3 : Int32)), .val (.int (1 : Int32)), .val .null, .val (.ref b419), .val (.ref b454), .val (.ref x454), .unset, .unset] [(.ref x454)]))
      have fq470 := ((P454.keep K456 nin0).keep K465 (ninS (ne_exa (X454.keep K456) fq460 (by decide)) (ninS (ne_exa ((X454.keep K456).keep K465) V466.exa (by decide)) nin0)))
      have fq471 := ((R454.keep K456 nin0).keep K465 (ninS (ne_exa (R454.exa.keep K456) fq460 (by decide)) (ninS (own_AO.neL R454 fq455 (by show (3 : Nat) ≠ 10; decide)) nin0)))
      have fq473 := ((X454.keep K456).keep K465)
      refine own_callX S468 (y := (⟨"java/util/List", "size", "()I"⟩ : MethodName)) (y' := (⟨"java/util/ImmutableCollections$ListN", "size", "()I"⟩ : MethodName)) (own_w hw 123 rfl) (own_w hw 124 rfl) (own_w hw 125 rfl) (own_w hw 126 rfl) (own_w hw 127 rfl) (own_w hw 128 rfl) (own_w hw 129 rfl) (own_w hw 84 rfl) (own_w hw 131 rfl) (own_w hw 130 rfl) (by decide) fq473 (argsL := []) (rest := []) (own_szN3 l Z a0 hw x454 ar454 b422 b430 b440 h465 S468.old fq470 fq471.A) all0 (by decide +kernel : parseMethodDescriptor "()I" = some ⟨[], some .int⟩) rfl rfl rfl at_119 (by decide) (Nat.le_of_ble_eq_true rfl) (by decide) (by decide) (fun T472 h472 v472 S472 K472 q472 => ?_)
      obtain ⟨rfl, rfl⟩ := q472
      show own_F p e below s Z _ _ _ _ _ (T472.setTop (mkF m 124 #[.val (.int p0), .val (.int p1), .val (.int p2), .val (.int p3), .val (.int p4), .val (.int p5), .val (.int (3 : Int32)), .val (.int (1 : Int32)), .val .null, .val (.ref b419), .val (.ref b454), .val (.ref x454), .unset, .unset] [(.int (3 : Int32))]))
      refine own_F.of (fun _ => XS.iload S472.here S472.hx rfl (S472.dec at_124) rfl) ?_
      show own_F p e below s Z _ _ _ _ _ (T472.setTop (mkF m 126 #[.val (.int p0), .val (.int p1), .val (.int p2), .val (.int p3), .val (.int p4), .val (.int p5), .val (.int (3 : Int32)), .val (.int (1 : Int32)), .val .null, .val (.ref b419), .val (.ref b454), .val (.ref x454), .unset, .unset] [(.int (3 : Int32)), (.int (3 : Int32))]))
      refine own_icmp S472 133 at_126 (by decide) (by decide) (fun (hc126_474 : ¬ ((3 : Int32) = (3 : Int32))) => False.elim (absurd hc126_474 (by decide))) (fun (hc126_474 : (3 : Int32) = (3 : Int32)) => ?_)
      show own_F p e below s Z _ _ _ _ _ (T472.setTop (mkF m 129 #[.val (.int p0), .val (.int p1), .val (.int p2), .val (.int p3), .val (.int p4), .val (.int p5), .val (.int (3 : Int32)), .val (.int (1 : Int32)), .val .null, .val (.ref b419), .val (.ref b454), .val (.ref x454), .unset, .unset] []))
      refine own_F.of (fun _ => XS.iconst S472.here S472.hx rfl (S472.dec at_129)) ?_
      show own_F p e below s Z _ _ _ _ _ (T472.setTop (mkF m 130 #[.val (.int p0), .val (.int p1), .val (.int p2), .val (.int p3), .val (.int p4), .val (.int p5), .val (.int (3 : Int32)), .val (.int (1 : Int32)), .val .null, .val (.ref b419), .val (.ref b454), .val (.ref x454), .unset, .unset] [(.int (1 : Int32))]))
      refine own_F.of (fun _ => XS.goto S472.here S472.hx rfl (pc0 := 130) (pc' := 134) rfl (S472.dec at_130) (by decide) (by decide)) ?_
      show own_F p e below s Z _ _ _ _ _ (T472.setTop (mkF m 134 #[.val (.int p0), .val (.int p1), .val (.int p2), .val (.int p3), .val (.int p4), .val (.int p5), .val (.int (3 : Int32)), .val (.int (1 : Int32)), .val .null, .val (.ref b419), .val (.ref b454), .val (.ref x454), .unset, .unset] [(.int (1 : Int32))]))
      refine own_F.of (fun _ => XS.istore S472.here S472.hx rfl (S472.dec at_134) rfl (l' := #[.val (.int p0), .val (.int p1), .val (.int p2), .val (.int p3), .val (.int p4), .val (.int p5), .val (.int (3 : Int32)), .val (.int (1 : Int32)), .val .null, .val (.ref b419), .val (.ref b454), .val (.ref x454), .val (.int (1 : Int32)), .unset]) rfl) ?_
      show own_F p e below s Z _ _ _ _ _ (T472.setTop (mkF m 136 #[.val (.int p0), .val (.int p1), .val (.int p2), .val (.int p3), .val (.int p4), .val (.int p5), .val (.int (3 : Int32)), .val (.int (1 : Int32)), .val .null, .val (.ref b419), .val (.ref b454), .val (.ref x454), .val (.int (1 : Int32)), .unset] []))
      refine own_F.of (fun _ => XS.iload S472.here S472.hx rfl (S472.dec at_136) rfl) ?_
      show own_F p e below s Z _ _ _ _ _ (T472.setTop (mkF m 138 #[.val (.int p0), .val (.int p1), .val (.int p2), .val (.int p3), .val (.int p4), .val (.int p5), .val (.int (3 : Int32)), .val (.int (1 : Int32)), .val .null, .val (.ref b419), .val (.ref b454), .val (.ref x454), .val (.int (1 : Int32)), .unset] [(.int (1 : Int32))]))
      refine own_if S472 171 at_138 (by decide) (by decide) (fun (hc138_475 : (1 : Int32) = (0 : Int32)) => False.elim (absurd hc138_475 (by decide))) (fun (hc138_475 : ¬ ((1 : Int32) = (0 : Int32))) => ?_)
      show own_F p e below s Z _ _ _ _ _ (T472.setTop (mkF m 141 #[.val (.int p0), .val (.int p1), .val (.int p2), .val (.int p3), .val (.int p4), .val (.int p5), .val (.int (3 : Int32)), .val (.int (1 : Int32)), .val .null, .val (.ref b419), .val (.ref b454), .val (.ref x454), .val (.int (1 : Int32)), .unset] []))
      refine own_F.of (fun _ => XS.iload S472.here S472.hx rfl (S472.dec at_141) rfl) ?_
      show own_F p e below s Z _ _ _ _ _ (T472.setTop (mkF m 143 #[.val (.int p0), .val (.int p1), .val (.int p2), .val (.int p3), .val (.int p4), .val (.int p5), .val (.int (3 : Int32)), .val (.int (1 : Int32)), .val .null, .val (.ref b419), .val (.ref b454), .val (.ref x454), .val (.int (1 : Int32)), .unset] [(.int (3 : Int32))]))
      refine own_if S472 171 at_143 (by decide) (by decide) (fun (hc143_476 : ¬ ((0 : Int32) < (3 : Int32))) => False.elim (absurd hc143_476 (by decide))) (fun (hc143_476 : (0 : Int32) < (3 : Int32)) => ?_)
      show own_F p e below s Z _ _ _ _ _ (T472.setTop (mkF m 146 #[.val (.int p0), .val (.int p1), .val (.int p2), .val (.int p3), .val (.int p4), .val (.int p5), .val (.int (3 : Int32)), .val (.int (1 : Int32)), .val .null, .val (.ref b419), .val (.ref b454), .val (.ref x454), .val (.int (1 : Int32)), .unset] []))
      refine own_F.of (fun _ => XS.aload S472.here S472.hx rfl (S472.dec at_146) rfl rfl) ?_
      refine own_F.of (fun _ => XS.iconst S472.here S472.hx rfl (S472.dec at_148)) ?_
      show own_F p e below s Z _ _ _ _ _ (T472.setTop (mkF m 149 #[.val (.int p0), .val (.int p1), .val (.int p2), .val (.int p3), .val (.int p4), .val (.int p5), .val (.int (3 : Int32)), .val (.int (1 : Int32)), .val .null, .val (.ref b419), .val (.ref b454), .val (.ref x454), .val (.int (1 : Int32)), .unset] [(.int (0 : Int32)), (.ref x454)]))
      refine own_callX S472 (y := (⟨"java/util/List", "get", "(I)Ljava/lang/Object;"⟩ : MethodName)) (y' := (⟨"java/util/ImmutableCollections$ListN", "get", "(I)Ljava/lang/Object;"⟩ : MethodName)) (own_w hw 229 rfl) (own_w hw 230 rfl) (own_w hw 231 rfl) (own_w hw 251 rfl) (own_w hw 252 rfl) (own_w hw 253 rfl) (own_w hw 254 rfl) (own_w hw 84 rfl) (own_w hw 255 rfl) (own_w hw 130 rfl) (by decide) fq473 (argsL := [(.int (0 : Int32))]) (rest := []) (own_gtN_0 l Z a0 hw x454 ar454 b422 b430 b440 h465 S472.old fq470 fq471) all0 (by decide +kernel : parseMethodDescriptor "(I)Ljava/lang/Object;" = some ⟨[.int], some (.object "java/lang/Object")⟩) rfl rfl rfl at_149 (by decide) (Nat.le_of_ble_eq_true rfl) (by decide) (by decide) (fun T477 h477 v477 S477 K477 q477 => ?_)
      obtain ⟨rfl, rfl⟩ := q477
      show own_F p e below s Z _ _ _ _ _ (T477.setTop (mkF m 154 #[.val (.int p0), .val (.int p1), .val (.int p2), .val (.int p3), .val (.int p4), .val (.int p5), .val (.int (3 : Int32)), .val (.int (1 : Int32)), .val .null, .val (.ref b419), .val (.ref b454), .val (.ref x454), .val (.int (1 : Int32)), .unset] [(.ref b422)]))
      have fq479 := (fq462.keep K465)
      refine own_cast S477 (own_w hw 139 rfl) (Ins.self fq479) at_154 (fun T478 S478 => ?_)
      show own_F p e below s Z _ _ _ _ _ (T478.setTop (mkF m 157 #[.val (.int p0), .val (.int p1), .val (.int p2), .val (.int p3), .val (.int p4), .val (.int p5), .val (.int (3 : Int32)), .val (.int (1 : Int32)), .val .null, .val (.ref b419), .val (.ref b454), .val (.ref x454), .val (.int (1 : Int32)), .unset] [(.ref b422)]))
      have fq480 := ((((((((F422.keep K427 (ninS (ne_exa fq479 (fq460.keep K465) (by decide)) nin0)).keep K430 nin0).keep K437 (ninS (ne_exa fq479 (fq460.keep K465) (by decide)) (ninS (ne_exa fq479 V466.exa (by decide)) nin0))).keep K440 nin0).keep K448 (ninS (ne_exa fq479 (fq460.keep K465) (by decide)) (ninS (ne_exa fq479 V466.exa (by decide)) nin0))).keep K454 nin0).keep K456 nin0).keep K465 (ninS (ne_exa fq479 (fq460.keep K465) (by decide)) (ninS (ne_exa fq479 V466.exa (by decide)) nin0)))
      refine own_callV S478 (y := (⟨"java/lang/Integer", "intValue", "()I"⟩ : MethodName)) (y' := (⟨"java/lang/Integer", "intValue", "()I"⟩ : MethodName)) (own_w hw 141 rfl) (own_w hw 142 rfl) (own_nf S478 (own_w hw 144 rfl)) (own_w hw 144 rfl) (own_w hw 143 rfl) (own_w hw 145 rfl) (own_w hw 2 rfl) (by decide) fq479 (argsL := []) (rest := []) (own_intV l Z a0 hw b422 p1 h465 S478.old fq480) all0 (by decide +kernel : parseMethodDescriptor "()I" = some ⟨[], some .int⟩) rfl rfl rfl at_157 (by decide) (Nat.le_of_ble_eq_true rfl) (by decide) (by decide) (fun T481 h481 v481 S481 K481 q481 => ?_)
      obtain ⟨rfl, rfl⟩ := q481
      show own_F p e below s Z _ _ _ _ _ (T481.setTop (mkF m 160 #[.val (.int p0), .val (.int p1), .val (.int p2), .val (.int p3), .val (.int p4), .val (.int p5), .val (.int (3 : Int32)), .val (.int (1 : Int32)), .val .null, .val (.ref b419), .val (.ref b454), .val (.ref x454), .val (.int (1 : Int32)), .unset] [(.int p1)]))
      refine own_F.of (fun _ => XS.iloadN S481.here S481.hx rfl (S481.dec at_160) rfl) ?_
      show own_F p e below s Z _ _ _ _ _ (T481.setTop (mkF m 161 #[.val (.int p0), .val (.int p1), .val (.int p2), .val (.int p3), .val (.int p4), .val (.int p5), .val (.int (3 : Int32)), .val (.int (1 : Int32)), .val .null, .val (.ref b419), .val (.ref b454), .val (.ref x454), .val (.int (1 : Int32)), .unset] [(.int p1), (.int p1)]))
      refine own_icmp S481 168 at_161 (by decide) (by decide) (fun (hc161_482 : ¬ (p1 = p1)) => False.elim (hc161_482 rfl)) (fun (hc161_482 : p1 = p1) => ?_)
      show own_F p e below s Z _ _ _ _ _ (T481.setTop (mkF m 164 #[.val (.int p0), .val (.int p1), .val (.int p2), .val (.int p3), .val (.int p4), .val (.int p5), .val (.int (3 : Int32)), .val (.int (1 : Int32)), .val .null, .val (.ref b419), .val (.ref b454), .val (.ref x454), .val (.int (1 : Int32)), .unset] []))
      refine own_F.of (fun _ => XS.iconst S481.here S481.hx rfl (S481.dec at_164)) ?_
      show own_F p e below s Z _ _ _ _ _ (T481.setTop (mkF m 165 #[.val (.int p0), .val (.int p1), .val (.int p2), .val (.int p3), .val (.int p4), .val (.int p5), .val (.int (3 : Int32)), .val (.int (1 : Int32)), .val .null, .val (.ref b419), .val (.ref b454), .val (.ref x454), .val (.int (1 : Int32)), .unset] [(.int (1 : Int32))]))
      refine own_F.of (fun _ => XS.goto S481.here S481.hx rfl (pc0 := 165) (pc' := 169) rfl (S481.dec at_165) (by decide) (by decide)) ?_
      show own_F p e below s Z _ _ _ _ _ (T481.setTop (mkF m 169 #[.val (.int p0), .val (.int p1), .val (.int p2), .val (.int p3), .val (.int p4), .val (.int p5), .val (.int (3 : Int32)), .val (.int (1 : Int32)), .val .null, .val (.ref b419), .val (.ref b454), .val (.ref x454), .val (.int (1 : Int32)), .unset] [(.int (1 : Int32))]))
      refine own_F.of (fun _ => XS.istore S481.here S481.hx rfl (S481.dec at_169) rfl (l' := #[.val (.int p0), .val (.int p1), .val (.int p2), .val (.int p3), .val (.int p4), .val (.int p5), .val (.int (3 : Int32)), .val (.int (1 : Int32)), .val .null, .val (.ref b419), .val (.ref b454), .val (.ref x454), .val (.int (1 : Int32)), .unset]) rfl) ?_
      show own_F p e below s Z _ _ _ _ _ (T481.setTop (mkF m 171 #[.val (.int p0), .val (.int p1), .val (.int p2), .val (.int p3), .val (.int p4), .val (.int p5), .val (.int (3 : Int32)), .val (.int (1 : Int32)), .val .null, .val (.ref b419), .val (.ref b454), .val (.ref x454), .val (.int (1 : Int32)), .unset] []))
      refine own_F.of (fun _ => XS.iload S481.here S481.hx rfl (S481.dec at_171) rfl) ?_
      show own_F p e below s Z _ _ _ _ _ (T481.setTop (mkF m 173 #[.val (.int p0), .val (.int p1), .val (.int p2), .val (.int p3), .val (.int p4), .val (.int p5), .val (.int (3 : Int32)), .val (.int (1 : Int32)), .val .null, .val (.ref b419), .val (.ref b454), .val (.ref x454), .val (.int (1 : Int32)), .unset] [(.int (1 : Int32))]))
      refine own_if S481 207 at_173 (by decide) (by decide) (fun (hc173_483 : (1 : Int32) = (0 : Int32)) => False.elim (absurd hc173_483 (by decide))) (fun (hc173_483 : ¬ ((1 : Int32) = (0 : Int32))) => ?_)
      show own_F p e below s Z _ _ _ _ _ (T481.setTop (mkF m 176 #[.val (.int p0), .val (.int p1), .val (.int p2), .val (.int p3), .val (.int p4), .val (.int p5), .val (.int (3 : Int32)), .val (.int (1 : Int32)), .val .null, .val (.ref b419), .val (.ref b454), .val (.ref x454), .val (.int (1 : Int32)), .unset] []))
      refine own_F.of (fun _ => XS.iload S481.here S481.hx rfl (S481.dec at_176) rfl) ?_
      refine own_F.of (fun _ => XS.iconst S481.here S481.hx rfl (S481.dec at_178)) ?_
      show own_F p e below s Z _ _ _ _ _ (T481.setTop (mkF m 179 #[.val (.int p0), .val (.int p1), .val (.int p2), .val (.int p3), .val (.int p4), .val (.int p5), .val (.int (3 : Int32)), .val (.int (1 : Int32)), .val .null, .val (.ref b419), .val (.ref b454), .val (.ref x454), .val (.int (1 : Int32)), .unset] [(.int (1 : Int32)), (.int (3 : Int32))]))
      refine own_icmp S481 207 at_179 (by decide) (by decide) (fun (hc179_484 : ¬ ((1 : Int32) < (3 : Int32))) => False.elim (absurd hc179_484 (by decide))) (fun (hc179_484 : (1 : Int32) < (3 : Int32)) => ?_)
      show own_F p e below s Z _ _ _ _ _ (T481.setTop (mkF m 182 #[.val (.int p0), .val (.int p1), .val (.int p2), .val (.int p3), .val (.int p4), .val (.int p5), .val (.int (3 : Int32)), .val (.int (1 : Int32)), .val .null, .val (.ref b419), .val (.ref b454), .val (.ref x454), .val (.int (1 : Int32)), .unset] []))
      refine own_F.of (fun _ => XS.aload S481.here S481.hx rfl (S481.dec at_182) rfl rfl) ?_
      refine own_F.of (fun _ => XS.iconst S481.here S481.hx rfl (S481.dec at_184)) ?_
      show own_F p e below s Z _ _ _ _ _ (T481.setTop (mkF m 185 #[.val (.int p0), .val (.int p1), .val (.int p2), .val (.int p3), .val (.int p4), .val (.int p5), .val (.int (3 : Int32)), .val (.int (1 : Int32)), .val .null, .val (.ref b419), .val (.ref b454), .val (.ref x454), .val (.int (1 : Int32)), .unset] [(.int (1 : Int32)), (.ref x454)]))
      refine own_callX S481 (y := (⟨"java/util/List", "get", "(I)Ljava/lang/Object;"⟩ : MethodName)) (y' := (⟨"java/util/ImmutableCollections$ListN", "get", "(I)Ljava/lang/Object;"⟩ : MethodName)) (own_w hw 229 rfl) (own_w hw 230 rfl) (own_w hw 231 rfl) (own_w hw 251 rfl) (own_w hw 252 rfl) (own_w hw 253 rfl) (own_w hw 254 rfl) (own_w hw 84 rfl) (own_w hw 255 rfl) (own_w hw 130 rfl) (by decide) fq473 (argsL := [(.int (1 : Int32))]) (rest := []) (own_gtN_1 l Z a0 hw x454 ar454 b422 b430 b440 h465 S481.old fq470 fq471) all0 (by decide +kernel : parseMethodDescriptor "(I)Ljava/lang/Object;" = some ⟨[.int], some (.object "java/lang/Object")⟩) rfl rfl rfl at_185 (by decide) (Nat.le_of_ble_eq_true rfl) (by decide) (by decide) (fun T485 h485 v485 S485 K485 q485 => ?_)
      obtain ⟨rfl, rfl⟩ := q485
      show own_F p e below s Z _ _ _ _ _ (T485.setTop (mkF m 190 #[.val (.int p0), .val (.int p1), .val (.int p2), .val (.int p3), .val (.int p4), .val (.int p5), .val (.int (3 : Int32)), .val (.int (1 : Int32)), .val .null, .val (.ref b419), .val (.ref b454), .val (.ref x454), .val (.int (1 : Int32)), .unset] [(.ref b430)]))
      have fq487 := (fq463.keep K465)
      refine own_cast S485 (own_w hw 139 rfl) (Ins.self fq487) at_190 (fun T486 S486 => ?_)
      show own_F p e below s Z _ _ _ _ _ (T486.setTop (mkF m 193 #[.val (.int p0), .val (.int p1), .val (.int p2), .val (.int p3), .val (.int p4), .val (.int p5), .val (.int (3 : Int32)), .val (.int (1 : Int32)), .val .null, .val (.ref b419), .val (.ref b454), .val (.ref x454), .val (.int (1 : Int32)), .unset] [(.ref b430)]))
      have fq488 := ((((((F430.keep K437 (ninS (ne_exa fq487 (fq460.keep K465) (by decide)) (ninS (ne_exa fq487 V466.exa (by decide)) nin0))).keep K440 nin0).keep K448 (ninS (ne_exa fq487 (fq460.keep K465) (by decide)) (ninS (ne_exa fq487 V466.exa (by decide)) nin0))).keep K454 nin0).keep K456 nin0).keep K465 (ninS (ne_exa fq487 (fq460.keep K465) (by decide)) (ninS (ne_exa fq487 V466.exa (by decide)) nin0)))
      refine own_callV S486 (y := (⟨"java/lang/Integer", "intValue", "()I"⟩ : MethodName)) (y' := (⟨"java/lang/Integer", "intValue", "()I"⟩ : MethodName)) (own_w hw 141 rfl) (own_w hw 142 rfl) (own_nf S486 (own_w hw 144 rfl)) (own_w hw 144 rfl) (own_w hw 143 rfl) (own_w hw 145 rfl) (own_w hw 2 rfl) (by decide) fq487 (argsL := []) (rest := []) (own_intV l Z a0 hw b430 p2 h465 S486.old fq488) all0 (by decide +kernel : parseMethodDescriptor "()I" = some ⟨[], some .int⟩) rfl rfl rfl at_193 (by decide) (Nat.le_of_ble_eq_true rfl) (by decide) (by decide) (fun T489 h489 v489 S489 K489 q489 => ?_)
      obtain ⟨rfl, rfl⟩ := q489
      show own_F p e below s Z _ _ _ _ _ (T489.setTop (mkF m 196 #[.val (.int p0), .val (.int p1), .val (.int p2), .val (.int p3), .val (.int p4), .val (.int p5), .val (.int (3 : Int32)), .val (.int (1 : Int32)), .val .null, .val (.ref b419), .val (.ref b454), .val (.ref x454), .val (.int (1 : Int32)), .unset] [(.int p2)]))
      refine own_F.of (fun _ => XS.iloadN S489.here S489.hx rfl (S489.dec at_196) rfl) ?_
      show own_F p e below s Z _ _ _ _ _ (T489.setTop (mkF m 197 #[.val (.int p0), .val (.int p1), .val (.int p2), .val (.int p3), .val (.int p4), .val (.int p5), .val (.int (3 : Int32)), .val (.int (1 : Int32)), .val .null, .val (.ref b419), .val (.ref b454), .val (.ref x454), .val (.int (1 : Int32)), .unset] [(.int p2), (.int p2)]))
      refine own_icmp S489 204 at_197 (by decide) (by decide) (fun (hc197_490 : ¬ (p2 = p2)) => False.elim (hc197_490 rfl)) (fun (hc197_490 : p2 = p2) => ?_)
      show own_F p e below s Z _ _ _ _ _ (T489.setTop (mkF m 200 #[.val (.int p0), .val (.int p1), .val (.int p2), .val (.int p3), .val (.int p4), .val (.int p5), .val (.int (3 : Int32)), .val (.int (1 : Int32)), .val .null, .val (.ref b419), .val (.ref b454), .val (.ref x454), .val (.int (1 : Int32)), .unset] []))
      refine own_F.of (fun _ => XS.iconst S489.here S489.hx rfl (S489.dec at_200)) ?_
      show own_F p e below s Z _ _ _ _ _ (T489.setTop (mkF m 201 #[.val (.int p0), .val (.int p1), .val (.int p2), .val (.int p3), .val (.int p4), .val (.int p5), .val (.int (3 : Int32)), .val (.int (1 : Int32)), .val .null, .val (.ref b419), .val (.ref b454), .val (.ref x454), .val (.int (1 : Int32)), .unset] [(.int (1 : Int32))]))
      refine own_F.of (fun _ => XS.goto S489.here S489.hx rfl (pc0 := 201) (pc' := 205) rfl (S489.dec at_201) (by decide) (by decide)) ?_
      show own_F p e below s Z _ _ _ _ _ (T489.setTop (mkF m 205 #[.val (.int p0), .val (.int p1), .val (.int p2), .val (.int p3), .val (.int p4), .val (.int p5), .val (.int (3 : Int32)), .val (.int (1 : Int32)), .val .null, .val (.ref b419), .val (.ref b454), .val (.ref x454), .val (.int (1 : Int32)), .unset] [(.int (1 : Int32))]))
      refine own_F.of (fun _ => XS.istore S489.here S489.hx rfl (S489.dec at_205) rfl (l' := #[.val (.int p0), .val (.int p1), .val (.int p2), .val (.int p3), .val (.int p4), .val (.int p5), .val (.int (3 : Int32)), .val (.int (1 : Int32)), .val .null, .val (.ref b419), .val (.ref b454), .val (.ref x454), .val (.int (1 : Int32)), .unset]) rfl) ?_
      show own_F p e below s Z _ _ _ _ _ (T489.setTop (mkF m 207 #[.val (.int p0), .val (.int p1), .val (.int p2), .val (.int p3), .val (.int p4), .val (.int p5), .val (.int (3 : Int32)), .val (.int (1 : Int32)), .val .null, .val (.ref b419), .val (.ref b454), .val (.ref x454), .val (.int (1 : Int32)), .unset] []))
      refine own_F.of (fun _ => XS.iload S489.here S489.hx rfl (S489.dec at_207) rfl) ?_
      show own_F p e below s Z _ _ _ _ _ (T489.setTop (mkF m 209 #[.val (.int p0), .val (.int p1), .val (.int p2), .val (.int p3), .val (.int p4), .val (.int p5), .val (.int (3 : Int32)), .val (.int (1 : Int32)), .val .null, .val (.ref b419), .val (.ref b454), .val (.ref x454), .val (.int (1 : Int32)), .unset] [(.int (1 : Int32))]))
      refine own_if S489 243 at_209 (by decide) (by decide) (fun (hc209_491 : (1 : Int32) = (0 : Int32)) => False.elim (absurd hc209_491 (by decide))) (fun (hc209_491 : ¬ ((1 : Int32) = (0 : Int32))) => ?_)
      show own_F p e below s Z _ _ _ _ _ (T489.setTop (mkF m 212 #[.val (.int p0), .val (.int p1), .val (.int p2), .val (.int p3), .val (.int p4), .val (.int p5), .val (.int (3 : Int32)), .val (.int (1 : Int32)), .val .null, .val (.ref b419), .val (.ref b454), .val (.ref x454), .val (.int (1 : Int32)), .unset] []))
      refine own_F.of (fun _ => XS.iload S489.here S489.hx rfl (S489.dec at_212) rfl) ?_
      refine own_F.of (fun _ => XS.iconst S489.here S489.hx rfl (S489.dec at_214)) ?_
      show own_F p e below s Z _ _ _ _ _ (T489.setTop (mkF m 215 #[.val (.int p0), .val (.int p1), .val (.int p2), .val (.int p3), .val (.int p4), .val (.int p5), .val (.int (3 : Int32)), .val (.int (1 : Int32)), .val .null, .val (.ref b419), .val (.ref b454), .val (.ref x454), .val (.int (1 : Int32)), .unset] [(.int (2 : Int32)), (.int (3 : Int32))]))
      refine own_icmp S489 243 at_215 (by decide) (by decide) (fun (hc215_492 : ¬ ((2 : Int32) < (3 : Int32))) => False.elim (absurd hc215_492 (by decide))) (fun (hc215_492 : (2 : Int32) < (3 : Int32)) => ?_)
      show own_F p e below s Z _ _ _ _ _ (T489.setTop (mkF m 218 #[.val (.int p0), .val (.int p1), .val (.int p2), .val (.int p3), .val (.int p4), .val (.int p5), .val (.int (3 : Int32)), .val (.int (1 : Int32)), .val .null, .val (.ref b419), .val (.ref b454), .val (.ref x454), .val (.int (1 : Int32)), .unset] []))
      refine own_F.of (fun _ => XS.aload S489.here S489.hx rfl (S489.dec at_218) rfl rfl) ?_
      refine own_F.of (fun _ => XS.iconst S489.here S489.hx rfl (S489.dec at_220)) ?_
      show own_F p e below s Z _ _ _ _ _ (T489.setTop (mkF m 221 #[.val (.int p0), .val (.int p1), .val (.int p2), .val (.int p3), .val (.int p4), .val (.int p5), .val (.int (3 : Int32)), .val (.int (1 : Int32)), .val .null, .val (.ref b419), .val (.ref b454), .val (.ref x454), .val (.int (1 : Int32)), .unset] [(.int (2 : Int32)), (.ref x454)]))
      refine own_callX S489 (y := (⟨"java/util/List", "get", "(I)Ljava/lang/Object;"⟩ : MethodName)) (y' := (⟨"java/util/ImmutableCollections$ListN", "get", "(I)Ljava/lang/Object;"⟩ : MethodName)) (own_w hw 229 rfl) (own_w hw 230 rfl) (own_w hw 231 rfl) (own_w hw 251 rfl) (own_w hw 252 rfl) (own_w hw 253 rfl) (own_w hw 254 rfl) (own_w hw 84 rfl) (own_w hw 255 rfl) (own_w hw 130 rfl) (by decide) fq473 (argsL := [(.int (2 : Int32))]) (rest := []) (own_gtN_2 l Z a0 hw x454 ar454 b422 b430 b440 h465 S489.old fq470 fq471) all0 (by decide +kernel : parseMethodDescriptor "(I)Ljava/lang/Object;" = some ⟨[.int], some (.object "java/lang/Object")⟩) rfl rfl rfl at_221 (by decide) (Nat.le_of_ble_eq_true rfl) (by decide) (by decide) (fun T493 h493 v493 S493 K493 q493 => ?_)
      obtain ⟨rfl, rfl⟩ := q493
      show own_F p e below s Z _ _ _ _ _ (T493.setTop (mkF m 226 #[.val (.int p0), .val (.int p1), .val (.int p2), .val (.int p3), .val (.int p4), .val (.int p5), .val (.int (3 : Int32)), .val (.int (1 : Int32)), .val .null, .val (.ref b419), .val (.ref b454), .val (.ref x454), .val (.int (1 : Int32)), .unset] [(.ref b440)]))
      have fq495 := (fq464.keep K465)
      refine own_cast S493 (own_w hw 139 rfl) (Ins.self fq495) at_226 (fun T494 S494 => ?_)
      show own_F p e below s Z _ _ _ _ _ (T494.setTop (mkF m 229 #[.val (.int p0), .val (.int p1), .val (.int p2), .val (.int p3), .val (.int p4), .val (.int p5), .val (.int (3 : Int32)), .val (.int (1 : Int32)), .val .null, .val (.ref b419), .val (.ref b454), .val (.ref x454), .val (.int (1 : Int32)), .unset] [(.ref b440)]))
      have fq496 := ((((F440.keep K448 (ninS (ne_exa fq495 (fq460.keep K465) (by decide)) (ninS (ne_exa fq495 V466.exa (by decide)) nin0))).keep K454 nin0).keep K456 nin0).keep K465 (ninS (ne_exa fq495 (fq460.keep K465) (by decide)) (ninS (ne_exa fq495 V466.exa (by decide)) nin0)))
      refine own_callV S494 (y := (⟨"java/lang/Integer", "intValue", "()I"⟩ : MethodName)) (y' := (⟨"java/lang/Integer", "intValue", "()I"⟩ : MethodName)) (own_w hw 141 rfl) (own_w hw 142 rfl) (own_nf S494 (own_w hw 144 rfl)) (own_w hw 144 rfl) (own_w hw 143 rfl) (own_w hw 145 rfl) (own_w hw 2 rfl) (by decide) fq495 (argsL := []) (rest := []) (own_intV l Z a0 hw b440 p3 h465 S494.old fq496) all0 (by decide +kernel : parseMethodDescriptor "()I" = some ⟨[], some .int⟩) rfl rfl rfl at_229 (by decide) (Nat.le_of_ble_eq_true rfl) (by decide) (by decide) (fun T497 h497 v497 S497 K497 q497 => ?_)
      obtain ⟨rfl, rfl⟩ := q497
      show own_F p e below s Z _ _ _ _ _ (T497.setTop (mkF m 232 #[.val (.int p0), .val (.int p1), .val (.int p2), .val (.int p3), .val (.int p4), .val (.int p5), .val (.int (3 : Int32)), .val (.int (1 : Int32)), .val .null, .val (.ref b419), .val (.ref b454), .val (.ref x454), .val (.int (1 : Int32)), .unset] [(.int p3)]))
      refine own_F.of (fun _ => XS.iloadN S497.here S497.hx rfl (S497.dec at_232) rfl) ?_
      show own_F p e below s Z _ _ _ _ _ (T497.setTop (mkF m 233 #[.val (.int p0), .val (.int p1), .val (.int p2), .val (.int p3), .val (.int p4), .val (.int p5), .val (.int (3 : Int32)), .val (.int (1 : Int32)), .val .null, .val (.ref b419), .val (.ref b454), .val (.ref x454), .val (.int (1 : Int32)), .unset] [(.int p3), (.int p3)]))
      refine own_icmp S497 240 at_233 (by decide) (by decide) (fun (hc233_498 : ¬ (p3 = p3)) => False.elim (hc233_498 rfl)) (fun (hc233_498 : p3 = p3) => ?_)
      show own_F p e below s Z _ _ _ _ _ (T497.setTop (mkF m 236 #[.val (.int p0), .val (.int p1), .val (.int p2), .val (.int p3), .val (.int p4), .val (.int p5), .val (.int (3 : Int32)), .val (.int (1 : Int32)), .val .null, .val (.ref b419), .val (.ref b454), .val (.ref x454), .val (.int (1 : Int32)), .unset] []))
      refine own_F.of (fun _ => XS.iconst S497.here S497.hx rfl (S497.dec at_236)) ?_
      show own_F p e below s Z _ _ _ _ _ (T497.setTop (mkF m 237 #[.val (.int p0), .val (.int p1), .val (.int p2), .val (.int p3), .val (.int p4), .val (.int p5), .val (.int (3 : Int32)), .val (.int (1 : Int32)), .val .null, .val (.ref b419), .val (.ref b454), .val (.ref x454), .val (.int (1 : Int32)), .unset] [(.int (1 : Int32))]))
      refine own_F.of (fun _ => XS.goto S497.here S497.hx rfl (pc0 := 237) (pc' := 241) rfl (S497.dec at_237) (by decide) (by decide)) ?_
      show own_F p e below s Z _ _ _ _ _ (T497.setTop (mkF m 241 #[.val (.int p0), .val (.int p1), .val (.int p2), .val (.int p3), .val (.int p4), .val (.int p5), .val (.int (3 : Int32)), .val (.int (1 : Int32)), .val .null, .val (.ref b419), .val (.ref b454), .val (.ref x454), .val (.int (1 : Int32)), .unset] [(.int (1 : Int32))]))
      refine own_F.of (fun _ => XS.istore S497.here S497.hx rfl (S497.dec at_241) rfl (l' := #[.val (.int p0), .val (.int p1), .val (.int p2), .val (.int p3), .val (.int p4), .val (.int p5), .val (.int (3 : Int32)), .val (.int (1 : Int32)), .val .null, .val (.ref b419), .val (.ref b454), .val (.ref x454), .val (.int (1 : Int32)), .unset]) rfl) ?_
      show own_F p e below s Z _ _ _ _ _ (T497.setTop (mkF m 243 #[.val (.int p0), .val (.int p1), .val (.int p2), .val (.int p3), .val (.int p4), .val (.int p5), .val (.int (3 : Int32)), .val (.int (1 : Int32)), .val .null, .val (.ref b419), .val (.ref b454), .val (.ref x454), .val (.int (1 : Int32)), .unset] []))
      refine own_F.of (fun _ => XS.aload S497.here S497.hx rfl (S497.dec at_243) rfl rfl) ?_
      show own_F p e below s Z _ _ _ _ _ (T497.setTop (mkF m 245 #[.val (.int p0), .val (.int p1), .val (.int p2), .val (.int p3), .val (.int p4), .val (.int p5), .val (.int (3 : Int32)), .val (.int (1 : Int32)), .val .null, .val (.ref b419), .val (.ref b454), .val (.ref x454), .val (.int (1 : Int32)), .unset] [(.ref b454)]))
      have fq499 := ((Fk454.keep K456 nin0).keep K465 (ninS (ne_exa fq469 (fq460.keep K465) (by decide)) (ninS (ne_exa fq469 V466.exa (by decide)) nin0)))
      refine own_callV S497 (y := (⟨"com/example/tidemark/tidemark/Page", "nextKey", "()Ljava/lang/Object;"⟩ : MethodName)) (y' := (⟨"com/example/tidemark/tidemark/Page", "nextKey", "()Ljava/lang/Object;"⟩ : MethodName)) (own_w hw 134 rfl) (own_w hw 135 rfl) (own_nf S497 (own_w hw 137 rfl)) (own_w hw 137 rfl) (own_w hw 136 rfl) (own_w hw 138 rfl) (own_w hw 35 rfl) (by decide) fq469 (argsL := []) (rest := []) (own_pgK l Z a0 hw b454 .null h465 S497.old rfl fq499) all0 (by decide +kernel : parseMethodDescriptor "()Ljava/lang/Object;" = some ⟨[], some (.object "java/lang/Object")⟩) rfl rfl rfl at_245 (by decide) (Nat.le_of_ble_eq_true rfl) (by decide) (by decide) (fun T500 h500 v500 S500 K500 q500 => ?_)
      obtain ⟨rfl, rfl⟩ := q500
      show own_F p e below s Z _ _ _ _ _ (T500.setTop (mkF m 248 #[.val (.int p0), .val (.int p1), .val (.int p2), .val (.int p3), .val (.int p4), .val (.int p5), .val (.int (3 : Int32)), .val (.int (1 : Int32)), .val .null, .val (.ref b419), .val (.ref b454), .val (.ref x454), .val (.int (1 : Int32)), .unset] [.null]))
      refine own_cast0 S500 at_248 ?_
      show own_F p e below s Z _ _ _ _ _ (T500.setTop (mkF m 251 #[.val (.int p0), .val (.int p1), .val (.int p2), .val (.int p3), .val (.int p4), .val (.int p5), .val (.int (3 : Int32)), .val (.int (1 : Int32)), .val .null, .val (.ref b419), .val (.ref b454), .val (.ref x454), .val (.int (1 : Int32)), .unset] [.null]))
      refine own_F.of (fun _ => XS.astore S500.here S500.hx rfl (S500.dec at_251) rfl rfl (l' := #[.val (.int p0), .val (.int p1), .val (.int p2), .val (.int p3), .val (.int p4), .val (.int p5), .val (.int (3 : Int32)), .val (.int (1 : Int32)), .val .null, .val (.ref b419), .val (.ref b454), .val (.ref x454), .val (.int (1 : Int32)), .val .null]) rfl) ?_
      show own_F p e below s Z _ _ _ _ _ (T500.setTop (mkF m 253 #[.val (.int p0), .val (.int p1), .val (.int p2), .val (.int p3), .val (.int p4), .val (.int p5), .val (.int (3 : Int32)), .val (.int (1 : Int32)), .val .null, .val (.ref b419), .val (.ref b454), .val (.ref x454), .val (.int (1 : Int32)), .val .null] []))
      refine own_F.of (fun _ => XS.iload S500.here S500.hx rfl (S500.dec at_253) rfl) ?_
      show own_F p e below s Z _ _ _ _ _ (T500.setTop (mkF m 255 #[.val (.int p0), .val (.int p1), .val (.int p2), .val (.int p3), .val (.int p4), .val (.int p5), .val (.int (3 : Int32)), .val (.int (1 : Int32)), .val .null, .val (.ref b419), .val (.ref b454), .val (.ref x454), .val (.int (1 : Int32)), .val .null] [(.int (1 : Int32))]))
      refine own_if S500 272 at_255 (by decide) (by decide) (fun (hc255_501 : (1 : Int32) = (0 : Int32)) => False.elim (absurd hc255_501 (by decide))) (fun (hc255_501 : ¬ ((1 : Int32) = (0 : Int32))) => ?_)
      show own_F p e below s Z _ _ _ _ _ (T500.setTop (mkF m 258 #[.val (.int p0), .val (.int p1), .val (.int p2), .val (.int p3), .val (.int p4), .val (.int p5), .val (.int (3 : Int32)), .val (.int (1 : Int32)), .val .null, .val (.ref b419), .val (.ref b454), .val (.ref x454), .val (.int (1 : Int32)), .val .null] []))
      refine own_F.of (fun _ => XS.aload S500.here S500.hx rfl (S500.dec at_258) rfl rfl) ?_
      refine own_F.of (fun _ => XS.aload S500.here S500.hx rfl (S500.dec at_260) rfl rfl) ?_
      show own_F p e below s Z _ _ _ _ _ (T500.setTop (mkF m 262 #[.val (.int p0), .val (.int p1), .val (.int p2), .val (.int p3), .val (.int p4), .val (.int p5), .val (.int (3 : Int32)), .val (.int (1 : Int32)), .val .null, .val (.ref b419), .val (.ref b454), .val (.ref x454), .val (.int (1 : Int32)), .val .null] [.null, .null]))
      refine own_acmp S500 rfl rfl 269 at_262 (by decide) (by decide) (fun (hc262_502 : ¬ (Value.null = Value.null)) => False.elim (hc262_502 rfl)) (fun (hc262_502 : Value.null = Value.null) => ?_)
      show own_F p e below s Z _ _ _ _ _ (T500.setTop (mkF m 265 #[.val (.int p0), .val (.int p1), .val (.int p2), .val (.int p3), .val (.int p4), .val (.int p5), .val (.int (3 : Int32)), .val (.int (1 : Int32)), .val .null, .val (.ref b419), .val (.ref b454), .val (.ref x454), .val (.int (1 : Int32)), .val .null] []))
      refine own_F.of (fun _ => XS.iconst S500.here S500.hx rfl (S500.dec at_265)) ?_
      show own_F p e below s Z _ _ _ _ _ (T500.setTop (mkF m 266 #[.val (.int p0), .val (.int p1), .val (.int p2), .val (.int p3), .val (.int p4), .val (.int p5), .val (.int (3 : Int32)), .val (.int (1 : Int32)), .val .null, .val (.ref b419), .val (.ref b454), .val (.ref x454), .val (.int (1 : Int32)), .val .null] [(.int (1 : Int32))]))
      refine own_F.of (fun _ => XS.goto S500.here S500.hx rfl (pc0 := 266) (pc' := 270) rfl (S500.dec at_266) (by decide) (by decide)) ?_
      show own_F p e below s Z _ _ _ _ _ (T500.setTop (mkF m 270 #[.val (.int p0), .val (.int p1), .val (.int p2), .val (.int p3), .val (.int p4), .val (.int p5), .val (.int (3 : Int32)), .val (.int (1 : Int32)), .val .null, .val (.ref b419), .val (.ref b454), .val (.ref x454), .val (.int (1 : Int32)), .val .null] [(.int (1 : Int32))]))
      refine own_F.of (fun _ => XS.istore S500.here S500.hx rfl (S500.dec at_270) rfl (l' := #[.val (.int p0), .val (.int p1), .val (.int p2), .val (.int p3), .val (.int p4), .val (.int p5), .val (.int (3 : Int32)), .val (.int (1 : Int32)), .val .null, .val (.ref b419), .val (.ref b454), .val (.ref x454), .val (.int (1 : Int32)), .val .null]) rfl) ?_
      show own_F p e below s Z _ _ _ _ _ (T500.setTop (mkF m 272 #[.val (.int p0), .val (.int p1), .val (.int p2), .val (.int p3), .val (.int p4), .val (.int p5), .val (.int (3 : Int32)), .val (.int (1 : Int32)), .val .null, .val (.ref b419), .val (.ref b454), .val (.ref x454), .val (.int (1 : Int32)), .val .null] []))
      refine own_F.of (fun _ => XS.iload S500.here S500.hx rfl (S500.dec at_272) rfl) ?_
      show own_F p e below s Z _ _ _ _ _ (T500.setTop (mkF m 274 #[.val (.int p0), .val (.int p1), .val (.int p2), .val (.int p3), .val (.int p4), .val (.int p5), .val (.int (3 : Int32)), .val (.int (1 : Int32)), .val .null, .val (.ref b419), .val (.ref b454), .val (.ref x454), .val (.int (1 : Int32)), .val .null] [(.int (1 : Int32))]))
      refine own_if S500 304 at_274 (by decide) (by decide) (fun (hc274_503 : (1 : Int32) = (0 : Int32)) => False.elim (absurd hc274_503 (by decide))) (fun (hc274_503 : ¬ ((1 : Int32) = (0 : Int32))) => ?_)
      show own_F p e below s Z _ _ _ _ _ (T500.setTop (mkF m 277 #[.val (.int p0), .val (.int p1), .val (.int p2), .val (.int p3), .val (.int p4), .val (.int p5), .val (.int (3 : Int32)), .val (.int (1 : Int32)), .val .null, .val (.ref b419), .val (.ref b454), .val (.ref x454), .val (.int (1 : Int32)), .val .null] []))
      refine own_F.of (fun _ => XS.iload S500.here S500.hx rfl (S500.dec at_277) rfl) ?_
      show own_F p e below s Z _ _ _ _ _ (T500.setTop (mkF m 279 #[.val (.int p0), .val (.int p1), .val (.int p2), .val (.int p3), .val (.int p4), .val (.int p5), .val (.int (3 : Int32)), .val (.int (1 : Int32)), .val .null, .val (.ref b419), .val (.ref b454), .val (.ref x454), .val (.int (1 : Int32)), .val .null] [(.int (1 : Int32))]))
      refine own_if S500 304 at_279 (by decide) (by decide) (fun (hc279_504 : ¬ ((1 : Int32) = (0 : Int32))) => ?_) (fun (hc279_504 : (1 : Int32) = (0 : Int32)) => False.elim (absurd hc279_504 (by decide)))
      show own_F p e below s Z _ _ _ _ _ (T500.setTop (mkF m 304 #[.val (.int p0), .val (.int p1), .val (.int p2), .val (.int p3), .val (.int p4), .val (.int p5), .val (.int (3 : Int32)), .val (.int (1 : Int32)), .val .null, .val (.ref b419), .val (.ref b454), .val (.ref x454), .val (.int (1 : Int32)), .val .null] []))
      refine own_F.of (fun _ => XS.iload S500.here S500.hx rfl (S500.dec at_304) rfl) ?_
      show own_F p e below s Z _ _ _ _ _ (T500.setTop (mkF m 306 #[.val (.int p0), .val (.int p1), .val (.int p2), .val (.int p3), .val (.int p4), .val (.int p5), .val (.int (3 : Int32)), .val (.int (1 : Int32)), .val .null, .val (.ref b419), .val (.ref b454), .val (.ref x454), .val (.int (1 : Int32)), .val .null] [(.int (1 : Int32))]))
      refine own_retZ S500 (by simp) at_306 (by decide) (by decide) ?_
      rfl
set_option maxRecDepth 65536 in
set_option maxHeartbeats 40000000 in
theorem comes_1 {Post : Tables → Env → Array Value → State → Outcome → State → Prop} (hpost : ∀ tb e args s v u, (limb_1_1.after args s (.returned v) u = true ∧ limb_1_2.after args s (.returned v) u = true ∧ True) → FrameEnd s (.returned v) u (Jvm.fieldLocs frame_1_writes args s ++ Jvm.arrayLocs frame_1_arrays args s ++ Jvm.staticLocs frame_1_statics s) 32 128 → Post tb e args s (.returned v) u) :
    ArmFor flags0 classFile x code maxLocals ret World_1 tables_1 room_1 Calls_1 rest_1 Pre_1 Post := by
  intro l hfl _ _ p e ha hc hk s m args below hf hA hF happ hP
  obtain ⟨hcalls, hrest, hpre⟩ := hP
  obtain ⟨-, -, -, hnamed, -, -, -, hat⟩ := (Spec.applies_iff hf).mp happ
  obtain ⟨hg, hn⟩ := and_e (Cond.before_iff.mp (show (Jvm.Cond.and given_1 narrow_1).before args s = true from hpre))
  obtain ⟨g1, g2⟩ := and_e hg
  obtain ⟨g3, g4⟩ := and_e g2
  obtain ⟨g5, g6⟩ := and_e g4
  obtain ⟨g7, g8⟩ := and_e g6
  obtain ⟨g9, g10⟩ := and_e g8
  obtain ⟨g11, g12⟩ := and_e g10
  obtain ⟨w0, w1, w2, w3, w4, w5, rfl⟩ : ∃ w0 w1 w2 w3 w4 w5 : Value, args = #[w0, w1, w2, w3, w4, w5] := by
    have hs : args.size = 6 := by simpa [Cond.value, given_1] using g1
    obtain ⟨L⟩ := args
    match L, hs with
    | [w0, w1, w2, w3, w4, w5], _ => exact ⟨w0, w1, w2, w3, w4, w5, rfl⟩
  have hw := fun d (hd : d ∈ tables_1) => atoms_spec (ws := Jvm.Cond.code x code maxLocals ret :: tables_1) hat d (List.mem_cons_of_mem _ hd)
  have hfit : Fit s := fun {y c} hc i hi => by
    obtain ⟨ha, rfl⟩ := Array.getElem?_eq_some_iff.mp hc
    have q := List.all_eq_true.mp ((Array.all_eq_true_iff_forall_mem.mp hF) _ (Array.getElem_mem ha)) i (List.mem_range.mpr hi)
    simpa [Array.getElem?_eq_getElem hi] using q
  obtain ⟨hsets, hown0⟩ := atoms_of _ (rest_1_c_eq ▸ (show rest_1_c.before _ s = true from hrest))
  have hr0 := Cond.before_iff.mp hown0
  obtain ⟨i0, ei0⟩ := is_v g3
  obtain rfl : w0 = (.int i0) := Option.some.inj ei0
  obtain ⟨i1, ei1⟩ := is_v g5
  obtain rfl : w1 = (.int i1) := Option.some.inj ei1
  obtain ⟨i2, ei2⟩ := is_v g7
  obtain rfl : w2 = (.int i2) := Option.some.inj ei2
  obtain ⟨i3, ei3⟩ := is_v g9
  obtain rfl : w3 = (.int i3) := Option.some.inj ei3
  obtain ⟨i4, ei4⟩ := is_v g11
  obtain rfl : w4 = (.int i4) := Option.some.inj ei4
  obtain ⟨i5, ei5⟩ := is_v g12
  obtain rfl : w5 = (.int i5) := Option.some.inj ei5
  have SHi := own_staI (Cond.before_iff.mp (hsets _ (List.mem_of_getElem? (i := 3) rfl))) (Or.inl (hsets _ (List.mem_of_getElem? (i := 1) rfl)))
  have yAI := Cond.before_iff.mp (hsets _ (List.mem_of_getElem? (i := 4) rfl))
  have yLI := Cond.before_iff.mp (hsets _ (List.mem_of_getElem? (i := 6) rfl))
  have yEI := Cond.before_iff.mp (hsets _ (List.mem_of_getElem? (i := 7) rfl))
  obtain ⟨aCI, evCI⟩ := arr_v yAI
  have SCaI := Sta.start evCI (Or.inr ⟨(own_w hw 5 rfl), (hsets _ (List.mem_of_getElem? (i := 2) rfl))⟩)
  obtain ⟨clCI, ArCI, lC1I, lC2I, -⟩ := own_A.start evCI yAI yLI
  have BXI : Bxs s aCI clCI "java/lang/Integer" "I" 256 (fun j => .int (j - 128)) := Bxs.start (fun _ => evCI) ArCI lC1I lC2I (by decide) yEI (fun X j hj hq => eqv_i (own_sub_at (i := 0) hj) hq)
  have yD := (Cond.before_iff.mp (hsets _ (List.mem_of_getElem? (i := 14) rfl)))
  obtain ⟨aD, evD⟩ := arr_v yD
  have SD := Sta.start evD (Or.inr ⟨(own_w hw 9 rfl), (hsets _ (List.mem_of_getElem? (i := 10) rfl))⟩)
  have AD := own_A0 evD yD (Cond.before_iff.mp (hsets _ (List.mem_of_getElem? (i := 16) rfl)))
  have yL := (Cond.before_iff.mp (hsets _ (List.mem_of_getElem? (i := 19) rfl)))
  obtain ⟨aL, evL⟩ := exa_v yL
  have SL := Sta.start evL (Or.inl (hsets _ (List.mem_of_getElem? (i := 18) rfl)))
  have XL := Exa.start evL yL
  have yM := (Cond.before_iff.mp (hsets _ (List.mem_of_getElem? (i := 26) rfl)))
  obtain ⟨aM, evM⟩ := exa_v yM
  have SM := Sta.start evM (Or.inl (hsets _ (List.mem_of_getElem? (i := 25) rfl)))
  have XM := Exa.start evM yM
  have yE := (Cond.before_iff.mp (hsets _ (List.mem_of_getElem? (i := 20) rfl)))
  obtain ⟨aLe, evE⟩ := arr_v yE
  have FL := own_fldR evL evE
  have AL0 := own_A0 evE yE (Cond.before_iff.mp (hsets _ (List.mem_of_getElem? (i := 22) rfl)))
  have FLn := own_fldI evL (Cond.before_iff.mp (hsets _ (List.mem_of_getElem? (i := 23) rfl)))
  obtain ⟨cO, kO, mO, q1, q2, q3, q4⟩ := hcalls.1
  have MO : Mir s "[Ljava/lang/Object;" mO := ⟨cO, kO, q1, q2, q3, q4⟩
  obtain ⟨n, o, h1, h2, h3, _, L, rfl, ⟨N, K, rfl⟩, hq⟩ := own_law l s _ hw i0 i1 i2 i3 i4 i5 aCI clCI aD aL aLe aM mO s.heap (own_extRefl _) SHi SCaI BXI SD AD SL SM MO XL FL AL0 FLn XM p e ha hc hk s m _ below hf ((Spec.applies_iff_loose hf).mp happ).1 ⟨rfl, State.Warmed39.refl s, rfl⟩ trivial
  refine ⟨n, _, h1, h2, h3, hpost _ _ _ _ _ _ ⟨Cond.after_iff.mpr rfl, Cond.after_iff.mpr (eq_i res_at (Term.int_eval (1)) rfl), trivial⟩ ⟨hq.1, hq.2.1, (hq.2.2.sift fun y hy => Or.inr (N y hy)).mono (by decide) (by decide)⟩⟩
theorem main_1_1 : Claimed_1_1 := comes_1 fun _ _ _ _ _ _ h hF => ⟨h.1, hF⟩
theorem main_1_2 : Claimed_1_2 := comes_1 fun _ _ _ _ _ _ h hF => ⟨h.2.1, hF⟩
end Jvm.Pilot.@@N@@
namespace Jvm.Pilot.@@N@@
open Jvm Jvm.ClassFile Sem Op Lib Jvm.Free Jvm.Stand Jvm.Pilot.@@N@@.Jvm.D
/-! MADE BY PROGRAM (witnessworld.py) out of the Statement's table words and the real class files: 36 classes; the members and pool entries that the words name. The judged class is class 1, her method 1. -/
namespace start1
open Jvm.ClassFile
def u (s : String) : CpInfo := .utf8 (stringToUtf16 s)
/-- a pool by its gaps: so many unusable entries, then the entry; so many at the end -/
def gap : Nat → List CpInfo → List CpInfo
  | 0, r => r
  | n + 1, r => .unusable :: gap n r
def poolList (es : List (Nat × CpInfo)) (last : Nat) : List CpInfo := es.foldr (fun e r => gap e.1 (e.2 :: r)) (gap last [])
def pool (es : List (Nat × CpInfo)) (last : Nat) : Array CpInfo := ⟨poolList es last⟩
def fileOf (pool : Array CpInfo) (this : Nat) (attrs : Array Attribute := #[]) (ms : Array MethodInfo := #[]) (fl : Nat := 33) (sup : Nat := 0) (ifs : Array Nat := #[]) (fds : Array FieldInfo := #[]) : ClassFile where
  minorVersion := 0
  majorVersion := 65
  constantPool := pool
  accessFlags := fl
  thisClass := this
  superClass := sup
  interfaces := ifs
  fields := fds
  methods := ms
  attributes := attrs
def plain (name : String) (sup : Option ClassId) : Class where
  name := name
  kind := .ordinary
  loader := none
  accessFlags := 33
  super := sup
  interfaces := #[]
  cf := none
  fields := #[]
  methods := #[]
  instanceTypes := #[]
  staticTypes := #[]
  resolved := #[]
  callSites := []
  init := .initialized
  statics := none
  mirror := none

def pool0 : Array CpInfo := pool [(5, u "<init>"), (0, u "()V"), (1, .class_ 10), (1, u "java/lang/Object"), (0, u "getClass"), (0, u "()Ljava/lang/Class;")] 111

def k0c0 : Code := { maxStack := 0, maxLocals := 1, code := object_method_1_code, exceptionTable := #[], attributes := #[] }
def k0m0 : Method := { name := "<init>", desc := "()V", sig := { parameters := [], returnType := none }, accessFlags := 1, code := some k0c0 }
def k0m1 : Method := { name := "getClass", desc := "()Ljava/lang/Class;", sig := { parameters := [], returnType := some (.object "java/lang/Class") }, accessFlags := 273, code := none }
/-- java/lang/Object -/
def k0 : Class := { plain "java/lang/Object" none with
  accessFlags := 33
  interfaces := #[]
  cf := some (fileOf pool0 8 #[] #[{ accessFlags := 1, nameIndex := 5, descriptorIndex := 6, attributes := #[] }, { accessFlags := 273, nameIndex := 11, descriptorIndex := 12, attributes := #[] }] 33 0 #[] #[])
  fields := #[]
  methods := #[k0m0, k0m1]
  instanceTypes := #[]
  staticTypes := #[]
  resolved := Array.replicate 124 none
  statics := none }

def pool1 : Array CpInfo := pool [(2, .class_ 4), (0, .nameAndType 5 6), (0, u "java/lang/Object"), (0, u "<init>"), (0, u "()V"), (0, .methodref 8 9), (0, .class_ 10), (0, .nameAndType 11 12), (0, u "java/lang/Integer"), (0, u "valueOf"), (0, u "(I)Ljava/lang/Integer;"), (0, .class_ 14), (0, u "java/util/ArrayList"), (0, .methodref 13 3), (0, .methodref 13 17), (0, .nameAndType 18 19), (0, u "add"), (0, u "(Ljava/lang/Object;)Z"), (0, .methodref 21 22), (0, .class_ 23), (0, .nameAndType 24 25), (0, u "com/example/tidemark/tidemark/Page"), (0, u "of"), (0, u "(Ljava/util/List;Ljava/lang/Object;)Lcom/example/tidemark/tidemark/Page;"), (0, .methodref 21 27), (0, .nameAndType 28 29), (0, u "items"), (0, u "()Ljava/util/List;"), (0, .interfaceMethodref 31 32), (0, .class_ 33), (0, .nameAndType 34 35), (0, u "java/util/List"), (0, u "size"), (0, u "()I"), (0, .interfaceMethodref 31 37), (0, .nameAndType 38 39), (0, u "get"), (0, u "(I)Ljava/lang/Object;"), (0, .methodref 8 41), (0, .nameAndType 42 35), (0, u "intValue"), (0, .methodref 21 44), (0, .nameAndType 45 46), (0, u "nextKey"), (0, u "()Ljava/lang/Object;"), (0, .class_ 48), (0, u "com/example/tidemark/tidemark/PageOfPinLaw"), (2, u "law"), (0, u "(IIIIII)Z")] 3

def k1m0 : Method := { name := "<init>", desc := "()V", sig := { parameters := [], returnType := none }, accessFlags := 1, code := none }
def k1c1 : Code := { maxStack := 2, maxLocals := 14, code := code, exceptionTable := #[], attributes := #[] }
def k1m1 : Method := { name := "law", desc := "(IIIIII)Z", sig := { parameters := [.int, .int, .int, .int, .int, .int], returnType := some .boolean }, accessFlags := 9, code := some k1c1 }
/-- com/example/tidemark/tidemark/PageOfPinLaw -/
def k1 : Class := { plain "com/example/tidemark/tidemark/PageOfPinLaw" (some 0) with
  accessFlags := 49
  interfaces := #[]
  cf := some (fileOf pool1 47 #[] #[{ accessFlags := 1, nameIndex := 5, descriptorIndex := 6, attributes := #[] }, { accessFlags := 9, nameIndex := 51, descriptorIndex := 52, attributes := #[] }] 49 2 #[] #[])
  fields := #[]
  methods := #[k1m0, k1m1]
  instanceTypes := #[]
  staticTypes := #[]
  resolved := Array.replicate 56 none
  statics := none }

def pool2 : Array CpInfo := pool [(1, .class_ 2), (0, u "java/io/Serializable"), (0, .class_ 4), (0, u "java/lang/Object")] 2

/-- java/io/Serializable -/
def k2 : Class := { plain "java/io/Serializable" (some 0) with
  accessFlags := 1537
  interfaces := #[]
  cf := some (fileOf pool2 1 #[] #[] 1537 3 #[] #[])
  fields := #[]
  methods := #[]
  instanceTypes := #[]
  staticTypes := #[]
  resolved := Array.replicate 7 none
  statics := none }

def pool3 : Array CpInfo := pool [(1, .methodref 2 3), (0, .class_ 4), (0, .nameAndType 5 6), (0, u "java/lang/Object"), (0, u "<init>"), (0, u "()V"), (1, .class_ 10), (1, u "java/lang/Number"), (2, .class_ 14), (0, u "java/io/Serializable"), (0, u "serialVersionUID"), (0, u "J")] 20

def k3c0 : Code := { maxStack := 1, maxLocals := 1, code := jdk_18_method_1_code, exceptionTable := #[], attributes := #[] }
def k3m0 : Method := { name := "<init>", desc := "()V", sig := { parameters := [], returnType := none }, accessFlags := 1, code := some k3c0 }
/-- java/lang/Number -/
def k3 : Class := { plain "java/lang/Number" (some 0) with
  accessFlags := 1057
  interfaces := #[2]
  cf := some (fileOf pool3 8 #[] #[{ accessFlags := 1, nameIndex := 5, descriptorIndex := 6, attributes := #[] }] 1057 2 #[13] #[{ accessFlags := 26, nameIndex := 15, descriptorIndex := 16, attributes := #[] }])
  fields := #[{ name := "serialVersionUID", type := .long, accessFlags := 26, slot := 0, constantValue := 0 }]
  methods := #[k3m0]
  instanceTypes := #[]
  staticTypes := #[.long]
  resolved := Array.replicate 37 none
  statics := none }

def pool4 : Array CpInfo := pool [(1, .class_ 2), (0, u "java/lang/Comparable"), (0, .class_ 4), (0, u "java/lang/Object")] 7

/-- java/lang/Comparable -/
def k4 : Class := { plain "java/lang/Comparable" (some 0) with
  accessFlags := 1537
  interfaces := #[]
  cf := some (fileOf pool4 1 #[] #[] 1537 3 #[] #[])
  fields := #[]
  methods := #[]
  instanceTypes := #[]
  staticTypes := #[]
  resolved := Array.replicate 12 none
  statics := none }

def pool5 : Array CpInfo := pool [(1, .class_ 2), (0, u "java/lang/constant/Constable"), (0, .class_ 4), (0, u "java/lang/Object")] 6

/-- java/lang/constant/Constable -/
def k5 : Class := { plain "java/lang/constant/Constable" (some 0) with
  accessFlags := 1537
  interfaces := #[]
  cf := some (fileOf pool5 1 #[] #[] 1537 3 #[] #[])
  fields := #[]
  methods := #[]
  instanceTypes := #[]
  staticTypes := #[]
  resolved := Array.replicate 11 none
  statics := none }

def pool6 : Array CpInfo := pool [(1, .class_ 2), (0, u "java/lang/constant/ConstantDesc"), (0, .class_ 4), (0, u "java/lang/Object")] 32

/-- java/lang/constant/ConstantDesc -/
def k6 : Class := { plain "java/lang/constant/ConstantDesc" (some 0) with
  accessFlags := 1537
  interfaces := #[]
  cf := some (fileOf pool6 1 #[] #[] 1537 3 #[] #[])
  fields := #[]
  methods := #[]
  instanceTypes := #[]
  staticTypes := #[]
  resolved := Array.replicate 37 none
  statics := none }

def pool7 : Array CpInfo := pool [(1, .class_ 2), (0, u "java/lang/Integer"), (16, u "digits"), (0, u "[C"), (46, u "<init>"), (17, u "DigitOnes"), (0, u "[B"), (2, u "DigitTens"), (10, .nameAndType 67 101), (0, u "()V"), (19, u "()I"), (65, u "valueOf"), (0, u "(I)Ljava/lang/Integer;"), (0, .class_ 190), (0, u "java/lang/Integer$IntegerCache"), (0, .fieldref 189 192), (0, .nameAndType 193 194), (0, u "high"), (0, u "I"), (0, .fieldref 189 196), (0, .nameAndType 197 198), (0, u "cache"), (0, u "[Ljava/lang/Integer;"), (0, .methodref 1 200), (0, .nameAndType 67 201), (0, u "(I)V"), (0, .methodref 203 100), (0, .class_ 204), (0, u "java/lang/Number"), (0, .fieldref 1 206), (0, .nameAndType 207 194), (0, u "value"), (5, u "intValue"), (88, u "TYPE"), (0, u "Ljava/lang/Class;"), (0, .class_ 305), (0, u "java/lang/Comparable"), (0, .class_ 307), (0, u "java/lang/constant/Constable"), (0, .class_ 309), (0, u "java/lang/constant/ConstantDesc"), (0, u "MIN_VALUE"), (1, u "MAX_VALUE"), (3, u "SIZE"), (1, u "BYTES"), (1, u "serialVersionUID"), (0, u "J")] 131

def k7c0 : Code := { maxStack := 3, maxLocals := 1, code := jdk_33_method_22_code, exceptionTable := #[], attributes := #[] }
def k7m0 : Method := { name := "valueOf", desc := "(I)Ljava/lang/Integer;", sig := { parameters := [.int], returnType := some (.object "java/lang/Integer") }, accessFlags := 9, code := some k7c0 }
def k7c1 : Code := { maxStack := 2, maxLocals := 2, code := jdk_33_method_23_code, exceptionTable := #[], attributes := #[] }
def k7m1 : Method := { name := "<init>", desc := "(I)V", sig := { parameters := [.int], returnType := none }, accessFlags := 1, code := some k7c1 }
def k7c2 : Code := { maxStack := 1, maxLocals := 1, code := jdk_33_method_27_code, exceptionTable := #[], attributes := #[] }
def k7m2 : Method := { name := "intValue", desc := "()I", sig := { parameters := [], returnType := some .int }, accessFlags := 1, code := some k7c2 }
/-- java/lang/Integer -/
def k7 : Class := { plain "java/lang/Integer" (some 3) with
  accessFlags := 49
  interfaces := #[4, 5, 6]
  cf := some (fileOf pool7 1 #[.nestMembers #[189]] #[{ accessFlags := 9, nameIndex := 187, descriptorIndex := 188, attributes := #[] }, { accessFlags := 1, nameIndex := 67, descriptorIndex := 201, attributes := #[] }, { accessFlags := 1, nameIndex := 213, descriptorIndex := 121, attributes := #[] }] 49 203 #[304, 306, 308] #[{ accessFlags := 25, nameIndex := 310, descriptorIndex := 194, attributes := #[] }, { accessFlags := 25, nameIndex := 312, descriptorIndex := 194, attributes := #[] }, { accessFlags := 25, nameIndex := 302, descriptorIndex := 303, attributes := #[] }, { accessFlags := 24, nameIndex := 19, descriptorIndex := 20, attributes := #[] }, { accessFlags := 24, nameIndex := 89, descriptorIndex := 86, attributes := #[] }, { accessFlags := 24, nameIndex := 85, descriptorIndex := 86, attributes := #[] }, { accessFlags := 18, nameIndex := 207, descriptorIndex := 194, attributes := #[] }, { accessFlags := 25, nameIndex := 316, descriptorIndex := 194, attributes := #[] }, { accessFlags := 25, nameIndex := 318, descriptorIndex := 194, attributes := #[] }, { accessFlags := 26, nameIndex := 320, descriptorIndex := 321, attributes := #[] }])
  fields := #[{ name := "MIN_VALUE", type := .int, accessFlags := 25, slot := 0, constantValue := 0 }, { name := "MAX_VALUE", type := .int, accessFlags := 25, slot := 1, constantValue := 0 }, { name := "TYPE", type := (.object "java/lang/Class"), accessFlags := 25, slot := 2, constantValue := 0 }, { name := "digits", type := (.array .char), accessFlags := 24, slot := 3, constantValue := 0 }, { name := "DigitTens", type := (.array .byte), accessFlags := 24, slot := 4, constantValue := 0 }, { name := "DigitOnes", type := (.array .byte), accessFlags := 24, slot := 5, constantValue := 0 }, { name := "value", type := .int, accessFlags := 18, slot := 0, constantValue := 0 }, { name := "SIZE", type := .int, accessFlags := 25, slot := 6, constantValue := 0 }, { name := "BYTES", type := .int, accessFlags := 25, slot := 7, constantValue := 0 }, { name := "serialVersionUID", type := .long, accessFlags := 26, slot := 8, constantValue := 0 }]
  methods := #[k7m0, k7m1, k7m2]
  instanceTypes := #[.int]
  staticTypes := #[.int, .int, (.object "java/lang/Class"), (.array .char), (.array .byte), (.array .byte), .int, .int, .long]
  resolved := Array.replicate 453 none
  statics := none }

def pool8 : Array CpInfo := pool [(2, .class_ 4), (1, u "java/lang/Object"), (0, u "<init>"), (0, u "()V"), (0, .class_ 8), (0, u "java/lang/Integer"), (7, .class_ 18), (1, u "java/lang/Integer$IntegerCache"), (0, u "$assertionsDisabled"), (0, u "Z"), (26, u "high"), (0, u "I"), (8, u "archivedCache"), (0, u "[Ljava/lang/Integer;"), (12, u "cache"), (0, u "low")] 27

def k8m0 : Method := { name := "<init>", desc := "()V", sig := { parameters := [], returnType := none }, accessFlags := 2, code := none }
/-- java/lang/Integer$IntegerCache -/
def k8 : Class := { plain "java/lang/Integer$IntegerCache" (some 0) with
  accessFlags := 48
  interfaces := #[]
  cf := some (fileOf pool8 16 #[.nestHost 7] #[{ accessFlags := 2, nameIndex := 5, descriptorIndex := 6, attributes := #[] }] 48 2 #[] #[{ accessFlags := 24, nameIndex := 72, descriptorIndex := 48, attributes := #[] }, { accessFlags := 24, nameIndex := 47, descriptorIndex := 48, attributes := #[] }, { accessFlags := 24, nameIndex := 71, descriptorIndex := 58, attributes := #[] }, { accessFlags := 8, nameIndex := 57, descriptorIndex := 58, attributes := #[] }, { accessFlags := 4120, nameIndex := 19, descriptorIndex := 20, attributes := #[] }])
  fields := #[{ name := "low", type := .int, accessFlags := 24, slot := 0, constantValue := 0 }, { name := "high", type := .int, accessFlags := 24, slot := 1, constantValue := 0 }, { name := "cache", type := (.array (.object "java/lang/Integer")), accessFlags := 24, slot := 2, constantValue := 0 }, { name := "archivedCache", type := (.array (.object "java/lang/Integer")), accessFlags := 8, slot := 3, constantValue := 0 }, { name := "$assertionsDisabled", type := .boolean, accessFlags := 4120, slot := 4, constantValue := 0 }]
  methods := #[k8m0]
  instanceTypes := #[]
  staticTypes := #[.int, .int, (.array (.object "java/lang/Integer")), (.array (.object "java/lang/Integer")), .boolean]
  resolved := Array.replicate 100 none
  statics := some 0 }

def pool9 : Array CpInfo := pool [(8, .class_ 10), (1, u "java/lang/Iterable"), (24, .class_ 36), (0, u "java/lang/Object")] 25

/-- java/lang/Iterable -/
def k9 : Class := { plain "java/lang/Iterable" (some 0) with
  accessFlags := 1537
  interfaces := #[]
  cf := some (fileOf pool9 8 #[] #[] 1537 35 #[] #[])
  fields := #[]
  methods := #[]
  instanceTypes := #[]
  staticTypes := #[]
  resolved := Array.replicate 62 none
  statics := none }

def pool10 : Array CpInfo := pool [(10, .class_ 12), (1, u "java/util/Collection"), (0, u "toArray"), (16, u "()Z"), (29, .class_ 61), (0, u "java/lang/Object"), (0, .class_ 63), (0, u "java/lang/Iterable"), (2, u "isEmpty"), (3, u "()[Ljava/lang/Object;")] 44

def k10m0 : Method := { name := "isEmpty", desc := "()Z", sig := { parameters := [], returnType := some .boolean }, accessFlags := 1025, code := none }
def k10m1 : Method := { name := "toArray", desc := "()[Ljava/lang/Object;", sig := { parameters := [], returnType := some (.array (.object "java/lang/Object")) }, accessFlags := 1025, code := none }
/-- java/util/Collection -/
def k10 : Class := { plain "java/util/Collection" (some 0) with
  accessFlags := 1537
  interfaces := #[9]
  cf := some (fileOf pool10 10 #[] #[{ accessFlags := 1025, nameIndex := 66, descriptorIndex := 30, attributes := #[] }, { accessFlags := 1025, nameIndex := 13, descriptorIndex := 70, attributes := #[] }] 1537 60 #[62] #[])
  fields := #[]
  methods := #[k10m0, k10m1]
  instanceTypes := #[]
  staticTypes := #[]
  resolved := Array.replicate 115 none
  statics := none }

def pool11 : Array CpInfo := pool [(1, .methodref 2 3), (0, .class_ 4), (0, .nameAndType 5 6), (0, u "java/lang/Object"), (0, u "<init>"), (0, u "()V"), (1, .class_ 10), (1, u "java/util/AbstractCollection"), (66, .class_ 78), (0, u "java/util/Collection")] 81

def k11c0 : Code := { maxStack := 1, maxLocals := 1, code := jdk_22_method_1_code, exceptionTable := #[], attributes := #[] }
def k11m0 : Method := { name := "<init>", desc := "()V", sig := { parameters := [], returnType := none }, accessFlags := 4, code := some k11c0 }
/-- java/util/AbstractCollection -/
def k11 : Class := { plain "java/util/AbstractCollection" (some 0) with
  accessFlags := 1057
  interfaces := #[10]
  cf := some (fileOf pool11 8 #[] #[{ accessFlags := 4, nameIndex := 5, descriptorIndex := 6, attributes := #[] }] 1057 2 #[77] #[])
  fields := #[]
  methods := #[k11m0]
  instanceTypes := #[]
  staticTypes := #[]
  resolved := Array.replicate 160 none
  statics := none }

def pool12 : Array CpInfo := pool [(8, .class_ 10), (1, u "java/util/SequencedCollection"), (15, .class_ 27), (0, u "java/lang/Object"), (0, .class_ 29), (0, u "java/util/Collection")] 27

/-- java/util/SequencedCollection -/
def k12 : Class := { plain "java/util/SequencedCollection" (some 0) with
  accessFlags := 1537
  interfaces := #[10]
  cf := some (fileOf pool12 8 #[] #[] 1537 26 #[28] #[])
  fields := #[]
  methods := #[]
  instanceTypes := #[]
  staticTypes := #[]
  resolved := Array.replicate 57 none
  statics := none }

def pool13 : Array CpInfo := pool [(8, .class_ 10), (1, u "java/util/List"), (20, u "(Ljava/lang/Object;)V"), (16, u "<init>"), (26, u "get"), (0, u "(I)Ljava/lang/Object;"), (2, u "size"), (0, u "()I"), (7, u "of"), (1, .fieldref 91 92), (0, .class_ 93), (0, .nameAndType 94 95), (0, u "java/util/ImmutableCollections"), (0, u "EMPTY_LIST"), (0, u "Ljava/util/ImmutableCollections$ListN;"), (0, .class_ 97), (0, u "java/util/ImmutableCollections$List12"), (0, .methodref 96 99), (0, .nameAndType 48 31), (0, .methodref 96 101), (0, .nameAndType 48 102), (0, u "(Ljava/lang/Object;Ljava/lang/Object;)V"), (0, .class_ 104), (0, u "java/lang/Object"), (3, u "([Ljava/lang/Object;)Ljava/util/List;"), (0, .methodref 91 110), (0, .nameAndType 111 108), (0, u "listFromArray"), (0, .methodref 91 113), (0, .nameAndType 114 115), (0, u "listCopy"), (0, u "(Ljava/util/Collection;)Ljava/util/List;"), (3, u "()Ljava/util/List;"), (0, .class_ 121), (0, u "java/util/SequencedCollection"), (112, u "copyOf")] 16

def k13m0 : Method := { name := "size", desc := "()I", sig := { parameters := [], returnType := some .int }, accessFlags := 1025, code := none }
def k13m1 : Method := { name := "get", desc := "(I)Ljava/lang/Object;", sig := { parameters := [.int], returnType := some (.object "java/lang/Object") }, accessFlags := 1025, code := none }
def k13c2 : Code := { maxStack := 1, maxLocals := 0, code := jdk_40_method_36_code, exceptionTable := #[], attributes := #[] }
def k13m2 : Method := { name := "of", desc := "()Ljava/util/List;", sig := { parameters := [], returnType := some (.object "java/util/List") }, accessFlags := 9, code := some k13c2 }
def k13c3 : Code := { maxStack := 5, maxLocals := 2, code := jdk_40_method_47_code, exceptionTable := #[], attributes := #[] }
def k13m3 : Method := { name := "of", desc := "([Ljava/lang/Object;)Ljava/util/List;", sig := { parameters := [(.array (.object "java/lang/Object"))], returnType := some (.object "java/util/List") }, accessFlags := 137, code := some k13c3 }
def k13c4 : Code := { maxStack := 1, maxLocals := 1, code := jdk_40_method_48_code, exceptionTable := #[], attributes := #[] }
def k13m4 : Method := { name := "copyOf", desc := "(Ljava/util/Collection;)Ljava/util/List;", sig := { parameters := [(.object "java/util/Collection")], returnType := some (.object "java/util/List") }, accessFlags := 9, code := some k13c4 }
/-- java/util/List -/
def k13 : Class := { plain "java/util/List" (some 0) with
  accessFlags := 1537
  interfaces := #[12]
  cf := some (fileOf pool13 8 #[] #[{ accessFlags := 1025, nameIndex := 79, descriptorIndex := 80, attributes := #[] }, { accessFlags := 1025, nameIndex := 75, descriptorIndex := 76, attributes := #[] }, { accessFlags := 9, nameIndex := 88, descriptorIndex := 119, attributes := #[] }, { accessFlags := 137, nameIndex := 88, descriptorIndex := 108, attributes := #[] }, { accessFlags := 9, nameIndex := 234, descriptorIndex := 115, attributes := #[] }] 1537 103 #[120] #[])
  fields := #[]
  methods := #[k13m0, k13m1, k13m2, k13m3, k13m4]
  instanceTypes := #[]
  staticTypes := #[]
  resolved := Array.replicate 251 none
  statics := none }

def pool14 : Array CpInfo := pool [(1, .methodref 2 3), (0, .class_ 4), (0, .nameAndType 5 6), (0, u "java/util/AbstractCollection"), (0, u "<init>"), (0, u "()V"), (0, .fieldref 8 9), (0, .class_ 10), (0, .nameAndType 11 12), (0, u "java/util/AbstractList"), (0, u "modCount"), (0, u "I"), (64, .class_ 78), (0, u "java/util/AbstractList$Itr"), (3, .class_ 83), (0, u "java/util/AbstractList$ListItr"), (9, .class_ 94), (0, u "java/util/AbstractList$RandomAccessSubList"), (3, .class_ 99), (0, u "java/util/AbstractList$SubList"), (33, .class_ 134), (0, u "java/util/List"), (73, .class_ 209), (0, u "java/util/AbstractList$SubList$1"), (0, .class_ 211), (0, u "java/util/AbstractList$RandomAccessSpliterator")] 6

def k14c0 : Code := { maxStack := 2, maxLocals := 1, code := jdk_39_method_1_code, exceptionTable := #[], attributes := #[] }
def k14m0 : Method := { name := "<init>", desc := "()V", sig := { parameters := [], returnType := none }, accessFlags := 4, code := some k14c0 }
/-- java/util/AbstractList -/
def k14 : Class := { plain "java/util/AbstractList" (some 11) with
  accessFlags := 1057
  interfaces := #[13]
  cf := some (fileOf pool14 8 #[.nestMembers #[93, 98, 208, 210, 82, 77]] #[{ accessFlags := 4, nameIndex := 5, descriptorIndex := 6, attributes := #[] }] 1057 2 #[133] #[{ accessFlags := 132, nameIndex := 11, descriptorIndex := 12, attributes := #[] }])
  fields := #[{ name := "modCount", type := .int, accessFlags := 132, slot := 0, constantValue := 0 }]
  methods := #[k14m0]
  instanceTypes := #[.int]
  staticTypes := #[]
  resolved := Array.replicate 218 none
  statics := none }

def pool15 : Array CpInfo := pool [(1, .class_ 2), (0, u "java/util/RandomAccess"), (0, .class_ 4), (0, u "java/lang/Object")] 2

/-- java/util/RandomAccess -/
def k15 : Class := { plain "java/util/RandomAccess" (some 0) with
  accessFlags := 1537
  interfaces := #[]
  cf := some (fileOf pool15 1 #[] #[] 1537 3 #[] #[])
  fields := #[]
  methods := #[]
  instanceTypes := #[]
  staticTypes := #[]
  resolved := Array.replicate 7 none
  statics := none }

def pool16 : Array CpInfo := pool [(1, .class_ 2), (0, u "java/lang/Cloneable"), (0, .class_ 4), (0, u "java/lang/Object")] 2

/-- java/lang/Cloneable -/
def k16 : Class := { plain "java/lang/Cloneable" (some 0) with
  accessFlags := 1537
  interfaces := #[]
  cf := some (fileOf pool16 1 #[] #[] 1537 3 #[] #[])
  fields := #[]
  methods := #[]
  instanceTypes := #[]
  staticTypes := #[]
  resolved := Array.replicate 7 none
  statics := none }

def pool17 : Array CpInfo := pool [(1, .methodref 2 3), (0, .class_ 4), (0, .nameAndType 5 6), (0, u "java/util/AbstractList"), (0, u "<init>"), (0, u "()V"), (0, .class_ 8), (0, u "java/lang/Object"), (0, .fieldref 10 11), (0, .class_ 12), (0, .nameAndType 13 14), (0, u "java/util/ArrayList"), (0, u "elementData"), (0, u "[Ljava/lang/Object;"), (2, u "EMPTY_ELEMENTDATA"), (21, .fieldref 10 40), (0, .nameAndType 41 14), (0, u "DEFAULTCAPACITY_EMPTY_ELEMENTDATA"), (4, u "toArray"), (0, u "()[Ljava/lang/Object;"), (0, .fieldref 10 49), (0, .nameAndType 50 51), (0, u "size"), (0, u "I"), (6, .class_ 60), (1, u "java/util/Arrays"), (0, u "copyOf"), (1, .fieldref 10 64), (0, .nameAndType 65 51), (0, u "modCount"), (0, .methodref 58 67), (0, .nameAndType 61 68), (0, u "([Ljava/lang/Object;I)[Ljava/lang/Object;"), (0, .methodref 10 70), (0, .nameAndType 71 72), (0, u "grow"), (0, u "(I)[Ljava/lang/Object;"), (6, .methodref 80 81), (0, .class_ 82), (0, .nameAndType 83 84), (0, u "java/lang/Math"), (0, u "max"), (0, u "(II)I"), (11, u "(Ljava/lang/Object;)Z"), (32, .methodref 10 130), (0, .nameAndType 71 47), (0, .methodref 10 132), (0, .nameAndType 133 134), (0, u "add"), (0, u "(Ljava/lang/Object;[Ljava/lang/Object;I)V"), (13, .class_ 149), (0, u "java/util/List"), (23, u "()Z"), (88, .class_ 263), (0, u "java/util/ArrayList$ListItr"), (3, .class_ 268), (0, u "java/util/ArrayList$Itr"), (7, .class_ 277), (0, u "java/util/ArrayList$SubList"), (12, .class_ 291), (0, u "java/util/ArrayList$ArrayListSpliterator"), (37, .class_ 330), (0, u "java/util/RandomAccess"), (0, .class_ 332), (0, u "java/lang/Cloneable"), (0, .class_ 334), (0, u "java/io/Serializable"), (0, u "serialVersionUID"), (0, u "J"), (3, u "DEFAULT_CAPACITY"), (22, u "isEmpty"), (136, .class_ 501), (0, u "java/util/ArrayList$SubList$2"), (0, .class_ 503), (0, u "java/util/ArrayList$SubList$1")] 5

def k17c0 : Code := { maxStack := 2, maxLocals := 1, code := jdk_38_method_2_code, exceptionTable := #[], attributes := #[] }
def k17m0 : Method := { name := "<init>", desc := "()V", sig := { parameters := [], returnType := none }, accessFlags := 1, code := some k17c0 }
def k17c1 : Code := { maxStack := 4, maxLocals := 4, code := jdk_38_method_6_code, exceptionTable := #[], attributes := #[] }
def k17m1 : Method := { name := "grow", desc := "(I)[Ljava/lang/Object;", sig := { parameters := [.int], returnType := some (.array (.object "java/lang/Object")) }, accessFlags := 2, code := some k17c1 }
def k17c2 : Code := { maxStack := 3, maxLocals := 1, code := jdk_38_method_7_code, exceptionTable := #[], attributes := #[] }
def k17m2 : Method := { name := "grow", desc := "()[Ljava/lang/Object;", sig := { parameters := [], returnType := some (.array (.object "java/lang/Object")) }, accessFlags := 2, code := some k17c2 }
def k17c3 : Code := { maxStack := 1, maxLocals := 1, code := jdk_38_method_9_code, exceptionTable := #[], attributes := #[] }
def k17m3 : Method := { name := "isEmpty", desc := "()Z", sig := { parameters := [], returnType := some .boolean }, accessFlags := 1, code := some k17c3 }
def k17c4 : Code := { maxStack := 2, maxLocals := 1, code := jdk_38_method_16_code, exceptionTable := #[], attributes := #[] }
def k17m4 : Method := { name := "toArray", desc := "()[Ljava/lang/Object;", sig := { parameters := [], returnType := some (.array (.object "java/lang/Object")) }, accessFlags := 1, code := some k17c4 }
def k17c5 : Code := { maxStack := 3, maxLocals := 4, code := jdk_38_method_24_code, exceptionTable := #[], attributes := #[] }
def k17m5 : Method := { name := "add", desc := "(Ljava/lang/Object;[Ljava/lang/Object;I)V", sig := { parameters := [(.object "java/lang/Object"), (.array (.object "java/lang/Object")), .int], returnType := none }, accessFlags := 2, code := some k17c5 }
def k17c6 : Code := { maxStack := 4, maxLocals := 2, code := jdk_38_method_25_code, exceptionTable := #[], attributes := #[] }
def k17m6 : Method := { name := "add", desc := "(Ljava/lang/Object;)Z", sig := { parameters := [(.object "java/lang/Object")], returnType := some .boolean }, accessFlags := 1, code := some k17c6 }
/-- java/util/ArrayList -/
def k17 : Class := { plain "java/util/ArrayList" (some 14) with
  accessFlags := 33
  interfaces := #[13, 15, 16, 2]
  cf := some (fileOf pool17 10 #[.nestMembers #[290, 276, 500, 502, 262, 267]] #[{ accessFlags := 1, nameIndex := 5, descriptorIndex := 6, attributes := #[] }, { accessFlags := 2, nameIndex := 71, descriptorIndex := 72, attributes := #[] }, { accessFlags := 2, nameIndex := 71, descriptorIndex := 47, attributes := #[] }, { accessFlags := 1, nameIndex := 363, descriptorIndex := 173, attributes := #[] }, { accessFlags := 1, nameIndex := 46, descriptorIndex := 47, attributes := #[] }, { accessFlags := 2, nameIndex := 133, descriptorIndex := 134, attributes := #[] }, { accessFlags := 1, nameIndex := 133, descriptorIndex := 96, attributes := #[] }] 33 2 #[148, 329, 331, 333] #[{ accessFlags := 26, nameIndex := 335, descriptorIndex := 336, attributes := #[] }, { accessFlags := 26, nameIndex := 340, descriptorIndex := 51, attributes := #[] }, { accessFlags := 26, nameIndex := 17, descriptorIndex := 14, attributes := #[] }, { accessFlags := 26, nameIndex := 41, descriptorIndex := 14, attributes := #[] }, { accessFlags := 128, nameIndex := 13, descriptorIndex := 14, attributes := #[] }, { accessFlags := 2, nameIndex := 50, descriptorIndex := 51, attributes := #[] }])
  fields := #[{ name := "serialVersionUID", type := .long, accessFlags := 26, slot := 0, constantValue := 0 }, { name := "DEFAULT_CAPACITY", type := .int, accessFlags := 26, slot := 1, constantValue := 0 }, { name := "EMPTY_ELEMENTDATA", type := (.array (.object "java/lang/Object")), accessFlags := 26, slot := 2, constantValue := 0 }, { name := "DEFAULTCAPACITY_EMPTY_ELEMENTDATA", type := (.array (.object "java/lang/Object")), accessFlags := 26, slot := 3, constantValue := 0 }, { name := "elementData", type := (.array (.object "java/lang/Object")), accessFlags := 128, slot := 1, constantValue := 0 }, { name := "size", type := .int, accessFlags := 2, slot := 2, constantValue := 0 }]
  methods := #[k17m0, k17m1, k17m2, k17m3, k17m4, k17m5, k17m6]
  instanceTypes := #[.int, (.array (.object "java/lang/Object")), .int]
  staticTypes := #[.long, .int, (.array (.object "java/lang/Object")), (.array (.object "java/lang/Object"))]
  resolved := Array.replicate 509 none
  statics := some 1 }

def pool18 : Array CpInfo := pool [(1, .methodref 2 3), (0, .class_ 4), (0, .nameAndType 5 6), (0, u "java/lang/Object"), (0, u "<init>"), (0, u "()V"), (0, .class_ 8), (0, u "java/lang/Record")] 13

def k18c0 : Code := { maxStack := 1, maxLocals := 1, code := jdk_30_method_1_code, exceptionTable := #[], attributes := #[] }
def k18m0 : Method := { name := "<init>", desc := "()V", sig := { parameters := [], returnType := none }, accessFlags := 4, code := some k18c0 }
/-- java/lang/Record -/
def k18 : Class := { plain "java/lang/Record" (some 0) with
  accessFlags := 1057
  interfaces := #[]
  cf := some (fileOf pool18 7 #[] #[{ accessFlags := 4, nameIndex := 5, descriptorIndex := 6, attributes := #[] }] 1057 2 #[] #[])
  fields := #[]
  methods := #[k18m0]
  instanceTypes := #[]
  staticTypes := #[]
  resolved := Array.replicate 22 none
  statics := none }

def pool19 : Array CpInfo := pool [(1, .methodref 2 3), (0, .class_ 4), (0, .nameAndType 5 6), (0, u "java/lang/Record"), (0, u "<init>"), (0, u "()V"), (0, .interfaceMethodref 8 9), (0, .class_ 10), (0, .nameAndType 11 12), (0, u "java/util/List"), (0, u "copyOf"), (0, u "(Ljava/util/Collection;)Ljava/util/List;"), (0, .fieldref 14 15), (0, .class_ 16), (0, .nameAndType 17 18), (0, u "com/example/tidemark/tidemark/Page"), (0, u "items"), (0, u "Ljava/util/List;"), (0, .fieldref 14 20), (0, .nameAndType 21 22), (0, u "nextKey"), (0, u "Ljava/lang/Object;"), (0, .methodref 14 24), (0, .nameAndType 5 25), (0, u "(Ljava/util/List;Ljava/lang/Object;)V"), (19, u "of"), (0, u "(Ljava/util/List;Ljava/lang/Object;)Lcom/example/tidemark/tidemark/Page;"), (4, u "()Ljava/util/List;"), (1, u "()Ljava/lang/Object;")] 23

def k19c0 : Code := { maxStack := 2, maxLocals := 3, code := prog_22_method_1_code, exceptionTable := #[], attributes := #[] }
def k19m0 : Method := { name := "<init>", desc := "(Ljava/util/List;Ljava/lang/Object;)V", sig := { parameters := [(.object "java/util/List"), (.object "java/lang/Object")], returnType := none }, accessFlags := 1, code := some k19c0 }
def k19c1 : Code := { maxStack := 4, maxLocals := 2, code := prog_22_method_2_code, exceptionTable := #[], attributes := #[] }
def k19m1 : Method := { name := "of", desc := "(Ljava/util/List;Ljava/lang/Object;)Lcom/example/tidemark/tidemark/Page;", sig := { parameters := [(.object "java/util/List"), (.object "java/lang/Object")], returnType := some (.object "com/example/tidemark/tidemark/Page") }, accessFlags := 9, code := some k19c1 }
def k19c2 : Code := { maxStack := 1, maxLocals := 1, code := prog_22_method_6_code, exceptionTable := #[], attributes := #[] }
def k19m2 : Method := { name := "items", desc := "()Ljava/util/List;", sig := { parameters := [], returnType := some (.object "java/util/List") }, accessFlags := 1, code := some k19c2 }
def k19c3 : Code := { maxStack := 1, maxLocals := 1, code := prog_22_method_7_code, exceptionTable := #[], attributes := #[] }
def k19m3 : Method := { name := "nextKey", desc := "()Ljava/lang/Object;", sig := { parameters := [], returnType := some (.object "java/lang/Object") }, accessFlags := 1, code := some k19c3 }
/-- com/example/tidemark/tidemark/Page -/
def k19 : Class := { plain "com/example/tidemark/tidemark/Page" (some 18) with
  accessFlags := 49
  interfaces := #[]
  cf := some (fileOf pool19 14 #[] #[{ accessFlags := 1, nameIndex := 5, descriptorIndex := 25, attributes := #[] }, { accessFlags := 9, nameIndex := 45, descriptorIndex := 46, attributes := #[] }, { accessFlags := 1, nameIndex := 17, descriptorIndex := 51, attributes := #[] }, { accessFlags := 1, nameIndex := 21, descriptorIndex := 53, attributes := #[] }] 49 2 #[] #[{ accessFlags := 18, nameIndex := 17, descriptorIndex := 18, attributes := #[] }, { accessFlags := 18, nameIndex := 21, descriptorIndex := 22, attributes := #[] }])
  fields := #[{ name := "items", type := (.object "java/util/List"), accessFlags := 18, slot := 0, constantValue := 0 }, { name := "nextKey", type := (.object "java/lang/Object"), accessFlags := 18, slot := 1, constantValue := 0 }]
  methods := #[k19m0, k19m1, k19m2, k19m3]
  instanceTypes := #[(.object "java/util/List"), (.object "java/lang/Object")]
  staticTypes := #[]
  resolved := Array.replicate 77 none
  statics := none }

def pool20 : Array CpInfo := pool [(2, .class_ 4), (1, u "java/lang/Object"), (0, u "<init>"), (0, u "()V"), (3, .class_ 11), (0, u "java/util/ImmutableCollections$List12"), (0, .class_ 13), (0, u "java/util/ImmutableCollections$ListN"), (0, .fieldref 12 15), (0, .nameAndType 16 17), (0, u "allowNulls"), (0, u "Z"), (0, .class_ 19), (0, u "java/util/List"), (0, .interfaceMethodref 21 22), (0, .class_ 23), (0, .nameAndType 24 25), (0, u "java/util/Collection"), (0, u "isEmpty"), (0, u "()Z"), (0, .interfaceMethodref 18 27), (0, .nameAndType 28 29), (0, u "of"), (0, u "()Ljava/util/List;"), (0, .interfaceMethodref 21 31), (0, .nameAndType 32 33), (0, u "toArray"), (0, u "()[Ljava/lang/Object;"), (0, .interfaceMethodref 18 35), (0, .nameAndType 28 36), (0, u "([Ljava/lang/Object;)Ljava/util/List;"), (0, .methodref 38 39), (0, .class_ 40), (0, .nameAndType 41 42), (0, u "java/util/Objects"), (0, u "requireNonNull"), (0, u "(Ljava/lang/Object;)Ljava/lang/Object;"), (0, .methodref 12 44), (0, .nameAndType 5 45), (0, u "([Ljava/lang/Object;Z)V"), (1, .class_ 49), (1, u "java/util/ImmutableCollections"), (0, u "$assertionsDisabled"), (5, u "[Ljava/lang/Object;"), (5, u "EMPTY_LIST"), (0, u "Ljava/util/ImmutableCollections$ListN;"), (8, u "EMPTY_LIST_NULLS"), (22, u "SALT32L"), (0, u "J"), (2, u "REVERSE"), (6, u "archivedObjects"), (2, u "EMPTY"), (0, u "Ljava/lang/Object;"), (0, .class_ 112), (0, u "java/util/ImmutableCollections$SetN"), (5, u "EMPTY_SET"), (0, u "Ljava/util/ImmutableCollections$SetN;"), (0, .class_ 121), (0, u "java/util/ImmutableCollections$MapN"), (3, u "EMPTY_MAP"), (0, u "Ljava/util/ImmutableCollections$MapN;"), (4, u "EXPAND_FACTOR"), (0, u "I"), (9, u "listCopy"), (0, u "(Ljava/util/Collection;)Ljava/util/List;"), (7, u "listFromArray"), (17, .class_ 170), (0, u "java/util/ImmutableCollections$MapN$MapNIterator"), (0, .class_ 172), (0, u "java/util/ImmutableCollections$MapN$1"), (0, .class_ 174), (0, u "java/util/ImmutableCollections$Map1"), (0, .class_ 176), (0, u "java/util/ImmutableCollections$AbstractImmutableMap"), (0, .class_ 178), (0, u "java/util/ImmutableCollections$SetN$SetNIterator"), (0, .class_ 180), (0, u "java/util/ImmutableCollections$Set12"), (0, .class_ 182), (0, u "java/util/ImmutableCollections$Set12$1"), (0, .class_ 184), (0, u "java/util/ImmutableCollections$AbstractImmutableSet"), (0, .class_ 186), (0, u "java/util/ImmutableCollections$SubList"), (0, .class_ 188), (0, u "java/util/ImmutableCollections$ListItr"), (0, .class_ 190), (0, u "java/util/ImmutableCollections$AbstractImmutableList"), (0, .class_ 192), (0, u "java/util/ImmutableCollections$AbstractImmutableCollection"), (0, .class_ 194), (0, u "java/util/ImmutableCollections$Access"), (0, .class_ 196), (0, u "java/util/ImmutableCollections$Access$1")] 16

def k20m0 : Method := { name := "<init>", desc := "()V", sig := { parameters := [], returnType := none }, accessFlags := 2, code := none }
def k20c1 : Code := { maxStack := 1, maxLocals := 2, code := jdk_56_method_3_code, exceptionTable := #[], attributes := #[] }
def k20m1 : Method := { name := "listCopy", desc := "(Ljava/util/Collection;)Ljava/util/List;", sig := { parameters := [(.object "java/util/Collection")], returnType := some (.object "java/util/List") }, accessFlags := 8, code := some k20c1 }
def k20c2 : Code := { maxStack := 4, maxLocals := 3, code := jdk_56_method_4_code, exceptionTable := #[], attributes := #[] }
def k20m2 : Method := { name := "listFromArray", desc := "([Ljava/lang/Object;)Ljava/util/List;", sig := { parameters := [(.array (.object "java/lang/Object"))], returnType := some (.object "java/util/List") }, accessFlags := 136, code := some k20c2 }
/-- java/util/ImmutableCollections -/
def k20 : Class := { plain "java/util/ImmutableCollections" (some 0) with
  accessFlags := 32
  interfaces := #[]
  cf := some (fileOf pool20 47 #[.nestMembers #[120, 169, 171, 173, 175, 111, 177, 179, 181, 183, 12, 10, 185, 187, 189, 191, 193, 195]] #[{ accessFlags := 2, nameIndex := 5, descriptorIndex := 6, attributes := #[] }, { accessFlags := 8, nameIndex := 142, descriptorIndex := 143, attributes := #[] }, { accessFlags := 136, nameIndex := 151, descriptorIndex := 36, attributes := #[] }] 32 2 #[] #[{ accessFlags := 26, nameIndex := 95, descriptorIndex := 96, attributes := #[] }, { accessFlags := 26, nameIndex := 99, descriptorIndex := 17, attributes := #[] }, { accessFlags := 10, nameIndex := 106, descriptorIndex := 56, attributes := #[] }, { accessFlags := 26, nameIndex := 109, descriptorIndex := 110, attributes := #[] }, { accessFlags := 24, nameIndex := 62, descriptorIndex := 63, attributes := #[] }, { accessFlags := 24, nameIndex := 72, descriptorIndex := 63, attributes := #[] }, { accessFlags := 24, nameIndex := 118, descriptorIndex := 119, attributes := #[] }, { accessFlags := 24, nameIndex := 125, descriptorIndex := 126, attributes := #[] }, { accessFlags := 24, nameIndex := 131, descriptorIndex := 132, attributes := #[] }, { accessFlags := 4120, nameIndex := 50, descriptorIndex := 17, attributes := #[] }])
  fields := #[{ name := "SALT32L", type := .long, accessFlags := 26, slot := 0, constantValue := 0 }, { name := "REVERSE", type := .boolean, accessFlags := 26, slot := 1, constantValue := 0 }, { name := "archivedObjects", type := (.array (.object "java/lang/Object")), accessFlags := 10, slot := 2, constantValue := 0 }, { name := "EMPTY", type := (.object "java/lang/Object"), accessFlags := 26, slot := 3, constantValue := 0 }, { name := "EMPTY_LIST", type := (.object "java/util/ImmutableCollections$ListN"), accessFlags := 24, slot := 4, constantValue := 0 }, { name := "EMPTY_LIST_NULLS", type := (.object "java/util/ImmutableCollections$ListN"), accessFlags := 24, slot := 5, constantValue := 0 }, { name := "EMPTY_SET", type := (.object "java/util/ImmutableCollections$SetN"), accessFlags := 24, slot := 6, constantValue := 0 }, { name := "EMPTY_MAP", type := (.object "java/util/ImmutableCollections$MapN"), accessFlags := 24, slot := 7, constantValue := 0 }, { name := "EXPAND_FACTOR", type := .int, accessFlags := 24, slot := 8, constantValue := 0 }, { name := "$assertionsDisabled", type := .boolean, accessFlags := 4120, slot := 9, constantValue := 0 }]
  methods := #[k20m0, k20m1, k20m2]
  instanceTypes := #[]
  staticTypes := #[.long, .boolean, (.array (.object "java/lang/Object")), (.object "java/lang/Object"), (.object "java/util/ImmutableCollections$ListN"), (.object "java/util/ImmutableCollections$ListN"), (.object "java/util/ImmutableCollections$SetN"), (.object "java/util/ImmutableCollections$MapN"), .int, .boolean]
  resolved := Array.replicate 213 none
  statics := some 2 }

def pool21 : Array CpInfo := pool [(1, .methodref 2 3), (0, .class_ 4), (0, .nameAndType 5 6), (0, u "java/util/AbstractCollection"), (0, u "<init>"), (0, u "()V"), (1, .class_ 10), (1, u "java/util/ImmutableCollections"), (2, .class_ 14), (0, u "java/util/ImmutableCollections$AbstractImmutableCollection")] 41

def k21c0 : Code := { maxStack := 1, maxLocals := 1, code := jdk_47_method_1_code, exceptionTable := #[], attributes := #[] }
def k21m0 : Method := { name := "<init>", desc := "()V", sig := { parameters := [], returnType := none }, accessFlags := 0, code := some k21c0 }
/-- java/util/ImmutableCollections$AbstractImmutableCollection -/
def k21 : Class := { plain "java/util/ImmutableCollections$AbstractImmutableCollection" (some 11) with
  accessFlags := 1056
  interfaces := #[]
  cf := some (fileOf pool21 13 #[.nestHost 8] #[{ accessFlags := 0, nameIndex := 5, descriptorIndex := 6, attributes := #[] }] 1056 2 #[] #[])
  fields := #[]
  methods := #[k21m0]
  instanceTypes := #[]
  staticTypes := #[]
  resolved := Array.replicate 56 none
  statics := none }

def pool22 : Array CpInfo := pool [(1, .methodref 2 3), (0, .class_ 4), (0, .nameAndType 5 6), (0, u "java/util/ImmutableCollections$AbstractImmutableCollection"), (0, u "<init>"), (0, u "()V"), (1, .class_ 10), (1, u "java/util/ImmutableCollections"), (3, .class_ 16), (1, u "java/util/ImmutableCollections$AbstractImmutableList"), (60, .class_ 78), (0, u "java/util/List"), (45, .class_ 125), (0, u "java/util/RandomAccess")] 70

def k22c0 : Code := { maxStack := 1, maxLocals := 1, code := jdk_46_method_1_code, exceptionTable := #[], attributes := #[] }
def k22m0 : Method := { name := "<init>", desc := "()V", sig := { parameters := [], returnType := none }, accessFlags := 0, code := some k22c0 }
/-- java/util/ImmutableCollections$AbstractImmutableList -/
def k22 : Class := { plain "java/util/ImmutableCollections$AbstractImmutableList" (some 21) with
  accessFlags := 1056
  interfaces := #[13, 15]
  cf := some (fileOf pool22 14 #[.nestHost 8] #[{ accessFlags := 0, nameIndex := 5, descriptorIndex := 6, attributes := #[] }] 1056 2 #[77, 124] #[])
  fields := #[]
  methods := #[k22m0]
  instanceTypes := #[]
  staticTypes := #[]
  resolved := Array.replicate 196 none
  statics := none }

def pool23 : Array CpInfo := pool [(1, .methodref 2 3), (0, .class_ 4), (0, .nameAndType 5 6), (0, u "java/util/ImmutableCollections$AbstractImmutableList"), (0, u "<init>"), (0, u "()V"), (0, .methodref 8 9), (0, .class_ 10), (0, .nameAndType 11 12), (0, u "java/util/Objects"), (0, u "requireNonNull"), (0, u "(Ljava/lang/Object;)Ljava/lang/Object;"), (0, .fieldref 14 15), (0, .class_ 16), (0, .nameAndType 17 18), (0, u "java/util/ImmutableCollections$List12"), (0, u "e0"), (0, u "Ljava/lang/Object;"), (0, .fieldref 20 21), (0, .class_ 22), (0, .nameAndType 23 18), (0, u "java/util/ImmutableCollections"), (0, u "EMPTY"), (0, .fieldref 14 25), (0, .nameAndType 26 18), (0, u "e1"), (24, u "size"), (0, u "()I"), (17, .class_ 71), (0, u "java/io/Serializable"), (4, u "(Ljava/lang/Object;)V"), (8, u "(Ljava/lang/Object;Ljava/lang/Object;)V"), (4, u "get"), (0, u "(I)Ljava/lang/Object;")] 33

def k23c0 : Code := { maxStack := 2, maxLocals := 2, code := jdk_44_method_1_code, exceptionTable := #[], attributes := #[] }
def k23m0 : Method := { name := "<init>", desc := "(Ljava/lang/Object;)V", sig := { parameters := [(.object "java/lang/Object")], returnType := none }, accessFlags := 0, code := some k23c0 }
def k23c1 : Code := { maxStack := 2, maxLocals := 3, code := jdk_44_method_2_code, exceptionTable := #[], attributes := #[] }
def k23m1 : Method := { name := "<init>", desc := "(Ljava/lang/Object;Ljava/lang/Object;)V", sig := { parameters := [(.object "java/lang/Object"), (.object "java/lang/Object")], returnType := none }, accessFlags := 0, code := some k23c1 }
def k23c2 : Code := { maxStack := 2, maxLocals := 1, code := jdk_44_method_3_code, exceptionTable := #[], attributes := #[] }
def k23m2 : Method := { name := "size", desc := "()I", sig := { parameters := [], returnType := some .int }, accessFlags := 1, code := some k23c2 }
def k23c3 : Code := { maxStack := 2, maxLocals := 2, code := jdk_44_method_5_code, exceptionTable := #[], attributes := #[] }
def k23m3 : Method := { name := "get", desc := "(I)Ljava/lang/Object;", sig := { parameters := [.int], returnType := some (.object "java/lang/Object") }, accessFlags := 1, code := some k23c3 }
/-- java/util/ImmutableCollections$List12 -/
def k23 : Class := { plain "java/util/ImmutableCollections$List12" (some 22) with
  accessFlags := 48
  interfaces := #[2]
  cf := some (fileOf pool23 14 #[.nestHost 20] #[{ accessFlags := 0, nameIndex := 5, descriptorIndex := 76, attributes := #[] }, { accessFlags := 0, nameIndex := 5, descriptorIndex := 85, attributes := #[] }, { accessFlags := 1, nameIndex := 51, descriptorIndex := 52, attributes := #[] }, { accessFlags := 1, nameIndex := 90, descriptorIndex := 91, attributes := #[] }] 48 2 #[70] #[{ accessFlags := 18, nameIndex := 17, descriptorIndex := 18, attributes := #[] }, { accessFlags := 18, nameIndex := 26, descriptorIndex := 18, attributes := #[] }])
  fields := #[{ name := "e0", type := (.object "java/lang/Object"), accessFlags := 18, slot := 0, constantValue := 0 }, { name := "e1", type := (.object "java/lang/Object"), accessFlags := 18, slot := 1, constantValue := 0 }]
  methods := #[k23m0, k23m1, k23m2, k23m3]
  instanceTypes := #[(.object "java/lang/Object"), (.object "java/lang/Object")]
  staticTypes := #[]
  resolved := Array.replicate 125 none
  statics := none }

def pool24 : Array CpInfo := pool [(1, .methodref 2 3), (0, .class_ 4), (0, .nameAndType 5 6), (0, u "java/util/ImmutableCollections$AbstractImmutableList"), (0, u "<init>"), (0, u "()V"), (0, .fieldref 8 9), (0, .class_ 10), (0, .nameAndType 11 12), (0, u "java/util/ImmutableCollections$ListN"), (0, u "elements"), (0, u "[Ljava/lang/Object;"), (0, .fieldref 8 14), (0, .nameAndType 15 16), (0, u "allowNulls"), (0, u "Z"), (42, .class_ 60), (0, u "java/io/Serializable"), (4, u "([Ljava/lang/Object;Z)V"), (11, u "size"), (0, u "()I"), (0, u "get"), (0, u "(I)Ljava/lang/Object;"), (33, .class_ 115), (0, u "java/util/ImmutableCollections")] 3

def k24c0 : Code := { maxStack := 2, maxLocals := 3, code := jdk_45_method_1_code, exceptionTable := #[], attributes := #[] }
def k24m0 : Method := { name := "<init>", desc := "([Ljava/lang/Object;Z)V", sig := { parameters := [(.array (.object "java/lang/Object")), .boolean], returnType := none }, accessFlags := 2, code := some k24c0 }
def k24c1 : Code := { maxStack := 1, maxLocals := 1, code := jdk_45_method_3_code, exceptionTable := #[], attributes := #[] }
def k24m1 : Method := { name := "size", desc := "()I", sig := { parameters := [], returnType := some .int }, accessFlags := 1, code := some k24c1 }
def k24c2 : Code := { maxStack := 2, maxLocals := 2, code := jdk_45_method_4_code, exceptionTable := #[], attributes := #[] }
def k24m2 : Method := { name := "get", desc := "(I)Ljava/lang/Object;", sig := { parameters := [.int], returnType := some (.object "java/lang/Object") }, accessFlags := 1, code := some k24c2 }
/-- java/util/ImmutableCollections$ListN -/
def k24 : Class := { plain "java/util/ImmutableCollections$ListN" (some 22) with
  accessFlags := 48
  interfaces := #[2]
  cf := some (fileOf pool24 8 #[.nestHost 114] #[{ accessFlags := 2, nameIndex := 5, descriptorIndex := 65, attributes := #[] }, { accessFlags := 1, nameIndex := 77, descriptorIndex := 78, attributes := #[] }, { accessFlags := 1, nameIndex := 79, descriptorIndex := 80, attributes := #[] }] 48 2 #[59] #[{ accessFlags := 18, nameIndex := 11, descriptorIndex := 12, attributes := #[] }, { accessFlags := 18, nameIndex := 15, descriptorIndex := 16, attributes := #[] }])
  fields := #[{ name := "elements", type := (.array (.object "java/lang/Object")), accessFlags := 18, slot := 0, constantValue := 0 }, { name := "allowNulls", type := .boolean, accessFlags := 18, slot := 1, constantValue := 0 }]
  methods := #[k24m0, k24m1, k24m2]
  instanceTypes := #[(.array (.object "java/lang/Object")), .boolean]
  staticTypes := #[]
  resolved := Array.replicate 119 none
  statics := none }

def pool25 : Array CpInfo := pool [(1, .class_ 2), (0, u "java/lang/Math"), (1, .class_ 6), (1, u "java/lang/Object"), (0, u "<init>"), (0, u "()V"), (89, .class_ 100), (1, u "java/lang/Math$RandomNumberGeneratorHolder"), (71, u "negativeZeroFloatBits"), (0, u "J"), (2, u "negativeZeroDoubleBits"), (21, u "max"), (2, u "min"), (43, u "$assertionsDisabled"), (0, u "Z"), (88, u "(II)I"), (2, u "twoToTheDoubleScaleDown"), (0, u "D"), (4, u "twoToTheDoubleScaleUp"), (9, u "E"), (3, u "PI"), (2, u "TAU"), (2, u "DEGREES_TO_RADIANS"), (0, u "RADIANS_TO_DEGREES")] 94

def k25m0 : Method := { name := "<init>", desc := "()V", sig := { parameters := [], returnType := none }, accessFlags := 2, code := none }
def k25c1 : Code := { maxStack := 2, maxLocals := 2, code := jdk_29_method_65_code, exceptionTable := #[], attributes := #[] }
def k25m1 : Method := { name := "max", desc := "(II)I", sig := { parameters := [.int, .int], returnType := some .int }, accessFlags := 9, code := some k25c1 }
def k25c2 : Code := { maxStack := 2, maxLocals := 2, code := jdk_29_method_69_code, exceptionTable := #[], attributes := #[] }
def k25m2 : Method := { name := "min", desc := "(II)I", sig := { parameters := [.int, .int], returnType := some .int }, accessFlags := 9, code := some k25c2 }
/-- java/lang/Math -/
def k25 : Class := { plain "java/lang/Math" (some 0) with
  accessFlags := 49
  interfaces := #[]
  cf := some (fileOf pool25 1 #[.nestMembers #[98]] #[{ accessFlags := 2, nameIndex := 7, descriptorIndex := 8, attributes := #[] }, { accessFlags := 9, nameIndex := 198, descriptorIndex := 335, attributes := #[] }, { accessFlags := 9, nameIndex := 201, descriptorIndex := 335, attributes := #[] }] 49 4 #[] #[{ accessFlags := 25, nameIndex := 354, descriptorIndex := 339, attributes := #[] }, { accessFlags := 25, nameIndex := 358, descriptorIndex := 339, attributes := #[] }, { accessFlags := 25, nameIndex := 361, descriptorIndex := 339, attributes := #[] }, { accessFlags := 26, nameIndex := 364, descriptorIndex := 339, attributes := #[] }, { accessFlags := 26, nameIndex := 365, descriptorIndex := 339, attributes := #[] }, { accessFlags := 26, nameIndex := 172, descriptorIndex := 173, attributes := #[] }, { accessFlags := 26, nameIndex := 176, descriptorIndex := 173, attributes := #[] }, { accessFlags := 8, nameIndex := 344, descriptorIndex := 339, attributes := #[] }, { accessFlags := 8, nameIndex := 338, descriptorIndex := 339, attributes := #[] }, { accessFlags := 4120, nameIndex := 245, descriptorIndex := 246, attributes := #[] }])
  fields := #[{ name := "E", type := .double, accessFlags := 25, slot := 0, constantValue := 0 }, { name := "PI", type := .double, accessFlags := 25, slot := 1, constantValue := 0 }, { name := "TAU", type := .double, accessFlags := 25, slot := 2, constantValue := 0 }, { name := "DEGREES_TO_RADIANS", type := .double, accessFlags := 26, slot := 3, constantValue := 0 }, { name := "RADIANS_TO_DEGREES", type := .double, accessFlags := 26, slot := 4, constantValue := 0 }, { name := "negativeZeroFloatBits", type := .long, accessFlags := 26, slot := 5, constantValue := 0 }, { name := "negativeZeroDoubleBits", type := .long, accessFlags := 26, slot := 6, constantValue := 0 }, { name := "twoToTheDoubleScaleUp", type := .double, accessFlags := 8, slot := 7, constantValue := 0 }, { name := "twoToTheDoubleScaleDown", type := .double, accessFlags := 8, slot := 8, constantValue := 0 }, { name := "$assertionsDisabled", type := .boolean, accessFlags := 4120, slot := 9, constantValue := 0 }]
  methods := #[k25m0, k25m1, k25m2]
  instanceTypes := #[]
  staticTypes := #[.double, .double, .double, .double, .double, .long, .long, .double, .double, .boolean]
  resolved := Array.replicate 460 none
  statics := none }

def pool26 : Array CpInfo := pool [(2, .class_ 4), (1, u "java/lang/Object"), (0, u "<init>"), (0, u "()V"), (7, .class_ 16), (1, u "java/util/Arrays"), (57, .class_ 76), (1, u "java/util/Arrays$NaturalOrder"), (9, .methodref 2 87), (0, .nameAndType 88 89), (0, u "getClass"), (0, u "()Ljava/lang/Class;"), (20, .class_ 111), (0, u "[Ljava/lang/Object;"), (1, .class_ 115), (1, u "java/util/Arrays$LegacyMergeSort"), (1, u "Z"), (32, .methodref 151 152), (0, .class_ 153), (0, .nameAndType 154 155), (0, u "java/lang/System"), (0, u "arraycopy"), (0, u "(Ljava/lang/Object;ILjava/lang/Object;II)V"), (144, .methodref 14 301), (0, .nameAndType 302 303), (0, u "copyOf"), (0, u "([Ljava/lang/Object;ILjava/lang/Class;)[Ljava/lang/Object;"), (0, .methodref 305 306), (0, .class_ 307), (0, .nameAndType 308 309), (0, u "java/lang/Math"), (0, u "min"), (0, u "(II)I"), (65, .class_ 376), (0, u "java/util/Arrays$ArrayList"), (68, u "$assertionsDisabled"), (269, u "MIN_ARRAY_SORT_GRAN"), (0, u "I"), (2, u "INSERTIONSORT_THRESHOLD"), (140, u "([Ljava/lang/Object;I)[Ljava/lang/Object;"), (114, .class_ 976), (0, u "java/util/Arrays$ArrayItr")] 52

def k26m0 : Method := { name := "<init>", desc := "()V", sig := { parameters := [], returnType := none }, accessFlags := 2, code := none }
def k26c1 : Code := { maxStack := 3, maxLocals := 2, code := jdk_65_method_119_code, exceptionTable := #[], attributes := #[] }
def k26m1 : Method := { name := "copyOf", desc := "([Ljava/lang/Object;I)[Ljava/lang/Object;", sig := { parameters := [(.array (.object "java/lang/Object")), .int], returnType := some (.array (.object "java/lang/Object")) }, accessFlags := 9, code := some k26c1 }
def k26c2 : Code := { maxStack := 6, maxLocals := 4, code := jdk_65_method_120_code, exceptionTable := #[], attributes := #[] }
def k26m2 : Method := { name := "copyOf", desc := "([Ljava/lang/Object;ILjava/lang/Class;)[Ljava/lang/Object;", sig := { parameters := [(.array (.object "java/lang/Object")), .int, (.object "java/lang/Class")], returnType := some (.array (.object "java/lang/Object")) }, accessFlags := 9, code := some k26c2 }
/-- java/util/Arrays -/
def k26 : Class := { plain "java/util/Arrays" (some 0) with
  accessFlags := 49
  interfaces := #[]
  cf := some (fileOf pool26 14 #[.nestMembers #[975, 375, 113, 74]] #[{ accessFlags := 2, nameIndex := 5, descriptorIndex := 6, attributes := #[] }, { accessFlags := 9, nameIndex := 302, descriptorIndex := 860, attributes := #[] }, { accessFlags := 9, nameIndex := 302, descriptorIndex := 303, attributes := #[] }] 49 2 #[] #[{ accessFlags := 26, nameIndex := 715, descriptorIndex := 716, attributes := #[] }, { accessFlags := 26, nameIndex := 719, descriptorIndex := 716, attributes := #[] }, { accessFlags := 4120, nameIndex := 445, descriptorIndex := 117, attributes := #[] }])
  fields := #[{ name := "MIN_ARRAY_SORT_GRAN", type := .int, accessFlags := 26, slot := 0, constantValue := 0 }, { name := "INSERTIONSORT_THRESHOLD", type := .int, accessFlags := 26, slot := 1, constantValue := 0 }, { name := "$assertionsDisabled", type := .boolean, accessFlags := 4120, slot := 2, constantValue := 0 }]
  methods := #[k26m0, k26m1, k26m2]
  instanceTypes := #[]
  staticTypes := #[.int, .int, .boolean]
  resolved := Array.replicate 1029 none
  statics := none }

def pool27 : Array CpInfo := pool [(2, .class_ 4), (1, u "java/lang/Object"), (0, u "<init>"), (0, u "()V"), (1, .class_ 10), (1, u "java/lang/System"), (0, u "allowSecurityManager"), (0, u "I"), (16, u "cons"), (0, u "Ljava/io/Console;"), (77, .class_ 110), (1, u "java/lang/System$CallersHolder"), (43, u "initialErrStream"), (0, u "Ljava/io/PrintStream;"), (19, u "security"), (0, u "Ljava/lang/SecurityManager;"), (31, .class_ 209), (0, u "java/lang/System$1"), (7, u "props"), (0, u "Ljava/util/Properties;"), (2, u "lineSeparator"), (0, u "Ljava/lang/String;"), (96, .class_ 321), (1, u "java/lang/System$LoggerFinder"), (5, .class_ 328), (0, u "java/lang/System$Logger"), (67, u "err"), (2, u "out"), (91, u "notSupportedJnuEncoding"), (15, u "in"), (17, u "initialIn"), (0, u "Ljava/io/InputStream;"), (35, u "bootLayer"), (0, u "Ljava/lang/ModuleLayer;"), (99, .class_ 664), (0, u "java/lang/System$2"), (9, u "NEVER"), (2, u "MAYBE"), (49, u "arraycopy"), (0, u "(Ljava/lang/Object;ILjava/lang/Object;II)V"), (72, .class_ 802), (0, u "java/lang/System$Logger$Level")] 31

def k27m0 : Method := { name := "<init>", desc := "()V", sig := { parameters := [], returnType := none }, accessFlags := 2, code := none }
def k27m1 : Method := { name := "arraycopy", desc := "(Ljava/lang/Object;ILjava/lang/Object;II)V", sig := { parameters := [(.object "java/lang/Object"), .int, (.object "java/lang/Object"), .int, .int], returnType := none }, accessFlags := 265, code := none }
/-- java/lang/System -/
def k27 : Class := { plain "java/lang/System" (some 0) with
  accessFlags := 49
  interfaces := #[]
  cf := some (fileOf pool27 8 #[.nestMembers #[319, 327, 801, 108, 663, 208]] #[{ accessFlags := 2, nameIndex := 5, descriptorIndex := 6, attributes := #[] }, { accessFlags := 265, nameIndex := 727, descriptorIndex := 728, attributes := #[] }] 49 2 #[] #[{ accessFlags := 25, nameIndex := 507, descriptorIndex := 526, attributes := #[] }, { accessFlags := 25, nameIndex := 399, descriptorIndex := 155, attributes := #[] }, { accessFlags := 25, nameIndex := 396, descriptorIndex := 155, attributes := #[] }, { accessFlags := 10, nameIndex := 525, descriptorIndex := 526, attributes := #[] }, { accessFlags := 26, nameIndex := 674, descriptorIndex := 12, attributes := #[] }, { accessFlags := 26, nameIndex := 677, descriptorIndex := 12, attributes := #[] }, { accessFlags := 10, nameIndex := 11, descriptorIndex := 12, attributes := #[] }, { accessFlags := 74, nameIndex := 175, descriptorIndex := 176, attributes := #[] }, { accessFlags := 10, nameIndex := 491, descriptorIndex := 222, attributes := #[] }, { accessFlags := 74, nameIndex := 29, descriptorIndex := 30, attributes := #[] }, { accessFlags := 74, nameIndex := 154, descriptorIndex := 155, attributes := #[] }, { accessFlags := 10, nameIndex := 217, descriptorIndex := 218, attributes := #[] }, { accessFlags := 10, nameIndex := 221, descriptorIndex := 222, attributes := #[] }, { accessFlags := 8, nameIndex := 562, descriptorIndex := 563, attributes := #[] }])
  fields := #[{ name := "in", type := (.object "java/io/InputStream"), accessFlags := 25, slot := 0, constantValue := 0 }, { name := "out", type := (.object "java/io/PrintStream"), accessFlags := 25, slot := 1, constantValue := 0 }, { name := "err", type := (.object "java/io/PrintStream"), accessFlags := 25, slot := 2, constantValue := 0 }, { name := "initialIn", type := (.object "java/io/InputStream"), accessFlags := 10, slot := 3, constantValue := 0 }, { name := "NEVER", type := .int, accessFlags := 26, slot := 4, constantValue := 0 }, { name := "MAYBE", type := .int, accessFlags := 26, slot := 5, constantValue := 0 }, { name := "allowSecurityManager", type := .int, accessFlags := 10, slot := 6, constantValue := 0 }, { name := "security", type := (.object "java/lang/SecurityManager"), accessFlags := 74, slot := 7, constantValue := 0 }, { name := "notSupportedJnuEncoding", type := (.object "java/lang/String"), accessFlags := 10, slot := 8, constantValue := 0 }, { name := "cons", type := (.object "java/io/Console"), accessFlags := 74, slot := 9, constantValue := 0 }, { name := "initialErrStream", type := (.object "java/io/PrintStream"), accessFlags := 74, slot := 10, constantValue := 0 }, { name := "props", type := (.object "java/util/Properties"), accessFlags := 10, slot := 11, constantValue := 0 }, { name := "lineSeparator", type := (.object "java/lang/String"), accessFlags := 10, slot := 12, constantValue := 0 }, { name := "bootLayer", type := (.object "java/lang/ModuleLayer"), accessFlags := 8, slot := 13, constantValue := 0 }]
  methods := #[k27m0, k27m1]
  instanceTypes := #[]
  staticTypes := #[(.object "java/io/InputStream"), (.object "java/io/PrintStream"), (.object "java/io/PrintStream"), (.object "java/io/InputStream"), .int, .int, .int, (.object "java/lang/SecurityManager"), (.object "java/lang/String"), (.object "java/io/Console"), (.object "java/io/PrintStream"), (.object "java/util/Properties"), (.object "java/lang/String"), (.object "java/lang/ModuleLayer")]
  resolved := Array.replicate 834 none
  statics := none }

def pool28 : Array CpInfo := pool [(2, .class_ 4), (1, u "java/lang/Object"), (0, u "<init>"), (0, u "()V"), (35, .class_ 44), (1, u "java/util/Objects"), (0, u "requireNonNull"), (0, u "(Ljava/lang/Object;)Ljava/lang/Object;")] 137

def k28m0 : Method := { name := "<init>", desc := "()V", sig := { parameters := [], returnType := none }, accessFlags := 2, code := none }
def k28c1 : Code := { maxStack := 2, maxLocals := 1, code := jdk_31_method_10_code, exceptionTable := #[], attributes := #[] }
def k28m1 : Method := { name := "requireNonNull", desc := "(Ljava/lang/Object;)Ljava/lang/Object;", sig := { parameters := [(.object "java/lang/Object")], returnType := some (.object "java/lang/Object") }, accessFlags := 9, code := some k28c1 }
/-- java/util/Objects -/
def k28 : Class := { plain "java/util/Objects" (some 0) with
  accessFlags := 49
  interfaces := #[]
  cf := some (fileOf pool28 42 #[] #[{ accessFlags := 2, nameIndex := 5, descriptorIndex := 6, attributes := #[] }, { accessFlags := 9, nameIndex := 45, descriptorIndex := 46, attributes := #[] }] 49 2 #[] #[])
  fields := #[]
  methods := #[k28m0, k28m1]
  instanceTypes := #[]
  staticTypes := #[]
  resolved := Array.replicate 184 none
  statics := none }

def pool29 : Array CpInfo := pool [(1, u "java/lang/Class"), (0, .class_ 1), (0, u "java/lang/Object"), (0, .class_ 3)] 3

/-- java/lang/Class -/
def k29 : Class := { plain "java/lang/Class" (some 0) with
  accessFlags := 49
  interfaces := #[]
  cf := some (fileOf pool29 2 #[] #[] 49 4 #[] #[])
  fields := #[]
  methods := #[]
  instanceTypes := #[]
  staticTypes := #[]
  resolved := Array.replicate 8 none
  statics := none }

/-- the primitive byte -/
def k30 : Class := { plain "byte" none with kind := .primitive 'B', accessFlags := 0x411 }
/-- [B -/
def k31 : Class := { plain "[B" (some 0) with kind := .array 30 .byte, interfaces := #[16, 2], accessFlags := 1041 }

/-- the primitive int -/
def k32 : Class := { plain "int" none with kind := .primitive 'I', accessFlags := 0x411 }
/-- [I -/
def k33 : Class := { plain "[I" (some 0) with kind := .array 32 .int, interfaces := #[16, 2], accessFlags := 1041 }

/-- [Ljava/lang/Integer; -/
def k34 : Class := { plain "[Ljava/lang/Integer;" (some 0) with kind := .array 7 (.object "java/lang/Integer"), interfaces := #[16, 2], accessFlags := 1041 }

/-- [Ljava/lang/Object; -/
def k35 : Class := { plain "[Ljava/lang/Object;" (some 0) with mirror := some 3, kind := .array 0 (.object "java/lang/Object"), interfaces := #[16, 2], accessFlags := 1041 }

def heap : Heap := #[{ cls := 8, slots := #[.int 0, .int 127, .ref 4, .null, .int 0], vm := .statics 8 },
  { cls := 17, slots := #[.long 0, .int 0, .ref 6, .ref 5], vm := .statics 17 },
  { cls := 20, slots := #[.long 0, .int 0, .null, .ref 265, .ref 264, .null, .null, .null, .int 0, .int 1], vm := .statics 20 },
  { cls := 29, slots := #[], vm := .mirror 35 },
  { cls := 34, slots := #[.ref 8, .ref 9, .ref 10, .ref 11, .ref 12, .ref 13, .ref 14, .ref 15, .ref 16, .ref 17, .ref 18, .ref 19, .ref 20, .ref 21, .ref 22, .ref 23, .ref 24, .ref 25, .ref 26, .ref 27, .ref 28, .ref 29, .ref 30, .ref 31, .ref 32, .ref 33, .ref 34, .ref 35, .ref 36, .ref 37, .ref 38, .ref 39, .ref 40, .ref 41, .ref 42, .ref 43, .ref 44, .ref 45, .ref 46, .ref 47, .ref 48, .ref 49, .ref 50, .ref 51, .ref 52, .ref 53, .ref 54, .ref 55, .ref 56, .ref 57, .ref 58, .ref 59, .ref 60, .ref 61, .ref 62, .ref 63, .ref 64, .ref 65, .ref 66, .ref 67, .ref 68, .ref 69, .ref 70, .ref 71, .ref 72, .ref 73, .ref 74, .ref 75, .ref 76, .ref 77, .ref 78, .ref 79, .ref 80, .ref 81, .ref 82, .ref 83, .ref 84, .ref 85, .ref 86, .ref 87, .ref 88, .ref 89, .ref 90, .ref 91, .ref 92, .ref 93, .ref 94, .ref 95, .ref 96, .ref 97, .ref 98, .ref 99, .ref 100, .ref 101, .ref 102, .ref 103, .ref 104, .ref 105, .ref 106, .ref 107, .ref 108, .ref 109, .ref 110, .ref 111, .ref 112, .ref 113, .ref 114, .ref 115, .ref 116, .ref 117, .ref 118, .ref 119, .ref 120, .ref 121, .ref 122, .ref 123, .ref 124, .ref 125, .ref 126, .ref 127, .ref 128, .ref 129, .ref 130, .ref 131, .ref 132, .ref 133, .ref 134, .ref 135, .ref 136, .ref 137, .ref 138, .ref 139, .ref 140, .ref 141, .ref 142, .ref 143, .ref 144, .ref 145, .ref 146, .ref 147, .ref 148, .ref 149, .ref 150, .ref 151, .ref 152, .ref 153, .ref 154, .ref 155, .ref 156, .ref 157, .ref 158, .ref 159, .ref 160, .ref 161, .ref 162, .ref 163, .ref 164, .ref 165, .ref 166, .ref 167, .ref 168, .ref 169, .ref 170, .ref 171, .ref 172, .ref 173, .ref 174, .ref 175, .ref 176, .ref 177, .ref 178, .ref 179, .ref 180, .ref 181, .ref 182, .ref 183, .ref 184, .ref 185, .ref 186, .ref 187, .ref 188, .ref 189, .ref 190, .ref 191, .ref 192, .ref 193, .ref 194, .ref 195, .ref 196, .ref 197, .ref 198, .ref 199, .ref 200, .ref 201, .ref 202, .ref 203, .ref 204, .ref 205, .ref 206, .ref 207, .ref 208, .ref 209, .ref 210, .ref 211, .ref 212, .ref 213, .ref 214, .ref 215, .ref 216, .ref 217, .ref 218, .ref 219, .ref 220, .ref 221, .ref 222, .ref 223, .ref 224, .ref 225, .ref 226, .ref 227, .ref 228, .ref 229, .ref 230, .ref 231, .ref 232, .ref 233, .ref 234, .ref 235, .ref 236, .ref 237, .ref 238, .ref 239, .ref 240, .ref 241, .ref 242, .ref 243, .ref 244, .ref 245, .ref 246, .ref 247, .ref 248, .ref 249, .ref 250, .ref 251, .ref 252, .ref 253, .ref 254, .ref 255, .ref 256, .ref 257, .ref 258, .ref 259, .ref 260, .ref 261, .ref 262, .ref 263], vm := .none },
  { cls := 35, slots := #[], vm := .none },
  { cls := 35, slots := #[], vm := .none },
  { cls := 35, slots := #[], vm := .none },
  { cls := 7, slots := #[.int (-128)], vm := .none },
  { cls := 7, slots := #[.int (-127)], vm := .none },
  { cls := 7, slots := #[.int (-126)], vm := .none },
  { cls := 7, slots := #[.int (-125)], vm := .none },
  { cls := 7, slots := #[.int (-124)], vm := .none },
  { cls := 7, slots := #[.int (-123)], vm := .none },
  { cls := 7, slots := #[.int (-122)], vm := .none },
  { cls := 7, slots := #[.int (-121)], vm := .none },
  { cls := 7, slots := #[.int (-120)], vm := .none },
  { cls := 7, slots := #[.int (-119)], vm := .none },
  { cls := 7, slots := #[.int (-118)], vm := .none },
  { cls := 7, slots := #[.int (-117)], vm := .none },
  { cls := 7, slots := #[.int (-116)], vm := .none },
  { cls := 7, slots := #[.int (-115)], vm := .none },
  { cls := 7, slots := #[.int (-114)], vm := .none },
  { cls := 7, slots := #[.int (-113)], vm := .none },
  { cls := 7, slots := #[.int (-112)], vm := .none },
  { cls := 7, slots := #[.int (-111)], vm := .none },
  { cls := 7, slots := #[.int (-110)], vm := .none },
  { cls := 7, slots := #[.int (-109)], vm := .none },
  { cls := 7, slots := #[.int (-108)], vm := .none },
  { cls := 7, slots := #[.int (-107)], vm := .none },
  { cls := 7, slots := #[.int (-106)], vm := .none },
  { cls := 7, slots := #[.int (-105)], vm := .none },
  { cls := 7, slots := #[.int (-104)], vm := .none },
  { cls := 7, slots := #[.int (-103)], vm := .none },
  { cls := 7, slots := #[.int (-102)], vm := .none },
  { cls := 7, slots := #[.int (-101)], vm := .none },
  { cls := 7, slots := #[.int (-100)], vm := .none },
  { cls := 7, slots := #[.int (-99)], vm := .none },
  { cls := 7, slots := #[.int (-98)], vm := .none },
  { cls := 7, slots := #[.int (-97)], vm := .none },
  { cls := 7, slots := #[.int (-96)], vm := .none },
  { cls := 7, slots := #[.int (-95)], vm := .none },
  { cls := 7, slots := #[.int (-94)], vm := .none },
  { cls := 7, slots := #[.int (-93)], vm := .none },
  { cls := 7, slots := #[.int (-92)], vm := .none },
  { cls := 7, slots := #[.int (-91)], vm := .none },
  { cls := 7, slots := #[.int (-90)], vm := .none },
  { cls := 7, slots := #[.int (-89)], vm := .none },
  { cls := 7, slots := #[.int (-88)], vm := .none },
  { cls := 7, slots := #[.int (-87)], vm := .none },
  { cls := 7, slots := #[.int (-86)], vm := .none },
  { cls := 7, slots := #[.int (-85)], vm := .none },
  { cls := 7, slots := #[.int (-84)], vm := .none },
  { cls := 7, slots := #[.int (-83)], vm := .none },
  { cls := 7, slots := #[.int (-82)], vm := .none },
  { cls := 7, slots := #[.int (-81)], vm := .none },
  { cls := 7, slots := #[.int (-80)], vm := .none },
  { cls := 7, slots := #[.int (-79)], vm := .none },
  { cls := 7, slots := #[.int (-78)], vm := .none },
  { cls := 7, slots := #[.int (-77)], vm := .none },
  { cls := 7, slots := #[.int (-76)], vm := .none },
  { cls := 7, slots := #[.int (-75)], vm := .none },
  { cls := 7, slots := #[.int (-74)], vm := .none },
  { cls := 7, slots := #[.int (-73)], vm := .none },
  { cls := 7, slots := #[.int (-72)], vm := .none },
  { cls := 7, slots := #[.int (-71)], vm := .none },
  { cls := 7, slots := #[.int (-70)], vm := .none },
  { cls := 7, slots := #[.int (-69)], vm := .none },
  { cls := 7, slots := #[.int (-68)], vm := .none },
  { cls := 7, slots := #[.int (-67)], vm := .none },
  { cls := 7, slots := #[.int (-66)], vm := .none },
  { cls := 7, slots := #[.int (-65)], vm := .none },
  { cls := 7, slots := #[.int (-64)], vm := .none },
  { cls := 7, slots := #[.int (-63)], vm := .none },
  { cls := 7, slots := #[.int (-62)], vm := .none },
  { cls := 7, slots := #[.int (-61)], vm := .none },
  { cls := 7, slots := #[.int (-60)], vm := .none },
  { cls := 7, slots := #[.int (-59)], vm := .none },
  { cls := 7, slots := #[.int (-58)], vm := .none },
  { cls := 7, slots := #[.int (-57)], vm := .none },
  { cls := 7, slots := #[.int (-56)], vm := .none },
  { cls := 7, slots := #[.int (-55)], vm := .none },
  { cls := 7, slots := #[.int (-54)], vm := .none },
  { cls := 7, slots := #[.int (-53)], vm := .none },
  { cls := 7, slots := #[.int (-52)], vm := .none },
  { cls := 7, slots := #[.int (-51)], vm := .none },
  { cls := 7, slots := #[.int (-50)], vm := .none },
  { cls := 7, slots := #[.int (-49)], vm := .none },
  { cls := 7, slots := #[.int (-48)], vm := .none },
  { cls := 7, slots := #[.int (-47)], vm := .none },
  { cls := 7, slots := #[.int (-46)], vm := .none },
  { cls := 7, slots := #[.int (-45)], vm := .none },
  { cls := 7, slots := #[.int (-44)], vm := .none },
  { cls := 7, slots := #[.int (-43)], vm := .none },
  { cls := 7, slots := #[.int (-42)], vm := .none },
  { cls := 7, slots := #[.int (-41)], vm := .none },
  { cls := 7, slots := #[.int (-40)], vm := .none },
  { cls := 7, slots := #[.int (-39)], vm := .none },
  { cls := 7, slots := #[.int (-38)], vm := .none },
  { cls := 7, slots := #[.int (-37)], vm := .none },
  { cls := 7, slots := #[.int (-36)], vm := .none },
  { cls := 7, slots := #[.int (-35)], vm := .none },
  { cls := 7, slots := #[.int (-34)], vm := .none },
  { cls := 7, slots := #[.int (-33)], vm := .none },
  { cls := 7, slots := #[.int (-32)], vm := .none },
  { cls := 7, slots := #[.int (-31)], vm := .none },
  { cls := 7, slots := #[.int (-30)], vm := .none },
  { cls := 7, slots := #[.int (-29)], vm := .none },
  { cls := 7, slots := #[.int (-28)], vm := .none },
  { cls := 7, slots := #[.int (-27)], vm := .none },
  { cls := 7, slots := #[.int (-26)], vm := .none },
  { cls := 7, slots := #[.int (-25)], vm := .none },
  { cls := 7, slots := #[.int (-24)], vm := .none },
  { cls := 7, slots := #[.int (-23)], vm := .none },
  { cls := 7, slots := #[.int (-22)], vm := .none },
  { cls := 7, slots := #[.int (-21)], vm := .none },
  { cls := 7, slots := #[.int (-20)], vm := .none },
  { cls := 7, slots := #[.int (-19)], vm := .none },
  { cls := 7, slots := #[.int (-18)], vm := .none },
  { cls := 7, slots := #[.int (-17)], vm := .none },
  { cls := 7, slots := #[.int (-16)], vm := .none },
  { cls := 7, slots := #[.int (-15)], vm := .none },
  { cls := 7, slots := #[.int (-14)], vm := .none },
  { cls := 7, slots := #[.int (-13)], vm := .none },
  { cls := 7, slots := #[.int (-12)], vm := .none },
  { cls := 7, slots := #[.int (-11)], vm := .none },
  { cls := 7, slots := #[.int (-10)], vm := .none },
  { cls := 7, slots := #[.int (-9)], vm := .none },
  { cls := 7, slots := #[.int (-8)], vm := .none },
  { cls := 7, slots := #[.int (-7)], vm := .none },
  { cls := 7, slots := #[.int (-6)], vm := .none },
  { cls := 7, slots := #[.int (-5)], vm := .none },
  { cls := 7, slots := #[.int (-4)], vm := .none },
  { cls := 7, slots := #[.int (-3)], vm := .none },
  { cls := 7, slots := #[.int (-2)], vm := .none },
  { cls := 7, slots := #[.int (-1)], vm := .none },
  { cls := 7, slots := #[.int (0)], vm := .none },
  { cls := 7, slots := #[.int (1)], vm := .none },
  { cls := 7, slots := #[.int (2)], vm := .none },
  { cls := 7, slots := #[.int (3)], vm := .none },
  { cls := 7, slots := #[.int (4)], vm := .none },
  { cls := 7, slots := #[.int (5)], vm := .none },
  { cls := 7, slots := #[.int (6)], vm := .none },
  { cls := 7, slots := #[.int (7)], vm := .none },
  { cls := 7, slots := #[.int (8)], vm := .none },
  { cls := 7, slots := #[.int (9)], vm := .none },
  { cls := 7, slots := #[.int (10)], vm := .none },
  { cls := 7, slots := #[.int (11)], vm := .none },
  { cls := 7, slots := #[.int (12)], vm := .none },
  { cls := 7, slots := #[.int (13)], vm := .none },
  { cls := 7, slots := #[.int (14)], vm := .none },
  { cls := 7, slots := #[.int (15)], vm := .none },
  { cls := 7, slots := #[.int (16)], vm := .none },
  { cls := 7, slots := #[.int (17)], vm := .none },
  { cls := 7, slots := #[.int (18)], vm := .none },
  { cls := 7, slots := #[.int (19)], vm := .none },
  { cls := 7, slots := #[.int (20)], vm := .none },
  { cls := 7, slots := #[.int (21)], vm := .none },
  { cls := 7, slots := #[.int (22)], vm := .none },
  { cls := 7, slots := #[.int (23)], vm := .none },
  { cls := 7, slots := #[.int (24)], vm := .none },
  { cls := 7, slots := #[.int (25)], vm := .none },
  { cls := 7, slots := #[.int (26)], vm := .none },
  { cls := 7, slots := #[.int (27)], vm := .none },
  { cls := 7, slots := #[.int (28)], vm := .none },
  { cls := 7, slots := #[.int (29)], vm := .none },
  { cls := 7, slots := #[.int (30)], vm := .none },
  { cls := 7, slots := #[.int (31)], vm := .none },
  { cls := 7, slots := #[.int (32)], vm := .none },
  { cls := 7, slots := #[.int (33)], vm := .none },
  { cls := 7, slots := #[.int (34)], vm := .none },
  { cls := 7, slots := #[.int (35)], vm := .none },
  { cls := 7, slots := #[.int (36)], vm := .none },
  { cls := 7, slots := #[.int (37)], vm := .none },
  { cls := 7, slots := #[.int (38)], vm := .none },
  { cls := 7, slots := #[.int (39)], vm := .none },
  { cls := 7, slots := #[.int (40)], vm := .none },
  { cls := 7, slots := #[.int (41)], vm := .none },
  { cls := 7, slots := #[.int (42)], vm := .none },
  { cls := 7, slots := #[.int (43)], vm := .none },
  { cls := 7, slots := #[.int (44)], vm := .none },
  { cls := 7, slots := #[.int (45)], vm := .none },
  { cls := 7, slots := #[.int (46)], vm := .none },
  { cls := 7, slots := #[.int (47)], vm := .none },
  { cls := 7, slots := #[.int (48)], vm := .none },
  { cls := 7, slots := #[.int (49)], vm := .none },
  { cls := 7, slots := #[.int (50)], vm := .none },
  { cls := 7, slots := #[.int (51)], vm := .none },
  { cls := 7, slots := #[.int (52)], vm := .none },
  { cls := 7, slots := #[.int (53)], vm := .none },
  { cls := 7, slots := #[.int (54)], vm := .none },
  { cls := 7, slots := #[.int (55)], vm := .none },
  { cls := 7, slots := #[.int (56)], vm := .none },
  { cls := 7, slots := #[.int (57)], vm := .none },
  { cls := 7, slots := #[.int (58)], vm := .none },
  { cls := 7, slots := #[.int (59)], vm := .none },
  { cls := 7, slots := #[.int (60)], vm := .none },
  { cls := 7, slots := #[.int (61)], vm := .none },
  { cls := 7, slots := #[.int (62)], vm := .none },
  { cls := 7, slots := #[.int (63)], vm := .none },
  { cls := 7, slots := #[.int (64)], vm := .none },
  { cls := 7, slots := #[.int (65)], vm := .none },
  { cls := 7, slots := #[.int (66)], vm := .none },
  { cls := 7, slots := #[.int (67)], vm := .none },
  { cls := 7, slots := #[.int (68)], vm := .none },
  { cls := 7, slots := #[.int (69)], vm := .none },
  { cls := 7, slots := #[.int (70)], vm := .none },
  { cls := 7, slots := #[.int (71)], vm := .none },
  { cls := 7, slots := #[.int (72)], vm := .none },
  { cls := 7, slots := #[.int (73)], vm := .none },
  { cls := 7, slots := #[.int (74)], vm := .none },
  { cls := 7, slots := #[.int (75)], vm := .none },
  { cls := 7, slots := #[.int (76)], vm := .none },
  { cls := 7, slots := #[.int (77)], vm := .none },
  { cls := 7, slots := #[.int (78)], vm := .none },
  { cls := 7, slots := #[.int (79)], vm := .none },
  { cls := 7, slots := #[.int (80)], vm := .none },
  { cls := 7, slots := #[.int (81)], vm := .none },
  { cls := 7, slots := #[.int (82)], vm := .none },
  { cls := 7, slots := #[.int (83)], vm := .none },
  { cls := 7, slots := #[.int (84)], vm := .none },
  { cls := 7, slots := #[.int (85)], vm := .none },
  { cls := 7, slots := #[.int (86)], vm := .none },
  { cls := 7, slots := #[.int (87)], vm := .none },
  { cls := 7, slots := #[.int (88)], vm := .none },
  { cls := 7, slots := #[.int (89)], vm := .none },
  { cls := 7, slots := #[.int (90)], vm := .none },
  { cls := 7, slots := #[.int (91)], vm := .none },
  { cls := 7, slots := #[.int (92)], vm := .none },
  { cls := 7, slots := #[.int (93)], vm := .none },
  { cls := 7, slots := #[.int (94)], vm := .none },
  { cls := 7, slots := #[.int (95)], vm := .none },
  { cls := 7, slots := #[.int (96)], vm := .none },
  { cls := 7, slots := #[.int (97)], vm := .none },
  { cls := 7, slots := #[.int (98)], vm := .none },
  { cls := 7, slots := #[.int (99)], vm := .none },
  { cls := 7, slots := #[.int (100)], vm := .none },
  { cls := 7, slots := #[.int (101)], vm := .none },
  { cls := 7, slots := #[.int (102)], vm := .none },
  { cls := 7, slots := #[.int (103)], vm := .none },
  { cls := 7, slots := #[.int (104)], vm := .none },
  { cls := 7, slots := #[.int (105)], vm := .none },
  { cls := 7, slots := #[.int (106)], vm := .none },
  { cls := 7, slots := #[.int (107)], vm := .none },
  { cls := 7, slots := #[.int (108)], vm := .none },
  { cls := 7, slots := #[.int (109)], vm := .none },
  { cls := 7, slots := #[.int (110)], vm := .none },
  { cls := 7, slots := #[.int (111)], vm := .none },
  { cls := 7, slots := #[.int (112)], vm := .none },
  { cls := 7, slots := #[.int (113)], vm := .none },
  { cls := 7, slots := #[.int (114)], vm := .none },
  { cls := 7, slots := #[.int (115)], vm := .none },
  { cls := 7, slots := #[.int (116)], vm := .none },
  { cls := 7, slots := #[.int (117)], vm := .none },
  { cls := 7, slots := #[.int (118)], vm := .none },
  { cls := 7, slots := #[.int (119)], vm := .none },
  { cls := 7, slots := #[.int (120)], vm := .none },
  { cls := 7, slots := #[.int (121)], vm := .none },
  { cls := 7, slots := #[.int (122)], vm := .none },
  { cls := 7, slots := #[.int (123)], vm := .none },
  { cls := 7, slots := #[.int (124)], vm := .none },
  { cls := 7, slots := #[.int (125)], vm := .none },
  { cls := 7, slots := #[.int (126)], vm := .none },
  { cls := 7, slots := #[.int (127)], vm := .none },
  { cls := 24, slots := #[.ref 7, .int 0], vm := .none },
  { cls := 0, slots := #[], vm := .none }]
def classes : Array Class := #[k0, k1, k2, k3, k4, k5, k6, k7, k8, k9, k10, k11, k12, k13, k14, k15, k16, k17, k18, k19, k20, k21, k22, k23, k24, k25, k26, k27, k28, k29, k30, k31, k32, k33, k34, k35]
def interned : List (Array UInt16 × Addr) := []
def slotsUsed : Nat := 533
def theMethod : MethodId := ⟨1, 1⟩
def args0 : Array Value := #[.int 6, .int 7, .int 8, .int 9, .int 10, .int 11]
def aboutOver (below : List Frame) : State where
  vm := { classes := classes, interned := interned.toArray }
  heap := heap
  slotsUsed := slotsUsed
  threads := #[{ frames := .invoking theMethod args0 :: below }]
def below0 : List Frame := [.native { method := ⟨0, 0⟩, args := #[] }]
def about1 : State := aboutOver below0
def p0 : Program := .bare "" "" ""
def e0 : Env := launch0.env 0 0 0
theorem w_frames : about1.frames = Frame.invoking theMethod args0 :: below0 := rfl
set_option maxRecDepth 65536 in
theorem w_args : argsFit about1.vm theMethod args0 = true := by decide +kernel
set_option maxRecDepth 65536 in
theorem w_heap : heapFits about1 = true := by decide +kernel
set_option maxRecDepth 65536 in
theorem w_runnable : about1.curStatus? = some .runnable := by decide +kernel
set_option maxRecDepth 65536 in
theorem w_alone : about1.alone = true := by decide +kernel
set_option maxRecDepth 65536 in
theorem w_named : about1.methodNamed? x = some theMethod := by decide +kernel
set_option maxRecDepth 65536 in
theorem w_hears : about1.hears theMethod below0 = true := by decide +kernel
set_option maxRecDepth 65536 in
theorem w_ripe : about1.ripe theMethod args0 below0 = true := by decide +kernel
theorem w_running : about1.status = .running := rfl
set_option maxRecDepth 65536 in
theorem w_room : about1.hasRoom e0.platform room_1 = true :=
  launch0.hasRoom_least _ room_1 (by decide +kernel) (by decide +kernel) (by decide +kernel) (by decide +kernel) (by decide +kernel) (by decide +kernel)
theorem allAtoms_all (ts : List Jvm.Cond) (a : Array Jvm.Value) (st : Jvm.State) : (allAtoms ts).before a st = ts.all (fun c => c.before a st) := by
  induction ts with
  | nil => rfl
  | cons c t ih =>
    show (Jvm.Cond.and c (allAtoms t)).before a st = _
    rw [Jvm.Cond.before_and, ih, List.all_cons]
def words1 : List Jvm.Cond := Jvm.Cond.code x code maxLocals ret :: tables_1
/-- a 'code' word, met by the world's own term for the bytes: nothing is compared byte by byte -/
theorem code_word {y : MethodName} {bytes : ByteArray} {mx : Nat} {rt : Option FieldType} {a : Array Value} {s : State} {m : MethodId} {meth : Method} {c : Code} (h1 : s.methodNamed? y = some m) (h2 : s.vm.method? m = some meth) (h3 : meth.code = some c) (h4 : c.code = bytes)
    (h5 : (c.maxLocals == mx && c.exceptionTable.isEmpty && decide (c.maxStack ≤ mostOperands) && decide (meth.sig.returnType = rt) && !meth.locks && decide (parseMethodDescriptor y.desc = some meth.sig)) = true) : (Jvm.Cond.code y bytes mx rt).before a s = true := by
  simp only [Bool.and_eq_true, beq_iff_eq, Bool.not_eq_true', decide_eq_true_eq] at h5
  obtain ⟨⟨⟨⟨⟨g1, g2⟩, g3⟩, g4⟩, g5⟩, g6⟩ := h5
  simp [Cond.before, Cond.holds, Cond.value, h1, h2, h3, h4, g1, g2, g3, g4, g5, g6]
def isCode : Jvm.Cond → Bool
  | .code _ _ _ _ => true
  | _ => false
theorem all_split {L : List Jvm.Cond} {P : Jvm.Cond → Bool} (h1 : L.all (fun c => isCode c || P c) = true) (h2 : ∀ c ∈ L.filter isCode, P c = true) : L.all P = true := by
  refine List.all_eq_true.mpr fun c hc => ?_
  have h := List.all_eq_true.mp h1 c hc
  rcases Bool.eq_false_or_eq_true (isCode c) with hi | hi
  · exact h2 c (List.mem_filter.mpr ⟨hc, hi⟩)
  · simpa [hi] using h
set_option maxRecDepth 65536 in
theorem w_c0 : (Jvm.Cond.code x code maxLocals ret).before args0 about1 = true := code_word (m := ⟨1, 1⟩) (meth := k1m1) (c := k1c1) (by decide +kernel) rfl rfl rfl (by decide +kernel)
set_option maxRecDepth 65536 in
theorem w_c1 : (Jvm.Cond.code ({ cls := "java/lang/Integer", name := "valueOf", desc := "(I)Ljava/lang/Integer;" } : Jvm.MethodName) jdk_33_method_22_code (1 : Nat) (Option.some (Jvm.ClassFile.FieldType.object "java/lang/Integer"))).before args0 about1 = true := code_word (m := ⟨7, 0⟩) (meth := k7m0) (c := k7c0) (by decide +kernel) rfl rfl rfl (by decide +kernel)
set_option maxRecDepth 65536 in
theorem w_c2 : (Jvm.Cond.code ({ cls := "java/util/ArrayList", name := "<init>", desc := "()V" } : Jvm.MethodName) jdk_38_method_2_code (1 : Nat) (Option.none : Option Jvm.ClassFile.FieldType)).before args0 about1 = true := code_word (m := ⟨17, 0⟩) (meth := k17m0) (c := k17c0) (by decide +kernel) rfl rfl rfl (by decide +kernel)
set_option maxRecDepth 65536 in
theorem w_c3 : (Jvm.Cond.code ({ cls := "java/util/AbstractList", name := "<init>", desc := "()V" } : Jvm.MethodName) jdk_39_method_1_code (1 : Nat) (Option.none : Option Jvm.ClassFile.FieldType)).before args0 about1 = true := code_word (m := ⟨14, 0⟩) (meth := k14m0) (c := k14c0) (by decide +kernel) rfl rfl rfl (by decide +kernel)
set_option maxRecDepth 65536 in
theorem w_c4 : (Jvm.Cond.code ({ cls := "java/util/AbstractCollection", name := "<init>", desc := "()V" } : Jvm.MethodName) jdk_22_method_1_code (1 : Nat) (Option.none : Option Jvm.ClassFile.FieldType)).before args0 about1 = true := code_word (m := ⟨11, 0⟩) (meth := k11m0) (c := k11c0) (by decide +kernel) rfl rfl rfl (by decide +kernel)
set_option maxRecDepth 65536 in
theorem w_c5 : (Jvm.Cond.code ({ cls := "java/lang/Object", name := "<init>", desc := "()V" } : Jvm.MethodName) object_method_1_code (1 : Nat) (Option.none : Option Jvm.ClassFile.FieldType)).before args0 about1 = true := code_word (m := ⟨0, 0⟩) (meth := k0m0) (c := k0c0) (by decide +kernel) rfl rfl rfl (by decide +kernel)
set_option maxRecDepth 65536 in
theorem w_c6 : (Jvm.Cond.code ({ cls := "com/example/tidemark/tidemark/Page", name := "of", desc := "(Ljava/util/List;Ljava/lang/Object;)Lcom/example/tidemark/tidemark/Page;" } : Jvm.MethodName) prog_22_method_2_code (2 : Nat) (Option.some (Jvm.ClassFile.FieldType.object "com/example/tidemark/tidemark/Page"))).before args0 about1 = true := code_word (m := ⟨19, 1⟩) (meth := k19m1) (c := k19c1) (by decide +kernel) rfl rfl rfl (by decide +kernel)
set_option maxRecDepth 65536 in
theorem w_c7 : (Jvm.Cond.code ({ cls := "java/util/List", name := "copyOf", desc := "(Ljava/util/Collection;)Ljava/util/List;" } : Jvm.MethodName) jdk_40_method_48_code (1 : Nat) (Option.some (Jvm.ClassFile.FieldType.object "java/util/List"))).before args0 about1 = true := code_word (m := ⟨13, 4⟩) (meth := k13m4) (c := k13c4) (by decide +kernel) rfl rfl rfl (by decide +kernel)
set_option maxRecDepth 65536 in
theorem w_c8 : (Jvm.Cond.code ({ cls := "java/util/ImmutableCollections", name := "listCopy", desc := "(Ljava/util/Collection;)Ljava/util/List;" } : Jvm.MethodName) jdk_56_method_3_code (2 : Nat) (Option.some (Jvm.ClassFile.FieldType.object "java/util/List"))).before args0 about1 = true := code_word (m := ⟨20, 1⟩) (meth := k20m1) (c := k20c1) (by decide +kernel) rfl rfl rfl (by decide +kernel)
set_option maxRecDepth 65536 in
theorem w_c9 : (Jvm.Cond.code ({ cls := "java/util/ArrayList", name := "isEmpty", desc := "()Z" } : Jvm.MethodName) jdk_38_method_9_code (1 : Nat) (Option.some Jvm.ClassFile.FieldType.boolean)).before args0 about1 = true := code_word (m := ⟨17, 3⟩) (meth := k17m3) (c := k17c3) (by decide +kernel) rfl rfl rfl (by decide +kernel)
set_option maxRecDepth 65536 in
theorem w_c10 : (Jvm.Cond.code ({ cls := "java/util/List", name := "of", desc := "()Ljava/util/List;" } : Jvm.MethodName) jdk_40_method_36_code (0 : Nat) (Option.some (Jvm.ClassFile.FieldType.object "java/util/List"))).before args0 about1 = true := code_word (m := ⟨13, 2⟩) (meth := k13m2) (c := k13c2) (by decide +kernel) rfl rfl rfl (by decide +kernel)
set_option maxRecDepth 65536 in
theorem w_c11 : (Jvm.Cond.code ({ cls := "com/example/tidemark/tidemark/Page", name := "<init>", desc := "(Ljava/util/List;Ljava/lang/Object;)V" } : Jvm.MethodName) prog_22_method_1_code (3 : Nat) (Option.none : Option Jvm.ClassFile.FieldType)).before args0 about1 = true := code_word (m := ⟨19, 0⟩) (meth := k19m0) (c := k19c0) (by decide +kernel) rfl rfl rfl (by decide +kernel)
set_option maxRecDepth 65536 in
theorem w_c12 : (Jvm.Cond.code ({ cls := "java/lang/Record", name := "<init>", desc := "()V" } : Jvm.MethodName) jdk_30_method_1_code (1 : Nat) (Option.none : Option Jvm.ClassFile.FieldType)).before args0 about1 = true := code_word (m := ⟨18, 0⟩) (meth := k18m0) (c := k18c0) (by decide +kernel) rfl rfl rfl (by decide +kernel)
set_option maxRecDepth 65536 in
theorem w_c13 : (Jvm.Cond.code ({ cls := "java/util/ArrayList", name := "add", desc := "(Ljava/lang/Object;)Z" } : Jvm.MethodName) jdk_38_method_25_code (2 : Nat) (Option.some Jvm.ClassFile.FieldType.boolean)).before args0 about1 = true := code_word (m := ⟨17, 6⟩) (meth := k17m6) (c := k17c6) (by decide +kernel) rfl rfl rfl (by decide +kernel)
set_option maxRecDepth 65536 in
theorem w_c14 : (Jvm.Cond.code ({ cls := "java/util/ArrayList", name := "add", desc := "(Ljava/lang/Object;[Ljava/lang/Object;I)V" } : Jvm.MethodName) jdk_38_method_24_code (4 : Nat) (Option.none : Option Jvm.ClassFile.FieldType)).before args0 about1 = true := code_word (m := ⟨17, 5⟩) (meth := k17m5) (c := k17c5) (by decide +kernel) rfl rfl rfl (by decide +kernel)
set_option maxRecDepth 65536 in
theorem w_c15 : (Jvm.Cond.code ({ cls := "java/util/ArrayList", name := "grow", desc := "()[Ljava/lang/Object;" } : Jvm.MethodName) jdk_38_method_7_code (1 : Nat) (Option.some (Jvm.ClassFile.FieldType.array (Jvm.ClassFile.FieldType.object "java/lang/Object")))).before args0 about1 = true := code_word (m := ⟨17, 2⟩) (meth := k17m2) (c := k17c2) (by decide +kernel) rfl rfl rfl (by decide +kernel)
set_option maxRecDepth 65536 in
theorem w_c16 : (Jvm.Cond.code ({ cls := "java/util/ArrayList", name := "grow", desc := "(I)[Ljava/lang/Object;" } : Jvm.MethodName) jdk_38_method_6_code (4 : Nat) (Option.some (Jvm.ClassFile.FieldType.array (Jvm.ClassFile.FieldType.object "java/lang/Object")))).before args0 about1 = true := code_word (m := ⟨17, 1⟩) (meth := k17m1) (c := k17c1) (by decide +kernel) rfl rfl rfl (by decide +kernel)
set_option maxRecDepth 65536 in
theorem w_c17 : (Jvm.Cond.code ({ cls := "java/lang/Math", name := "max", desc := "(II)I" } : Jvm.MethodName) jdk_29_method_65_code (2 : Nat) (Option.some Jvm.ClassFile.FieldType.int)).before args0 about1 = true := code_word (m := ⟨25, 1⟩) (meth := k25m1) (c := k25c1) (by decide +kernel) rfl rfl rfl (by decide +kernel)
set_option maxRecDepth 65536 in
theorem w_c18 : (Jvm.Cond.code ({ cls := "com/example/tidemark/tidemark/Page", name := "items", desc := "()Ljava/util/List;" } : Jvm.MethodName) prog_22_method_6_code (1 : Nat) (Option.some (Jvm.ClassFile.FieldType.object "java/util/List"))).before args0 about1 = true := code_word (m := ⟨19, 2⟩) (meth := k19m2) (c := k19c2) (by decide +kernel) rfl rfl rfl (by decide +kernel)
set_option maxRecDepth 65536 in
theorem w_c19 : (Jvm.Cond.code ({ cls := "java/util/ImmutableCollections$ListN", name := "size", desc := "()I" } : Jvm.MethodName) jdk_45_method_3_code (1 : Nat) (Option.some Jvm.ClassFile.FieldType.int)).before args0 about1 = true := code_word (m := ⟨24, 1⟩) (meth := k24m1) (c := k24c1) (by decide +kernel) rfl rfl rfl (by decide +kernel)
set_option maxRecDepth 65536 in
theorem w_c20 : (Jvm.Cond.code ({ cls := "com/example/tidemark/tidemark/Page", name := "nextKey", desc := "()Ljava/lang/Object;" } : Jvm.MethodName) prog_22_method_7_code (1 : Nat) (Option.some (Jvm.ClassFile.FieldType.object "java/lang/Object"))).before args0 about1 = true := code_word (m := ⟨19, 3⟩) (meth := k19m3) (c := k19c3) (by decide +kernel) rfl rfl rfl (by decide +kernel)
set_option maxRecDepth 65536 in
theorem w_c21 : (Jvm.Cond.code ({ cls := "java/lang/Integer", name := "intValue", desc := "()I" } : Jvm.MethodName) jdk_33_method_27_code (1 : Nat) (Option.some Jvm.ClassFile.FieldType.int)).before args0 about1 = true := code_word (m := ⟨7, 2⟩) (meth := k7m2) (c := k7c2) (by decide +kernel) rfl rfl rfl (by decide +kernel)
set_option maxRecDepth 65536 in
theorem w_c22 : (Jvm.Cond.code ({ cls := "java/util/ArrayList", name := "toArray", desc := "()[Ljava/lang/Object;" } : Jvm.MethodName) jdk_38_method_16_code (1 : Nat) (Option.some (Jvm.ClassFile.FieldType.array (Jvm.ClassFile.FieldType.object "java/lang/Object")))).before args0 about1 = true := code_word (m := ⟨17, 4⟩) (meth := k17m4) (c := k17c4) (by decide +kernel) rfl rfl rfl (by decide +kernel)
set_option maxRecDepth 65536 in
theorem w_c23 : (Jvm.Cond.code ({ cls := "java/util/Arrays", name := "copyOf", desc := "([Ljava/lang/Object;I)[Ljava/lang/Object;" } : Jvm.MethodName) jdk_65_method_119_code (2 : Nat) (Option.some (Jvm.ClassFile.FieldType.array (Jvm.ClassFile.FieldType.object "java/lang/Object")))).before args0 about1 = true := code_word (m := ⟨26, 1⟩) (meth := k26m1) (c := k26c1) (by decide +kernel) rfl rfl rfl (by decide +kernel)
set_option maxRecDepth 65536 in
theorem w_c24 : (Jvm.Cond.code ({ cls := "java/util/Arrays", name := "copyOf", desc := "([Ljava/lang/Object;ILjava/lang/Class;)[Ljava/lang/Object;" } : Jvm.MethodName) jdk_65_method_120_code (4 : Nat) (Option.some (Jvm.ClassFile.FieldType.array (Jvm.ClassFile.FieldType.object "java/lang/Object")))).before args0 about1 = true := code_word (m := ⟨26, 2⟩) (meth := k26m2) (c := k26c2) (by decide +kernel) rfl rfl rfl (by decide +kernel)
set_option maxRecDepth 65536 in
theorem w_c25 : (Jvm.Cond.code ({ cls := "java/lang/Math", name := "min", desc := "(II)I" } : Jvm.MethodName) jdk_29_method_69_code (2 : Nat) (Option.some Jvm.ClassFile.FieldType.int)).before args0 about1 = true := code_word (m := ⟨25, 2⟩) (meth := k25m2) (c := k25c2) (by decide +kernel) rfl rfl rfl (by decide +kernel)
set_option maxRecDepth 65536 in
theorem w_c26 : (Jvm.Cond.code ({ cls := "java/util/List", name := "of", desc := "([Ljava/lang/Object;)Ljava/util/List;" } : Jvm.MethodName) jdk_40_method_47_code (2 : Nat) (Option.some (Jvm.ClassFile.FieldType.object "java/util/List"))).before args0 about1 = true := code_word (m := ⟨13, 3⟩) (meth := k13m3) (c := k13c3) (by decide +kernel) rfl rfl rfl (by decide +kernel)
set_option maxRecDepth 65536 in
theorem w_c27 : (Jvm.Cond.code ({ cls := "java/util/ImmutableCollections$List12", name := "<init>", desc := "(Ljava/lang/Object;)V" } : Jvm.MethodName) jdk_44_method_1_code (2 : Nat) (Option.none : Option Jvm.ClassFile.FieldType)).before args0 about1 = true := code_word (m := ⟨23, 0⟩) (meth := k23m0) (c := k23c0) (by decide +kernel) rfl rfl rfl (by decide +kernel)
set_option maxRecDepth 65536 in
theorem w_c28 : (Jvm.Cond.code ({ cls := "java/util/ImmutableCollections$AbstractImmutableList", name := "<init>", desc := "()V" } : Jvm.MethodName) jdk_46_method_1_code (1 : Nat) (Option.none : Option Jvm.ClassFile.FieldType)).before args0 about1 = true := code_word (m := ⟨22, 0⟩) (meth := k22m0) (c := k22c0) (by decide +kernel) rfl rfl rfl (by decide +kernel)
set_option maxRecDepth 65536 in
theorem w_c29 : (Jvm.Cond.code ({ cls := "java/util/ImmutableCollections$AbstractImmutableCollection", name := "<init>", desc := "()V" } : Jvm.MethodName) jdk_47_method_1_code (1 : Nat) (Option.none : Option Jvm.ClassFile.FieldType)).before args0 about1 = true := code_word (m := ⟨21, 0⟩) (meth := k21m0) (c := k21c0) (by decide +kernel) rfl rfl rfl (by decide +kernel)
set_option maxRecDepth 65536 in
theorem w_c30 : (Jvm.Cond.code ({ cls := "java/util/Objects", name := "requireNonNull", desc := "(Ljava/lang/Object;)Ljava/lang/Object;" } : Jvm.MethodName) jdk_31_method_10_code (1 : Nat) (Option.some (Jvm.ClassFile.FieldType.object "java/lang/Object"))).before args0 about1 = true := code_word (m := ⟨28, 1⟩) (meth := k28m1) (c := k28c1) (by decide +kernel) rfl rfl rfl (by decide +kernel)
set_option maxRecDepth 65536 in
theorem w_c31 : (Jvm.Cond.code ({ cls := "java/lang/Integer", name := "<init>", desc := "(I)V" } : Jvm.MethodName) jdk_33_method_23_code (2 : Nat) (Option.none : Option Jvm.ClassFile.FieldType)).before args0 about1 = true := code_word (m := ⟨7, 1⟩) (meth := k7m1) (c := k7c1) (by decide +kernel) rfl rfl rfl (by decide +kernel)
set_option maxRecDepth 65536 in
theorem w_c32 : (Jvm.Cond.code ({ cls := "java/lang/Number", name := "<init>", desc := "()V" } : Jvm.MethodName) jdk_18_method_1_code (1 : Nat) (Option.none : Option Jvm.ClassFile.FieldType)).before args0 about1 = true := code_word (m := ⟨3, 0⟩) (meth := k3m0) (c := k3c0) (by decide +kernel) rfl rfl rfl (by decide +kernel)
set_option maxRecDepth 65536 in
theorem w_c33 : (Jvm.Cond.code ({ cls := "java/util/ImmutableCollections$List12", name := "size", desc := "()I" } : Jvm.MethodName) jdk_44_method_3_code (1 : Nat) (Option.some Jvm.ClassFile.FieldType.int)).before args0 about1 = true := code_word (m := ⟨23, 2⟩) (meth := k23m2) (c := k23c2) (by decide +kernel) rfl rfl rfl (by decide +kernel)
set_option maxRecDepth 65536 in
theorem w_c34 : (Jvm.Cond.code ({ cls := "java/util/ImmutableCollections$List12", name := "get", desc := "(I)Ljava/lang/Object;" } : Jvm.MethodName) jdk_44_method_5_code (2 : Nat) (Option.some (Jvm.ClassFile.FieldType.object "java/lang/Object"))).before args0 about1 = true := code_word (m := ⟨23, 3⟩) (meth := k23m3) (c := k23c3) (by decide +kernel) rfl rfl rfl (by decide +kernel)
set_option maxRecDepth 65536 in
theorem w_c35 : (Jvm.Cond.code ({ cls := "java/util/ImmutableCollections", name := "listFromArray", desc := "([Ljava/lang/Object;)Ljava/util/List;" } : Jvm.MethodName) jdk_56_method_4_code (3 : Nat) (Option.some (Jvm.ClassFile.FieldType.object "java/util/List"))).before args0 about1 = true := code_word (m := ⟨20, 2⟩) (meth := k20m2) (c := k20c2) (by decide +kernel) rfl rfl rfl (by decide +kernel)
set_option maxRecDepth 65536 in
theorem w_c36 : (Jvm.Cond.code ({ cls := "java/util/ImmutableCollections$ListN", name := "<init>", desc := "([Ljava/lang/Object;Z)V" } : Jvm.MethodName) jdk_45_method_1_code (3 : Nat) (Option.none : Option Jvm.ClassFile.FieldType)).before args0 about1 = true := code_word (m := ⟨24, 0⟩) (meth := k24m0) (c := k24c0) (by decide +kernel) rfl rfl rfl (by decide +kernel)
set_option maxRecDepth 65536 in
theorem w_c37 : (Jvm.Cond.code ({ cls := "java/util/ImmutableCollections$ListN", name := "get", desc := "(I)Ljava/lang/Object;" } : Jvm.MethodName) jdk_45_method_4_code (2 : Nat) (Option.some (Jvm.ClassFile.FieldType.object "java/lang/Object"))).before args0 about1 = true := code_word (m := ⟨24, 2⟩) (meth := k24m2) (c := k24c2) (by decide +kernel) rfl rfl rfl (by decide +kernel)
set_option maxRecDepth 65536 in
theorem w_c38 : (Jvm.Cond.code ({ cls := "java/util/ImmutableCollections$List12", name := "<init>", desc := "(Ljava/lang/Object;Ljava/lang/Object;)V" } : Jvm.MethodName) jdk_44_method_2_code (3 : Nat) (Option.none : Option Jvm.ClassFile.FieldType)).before args0 about1 = true := code_word (m := ⟨23, 1⟩) (meth := k23m1) (c := k23c1) (by decide +kernel) rfl rfl rfl (by decide +kernel)
def codes1 : List Jvm.Cond := [Jvm.Cond.code x code maxLocals ret, Jvm.Cond.code ({ cls := "java/lang/Integer", name := "valueOf", desc := "(I)Ljava/lang/Integer;" } : Jvm.MethodName) jdk_33_method_22_code (1 : Nat) (Option.some (Jvm.ClassFile.FieldType.object "java/lang/Integer")), Jvm.Cond.code ({ cls := "java/util/ArrayList", name := "<init>", desc := "()V" } : Jvm.MethodName) jdk_38_method_2_code (1 : Nat) (Option.none : Option Jvm.ClassFile.FieldType), Jvm.Cond.code ({ cls := "java/util/AbstractList", name := "<init>", desc := "()V" } : Jvm.MethodName) jdk_39_method_1_code (1 : Nat) (Option.none : Option Jvm.ClassFile.FieldType), Jvm.Cond.code ({ cls := "java/util/AbstractCollection", name := "<init>", desc := "()V" } : Jvm.MethodName) jdk_22_method_1_code (1 : Nat) (Option.none : Option Jvm.ClassFile.FieldType), Jvm.Cond.code ({ cls := "java/lang/Object", name := "<init>", desc := "()V" } : Jvm.MethodName) object_method_1_code (1 : Nat) (Option.none : Option Jvm.ClassFile.FieldType), Jvm.Cond.code ({ cls := "com/example/tidemark/tidemark/Page", name := "of", desc := "(Ljava/util/List;Ljava/lang/Object;)Lcom/example/tidemark/tidemark/Page;" } : Jvm.MethodName) prog_22_method_2_code (2 : Nat) (Option.some (Jvm.ClassFile.FieldType.object "com/example/tidemark/tidemark/Page")), Jvm.Cond.code ({ cls := "java/util/List", name := "copyOf", desc := "(Ljava/util/Collection;)Ljava/util/List;" } : Jvm.MethodName) jdk_40_method_48_code (1 : Nat) (Option.some (Jvm.ClassFile.FieldType.object "java/util/List")), Jvm.Cond.code ({ cls := "java/util/ImmutableCollections", name := "listCopy", desc := "(Ljava/util/Collection;)Ljava/util/List;" } : Jvm.MethodName) jdk_56_method_3_code (2 : Nat) (Option.some (Jvm.ClassFile.FieldType.object "java/util/List")), Jvm.Cond.code ({ cls := "java/util/ArrayList", name := "isEmpty", desc := "()Z" } : Jvm.MethodName) jdk_38_method_9_code (1 : Nat) (Option.some Jvm.ClassFile.FieldType.boolean), Jvm.Cond.code ({ cls := "java/util/List", name := "of", desc := "()Ljava/util/List;" } : Jvm.MethodName) jdk_40_method_36_code (0 : Nat) (Option.some (Jvm.ClassFile.FieldType.object "java/util/List")), Jvm.Cond.code ({ cls := "com/example/tidemark/tidemark/Page", name := "<init>", desc := "(Ljava/util/List;Ljava/lang/Object;)V" } : Jvm.MethodName) prog_22_method_1_code (3 : Nat) (Option.none : Option Jvm.ClassFile.FieldType), Jvm.Cond.code ({ cls := "java/lang/Record", name := "<init>", desc := "()V" } : Jvm.MethodName) jdk_30_method_1_code (1 : Nat) (Option.none : Option Jvm.ClassFile.FieldType), Jvm.Cond.code ({ cls := "java/util/ArrayList", name := "add", desc := "(Ljava/lang/Object;)Z" } : Jvm.MethodName) jdk_38_method_25_code (2 : Nat) (Option.some Jvm.ClassFile.FieldType.boolean), Jvm.Cond.code ({ cls := "java/util/ArrayList", name := "add", desc := "(Ljava/lang/Object;[Ljava/lang/Object;I)V" } : Jvm.MethodName) jdk_38_method_24_code (4 : Nat) (Option.none : Option Jvm.ClassFile.FieldType), Jvm.Cond.code ({ cls := "java/util/ArrayList", name := "grow", desc := "()[Ljava/lang/Object;" } : Jvm.MethodName) jdk_38_method_7_code (1 : Nat) (Option.some (Jvm.ClassFile.FieldType.array (Jvm.ClassFile.FieldType.object "java/lang/Object"))), Jvm.Cond.code ({ cls := "java/util/ArrayList", name := "grow", desc := "(I)[Ljava/lang/Object;" } : Jvm.MethodName) jdk_38_method_6_code (4 : Nat) (Option.some (Jvm.ClassFile.FieldType.array (Jvm.ClassFile.FieldType.object "java/lang/Object"))), Jvm.Cond.code ({ cls := "java/lang/Math", name := "max", desc := "(II)I" } : Jvm.MethodName) jdk_29_method_65_code (2 : Nat) (Option.some Jvm.ClassFile.FieldType.int), Jvm.Cond.code ({ cls := "com/example/tidemark/tidemark/Page", name := "items", desc := "()Ljava/util/List;" } : Jvm.MethodName) prog_22_method_6_code (1 : Nat) (Option.some (Jvm.ClassFile.FieldType.object "java/util/List")), Jvm.Cond.code ({ cls := "java/util/ImmutableCollections$ListN", name := "size", desc := "()I" } : Jvm.MethodName) jdk_45_method_3_code (1 : Nat) (Option.some Jvm.ClassFile.FieldType.int), Jvm.Cond.code ({ cls := "com/example/tidemark/tidemark/Page", name := "nextKey", desc := "()Ljava/lang/Object;" } : Jvm.MethodName) prog_22_method_7_code (1 : Nat) (Option.some (Jvm.ClassFile.FieldType.object "java/lang/Object")), Jvm.Cond.code ({ cls := "java/lang/Integer", name := "intValue", desc := "()I" } : Jvm.MethodName) jdk_33_method_27_code (1 : Nat) (Option.some Jvm.ClassFile.FieldType.int), Jvm.Cond.code ({ cls := "java/util/ArrayList", name := "toArray", desc := "()[Ljava/lang/Object;" } : Jvm.MethodName) jdk_38_method_16_code (1 : Nat) (Option.some (Jvm.ClassFile.FieldType.array (Jvm.ClassFile.FieldType.object "java/lang/Object"))), Jvm.Cond.code ({ cls := "java/util/Arrays", name := "copyOf", desc := "([Ljava/lang/Object;I)[Ljava/lang/Object;" } : Jvm.MethodName) jdk_65_method_119_code (2 : Nat) (Option.some (Jvm.ClassFile.FieldType.array (Jvm.ClassFile.FieldType.object "java/lang/Object"))), Jvm.Cond.code ({ cls := "java/util/Arrays", name := "copyOf", desc := "([Ljava/lang/Object;ILjava/lang/Class;)[Ljava/lang/Object;" } : Jvm.MethodName) jdk_65_method_120_code (4 : Nat) (Option.some (Jvm.ClassFile.FieldType.array (Jvm.ClassFile.FieldType.object "java/lang/Object"))), Jvm.Cond.code ({ cls := "java/lang/Math", name := "min", desc := "(II)I" } : Jvm.MethodName) jdk_29_method_69_code (2 : Nat) (Option.some Jvm.ClassFile.FieldType.int), Jvm.Cond.code ({ cls := "java/util/List", name := "of", desc := "([Ljava/lang/Object;)Ljava/util/List;" } : Jvm.MethodName) jdk_40_method_47_code (2 : Nat) (Option.some (Jvm.ClassFile.FieldType.object "java/util/List")), Jvm.Cond.code ({ cls := "java/util/ImmutableCollections$List12", name := "<init>", desc := "(Ljava/lang/Object;)V" } : Jvm.MethodName) jdk_44_method_1_code (2 : Nat) (Option.none : Option Jvm.ClassFile.FieldType), Jvm.Cond.code ({ cls := "java/util/ImmutableCollections$AbstractImmutableList", name := "<init>", desc := "()V" } : Jvm.MethodName) jdk_46_method_1_code (1 : Nat) (Option.none : Option Jvm.ClassFile.FieldType), Jvm.Cond.code ({ cls := "java/util/ImmutableCollections$AbstractImmutableCollection", name := "<init>", desc := "()V" } : Jvm.MethodName) jdk_47_method_1_code (1 : Nat) (Option.none : Option Jvm.ClassFile.FieldType), Jvm.Cond.code ({ cls := "java/util/Objects", name := "requireNonNull", desc := "(Ljava/lang/Object;)Ljava/lang/Object;" } : Jvm.MethodName) jdk_31_method_10_code (1 : Nat) (Option.some (Jvm.ClassFile.FieldType.object "java/lang/Object")), Jvm.Cond.code ({ cls := "java/lang/Integer", name := "<init>", desc := "(I)V" } : Jvm.MethodName) jdk_33_method_23_code (2 : Nat) (Option.none : Option Jvm.ClassFile.FieldType), Jvm.Cond.code ({ cls := "java/lang/Number", name := "<init>", desc := "()V" } : Jvm.MethodName) jdk_18_method_1_code (1 : Nat) (Option.none : Option Jvm.ClassFile.FieldType), Jvm.Cond.code ({ cls := "java/util/ImmutableCollections$List12", name := "size", desc := "()I" } : Jvm.MethodName) jdk_44_method_3_code (1 : Nat) (Option.some Jvm.ClassFile.FieldType.int), Jvm.Cond.code ({ cls := "java/util/ImmutableCollections$List12", name := "get", desc := "(I)Ljava/lang/Object;" } : Jvm.MethodName) jdk_44_method_5_code (2 : Nat) (Option.some (Jvm.ClassFile.FieldType.object "java/lang/Object")), Jvm.Cond.code ({ cls := "java/util/ImmutableCollections", name := "listFromArray", desc := "([Ljava/lang/Object;)Ljava/util/List;" } : Jvm.MethodName) jdk_56_method_4_code (3 : Nat) (Option.some (Jvm.ClassFile.FieldType.object "java/util/List")), Jvm.Cond.code ({ cls := "java/util/ImmutableCollections$ListN", name := "<init>", desc := "([Ljava/lang/Object;Z)V" } : Jvm.MethodName) jdk_45_method_1_code (3 : Nat) (Option.none : Option Jvm.ClassFile.FieldType), Jvm.Cond.code ({ cls := "java/util/ImmutableCollections$ListN", name := "get", desc := "(I)Ljava/lang/Object;" } : Jvm.MethodName) jdk_45_method_4_code (2 : Nat) (Option.some (Jvm.ClassFile.FieldType.object "java/lang/Object")), Jvm.Cond.code ({ cls := "java/util/ImmutableCollections$List12", name := "<init>", desc := "(Ljava/lang/Object;Ljava/lang/Object;)V" } : Jvm.MethodName) jdk_44_method_2_code (3 : Nat) (Option.none : Option Jvm.ClassFile.FieldType)]
set_option maxRecDepth 65536 in
theorem codes_eq : words1.filter isCode = codes1 := rfl
theorem w_codes : ∀ c ∈ words1.filter isCode, c.before args0 about1 = true := by
  rw [codes_eq]
  intro c hc
  simp only [codes1, List.mem_cons, List.not_mem_nil, or_false] at hc
  rcases hc with rfl | rfl | rfl | rfl | rfl | rfl | rfl | rfl | rfl | rfl | rfl | rfl | rfl | rfl | rfl | rfl | rfl | rfl | rfl | rfl | rfl | rfl | rfl | rfl | rfl | rfl | rfl | rfl | rfl | rfl | rfl | rfl | rfl | rfl | rfl | rfl | rfl | rfl | rfl
  · exact w_c0
  · exact w_c1
  · exact w_c2
  · exact w_c3
  · exact w_c4
  · exact w_c5
  · exact w_c6
  · exact w_c7
  · exact w_c8
  · exact w_c9
  · exact w_c10
  · exact w_c11
  · exact w_c12
  · exact w_c13
  · exact w_c14
  · exact w_c15
  · exact w_c16
  · exact w_c17
  · exact w_c18
  · exact w_c19
  · exact w_c20
  · exact w_c21
  · exact w_c22
  · exact w_c23
  · exact w_c24
  · exact w_c25
  · exact w_c26
  · exact w_c27
  · exact w_c28
  · exact w_c29
  · exact w_c30
  · exact w_c31
  · exact w_c32
  · exact w_c33
  · exact w_c34
  · exact w_c35
  · exact w_c36
  · exact w_c37
  · exact w_c38
set_option maxRecDepth 65536 in
theorem w_t1 : (words1.take 24).all (fun c => isCode c || c.before args0 about1) = true := by decide +kernel
set_option maxRecDepth 65536 in
theorem w_t2 : ((words1.drop 24).take 24).all (fun c => isCode c || c.before args0 about1) = true := by decide +kernel
set_option maxRecDepth 65536 in
theorem w_t3 : (((words1.drop 24).drop 24).take 24).all (fun c => isCode c || c.before args0 about1) = true := by decide +kernel
set_option maxRecDepth 65536 in
theorem w_t4 : ((((words1.drop 24).drop 24).drop 24).take 24).all (fun c => isCode c || c.before args0 about1) = true := by decide +kernel
set_option maxRecDepth 65536 in
theorem w_t5 : (((((words1.drop 24).drop 24).drop 24).drop 24).take 24).all (fun c => isCode c || c.before args0 about1) = true := by decide +kernel
set_option maxRecDepth 65536 in
theorem w_t6 : ((((((words1.drop 24).drop 24).drop 24).drop 24).drop 24).take 24).all (fun c => isCode c || c.before args0 about1) = true := by decide +kernel
set_option maxRecDepth 65536 in
theorem w_t7 : (((((((words1.drop 24).drop 24).drop 24).drop 24).drop 24).drop 24).take 24).all (fun c => isCode c || c.before args0 about1) = true := by decide +kernel
set_option maxRecDepth 65536 in
theorem w_t8 : ((((((((words1.drop 24).drop 24).drop 24).drop 24).drop 24).drop 24).drop 24).take 24).all (fun c => isCode c || c.before args0 about1) = true := by decide +kernel
set_option maxRecDepth 65536 in
theorem w_t9 : (((((((((words1.drop 24).drop 24).drop 24).drop 24).drop 24).drop 24).drop 24).drop 24).take 24).all (fun c => isCode c || c.before args0 about1) = true := by decide +kernel
set_option maxRecDepth 65536 in
theorem w_t10 : ((((((((((words1.drop 24).drop 24).drop 24).drop 24).drop 24).drop 24).drop 24).drop 24).drop 24).take 24).all (fun c => isCode c || c.before args0 about1) = true := by decide +kernel
set_option maxRecDepth 65536 in
theorem w_t11 : ((((((((((words1.drop 24).drop 24).drop 24).drop 24).drop 24).drop 24).drop 24).drop 24).drop 24).drop 24).all (fun c => isCode c || c.before args0 about1) = true := by decide +kernel
theorem w_tables : (allAtoms (Jvm.Cond.code x code maxLocals ret :: tables_1)).before args0 about1 = true := by
  rw [allAtoms_all]
  show words1.all (fun c => c.before args0 about1) = true
  refine all_split ?_ w_codes
  rw [← List.take_append_drop 24 words1, List.all_append, w_t1, ← List.take_append_drop 24 (words1.drop 24), List.all_append, w_t2, ← List.take_append_drop 24 ((words1.drop 24).drop 24), List.all_append, w_t3, ← List.take_append_drop 24 (((words1.drop 24).drop 24).drop 24), List.all_append, w_t4, ← List.take_append_drop 24 ((((words1.drop 24).drop 24).drop 24).drop 24), List.all_append, w_t5, ← List.take_append_drop 24 (((((words1.drop 24).drop 24).drop 24).drop 24).drop 24), List.all_append, w_t6, ← List.take_append_drop 24 ((((((words1.drop 24).drop 24).drop 24).drop 24).drop 24).drop 24), List.all_append, w_t7, ← List.take_append_drop 24 (((((((words1.drop 24).drop 24).drop 24).drop 24).drop 24).drop 24).drop 24), List.all_append, w_t8, ← List.take_append_drop 24 ((((((((words1.drop 24).drop 24).drop 24).drop 24).drop 24).drop 24).drop 24).drop 24), List.all_append, w_t9, ← List.take_append_drop 24 (((((((((words1.drop 24).drop 24).drop 24).drop 24).drop 24).drop 24).drop 24).drop 24).drop 24), List.all_append, w_t10, w_t11]
  rfl
set_option maxRecDepth 65536 in
theorem w_rest : rest_1_c.before args0 about1 = true := by decide +kernel
set_option maxRecDepth 65536 in
theorem w_case : (Jvm.Cond.and given_1 narrow_1).before args0 about1 = true := by decide +kernel
theorem w_applies : (headSpec (Jvm.Cond.code x code maxLocals ret :: tables_1) room_1).applies x e0.platform about1 = true :=
  (Spec.applies_iff w_frames).mpr ⟨w_running, w_runnable, w_alone, w_named, w_hears, w_ripe, w_room, w_tables⟩
set_option maxRecDepth 65536 in
theorem atStart : AtStart classFile x code maxLocals ret World_1 tables_1 room_1 Calls_1 rest_1 Pre_1 launch0 p0 e0 about1 theMethod args0 below0 :=
  ⟨lists_1, trivial, launch0.admits_env _ _ _, launch0.least_env, fairChoices_fair.cas, fairChoices_fair.clock, w_frames, w_args, w_heap, w_applies, ⟨⟨35, k35, 3, by decide +kernel, rfl, rfl, _, rfl, rfl⟩, trivial⟩, w_rest, w_case⟩
end start1
theorem witness_1 : WitnessClaimed_1 := ⟨start1.p0, start1.e0, start1.about1, start1.theMethod, start1.args0, start1.below0, start1.atStart⟩
end Jvm.Pilot.@@N@@
