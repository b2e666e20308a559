import JvmDerived
import JvmDerived.Pilot.@@N@@Statement
import JvmDerived.Pilot.@@N@@Code
set_option linter.unusedVariables false
set_option linter.unusedSimpArgs false
namespace Jvm.Pilot.@@N@@
open Jvm Jvm.ClassFile Sem Op Lib Jvm.Free Jvm.Stand Jvm.LawKit Jvm.RoadKit Bundle Jvm.Pilot.@@N@@.Jvm.D
/-! OWN PRELUDE (the same text in every proof of this seat): the walk as a goal that goes forward -/
section OwnPrelude
variable {En : State → Outcome → State → List Loc → Nat → Nat → Prop}
variable {Z : State} {hs : Heap} {W : List Addr} {own : String} {bytes : ByteArray} {maxL : Nat} {ret : Option FieldType} {nm : String}
  {p : Program} {l : Launch} {e : Env} {R : Room} {s : State} {m : MethodId} {args : Array Value} {below : List Frame} {meth : Method} {c : Code}
  {T : State} {h : Heap} {cells slots : Nat} {k n : Nat} {Q : Option Value → Heap → Prop} {a0 : Array Value} {pc : Nat} {Ls : Array Slot} {st rest : List Value}

/-- what stays the same while one body is walked -/
def own_G (Z : State) (hs : Heap) (W : List Addr) (own : String) (bytes : ByteArray) (maxL : Nat) (ret : Option FieldType) (nm : String) (p : Program) (s : State) (m : MethodId) (meth : Method) (c : Code) : Prop :=
  p.tables.exec = Jvm.exec ∧ Z.Warmed39 s.vm ∧ s.vm.findClass own = some m.cls ∧ c.code = bytes ∧ c.maxLocals = maxL ∧ meth.sig.returnType = ret ∧ meth.locks = false ∧ meth.name = nm ∧ Ext Z.heap hs ∧ ∀ a ∈ W, Z.heap.size ≤ a
/-- where the walk stands: state T, heap h, so many cells and slots made; nothing old but W was written -/
def own_S (Z : State) (hs : Heap) (W : List Addr) (own : String) (bytes : ByteArray) (maxL : Nat) (ret : Option FieldType) (nm : String) (p : Program) (l : Launch) (e : Env) (R : Room) (s : State) (m : MethodId) (args : Array Value) (below : List Frame) (meth : Method) (c : Code)
    (T : State) (h : Heap) (cells slots : Nat) : Prop :=
  own_G Z hs W own bytes maxL ret nm p s m meth c ∧ ∃ locs, Stand p l e R s m args below meth c T locs cells slots ∧ Fr Z.heap.size locs ∧ T.heap = h ∧ Keep hs h W
/-- from A the call comes to its end, and there Q holds -/
def own_F (En : State → Outcome → State → List Loc → Nat → Nat → Prop) (p : Program) (e : Env) (below : List Frame) (s : State) (Z : State) (hs : Heap) (W : List Addr) (k n : Nat) (Q : Option Value → Heap → Prop) (A : State) : Prop :=
  ∃ s₂ o, Steps p.tables e below A s₂ ∧ s₂.status = .running ∧ Ended s₂ below o ∧ ∃ v L, o = .returned v ∧ (Fr Z.heap.size L ∧ Keep hs s₂.heap W ∧ Q v s₂.heap) ∧ En s o s₂ L k n
/-- a body's contract -/
def own_C (l : Launch) (Z : State) (y : MethodName) (bytes : ByteArray) (maxL : Nat) (ret : Option FieldType) (ws : List Jvm.Cond) (rm : Room) (W : List Addr) (as' : Array Value) (h0 : Heap) (Q : Option Value → Heap → Prop) : Prop :=
  MetFree l y (head1 (Jvm.Cond.code y bytes maxL ret :: ws) rm) (fun a U => a = as' ∧ Z.Warmed39 U.vm ∧ U.heap = h0) (fun _ _ _ _ _ => True)
    (fun _ U o U' => ∃ v L, o = .returned v ∧ (Fr Z.heap.size L ∧ Keep h0 U'.heap W ∧ Q v U'.heap) ∧ FrameEnd U o U' L rm.cells rm.slots)

theorem own_C.of {y : MethodName} {ws : List Jvm.Cond} {rm : Room} {as' : Array Value} {h0 : Heap} (hpl : plainFor y = true) (hO : Ext Z.heap h0) (hW : ∀ a ∈ W, Z.heap.size ≤ a)
    (body : ∀ p e s m below meth c T, own_S Z h0 W y.cls bytes maxL ret y.name p l e rm s m as' below meth c T h0 0 0 → own_F FrameEnd p e below s Z h0 W rm.cells rm.slots Q (T.setTop (entryFrame m as' maxL))) :
    own_C l Z y bytes maxL ret ws rm W as' h0 Q := by
  refine MetFree.of_bodySF hpl hisR ?_
  intro p e s m args below meth c s₁ Bd hml hP hK
  obtain ⟨rfl, hZ, hh⟩ := hP
  exact body p e s m below meth c s₁ ⟨⟨Bd.exec, hZ, findClass_of_methodNamed Bd.named, Bd.bytes, hml, Bd.returns, Bd.notSynchronized, (name_of_methodNamed Bd.named Bd.method).1, hO, hW⟩, [], Stand.of_body Bd, Fr.nil _, (by rw [← hh, Bd.state]; rfl), Keep.refl _ _⟩

theorem own_F.of {A B : State} (h : ∀ t, Steps p.tables e below B t → Steps p.tables e below A t) (f : own_F En p e below s Z hs W k n Q B) : own_F En p e below s Z hs W k n Q A := by
  obtain ⟨s₂, o, h1, r⟩ := f
  exact ⟨s₂, o, h _ h1, r⟩
theorem own_F.to {A B : State} (h : Steps p.tables e below A B) (f : own_F En p e below s Z hs W k n Q B) : own_F En p e below s Z hs W k n Q A := own_F.of (fun _ => h.trans) f
theorem own_F.cast {g g' : JFrame} (q : g = g') (f : own_F En p e below s Z hs W k n Q (T.setTop g')) : own_F En p e below s Z hs W k n Q (T.setTop g) := q ▸ f
theorem own_F.mono {A : State} {Q' : Option Value → Heap → Prop} (f : own_F En p e below s Z hs W k n Q A) (q : ∀ v h, Q v h → Q' v h) : own_F En p e below s Z hs W k n Q' A := by
  obtain ⟨s₂, o, h1, h2, h3, v, L, h4, ⟨h5, h6, h7⟩, h8⟩ := f
  exact ⟨s₂, o, h1, h2, h3, v, L, h4, ⟨h5, h6, q _ _ h7⟩, h8⟩
theorem own_C.mono {y : MethodName} {ws : List Jvm.Cond} {rm : Room} {as' : Array Value} {h0 : Heap} {Q' : Option Value → Heap → Prop} (f : own_C l Z y bytes maxL ret ws rm W as' h0 Q) (q : ∀ v h, Q v h → Q' v h) : own_C l Z y bytes maxL ret ws rm W as' h0 Q' := by
  intro p e ha hc hk s m args below hf happ hP hK
  obtain ⟨n, o, h1, h2, h3, v, L, h4, ⟨h5, h6, h7⟩, h8⟩ := f p e ha hc hk s m args below hf happ hP hK
  exact ⟨n, o, h1, h2, h3, v, L, h4, ⟨h5, h6, q _ _ h7⟩, h8⟩

theorem own_S.hx (S : own_S Z hs W own bytes maxL ret nm p l e R s m args below meth c T h cells slots) : p.tables.exec = Jvm.exec := S.1.1
theorem own_S.hZ (S : own_S Z hs W own bytes maxL ret nm p l e R s m args below meth c T h cells slots) : Z.Warmed39 s.vm := S.1.2.1
theorem own_S.hown (S : own_S Z hs W own bytes maxL ret nm p l e R s m args below meth c T h cells slots) : s.vm.findClass own = some m.cls := S.1.2.2.1
theorem own_S.hby (S : own_S Z hs W own bytes maxL ret nm p l e R s m args below meth c T h cells slots) : c.code = bytes := S.1.2.2.2.1
theorem own_S.hml (S : own_S Z hs W own bytes maxL ret nm p l e R s m args below meth c T h cells slots) : c.maxLocals = maxL := S.1.2.2.2.2.1
theorem own_S.hret (S : own_S Z hs W own bytes maxL ret nm p l e R s m args below meth c T h cells slots) : meth.sig.returnType = ret := S.1.2.2.2.2.2.1
theorem own_S.hlk (S : own_S Z hs W own bytes maxL ret nm p l e R s m args below meth c T h cells slots) : meth.locks = false := S.1.2.2.2.2.2.2.1
theorem own_S.hnm (S : own_S Z hs W own bytes maxL ret nm p l e R s m args below meth c T h cells slots) : meth.name = nm := S.1.2.2.2.2.2.2.2.1
theorem own_S.hO (S : own_S Z hs W own bytes maxL ret nm p l e R s m args below meth c T h cells slots) : Ext Z.heap hs := S.1.2.2.2.2.2.2.2.2.1
theorem own_S.hW (S : own_S Z hs W own bytes maxL ret nm p l e R s m args below meth c T h cells slots) : ∀ a ∈ W, Z.heap.size ≤ a := S.1.2.2.2.2.2.2.2.2.2
theorem own_S.keep (S : own_S Z hs W own bytes maxL ret nm p l e R s m args below meth c T h cells slots) : Keep hs h W := by obtain ⟨-, _, -, -, -, K⟩ := S; exact K
theorem own_S.size (S : own_S Z hs W own bytes maxL ret nm p l e R s m args below meth c T h cells slots) : hs.size ≤ h.size := S.keep.1
theorem own_S.old (S : own_S Z hs W own bytes maxL ret nm p l e R s m args below meth c T h cells slots) : Ext Z.heap h :=
  ⟨Nat.le_trans S.hO.1 S.size, fun x cc q => S.keep.2.1 x cc (S.hO.2 x cc q) fun r => absurd (Array.getElem?_eq_some_iff.mp q).1 (Nat.not_lt.mpr (S.hW x r))⟩
theorem own_S.here (S : own_S Z hs W own bytes maxL ret nm p l e R s m args below meth c T h cells slots) : At T m c below := by obtain ⟨-, _, X, -⟩ := S; exact X.here
theorem own_S.dec (S : own_S Z hs W own bytes maxL ret nm p l e R s m args below meth c T h cells slots) {r : Except ClassFile.DecodeError (ClassFile.Instr × Nat)} (h2 : decode bytes pc = r) : decode c.code pc = r := hb S.hby h2
theorem own_S.may (S : own_S Z hs W own bytes maxL ret nm p l e R s m args below meth c T h cells slots) {a : Addr} (q : a ∈ W ∨ hs.size ≤ a) : Z.heap.size ≤ a := q.elim (S.hW a) (Nat.le_trans S.hO.1)
theorem own_S.more (S : own_S Z hs W own bytes maxL ret nm p l e R s m args below meth c T h cells slots) {k' n' : Nat} (hk : cells ≤ k') (hn : slots ≤ n') : own_S Z hs W own bytes maxL ret nm p l e R s m args below meth c T h k' n' := by
  obtain ⟨G, locs, X, r⟩ := S
  exact ⟨G, locs, X.more hk hn, r⟩

/-! the ends -/
/-- today's end gives it -/
def own_E (En : State → Outcome → State → List Loc → Nat → Nat → Prop) : Prop := ∀ s o t L k n, FrameEnd s o t L k n → En s o t L k n
theorem own_S.leave (hE : own_E En) (S : own_S Z hs W own bytes maxL ret nm p l e R s m args below meth c T h cells slots) {A : State} {v : Option Value} (hk : cells ≤ k) (hn : slots ≤ n) (hv : ret = none → v = none) (hq : Q v h)
    (go : ∀ (locs : List Loc) (_ : Stand p l e R s m args below meth c T locs cells slots) (fs : List Frame), (∀ (f : JFrame) (acts : List Action), f.method = m → f.locked = none → f.entered = [] → (doReturn e (T.setTop f) acts v).1 = T.setFrames fs) → Steps p.tables e below A (T.setFrames fs)) : own_F En p e below s Z hs W k n Q A := by
  obtain ⟨G, locs, X, N, e0, K⟩ := S
  have hlk : meth.locks = false := own_S.hlk (⟨G, locs, X, N, e0, K⟩ : own_S Z hs W own bytes maxL ret nm p l e R s m args below meth c T h cells slots)
  have hret : meth.sig.returnType = ret := own_S.hret (⟨G, locs, X, N, e0, K⟩ : own_S Z hs W own bytes maxL ret nm p l e R s m args below meth c T h cells slots)
  obtain ⟨fs, hr, hrun, hended, hW, hsame⟩ := X.leave (v := v) (fun q => hv (hret ▸ q)) hlk
  subst e0
  exact ⟨_, _, go locs X fs hr, hrun, hended, _, _, rfl, ⟨N, K, hq⟩, hE _ _ _ _ _ _ ⟨⟨_, rfl⟩, hW, hsame.mono hk hn⟩⟩
theorem own_retV (S : own_S Z hs W own bytes maxL none nm p l e R s m args below meth c T h cells slots) (hd : decode bytes pc = .ok (.return_, 1)) (hk : cells ≤ k) (hn : slots ≤ n) (hq : Q none h) (hE : own_E En := by first | exact fun _ _ _ _ _ _ q => q | exact fun _ _ _ _ _ _ q => Jvm.RoadKit.wide q) : own_F En p e below s Z hs W k n Q (T.setTop (mkF m pc Ls [])) :=
  S.leave hE hk hn (fun _ => rfl) hq fun locs X fs hr => X.returnOut S.hx S.hret (S.dec hd) hr
theorem own_retZ {t : FieldType} (S : own_S Z hs W own bytes maxL (some t) nm p l e R s m args below meth c T h cells slots) {z : Int32} (ht : t = .boolean ∨ t = .byte ∨ t = .char ∨ t = .short) (hd : decode bytes pc = .ok (.ireturn, 1)) (hk : cells ≤ k) (hn : slots ≤ n) (hq : Q (some (.int (nar t z))) h) (hE : own_E En := by first | exact fun _ _ _ _ _ _ q => q | exact fun _ _ _ _ _ _ q => Jvm.RoadKit.wide q) : own_F En p e below s Z hs W k n Q (T.setTop (mkF m pc Ls (.int z :: rest))) :=
  S.leave hE hk hn (fun q => by cases q) hq fun locs X fs hr => retN X S.hx S.hret ht (S.dec hd) hr
theorem own_retI (S : own_S Z hs W own bytes maxL (some .int) nm p l e R s m args below meth c T h cells slots) {z : Int32} (hd : decode bytes pc = .ok (.ireturn, 1)) (hk : cells ≤ k) (hn : slots ≤ n) (hq : Q (some (.int z)) h) (hE : own_E En := by first | exact fun _ _ _ _ _ _ q => q | exact fun _ _ _ _ _ _ q => Jvm.RoadKit.wide q) : own_F En p e below s Z hs W k n Q (T.setTop (mkF m pc Ls (.int z :: rest))) :=
  S.leave hE hk hn (fun q => by cases q) hq fun locs X fs hr => retOut X S.hx S.hret rfl (Or.inl ⟨rfl, Or.inl rfl, _, rfl⟩) (S.dec hd) hr
theorem own_retJ (S : own_S Z hs W own bytes maxL (some .long) nm p l e R s m args below meth c T h cells slots) {z : Int64} (hd : decode bytes pc = .ok (.lreturn, 1)) (hk : cells ≤ k) (hn : slots ≤ n) (hq : Q (some (.long z)) h) (hE : own_E En := by first | exact fun _ _ _ _ _ _ q => q | exact fun _ _ _ _ _ _ q => Jvm.RoadKit.wide q) : own_F En p e below s Z hs W k n Q (T.setTop (mkF m pc Ls (.long z :: rest))) :=
  S.leave hE hk hn (fun q => by cases q) hq fun locs X fs hr => retOut X S.hx S.hret rfl (Or.inr (Or.inl ⟨rfl, rfl, _, rfl⟩)) (S.dec hd) hr
theorem own_retD (S : own_S Z hs W own bytes maxL (some .double) nm p l e R s m args below meth c T h cells slots) {z : UInt64} (hd : decode bytes pc = .ok (.dreturn, 1)) (hk : cells ≤ k) (hn : slots ≤ n) (hq : Q (some (.double z)) h) (hE : own_E En := by first | exact fun _ _ _ _ _ _ q => q | exact fun _ _ _ _ _ _ q => Jvm.RoadKit.wide q) : own_F En p e below s Z hs W k n Q (T.setTop (mkF m pc Ls (.double z :: rest))) :=
  S.leave hE hk hn (fun q => by cases q) hq fun locs X fs hr => retOut X S.hx S.hret rfl (Or.inr (Or.inr (Or.inl ⟨rfl, rfl, _, rfl⟩))) (S.dec hd) hr
theorem own_retA {t : FieldType} (S : own_S Z hs W own bytes maxL (some t) nm p l e R s m args below meth c T h cells slots) {w : Value} (ht : t.isReference = true) (hw : w.isRef = true) (hd : decode bytes pc = .ok (.areturn, 1)) (hk : cells ≤ k) (hn : slots ≤ n) (hq : Q (some w) h) (hE : own_E En := by first | exact fun _ _ _ _ _ _ q => q | exact fun _ _ _ _ _ _ q => Jvm.RoadKit.wide q) : own_F En p e below s Z hs W k n Q (T.setTop (mkF m pc Ls (w :: rest))) :=
  S.leave hE hk hn (fun q => by cases q) hq fun locs X fs hr => retOut X S.hx S.hret (by cases w <;> simp [Value.isRef] at hw <;> cases t <;> simp [FieldType.isReference] at ht <;> rfl) (Or.inr (Or.inr (Or.inr (Or.inr ⟨rfl, ht, hw⟩)))) (S.dec hd) hr

/-! branches -/
def own_cd : ClassFile.Cond → Int32 → Int32 → Prop
  | .eq, x, y => x = y
  | .ne, x, y => ¬ x = y
  | .lt, x, y => x < y
  | .ge, x, y => ¬ x < y
  | .gt, x, y => y < x
  | .le, x, y => ¬ y < x
theorem own_cd_t {cd : ClassFile.Cond} {x y : Int32} (q : own_cd cd x y) : if_icmp.holds cd x y = true := by
  cases cd
  · exact (teq q).1
  · exact (feq q).2
  · exact (tlt q).1
  · exact (flt q).2.1
  · exact (tlt q).2.2.1
  · exact (flt q).2.2.2
def own_cn : ClassFile.Cond → Int32 → Int32 → Prop
  | .eq, x, y => ¬ x = y
  | .ne, x, y => x = y
  | .lt, x, y => ¬ x < y
  | .ge, x, y => x < y
  | .gt, x, y => ¬ y < x
  | .le, x, y => y < x
theorem own_cd_f {cd : ClassFile.Cond} {x y : Int32} (q : own_cn cd x y) : if_icmp.holds cd x y = false := by
  cases cd
  · exact (feq q).1
  · exact (teq q).2
  · exact (flt q).1
  · exact (tlt q).2.1
  · exact (flt q).2.2.1
  · exact (tlt q).2.2.2
theorem own_cd_em (cd : ClassFile.Cond) (x y : Int32) : own_cd cd x y ∨ own_cn cd x y := by
  cases cd
  · exact Classical.em (x = y)
  · exact (Classical.em (x = y)).symm
  · exact Classical.em (x < y)
  · exact (Classical.em (x < y)).symm
  · exact Classical.em (y < x)
  · exact (Classical.em (y < x)).symm
theorem own_icmp (S : own_S Z hs W own bytes maxL ret nm p l e R s m args below meth c T h cells slots) {cd : ClassFile.Cond} {o : Int} {x y : Int32} (pc' : Nat) (hd : decode bytes pc = .ok (.if_icmp cd o, 3)) (ho : 0 ≤ (pc : Int) + o) (hp : ((pc : Int) + o).toNat = pc')
    (ft : own_cd cd x y → own_F En p e below s Z hs W k n Q (T.setTop (mkF m pc' Ls rest))) (ff : own_cn cd x y → own_F En p e below s Z hs W k n Q (T.setTop (mkF m (pc + 3) Ls rest))) : own_F En p e below s Z hs W k n Q (T.setTop (mkF m pc Ls (.int y :: .int x :: rest))) := by
  rcases own_cd_em cd x y with q | q
  · exact own_F.of (fun _ => XS.icmpYes S.here S.hx rfl (pc0 := pc) rfl (S.dec hd) rfl (own_cd_t q) ho hp) (ft q)
  · exact own_F.of (fun _ => XS.icmpNo S.here S.hx rfl (S.dec hd) rfl (own_cd_f q)) (ff q)
theorem own_if (S : own_S Z hs W own bytes maxL ret nm p l e R s m args below meth c T h cells slots) {cd : ClassFile.Cond} {o : Int} {x : Int32} (pc' : Nat) (hd : decode bytes pc = .ok (.ifCond cd o, 3)) (ho : 0 ≤ (pc : Int) + o) (hp : ((pc : Int) + o).toNat = pc')
    (ft : own_cd cd x 0 → own_F En p e below s Z hs W k n Q (T.setTop (mkF m pc' Ls rest))) (ff : own_cn cd x 0 → own_F En p e below s Z hs W k n Q (T.setTop (mkF m (pc + 3) Ls rest))) : own_F En p e below s Z hs W k n Q (T.setTop (mkF m pc Ls (.int x :: rest))) := by
  rcases own_cd_em cd x 0 with q | q
  · exact own_F.of (fun _ => XS.ifYes S.here S.hx rfl (pc0 := pc) rfl (S.dec hd) rfl ((if0 _ _).trans (own_cd_t q)) ho hp) (ft q)
  · exact own_F.of (fun _ => XS.ifNo S.here S.hx rfl (S.dec hd) rfl ((if0 _ _).trans (own_cd_f q))) (ff q)
def own_ac : ACond → Value → Value → Prop
  | .eq, x, y => x = y
  | .ne, x, y => ¬ x = y
def own_an : ACond → Value → Value → Prop
  | .eq, x, y => ¬ x = y
  | .ne, x, y => x = y
theorem own_acmp (S : own_S Z hs W own bytes maxL ret nm p l e R s m args below meth c T h cells slots) {cd : ACond} {o : Int} {x y : Value} (h1 : x.isRef = true) (h2 : y.isRef = true) (pc' : Nat) (hd : decode bytes pc = .ok (.if_acmp cd o, 3)) (ho : 0 ≤ (pc : Int) + o) (hp : ((pc : Int) + o).toNat = pc')
    (ft : own_ac cd x y → own_F En p e below s Z hs W k n Q (T.setTop (mkF m pc' Ls rest))) (ff : own_an cd x y → own_F En p e below s Z hs W k n Q (T.setTop (mkF m (pc + 3) Ls rest))) : own_F En p e below s Z hs W k n Q (T.setTop (mkF m pc Ls (y :: x :: rest))) := by
  obtain ⟨locs, X, -⟩ := S.2
  cases cd <;> rcases Classical.em (x = y) with q | q
  · exact own_F.of (fun _ => Jvm.RoadKit.acmp (g := mkF m pc Ls (y :: x :: rest)) X S.hx rfl h1 h2 (pc0 := pc) (pc' := pc') (same := true) rfl (S.dec hd) rfl (decide_eq_true q) ho (by simp [acV, ← hp])) (ft q)
  · exact own_F.of (fun _ => Jvm.RoadKit.acmp (g := mkF m pc Ls (y :: x :: rest)) X S.hx rfl h1 h2 (pc0 := pc) (pc' := pc + 3) (same := false) rfl (S.dec hd) rfl (decide_eq_false q) ho (by simp [acV])) (ff q)
  · exact own_F.of (fun _ => Jvm.RoadKit.acmp (g := mkF m pc Ls (y :: x :: rest)) X S.hx rfl h1 h2 (pc0 := pc) (pc' := pc + 3) (same := true) rfl (S.dec hd) rfl (decide_eq_true q) ho (by simp [acV])) (ff q)
  · exact own_F.of (fun _ => Jvm.RoadKit.acmp (g := mkF m pc Ls (y :: x :: rest)) X S.hx rfl h1 h2 (pc0 := pc) (pc' := pc') (same := false) rfl (S.dec hd) rfl (decide_eq_false q) ho (by simp [acV, ← hp])) (ft q)

/-! the heap -/
theorem own_getF (S : own_S Z hs W own bytes maxL ret nm p l e R s m args below meth c T h cells slots) {R0 O fn d host : String} {index : Nat} (w : (Jvm.Cond.fieldLink own index R0 fn d).before a0 Z = true ∨ (Jvm.Cond.fieldLinkNest own index R0 fn d host).before a0 Z = true) (via : Via Z R0 O fn d)
    {a : Addr} {v : Value} (F : Fld Z h a O fn d v) (hd : decode bytes pc = .ok (.getfield index, 3))
    (f : ∀ T', own_S Z hs W own bytes maxL ret nm p l e R s m args below meth c T' h cells slots → own_F En p e below s Z hs W k n Q (T'.setTop (mkF m (pc + 3) Ls (v :: rest)))) : own_F En p e below s Z hs W k n Q (T.setTop (mkF m pc Ls (.ref a :: rest))) := by
  have S' := S
  obtain ⟨G, locs, X, N, e0, K⟩ := S
  obtain ⟨T', X', e', st⟩ := getF X S'.hx S'.hZ S'.hown w via e0 F (g := mkF m pc Ls (.ref a :: rest)) rfl rfl (S'.dec hd)
  exact own_F.of st (f T' ⟨G, locs, X', N, e', K⟩)
theorem own_getS (S : own_S Z hs W own bytes maxL ret nm p l e R s m args below meth c T h cells slots) {R0 O fn d host : String} {index : Nat} (w : (Jvm.Cond.fieldLink own index R0 fn d).before a0 Z = true ∨ (Jvm.Cond.fieldLinkNest own index R0 fn d host).before a0 Z = true) (via : Via Z R0 O fn d)
    {v : Value} (F : Sta Z h O fn d v) (hd : decode bytes pc = .ok (.getstatic index, 3))
    (f : ∀ T', own_S Z hs W own bytes maxL ret nm p l e R s m args below meth c T' h cells slots → own_F En p e below s Z hs W k n Q (T'.setTop (mkF m (pc + 3) Ls (v :: st)))) : own_F En p e below s Z hs W k n Q (T.setTop (mkF m pc Ls st)) := by
  have S' := S
  obtain ⟨G, locs, X, N, e0, K⟩ := S
  obtain ⟨T', X', e', st⟩ := getS2 X S'.hx S'.hZ S'.hown w via e0 F (g := mkF m pc Ls st) rfl (S'.dec hd)
  exact own_F.of st (f T' ⟨G, locs, X', N, e', K⟩)
theorem own_putF (S : own_S Z hs W own bytes maxL ret nm p l e R s m args below meth c T h cells slots) {R0 O fn d host C : String} {index kk : Nat} {ty : FieldType} (w : (Jvm.Cond.fieldLink own index R0 fn d).before a0 Z = true ∨ (Jvm.Cond.fieldLinkNest own index R0 fn d host).before a0 Z = true) (via : Via Z R0 O fn d)
    {a : Addr} {v old : Value} (F : Fld Z h a O fn d old) (E : Exa Z h a C) (L : (Jvm.Cond.lays C O fn d).before a0 Z = true ∨ ((Jvm.Cond.laysFinal C O fn d).before a0 Z = true ∧ own = O ∧ nm = "<init>")) (wi : (Jvm.Cond.instantiable C kk).before a0 Z = true)
    (hty : parseFieldDescriptor d = some ty) (hn : narrow ty v = v) (hf : fits ty v = true) (hd : decode bytes pc = .ok (.putfield index, 3)) (ok : a ∈ W ∨ hs.size ≤ a)
    (f : ∀ T' h', own_S Z hs W own bytes maxL ret nm p l e R s m args below meth c T' h' cells slots → Wr h h' a (Jvm.RoadKit.slotOf Z O fn d) v → own_F En p e below s Z hs W k n Q (T'.setTop (mkF m (pc + 3) Ls rest))) : own_F En p e below s Z hs W k n Q (T.setTop (mkF m pc Ls (v :: .ref a :: rest))) := by
  have S' := S
  obtain ⟨G, locs, X, N, e0, K⟩ := S
  obtain ⟨T', h', X', e', Wt, st⟩ := putF X S'.hx S'.hZ S'.hown w via e0 F E (L.imp id fun q => ⟨q.1, q.2.1, S'.hnm.trans q.2.2⟩) wi hty hn hf (g := mkF m pc Ls (v :: .ref a :: rest)) rfl rfl (S'.dec hd)
  exact own_F.of st (f T' h' ⟨G, _, X', Fr.snoc X' N (S'.may ok), e', K.wr Wt ok⟩ Wt)
theorem own_new (S : own_S Z hs W own bytes maxL ret nm p l e R s m args below meth c T h cells slots) {C : String} {index sl : Nat} (w : (Jvm.Cond.classLink own index C).before a0 Z = true) (wi : (Jvm.Cond.instantiable C sl).before a0 Z = true) (wz : (Jvm.Cond.initialized C).before a0 Z = true)
    (hd : decode bytes pc = .ok (.new index, 3)) (hc : cells + 1 ≤ R.cells) (hl : slots + sl ≤ R.slots)
    (f : ∀ T' h' a, a = h.size → own_S Z hs W own bytes maxL ret nm p l e R s m args below meth c T' h' (cells + 1) (slots + sl) → Ext h h' → Exa Z h' a C → (∀ {O fn d : String} {ty : FieldType}, Laid Z a0 C O fn d → parseFieldDescriptor d = some ty → Fld Z h' a O fn d (defaultValue ty)) →
      own_F En p e below s Z hs W k n Q (T'.setTop (mkF m (pc + 3) Ls (.ref a :: st)))) : own_F En p e below s Z hs W k n Q (T.setTop (mkF m pc Ls st)) := by
  have S' := S
  obtain ⟨G, locs, X, N, e0, K⟩ := S
  obtain ⟨T', h', X', e', E, A, D, -, st⟩ := newO X S'.hx S'.hZ S'.hown w wi wz e0 (g := mkF m pc Ls st) rfl (S'.dec hd) hc hl
  exact own_F.of st (f T' h' _ rfl ⟨G, _, X', N, e', K.ext E⟩ E A D)
theorem own_initO (S : own_S Z hs W own bytes maxL ret nm p l e R s m args below meth c T h cells slots) {index : Nat} (w1 : (Jvm.Cond.methodLink own index Lib.objectInit).before a0 Z = true) (w2 : (Jvm.Cond.instanceMethod Lib.objectInit).before a0 Z = true)
    (w3 : (Jvm.Cond.code Lib.objectInit ⟨#[0xb1]⟩ 1 none).before a0 Z = true) {a : Addr} (hsz : Ls.size = maxL) (hd : decode bytes pc = .ok (.invokespecial index, 3)) (hf : 1 ≤ R.frames) (hl : (rest.map fun v => v.category).sum + 12 ≤ R.locals)
    (f : ∀ T', own_S Z hs W own bytes maxL ret nm p l e R s m args below meth c T' h cells slots → own_F En p e below s Z hs W k n Q (T'.setTop (mkF m (pc + 3) Ls rest))) : own_F En p e below s Z hs W k n Q (T.setTop (mkF m pc Ls (.ref a :: rest))) := by
  have S' := S
  obtain ⟨G, locs, X, N, e0, K⟩ := S
  obtain ⟨T', X', e', st⟩ := initO X S'.hx S'.hZ S'.hown w1 w2 w3 e0 (g := mkF m pc Ls (.ref a :: rest)) rfl (hsz.trans S'.hml.symm) rfl (S'.dec hd) hf (W := (rest.map fun v => v.category).sum) (by show 2 * 0 + _ ≤ _; omega) hl
  exact own_F.of st (f T' ⟨G, locs, X', N, e', K⟩)

/-! calls -/
variable {index : Nat} {y y' : MethodName} {bytes' : ByteArray} {maxL' : Nat} {ret' : Option FieldType} {rm : Room} {W' : List Addr} {Q' : Option Value → Heap → Prop} {argsL : List Value} {ps : List FieldType} {rt : Option FieldType}
theorem own_callS (S : own_S Z hs W own bytes maxL ret nm p l e R s m args below meth c T h cells slots)
    (w1 : (Jvm.Cond.methodLink own index y).before a0 Z = true) (w2 : (Jvm.Cond.static y).before a0 Z = true) (w3 : (Jvm.Cond.initialized y.cls).before a0 Z = true) (w4 : (Jvm.Cond.code y bytes' maxL' ret').before a0 Z = true) (hy : y.cls ≠ "java/lang/invoke/MethodHandle" ∧ y.cls ≠ "java/lang/invoke/VarHandle")
    (C : own_C l Z y bytes' maxL' ret' [] rm W' argsL.toArray h Q') (hWW : ∀ a ∈ W', a ∈ W ∨ hs.size ≤ a) (pd : parseMethodDescriptor y.desc = some ⟨ps, rt⟩) (hlen : argsL.length = ps.length) (hsz : Ls.size = maxL) (hst : st = argsL.reverse ++ rest)
    (hd : decode bytes pc = .ok (.invokestatic index, 3)) (hfr : rm.frames + 1 ≤ R.frames) (hlo : (rest.map fun v => v.category).sum + (maxL' + 11) + rm.locals ≤ R.locals) (hc : cells + rm.cells ≤ R.cells) (hsl : slots + rm.slots ≤ R.slots)
    (f : ∀ T' h' v, own_S Z hs W own bytes maxL ret nm p l e R s m args below meth c T' h' (cells + rm.cells) (slots + rm.slots) → Keep h h' W' → Q' v h' → own_F En p e below s Z hs W k n Q (T'.setTop (mkF m (pc + 3) Ls (v.toList ++ rest)))) : own_F En p e below s Z hs W k n Q (T.setTop (mkF m pc Ls st)) := by
  have S' := S
  obtain ⟨G, locs, X, N, e0, K⟩ := S
  obtain ⟨v, _, ⟨T', L', k', n'⟩, -, X', ⟨Lc, hQ, h1, h2, h3⟩, st⟩ := Jvm.LawKit.callS X S'.hx (y := y) S'.hown (mvT S'.hZ w1) (mvT S'.hZ w2) (mvT S'.hZ w3) (mvT S'.hZ w4) hy (backOf (W := (rest.map fun v => v.category).sum) (Q := fun v hh L => Fr Z.heap.size L ∧ Keep h hh W' ∧ Q' v hh) C S'.hZ w4 w3 hfr hlo) (g := mkF m pc Ls st) rfl (hsz.trans S'.hml.symm) (argsL := argsL) (rest := rest) (lenOf pd hlen) hst (by show 2 * 0 + _ ≤ _; omega) (S'.dec hd) (fun _ _ => ⟨rfl, e0, hc, hsl⟩)
  dsimp only [Pt.U, Pt.locs, Pt.cells, Pt.slots] at X' h1 h2 h3 st hQ
  subst h1 h2 h3
  obtain ⟨N', K', q⟩ := hQ
  exact own_F.of st (f T' T'.heap v ⟨G, _, X', Fr.app N N', rfl, K.trans K' hWW⟩ K' q)
theorem own_callI (S : own_S Z hs W own bytes maxL ret nm p l e R s m args below meth c T h cells slots) (hy1 : y.name = "<init>")
    (w1 : (Jvm.Cond.methodLink own index y).before a0 Z = true) (w2 : (Jvm.Cond.instanceMethod y).before a0 Z = true) (w3 : (Jvm.Cond.initialized y.cls).before a0 Z = true) (w4 : (Jvm.Cond.code y bytes' maxL' none).before a0 Z = true) (hy : y.cls ≠ "java/lang/invoke/MethodHandle" ∧ y.cls ≠ "java/lang/invoke/VarHandle")
    {a : Addr} (C : own_C l Z y bytes' maxL' none [] rm W' (.ref a :: argsL).toArray h Q') (hWW : ∀ a ∈ W', a ∈ W ∨ hs.size ≤ a) (pd : parseMethodDescriptor y.desc = some ⟨ps, rt⟩) (hlen : argsL.length = ps.length) (hsz : Ls.size = maxL) (hst : st = argsL.reverse ++ .ref a :: rest)
    (hd : decode bytes pc = .ok (.invokespecial index, 3)) (hfr : rm.frames + 1 ≤ R.frames) (hlo : (rest.map fun v => v.category).sum + (maxL' + 11) + rm.locals ≤ R.locals) (hc : cells + rm.cells ≤ R.cells) (hsl : slots + rm.slots ≤ R.slots)
    (f : ∀ T' h' v, own_S Z hs W own bytes maxL ret nm p l e R s m args below meth c T' h' (cells + rm.cells) (slots + rm.slots) → Keep h h' W' → Q' v h' → own_F En p e below s Z hs W k n Q (T'.setTop (mkF m (pc + 3) Ls (v.toList ++ rest)))) : own_F En p e below s Z hs W k n Q (T.setTop (mkF m pc Ls st)) := by
  have S' := S
  obtain ⟨G, locs, X, N, e0, K⟩ := S
  obtain ⟨v, _, ⟨T', L', k', n'⟩, -, X', ⟨Lc, hQ, h1, h2, h3⟩, st⟩ := X.specialBack S'.hx (y := y) hy1 S'.hown (mvT S'.hZ w1) (mvT S'.hZ w2) (mvT S'.hZ w4) hy (backOf (W := (rest.map fun v => v.category).sum) (Q := fun v hh L => Fr Z.heap.size L ∧ Keep h hh W' ∧ Q' v hh) C S'.hZ w4 w3 hfr hlo) (g := mkF m pc Ls st) rfl (hsz.trans S'.hml.symm) (Steps.refl _) (a := a) (argsL := argsL) (rest := rest) (lenOf pd hlen) hst (by show 2 * 0 + _ ≤ _; omega) (S'.dec hd) (fun _ _ => ⟨rfl, e0, hc, hsl⟩)
  dsimp only [Pt.U, Pt.locs, Pt.cells, Pt.slots] at X' h1 h2 h3 st hQ
  subst h1 h2 h3
  obtain ⟨N', K', q⟩ := hQ
  exact own_F.to st (f T' T'.heap v ⟨G, _, X', Fr.app N N', rfl, K.trans K' hWW⟩ K' q)
theorem own_callV (S : own_S Z hs W own bytes maxL ret nm p l e R s m args below meth c T h cells slots) {Cn : String}
    (w1 : (Jvm.Cond.methodLink own index y).before a0 Z = true) (w2 : (Jvm.Cond.declares y).before a0 Z = true) (nf : NotFace s y) (w3 : (Jvm.Cond.selects Cn y y').before a0 Z = true) (w4 : (Jvm.Cond.instanceMethod y').before a0 Z = true) (w5 : (Jvm.Cond.code y' bytes' maxL' ret').before a0 Z = true) (w6 : (Jvm.Cond.initialized y'.cls).before a0 Z = true) (hy : y.cls ≠ "java/lang/invoke/MethodHandle" ∧ y.cls ≠ "java/lang/invoke/VarHandle")
    {a : Addr} (E : Exa Z h a Cn) (C : own_C l Z y' bytes' maxL' ret' [] rm W' (.ref a :: argsL).toArray h Q') (hWW : ∀ a ∈ W', a ∈ W ∨ hs.size ≤ a) (pd : parseMethodDescriptor y.desc = some ⟨ps, rt⟩) (hlen : argsL.length = ps.length) (hsz : Ls.size = maxL) (hst : st = argsL.reverse ++ .ref a :: rest)
    (hd : decode bytes pc = .ok (.invokevirtual index, 3)) (hfr : rm.frames + 1 ≤ R.frames) (hlo : (rest.map fun v => v.category).sum + (maxL' + 11) + rm.locals ≤ R.locals) (hc : cells + rm.cells ≤ R.cells) (hsl : slots + rm.slots ≤ R.slots)
    (f : ∀ T' h' v, own_S Z hs W own bytes maxL ret nm p l e R s m args below meth c T' h' (cells + rm.cells) (slots + rm.slots) → Keep h h' W' → Q' v h' → own_F En p e below s Z hs W k n Q (T'.setTop (mkF m (pc + 3) Ls (v.toList ++ rest)))) : own_F En p e below s Z hs W k n Q (T.setTop (mkF m pc Ls st)) := by
  have S' := S
  obtain ⟨G, locs, X, N, e0, K⟩ := S
  obtain ⟨cq, kq, qa, qb, qc⟩ := isOf S'.hZ e0 E
  obtain ⟨v, _, ⟨T', L', k', n'⟩, -, X', ⟨Lc, hQ, h1, h2, h3⟩, st⟩ := X.virtualBack S'.hx (y := y) (z := y') S'.hown (mvT S'.hZ w1) (mvT S'.hZ w2) nf (mvT S'.hZ w3) (mvT S'.hZ w4) hy (backOf (W := (rest.map fun v => v.category).sum) (Q := fun v hh L => Fr Z.heap.size L ∧ Keep h hh W' ∧ Q' v hh) C S'.hZ w5 w6 hfr hlo) qa qc (g := mkF m pc Ls st) rfl (hsz.trans S'.hml.symm) (Steps.refl _) (argsL := argsL) (rest := rest) (lenOf pd hlen) hst (by show 2 * 0 + _ ≤ _; omega) (S'.dec hd) (fun _ _ => ⟨rfl, e0, hc, hsl⟩)
  dsimp only [Pt.U, Pt.locs, Pt.cells, Pt.slots] at X' h1 h2 h3 st hQ
  subst h1 h2 h3
  obtain ⟨N', K', q⟩ := hQ
  exact own_F.to st (f T' T'.heap v ⟨G, _, X', Fr.app N N', rfl, K.trans K' hWW⟩ K' q)
theorem own_nf (S : own_S Z hs W own bytes maxL ret nm p l e R s m args below meth c T h cells slots) {Cn : String} (w : (Jvm.Cond.selects Cn y y).before a0 Z = true) : NotFace s y := notFace_of_selects (args := #[]) (mvT S.hZ w)
theorem own_callX (S : own_S Z hs W own bytes maxL ret nm p l e R s m args below meth c T h cells slots) {Cn : String} {cnt : Nat}
    (w1 : (Jvm.Cond.methodLink own index y).before a0 Z = true) (w2 : (Jvm.Cond.declares y).before a0 Z = true) (w7 : (Jvm.Cond.interfaceMethod y.cls y.cls y.name y.desc).before a0 Z = true) (w3 : (Jvm.Cond.selects Cn y y').before a0 Z = true) (w4 : (Jvm.Cond.instanceMethod y').before a0 Z = true) (w8 : (Jvm.Cond.publicMethod y').before a0 Z = true) (w9 : (Jvm.Cond.unhidden Cn y.name y.desc).before a0 Z = true) (w10 : (Jvm.Cond.castable Cn y.cls).before a0 Z = true)
    (w5 : (Jvm.Cond.code y' bytes' maxL' ret').before a0 Z = true) (w6 : (Jvm.Cond.initialized y'.cls).before a0 Z = true) (hy : y.cls ≠ "java/lang/invoke/MethodHandle" ∧ y.cls ≠ "java/lang/invoke/VarHandle")
    {a : Addr} (E : Exa Z h a Cn) (C : own_C l Z y' bytes' maxL' ret' [] rm W' (.ref a :: argsL).toArray h Q') (hWW : ∀ a ∈ W', a ∈ W ∨ hs.size ≤ a) (pd : parseMethodDescriptor y.desc = some ⟨ps, rt⟩) (hlen : argsL.length = ps.length) (hsz : Ls.size = maxL) (hst : st = argsL.reverse ++ .ref a :: rest)
    (hd : decode bytes pc = .ok (.invokeinterface index cnt, 5)) (hfr : rm.frames + 1 ≤ R.frames) (hlo : (rest.map fun v => v.category).sum + (maxL' + 11) + rm.locals ≤ R.locals) (hc : cells + rm.cells ≤ R.cells) (hsl : slots + rm.slots ≤ R.slots)
    (f : ∀ T' h' v, own_S Z hs W own bytes maxL ret nm p l e R s m args below meth c T' h' (cells + rm.cells) (slots + rm.slots) → Keep h h' W' → Q' v h' → own_F En p e below s Z hs W k n Q (T'.setTop (mkF m (pc + 5) Ls (v.toList ++ rest)))) : own_F En p e below s Z hs W k n Q (T.setTop (mkF m pc Ls st)) := by
  have S' := S
  obtain ⟨G, locs, X, N, e0, K⟩ := S
  obtain ⟨cq, kq, qa, qb, qc⟩ := isOf S'.hZ e0 E
  obtain ⟨v, _, ⟨T', L', k', n'⟩, -, X', ⟨Lc, hQ, h1, h2, h3⟩, st⟩ := X.interfaceBack S'.hx (xi := y) (y := y') S'.hown (mvT S'.hZ w1) (mvT S'.hZ w2) (mvT S'.hZ w7 (by simp [Cond.onTables, Cond.keepsFace, Cond.keeps, Cond.steady, Cond.faceAtom, hy])) (mvT S'.hZ w3) (mvT S'.hZ w4) (mvT S'.hZ w8) (mvT S'.hZ w9) (mvT S'.hZ w10) hy (backOf (W := (rest.map fun v => v.category).sum) (Q := fun v hh L => Fr Z.heap.size L ∧ Keep h hh W' ∧ Q' v hh) C S'.hZ w5 w6 hfr hlo) qa qb qc (g := mkF m pc Ls st) rfl (hsz.trans S'.hml.symm) (Steps.refl _) (argsL := argsL) (rest := rest) (lenOf pd hlen) hst (by show 2 * 0 + _ ≤ _; omega) (S'.dec hd) (fun _ _ => ⟨rfl, e0, hc, hsl⟩)
  dsimp only [Pt.U, Pt.locs, Pt.cells, Pt.slots] at X' h1 h2 h3 st hQ
  subst h1 h2 h3
  obtain ⟨N', K', q⟩ := hQ
  exact own_F.to st (f T' T'.heap v ⟨G, _, X', Fr.app N N', rfl, K.trans K' hWW⟩ K' q)
theorem own_callP (S : own_S Z hs W own bytes maxL ret nm p l e R s m args below meth c T h cells slots)
    (w1 : (Jvm.Cond.methodLink own index y).before a0 Z = true) (w2 : (Jvm.Cond.instanceMethod y).before a0 Z = true) {kk : Nat} (w3 : (Jvm.Cond.instantiable y.cls kk).before a0 Z = true) (wp : (Jvm.Cond.privateMethod y).before a0 Z = true) (w5 : (Jvm.Cond.code y bytes' maxL' ret').before a0 Z = true) (w6 : (Jvm.Cond.initialized y.cls).before a0 Z = true) (hy : y.cls ≠ "java/lang/invoke/MethodHandle" ∧ y.cls ≠ "java/lang/invoke/VarHandle")
    {a : Addr} {Cn : String} (E : Exa Z h a Cn) (C : own_C l Z y bytes' maxL' ret' [] rm W' (.ref a :: argsL).toArray h Q') (hWW : ∀ a ∈ W', a ∈ W ∨ hs.size ≤ a) (pd : parseMethodDescriptor y.desc = some ⟨ps, rt⟩) (hlen : argsL.length = ps.length) (hsz : Ls.size = maxL) (hst : st = argsL.reverse ++ .ref a :: rest)
    (hd : decode bytes pc = .ok (.invokevirtual index, 3)) (hfr : rm.frames + 1 ≤ R.frames) (hlo : (rest.map fun v => v.category).sum + (maxL' + 11) + rm.locals ≤ R.locals) (hc : cells + rm.cells ≤ R.cells) (hsl : slots + rm.slots ≤ R.slots)
    (f : ∀ T' h' v, own_S Z hs W own bytes maxL ret nm p l e R s m args below meth c T' h' (cells + rm.cells) (slots + rm.slots) → Keep h h' W' → Q' v h' → own_F En p e below s Z hs W k n Q (T'.setTop (mkF m (pc + 3) Ls (v.toList ++ rest)))) : own_F En p e below s Z hs W k n Q (T.setTop (mkF m pc Ls st)) := by
  have S' := S
  obtain ⟨G, locs, X, N, e0, K⟩ := S
  obtain ⟨cq, qq, qq'⟩ := E.cell
  obtain ⟨ci, ki, i1, i2, i3, i4, -⟩ := Cond.instantiable_spec (mvT (args := args) S'.hZ w3)
  have hsel : (Jvm.Cond.selects y.cls y y).before args s = true := Jvm.Stand.selects_self_of_private i1 i2 (by simp only [Bool.or_eq_false_iff] at i4; exact i4.1) (Cond.privateMethod_at (mvP S'.hZ wp (args := #[]))) (mvT S'.hZ w2) hy
  obtain ⟨v, _, ⟨T', L', k', n'⟩, -, X', ⟨Lc, hQ, h1, h2, h3⟩, st⟩ := X.privateBack S'.hx (y := y) S'.hown (mvT S'.hZ w1) (mvT S'.hZ w2) hsel (Cond.privateMethod_at (mvP S'.hZ wp (args := #[]))) (mvT S'.hZ w5) hy (backOf (W := (rest.map fun v => v.category).sum) (Q := fun v hh L => Fr Z.heap.size L ∧ Keep h hh W' ∧ Q' v hh) C S'.hZ w5 w6 hfr hlo) (g := mkF m pc Ls st) rfl (hsz.trans S'.hml.symm) (Steps.refl _) (a := a) (by rw [e0]; exact qq) qq' (argsL := argsL) (rest := rest) (lenOf pd hlen) hst (by show 2 * 0 + _ ≤ _; omega) (S'.dec hd) (fun _ _ => ⟨rfl, e0, hc, hsl⟩)
  dsimp only [Pt.U, Pt.locs, Pt.cells, Pt.slots] at X' h1 h2 h3 st hQ
  subst h1 h2 h3
  obtain ⟨N', K', q⟩ := hQ
  exact own_F.to st (f T' T'.heap v ⟨G, _, X', Fr.app N N', rfl, K.trans K' hWW⟩ K' q)
theorem own_callU (S : own_S Z hs W own bytes maxL ret nm p l e R s m args below meth c T h cells slots) {Cn owner : String}
    (w1 : (Jvm.Cond.methodLink own index y).before a0 Z = true) (w2 : (Jvm.Cond.sameMethod y.cls owner y.name y.desc).before a0 Z = true) (w7 : (Jvm.Cond.declares ⟨owner, y.name, y.desc⟩).before a0 Z = true) (hy : owner ≠ "java/lang/invoke/MethodHandle" ∧ owner ≠ "java/lang/invoke/VarHandle") (w3 : (Jvm.Cond.selects Cn y y').before a0 Z = true) (w4 : (Jvm.Cond.instanceMethod y').before a0 Z = true) (w5 : (Jvm.Cond.code y' bytes' maxL' ret').before a0 Z = true) (w6 : (Jvm.Cond.initialized y'.cls).before a0 Z = true)
    {a : Addr} (E : Exa Z h a Cn) (C : own_C l Z y' bytes' maxL' ret' [] rm W' (.ref a :: argsL).toArray h Q') (hWW : ∀ a ∈ W', a ∈ W ∨ hs.size ≤ a) (pd : parseMethodDescriptor y.desc = some ⟨ps, rt⟩) (hlen : argsL.length = ps.length) (hsz : Ls.size = maxL) (hst : st = argsL.reverse ++ .ref a :: rest)
    (hd : decode bytes pc = .ok (.invokevirtual index, 3)) (hfr : rm.frames + 1 ≤ R.frames) (hlo : (rest.map fun v => v.category).sum + (maxL' + 11) + rm.locals ≤ R.locals) (hc : cells + rm.cells ≤ R.cells) (hsl : slots + rm.slots ≤ R.slots)
    (f : ∀ T' h' v, own_S Z hs W own bytes maxL ret nm p l e R s m args below meth c T' h' (cells + rm.cells) (slots + rm.slots) → Keep h h' W' → Q' v h' → own_F En p e below s Z hs W k n Q (T'.setTop (mkF m (pc + 3) Ls (v.toList ++ rest)))) : own_F En p e below s Z hs W k n Q (T.setTop (mkF m pc Ls st)) := by
  have S' := S
  obtain ⟨G, locs, X, N, e0, K⟩ := S
  obtain ⟨cq, kq, qa, qb, qc⟩ := isOf S'.hZ e0 E
  obtain ⟨v, _, ⟨T', L', k', n'⟩, -, X', ⟨Lc, hQ, h1, h2, h3⟩, st⟩ := X.virtualBackUp S'.hx (x := y) (y := y') S'.hown (mvT S'.hZ w1) (mvT S'.hZ w2) (mvT S'.hZ w7) hy (mvT S'.hZ w3) (mvT S'.hZ w4) (backOf (W := (rest.map fun v => v.category).sum) (Q := fun v hh L => Fr Z.heap.size L ∧ Keep h hh W' ∧ Q' v hh) C S'.hZ w5 w6 hfr hlo) qa qc (g := mkF m pc Ls st) rfl (hsz.trans S'.hml.symm) (Steps.refl _) (argsL := argsL) (rest := rest) (lenOf pd hlen) hst (by show 2 * 0 + _ ≤ _; omega) (S'.dec hd) (fun _ _ => ⟨rfl, e0, hc, hsl⟩)
  dsimp only [Pt.U, Pt.locs, Pt.cells, Pt.slots] at X' h1 h2 h3 st hQ
  subst h1 h2 h3
  obtain ⟨N', K', q⟩ := hQ
  exact own_F.to st (f T' T'.heap v ⟨G, _, X', Fr.app N N', rfl, K.trans K' hWW⟩ K' q)
/-! casts and tests of classes -/
theorem own_cast (S : own_S Z hs W own bytes maxL ret nm p l e R s m args below meth c T h cells slots) {Kn : String} {a : Addr} (w : (Jvm.Cond.classLink own index Kn).before a0 Z = true) (F : Ins Z h a Kn true) (hd : decode bytes pc = .ok (.checkcast index, 3))
    (f : ∀ T', own_S Z hs W own bytes maxL ret nm p l e R s m args below meth c T' h cells slots → own_F En p e below s Z hs W k n Q (T'.setTop (mkF m (pc + 3) Ls (.ref a :: rest)))) : own_F En p e below s Z hs W k n Q (T.setTop (mkF m pc Ls (.ref a :: rest))) := by
  have S' := S
  obtain ⟨G, locs, X, N, e0, K⟩ := S
  obtain ⟨T', X', e', st⟩ := castY X S'.hx S'.hZ S'.hown w e0 F (g := mkF m pc Ls (.ref a :: rest)) rfl rfl (S'.dec hd)
  exact own_F.of st (f T' ⟨G, locs, X', N, e', K⟩)
theorem own_inst (S : own_S Z hs W own bytes maxL ret nm p l e R s m args below meth c T h cells slots) {Kn : String} {a : Addr} (w : (Jvm.Cond.classLink own index Kn).before a0 Z = true) (F : Ins Z h a Kn true) (hd : decode bytes pc = .ok (.instanceof index, 3))
    (f : ∀ T', own_S Z hs W own bytes maxL ret nm p l e R s m args below meth c T' h cells slots → own_F En p e below s Z hs W k n Q (T'.setTop (mkF m (pc + 3) Ls (.int (1 : Int32) :: rest)))) : own_F En p e below s Z hs W k n Q (T.setTop (mkF m pc Ls (.ref a :: rest))) := by
  have S' := S
  obtain ⟨G, locs, X, N, e0, K⟩ := S
  obtain ⟨T', X', e', st⟩ := instY X S'.hx S'.hZ S'.hown w e0 F (g := mkF m pc Ls (.ref a :: rest)) rfl rfl (S'.dec hd)
  exact own_F.of st (f T' ⟨G, locs, X', N, e', K⟩)

theorem own_instN (S : own_S Z hs W own bytes maxL ret nm p l e R s m args below meth c T h cells slots) {Kn Cn : String} {a : Addr} (w : (Jvm.Cond.classLink own index Kn).before a0 Z = true) (E : Exa Z h a Cn) (F : ∃ c t, Z.vm.findClass Cn = some c ∧ Z.vm.findClass Kn = some t ∧ Z.vm.assignable c t = false) (hd : decode bytes pc = .ok (.instanceof index, 3))
    (f : ∀ T', own_S Z hs W own bytes maxL ret nm p l e R s m args below meth c T' h cells slots → own_F En p e below s Z hs W k n Q (T'.setTop (mkF m (pc + 3) Ls (.int (0 : Int32) :: rest)))) : own_F En p e below s Z hs W k n Q (T.setTop (mkF m pc Ls (.ref a :: rest))) := by
  have S' := S
  obtain ⟨G, locs, X, N, e0, K⟩ := S
  obtain ⟨T', X', e', st⟩ := instNo X S'.hx S'.hZ S'.hown w e0 E F (g := mkF m pc Ls (.ref a :: rest)) rfl rfl (S'.dec hd)
  exact own_F.of st (f T' ⟨G, locs, X', N, e', K⟩)
theorem own_inst0 (S : own_S Z hs W own bytes maxL ret nm p l e R s m args below meth c T h cells slots) (hd : decode bytes pc = .ok (.instanceof index, 3))
    (f : own_F En p e below s Z hs W k n Q (T.setTop (mkF m (pc + 3) Ls (.int (0 : Int32) :: rest)))) : own_F En p e below s Z hs W k n Q (T.setTop (mkF m pc Ls (.null :: rest))) := by
  obtain ⟨locs, X, -⟩ := S.2
  exact own_F.of (X.instanceofNull S.hx (g := mkF m pc Ls (.null :: rest)) rfl rfl (S.dec hd)) f
theorem own_cast0 (S : own_S Z hs W own bytes maxL ret nm p l e R s m args below meth c T h cells slots) (hd : decode bytes pc = .ok (.checkcast index, 3))
    (f : own_F En p e below s Z hs W k n Q (T.setTop (mkF m (pc + 3) Ls (.null :: rest)))) : own_F En p e below s Z hs W k n Q (T.setTop (mkF m pc Ls (.null :: rest))) := by
  obtain ⟨locs, X, -⟩ := S.2
  exact own_F.of (X.checkcastNull S.hx (g := mkF m pc Ls (.null :: rest)) rfl rfl (S.dec hd)) f
theorem own_NSroot {O Kn : String} {i : Nat} (w : (Jvm.Cond.noSuperclass O).before a0 Z = true) (wk : (Jvm.Cond.instantiable Kn i).before a0 Z = true) (hn : O ≠ Kn) : NS Z O Kn := by
  obtain ⟨cO, kO, h1, h2, h3, -⟩ := Cond.noSuperclass_spec w
  obtain ⟨t, kt, g1, -⟩ := Cond.instantiable_spec wk
  refine ⟨cO, t, h1, g1, fun fuel => ?_⟩
  cases fuel with
  | zero => rfl
  | succ f => simp [Vm.isSubclassAux, ids_ne h1 g1 hn, h2, h3]
theorem own_NSno {Cn Sn Kn : String} {i : Nat} (w : (Jvm.Cond.superclass Cn Sn).before a0 Z = true) (wk : (Jvm.Cond.instantiable Kn i).before a0 Z = true) (q : NS Z Cn Kn) (hn : Cn ≠ Kn) : ∃ c t, Z.vm.findClass Cn = some c ∧ Z.vm.findClass Kn = some t ∧ Z.vm.assignable c t = false := by
  obtain ⟨cC, t, h0, g0, n3⟩ := q
  obtain ⟨p, kC, kp, h1, h2, h3, h4, h5, -, h7⟩ := Cond.superclass_spec h0 w
  obtain ⟨t', kt, g1, g2, g3, g4, -⟩ := Cond.instantiable_spec wk
  cases g0.symm.trans g1
  have g5 : kt.isInterface = false := by simp only [Bool.or_eq_false_iff] at g4; exact g4.1
  refine ⟨cC, t, h0, g0, ?_⟩
  show Z.vm.assignableAux (255 + 1) cC t = false
  simp [Vm.assignableAux, ids_ne h0 g0 hn, h2, g2, h5, g3, g5, Vm.isSubclass, n3]

/-! more single steps -/
theorem own_irem (S : own_S Z hs W own bytes maxL ret nm p l e R s m args below meth c T h cells slots) {x y : Int32} {t : State} (hd : decode bytes pc = .ok (.irem, 1)) (hy : y ≠ 0) (k : Steps p.tables e below (T.setTop (mkF m (pc + 1) Ls (.int (x % y) :: rest))) t) : Steps p.tables e below (T.setTop (mkF m pc Ls (.int y :: .int x :: rest))) t := by
  obtain ⟨locs, X, -⟩ := S.2
  exact iremM X S.hx (g := mkF m pc Ls (.int y :: .int x :: rest)) rfl (S.dec hd) rfl hy k
theorem own_lrem (S : own_S Z hs W own bytes maxL ret nm p l e R s m args below meth c T h cells slots) {x y : Int64} {t : State} (hd : decode bytes pc = .ok (.lrem, 1)) (hy : y ≠ 0) (k : Steps p.tables e below (T.setTop (mkF m (pc + 1) Ls (.long (x % y) :: rest))) t) : Steps p.tables e below (T.setTop (mkF m pc Ls (.long y :: .long x :: rest))) t := by
  have q : x - x / y * y = x % y := lrem_mod x y
  exact XS.lrem S.here S.hx (g := mkF m pc Ls (.long y :: .long x :: rest)) rfl (S.dec hd) rfl hy (by rw [q]; exact k)
theorem own_ldcI (S : own_S Z hs W own bytes maxL ret nm p l e R s m args below meth c T h cells slots) {i : Nat} {v : Int32} (w : (Jvm.Cond.constant own i v).before a0 Z = true) (hd : decode bytes pc = .ok (.ldc i, 2)) (f : own_F En p e below s Z hs W k n Q (T.setTop (mkF m (pc + 2) Ls (.int v :: st)))) : own_F En p e below s Z hs W k n Q (T.setTop (mkF m pc Ls st)) := by
  obtain ⟨locs, X, -⟩ := S.2
  exact own_F.of (X.ldcInt S.hx S.hown (mvT S.hZ w) (g := mkF m pc Ls st) rfl (S.dec hd)) f
theorem own_ldcIw (S : own_S Z hs W own bytes maxL ret nm p l e R s m args below meth c T h cells slots) {i : Nat} {v : Int32} (w : (Jvm.Cond.constant own i v).before a0 Z = true) (hd : decode bytes pc = .ok (.ldc_w i, 3)) (f : own_F En p e below s Z hs W k n Q (T.setTop (mkF m (pc + 3) Ls (.int v :: st)))) : own_F En p e below s Z hs W k n Q (T.setTop (mkF m pc Ls st)) := by
  obtain ⟨locs, X, -⟩ := S.2
  exact own_F.of (X.ldcwInt S.hx S.hown (mvT S.hZ w) (g := mkF m pc Ls st) rfl (S.dec hd)) f
theorem own_ldcJ (S : own_S Z hs W own bytes maxL ret nm p l e R s m args below meth c T h cells slots) {i : Nat} {v : Int64} (w : (Jvm.Cond.constantLong own i v).before a0 Z = true) (hd : decode bytes pc = .ok (.ldc2_w i, 3)) (f : own_F En p e below s Z hs W k n Q (T.setTop (mkF m (pc + 3) Ls (.long v :: st)))) : own_F En p e below s Z hs W k n Q (T.setTop (mkF m pc Ls st)) := by
  obtain ⟨locs, X, -⟩ := S.2
  exact own_F.of (X.ldc2Long S.hx S.hown (mvT S.hZ w) (g := mkF m pc Ls st) rfl (S.dec hd)) f
theorem own_ldcD (S : own_S Z hs W own bytes maxL ret nm p l e R s m args below meth c T h cells slots) {i : Nat} {v : UInt64} (w : (Jvm.Cond.constantDouble own i v).before a0 Z = true) (hd : decode bytes pc = .ok (.ldc2_w i, 3)) (f : own_F En p e below s Z hs W k n Q (T.setTop (mkF m (pc + 3) Ls (.double v :: st)))) : own_F En p e below s Z hs W k n Q (T.setTop (mkF m pc Ls st)) := by
  obtain ⟨locs, X, -⟩ := S.2
  exact own_F.of (X.ldc2DoubleC S.hx S.hown (mvT S.hZ w) (g := mkF m pc Ls st) rfl (S.dec hd)) f
theorem own_tsw (S : own_S Z hs W own bytes maxL ret nm p l e R s m args below meth c T h cells slots) {dflt low high : Int} {offs : Array Int} {len : Nat} {i : Int32} (v o : Int) (pc' : Nat) (hd : decode bytes pc = .ok (.tableswitch dflt low high offs, len)) (hv : i.toInt = v) (hin : ¬ (v < low ∨ v > high)) (hoff : offs[(v - low).toNat]? = some o) (ho : 0 ≤ (pc : Int) + o) (hp : ((pc : Int) + o).toNat = pc')
    (f : own_F En p e below s Z hs W k n Q (T.setTop (mkF m pc' Ls rest))) : own_F En p e below s Z hs W k n Q (T.setTop (mkF m pc Ls (.int i :: rest))) := by
  subst hv
  exact own_F.of (fun _ => XS.tswIn S.here S.hx (g := mkF m pc Ls (.int i :: rest)) rfl (pc0 := pc) (pc' := pc') rfl (S.dec hd) rfl hin hoff ho hp) f
theorem own_tswO (S : own_S Z hs W own bytes maxL ret nm p l e R s m args below meth c T h cells slots) {dflt low high : Int} {offs : Array Int} {len : Nat} {i : Int32} (v : Int) (pc' : Nat) (hd : decode bytes pc = .ok (.tableswitch dflt low high offs, len)) (hv : i.toInt = v) (hout : v < low ∨ v > high) (ho : 0 ≤ (pc : Int) + dflt) (hp : ((pc : Int) + dflt).toNat = pc')
    (f : own_F En p e below s Z hs W k n Q (T.setTop (mkF m pc' Ls rest))) : own_F En p e below s Z hs W k n Q (T.setTop (mkF m pc Ls (.int i :: rest))) := by
  subst hv
  exact own_F.of (fun _ => XS.tswOut S.here S.hx (g := mkF m pc Ls (.int i :: rest)) rfl (pc0 := pc) (pc' := pc') rfl (S.dec hd) rfl hout ho hp) f
theorem own_narR {ty : FieldType} {v : Value} (ht : ty.isReference = true) (hv : v.isRef = true) : narrow ty v = v := by cases v <;> simp [Value.isRef] at hv <;> cases ty <;> simp [FieldType.isReference] at ht <;> rfl
theorem own_fitR {ty : FieldType} {v : Value} (ht : ty.isReference = true) (hv : v.isRef = true) : fits ty v = true := by cases v <;> simp [Value.isRef] at hv <;> cases ty <;> simp [FieldType.isReference] at ht <;> rfl

/-! from the case's words to facts of the start -/
theorem own_extRefl (h : Heap) : Ext h h := ⟨Nat.le_refl _, fun _ _ q => q⟩
theorem own_sta {C fn d K : String} (hx : (Jvm.Cond.exactly (.static C fn d) K).value a0 Z none Z [] = some true) (w1 : (Jvm.Cond.initialized C).before a0 Z = true) (w2 : (Jvm.Cond.laysStatic C fn d).before a0 Z = true) :
    ∃ a, (Term.static C fn d).eval a0 Z none [] Z = some (.ref a) ∧ Sta Z Z.heap C fn d (.ref a) ∧ Exa Z Z.heap a K := by
  obtain ⟨a, ev⟩ := exa_v hx
  exact ⟨a, ev, Sta.start ev (Or.inr ⟨w1, w2⟩), Exa.start ev hx⟩
theorem own_fldI {t : Term} {C fn d : String} {a : Addr} {v : Int32} (ev : t.eval a0 Z none [] Z = some (.ref a)) (hx : (Jvm.Cond.eq (.field t C fn d) (.int v)).value a0 Z none Z [] = some true) : Fld Z Z.heap a C fn d (.int v) := by
  obtain ⟨x, y, h1, h2, -⟩ := cmp_v (Or.inl hx)
  have h2' : y = .int v := by simpa [Term.eval] using h2.symm
  subst h2'
  have h3 : x = .int v := by
    simp only [Jvm.Cond.value, h1, h2] at hx
    cases x <;> simp at hx
    rw [hx]
  subst h3
  refine Fld.start ?_
  simpa [Term.eval, ev] using h1
end OwnPrelude
/-! OWN: arrays by their whole contents -/
section OwnArrays
variable {En : State → Outcome → State → List Loc → Nat → Nat → Prop}
variable {Z : State} {hs : Heap} {W : List Addr} {own : String} {bytes : ByteArray} {maxL : Nat} {ret : Option FieldType} {nm : String}
  {p : Program} {l : Launch} {e : Env} {R : Room} {s : State} {m : MethodId} {args : Array Value} {below : List Frame} {meth : Method} {c : Code}
  {T : State} {h h' : Heap} {cells slots : Nat} {k n : Nat} {Q : Option Value → Heap → Prop} {a0 : Array Value} {pc : Nat} {Ls : Array Slot} {st rest : List Value} {a b : Addr} {ty : FieldType} {vs : List Value} {v : Value} {j x : Int32}

def own_A (Z : State) (h : Heap) (a : Addr) (ty : FieldType) (vs : List Value) : Prop := ∃ cl : Cell, Arr Z h a cl ty ∧ cl.slots.toList = vs ∧ vs.length < 2 ^ 31
theorem own_A.lt (F : own_A Z h a ty vs) : a < h.size := by obtain ⟨_, A, -⟩ := F; exact A.lt
theorem own_A.ext (F : own_A Z h a ty vs) (E : Ext h h') : own_A Z h' a ty vs := by obtain ⟨cl, A, r⟩ := F; exact ⟨cl, A.ext E, r⟩
theorem own_A.other {sl : Nat} {w : Value} (F : own_A Z h b ty vs) (Wt : Wr h h' a sl w) (q : b ≠ a) : own_A Z h' b ty vs := by obtain ⟨cl, A, r⟩ := F; exact ⟨cl, A.other Wt q, r⟩
theorem own_A.keep {ws : List Addr} (F : own_A Z h a ty vs) (K : Keep h h' ws) (q : a ∉ ws) : own_A Z h' a ty vs := by obtain ⟨cl, A, r⟩ := F; exact ⟨cl, ⟨K.2.1 a cl A.1 q, A.2⟩, r⟩
theorem own_A.set {i : Nat} (F : own_A Z h a ty vs) (Wt : Wr h h' a i v) : own_A Z h' a ty (vs.set i v) := by
  obtain ⟨cl, A, r1, r2⟩ := F
  subst r1
  refine ⟨cl.setSlot i v, A.same Wt, ?_, by simpa using r2⟩
  simp [Cell.setSlot]
theorem own_A.inb {cl : Cell} {vs : List Value} (r1 : cl.slots.toList = vs) (h0 : ¬ j < 0) (hv : j.toNatClampNeg < vs.length) : ¬ (j < 0 ∨ cl.slots.size ≤ j.toNatClampNeg) := by
  rintro (q | q)
  · exact h0 q
  · subst r1; simp at hv; omega
theorem own_A.get {cl : Cell} {vs : List Value} {i : Nat} (r1 : cl.slots.toList = vs) (hv : vs[i]? = some v) : cl.slots[i]? = some v := by subst r1; simpa using hv
theorem own_A.ix {i : Nat} (hv : vs[i]? = some v) : i < vs.length := (List.getElem?_eq_some_iff.mp hv).1
theorem own_len (S : own_S Z hs W own bytes maxL ret nm p l e R s m args below meth c T h cells slots) (F : own_A Z h a ty vs) (hd : decode bytes pc = .ok (.arraylength, 1))
    (f : own_F En p e below s Z hs W k n Q (T.setTop (mkF m (pc + 1) Ls (.int vs.length.toInt32 :: rest)))) : own_F En p e below s Z hs W k n Q (T.setTop (mkF m pc Ls (.ref a :: rest))) := by
  have S' := S
  obtain ⟨G, locs, X, N, e0, K⟩ := S
  obtain ⟨cl, A, r1, r2⟩ := F
  have q : cl.slots.size = vs.length := by rw [← r1]; simp
  rw [← q] at f
  exact own_F.of (fun t => X.arraylength S'.hx (by rw [e0]; exact A.1) (State.isArrayOf_alike S'.hZ.alike A.2.1) (g := mkF m pc Ls (.ref a :: rest)) rfl rfl (S'.dec hd) t) f
theorem own_iald (S : own_S Z hs W own bytes maxL ret nm p l e R s m args below meth c T h cells slots) (F : own_A Z h a .int vs) (h0 : ¬ j < 0) (hv : vs[j.toNatClampNeg]? = some v) (hd : decode bytes pc = .ok (.iaload, 1))
    (f : own_F En p e below s Z hs W k n Q (T.setTop (mkF m (pc + 1) Ls (v :: rest)))) : own_F En p e below s Z hs W k n Q (T.setTop (mkF m pc Ls (.int j :: .ref a :: rest))) := by
  have S' := S
  obtain ⟨G, locs, X, N, e0, K⟩ := S
  obtain ⟨cl, A, r1, r2⟩ := F
  exact own_F.of (fun t => X.iaload S'.hx (by rw [e0]; exact A.1) (State.isArrayOf_alike S'.hZ.alike A.2.1) A.2.2 (own_A.inb r1 h0 (own_A.ix hv)) (own_A.get r1 hv) (g := mkF m pc Ls (.int j :: .ref a :: rest)) rfl rfl (S'.dec hd) t) f
theorem own_lald (S : own_S Z hs W own bytes maxL ret nm p l e R s m args below meth c T h cells slots) (F : own_A Z h a .long vs) (h0 : ¬ j < 0) (hv : vs[j.toNatClampNeg]? = some v) (hd : decode bytes pc = .ok (.laload, 1))
    (f : own_F En p e below s Z hs W k n Q (T.setTop (mkF m (pc + 1) Ls (v :: rest)))) : own_F En p e below s Z hs W k n Q (T.setTop (mkF m pc Ls (.int j :: .ref a :: rest))) := by
  have S' := S
  obtain ⟨G, locs, X, N, e0, K⟩ := S
  obtain ⟨cl, A, r1, r2⟩ := F
  exact own_F.of (fun t => X.laload S'.hx (by rw [e0]; exact A.1) (State.isArrayOf_alike S'.hZ.alike A.2.1) A.2.2 (own_A.inb r1 h0 (own_A.ix hv)) (own_A.get r1 hv) (g := mkF m pc Ls (.int j :: .ref a :: rest)) rfl rfl (S'.dec hd) t) f
theorem own_cald (S : own_S Z hs W own bytes maxL ret nm p l e R s m args below meth c T h cells slots) (F : own_A Z h a .char vs) (h0 : ¬ j < 0) (hv : vs[j.toNatClampNeg]? = some v) (hd : decode bytes pc = .ok (.caload, 1))
    (f : own_F En p e below s Z hs W k n Q (T.setTop (mkF m (pc + 1) Ls (v :: rest)))) : own_F En p e below s Z hs W k n Q (T.setTop (mkF m pc Ls (.int j :: .ref a :: rest))) := by
  have S' := S
  obtain ⟨G, locs, X, N, e0, K⟩ := S
  obtain ⟨cl, A, r1, r2⟩ := F
  exact own_F.of (fun t => X.caload S'.hx (by rw [e0]; exact A.1) (State.isArrayOf_alike S'.hZ.alike A.2.1) A.2.2 (own_A.inb r1 h0 (own_A.ix hv)) (own_A.get r1 hv) (g := mkF m pc Ls (.int j :: .ref a :: rest)) rfl rfl (S'.dec hd) t) f
theorem own_bald (S : own_S Z hs W own bytes maxL ret nm p l e R s m args below meth c T h cells slots) (F : own_A Z h a .byte vs) (h0 : ¬ j < 0) (hv : vs[j.toNatClampNeg]? = some v) (hd : decode bytes pc = .ok (.baload, 1))
    (f : own_F En p e below s Z hs W k n Q (T.setTop (mkF m (pc + 1) Ls (v :: rest)))) : own_F En p e below s Z hs W k n Q (T.setTop (mkF m pc Ls (.int j :: .ref a :: rest))) := by
  have S' := S
  obtain ⟨G, locs, X, N, e0, K⟩ := S
  obtain ⟨cl, A, r1, r2⟩ := F
  exact own_F.of (fun t => X.baloadBytes S'.hx (by rw [e0]; exact A.1) (State.isArrayOf_alike S'.hZ.alike A.2.1) A.2.2 (own_A.inb r1 h0 (own_A.ix hv)) (own_A.get r1 hv) (g := mkF m pc Ls (.int j :: .ref a :: rest)) rfl rfl (S'.dec hd) t) f
theorem own_zald (S : own_S Z hs W own bytes maxL ret nm p l e R s m args below meth c T h cells slots) (F : own_A Z h a .boolean vs) (h0 : ¬ j < 0) (hv : vs[j.toNatClampNeg]? = some v) (hd : decode bytes pc = .ok (.baload, 1))
    (f : own_F En p e below s Z hs W k n Q (T.setTop (mkF m (pc + 1) Ls (v :: rest)))) : own_F En p e below s Z hs W k n Q (T.setTop (mkF m pc Ls (.int j :: .ref a :: rest))) := by
  have S' := S
  obtain ⟨G, locs, X, N, e0, K⟩ := S
  obtain ⟨cl, A, r1, r2⟩ := F
  exact own_F.of (fun t => X.baloadBooleans S'.hx (by rw [e0]; exact A.1) (State.isArrayOf_alike S'.hZ.alike A.2.1) A.2.2 (own_A.inb r1 h0 (own_A.ix hv)) (own_A.get r1 hv) (g := mkF m pc Ls (.int j :: .ref a :: rest)) rfl rfl (S'.dec hd) t) f
theorem own_aald (S : own_S Z hs W own bytes maxL ret nm p l e R s m args below meth c T h cells slots) (F : own_A Z h a ty vs) (hty : ty.isReference = true) (h0 : ¬ j < 0) (hv : vs[j.toNatClampNeg]? = some v) (hd : decode bytes pc = .ok (.aaload, 1))
    (f : own_F En p e below s Z hs W k n Q (T.setTop (mkF m (pc + 1) Ls (v :: rest)))) : own_F En p e below s Z hs W k n Q (T.setTop (mkF m pc Ls (.int j :: .ref a :: rest))) := by
  have S' := S
  obtain ⟨G, locs, X, N, e0, K⟩ := S
  obtain ⟨cl, A, r1, r2⟩ := F
  exact own_F.of (fun t => X.aaload S'.hx (by rw [e0]; exact A.1) (State.isArrayOf_alike S'.hZ.alike A.2.1) hty A.2.2 (own_A.inb r1 h0 (own_A.ix hv)) (own_A.get r1 hv) (g := mkF m pc Ls (.int j :: .ref a :: rest)) rfl rfl (S'.dec hd) t) f
theorem own_ist (S : own_S Z hs W own bytes maxL ret nm p l e R s m args below meth c T h cells slots) (F : own_A Z h a .int vs) (h0 : ¬ j < 0) (hv : j.toNatClampNeg < vs.length) (hd : decode bytes pc = .ok (.iastore, 1)) (ok : a ∈ W ∨ hs.size ≤ a)
    (f : ∀ T' h', own_S Z hs W own bytes maxL ret nm p l e R s m args below meth c T' h' cells slots → Wr h h' a j.toNatClampNeg (.int x) → own_A Z h' a .int (vs.set j.toNatClampNeg (.int x)) → own_F En p e below s Z hs W k n Q (T'.setTop (mkF m (pc + 1) Ls rest))) : own_F En p e below s Z hs W k n Q (T.setTop (mkF m pc Ls (.int x :: .int j :: .ref a :: rest))) := by
  have S' := S; have F' := F
  obtain ⟨G, locs, X, N, e0, K⟩ := S
  obtain ⟨cl, A, r1, r2⟩ := F
  obtain ⟨T', h', X', e', Wt, stp⟩ := stI X S'.hx S'.hZ e0 A (own_A.inb r1 h0 hv) (g := mkF m pc Ls (.int x :: .int j :: .ref a :: rest)) rfl rfl (S'.dec hd)
  exact own_F.of stp (f T' h' ⟨G, _, X', Fr.snoc X' N (S'.may ok), e', K.wr Wt ok⟩ Wt (F'.set Wt))
theorem own_jst {x : Int64} (S : own_S Z hs W own bytes maxL ret nm p l e R s m args below meth c T h cells slots) (F : own_A Z h a .long vs) (h0 : ¬ j < 0) (hv : j.toNatClampNeg < vs.length) (hd : decode bytes pc = .ok (.lastore, 1)) (ok : a ∈ W ∨ hs.size ≤ a)
    (f : ∀ T' h', own_S Z hs W own bytes maxL ret nm p l e R s m args below meth c T' h' cells slots → Wr h h' a j.toNatClampNeg (.long x) → own_A Z h' a .long (vs.set j.toNatClampNeg (.long x)) → own_F En p e below s Z hs W k n Q (T'.setTop (mkF m (pc + 1) Ls rest))) : own_F En p e below s Z hs W k n Q (T.setTop (mkF m pc Ls (.long x :: .int j :: .ref a :: rest))) := by
  have S' := S; have F' := F
  obtain ⟨G, locs, X, N, e0, K⟩ := S
  obtain ⟨cl, A, r1, r2⟩ := F
  obtain ⟨T', h', X', e', Wt, stp⟩ := stJ X S'.hx S'.hZ e0 A (own_A.inb r1 h0 hv) (g := mkF m pc Ls (.long x :: .int j :: .ref a :: rest)) rfl rfl (S'.dec hd)
  exact own_F.of stp (f T' h' ⟨G, _, X', Fr.snoc X' N (S'.may ok), e', K.wr Wt ok⟩ Wt (F'.set Wt))
theorem own_cst (S : own_S Z hs W own bytes maxL ret nm p l e R s m args below meth c T h cells slots) (F : own_A Z h a .char vs) (h0 : ¬ j < 0) (hv : j.toNatClampNeg < vs.length) (hd : decode bytes pc = .ok (.castore, 1)) (ok : a ∈ W ∨ hs.size ≤ a)
    (f : ∀ T' h', own_S Z hs W own bytes maxL ret nm p l e R s m args below meth c T' h' cells slots → Wr h h' a j.toNatClampNeg (.int (nar .char x)) → own_A Z h' a .char (vs.set j.toNatClampNeg (.int (nar .char x))) → own_F En p e below s Z hs W k n Q (T'.setTop (mkF m (pc + 1) Ls rest))) : own_F En p e below s Z hs W k n Q (T.setTop (mkF m pc Ls (.int x :: .int j :: .ref a :: rest))) := by
  have S' := S; have F' := F
  obtain ⟨G, locs, X, N, e0, K⟩ := S
  obtain ⟨cl, A, r1, r2⟩ := F
  obtain ⟨T', h', X', e', Wt, stp⟩ := stC X S'.hx S'.hZ e0 A (own_A.inb r1 h0 hv) (g := mkF m pc Ls (.int x :: .int j :: .ref a :: rest)) rfl rfl (S'.dec hd)
  exact own_F.of stp (f T' h' ⟨G, _, X', Fr.snoc X' N (S'.may ok), e', K.wr Wt ok⟩ Wt (F'.set Wt))
theorem own_bst (S : own_S Z hs W own bytes maxL ret nm p l e R s m args below meth c T h cells slots) (F : own_A Z h a .byte vs) (h0 : ¬ j < 0) (hv : j.toNatClampNeg < vs.length) (hd : decode bytes pc = .ok (.bastore, 1)) (ok : a ∈ W ∨ hs.size ≤ a)
    (f : ∀ T' h', own_S Z hs W own bytes maxL ret nm p l e R s m args below meth c T' h' cells slots → Wr h h' a j.toNatClampNeg (.int (nar .byte x)) → own_A Z h' a .byte (vs.set j.toNatClampNeg (.int (nar .byte x))) → own_F En p e below s Z hs W k n Q (T'.setTop (mkF m (pc + 1) Ls rest))) : own_F En p e below s Z hs W k n Q (T.setTop (mkF m pc Ls (.int x :: .int j :: .ref a :: rest))) := by
  have S' := S; have F' := F
  obtain ⟨G, locs, X, N, e0, K⟩ := S
  obtain ⟨cl, A, r1, r2⟩ := F
  obtain ⟨T', h', X', e', Wt, stp⟩ := stB X S'.hx S'.hZ e0 A (own_A.inb r1 h0 hv) (g := mkF m pc Ls (.int x :: .int j :: .ref a :: rest)) rfl rfl (S'.dec hd)
  exact own_F.of stp (f T' h' ⟨G, _, X', Fr.snoc X' N (S'.may ok), e', K.wr Wt ok⟩ Wt (F'.set Wt))
theorem own_zst (S : own_S Z hs W own bytes maxL ret nm p l e R s m args below meth c T h cells slots) (F : own_A Z h a .boolean vs) (h0 : ¬ j < 0) (hv : j.toNatClampNeg < vs.length) (hd : decode bytes pc = .ok (.bastore, 1)) (ok : a ∈ W ∨ hs.size ≤ a)
    (f : ∀ T' h', own_S Z hs W own bytes maxL ret nm p l e R s m args below meth c T' h' cells slots → Wr h h' a j.toNatClampNeg (.int (nar .boolean x)) → own_A Z h' a .boolean (vs.set j.toNatClampNeg (.int (nar .boolean x))) → own_F En p e below s Z hs W k n Q (T'.setTop (mkF m (pc + 1) Ls rest))) : own_F En p e below s Z hs W k n Q (T.setTop (mkF m pc Ls (.int x :: .int j :: .ref a :: rest))) := by
  have S' := S; have F' := F
  obtain ⟨G, locs, X, N, e0, K⟩ := S
  obtain ⟨cl, A, r1, r2⟩ := F
  obtain ⟨T', h', X', e', Wt, stp⟩ := stZ X S'.hx S'.hZ e0 A (own_A.inb r1 h0 hv) (g := mkF m pc Ls (.int x :: .int j :: .ref a :: rest)) rfl rfl (S'.dec hd)
  exact own_F.of stp (f T' h' ⟨G, _, X', Fr.snoc X' N (S'.may ok), e', K.wr Wt ok⟩ Wt (F'.set Wt))
theorem own_newP (S : own_S Z hs W own bytes maxL ret nm p l e R s m args below meth c T h cells slots) {aty : ArrayType} {z : Int32} (w : (Jvm.Cond.arrayClass (newarray.typeOf aty)).before a0 Z = true) (hd : decode bytes pc = .ok (.newarray aty, 2)) (hz : ¬ z < 0) {cap : Nat} (hcap : z.toNatClampNeg ≤ cap) (hb : cap * 8 ≤ 536870912) (hc : cells + 1 ≤ R.cells) (hl : slots + cap ≤ R.slots)
    (f : ∀ T' h' a, a = h.size → own_S Z hs W own bytes maxL ret nm p l e R s m args below meth c T' h' (cells + 1) (slots + cap) → Ext h h' → own_A Z h' a (newarray.typeOf aty) (List.replicate z.toNatClampNeg (defaultValue (newarray.typeOf aty))) → own_F En p e below s Z hs W k n Q (T'.setTop (mkF m (pc + 2) Ls (.ref a :: rest)))) : own_F En p e below s Z hs W k n Q (T.setTop (mkF m pc Ls (.int z :: rest))) := by
  have S' := S
  obtain ⟨G, locs, X, N, e0, K⟩ := S
  obtain ⟨T', h', cA, X', e', E, A, stp⟩ := newP X S'.hx S'.hZ w e0 (g := mkF m pc Ls (.int z :: rest)) rfl (S'.dec hd) rfl hz hcap hb hc hl
  refine own_F.of stp (f T' h' _ rfl ⟨G, _, X', N, e', K.ext E⟩ E ⟨_, A, by simp [newA], ?_⟩)
  have := (back32 hz).2
  simpa using this
/-- an array that stands at the start -/
theorem own_A.start {t : Term} {z : Int32} (ev : t.eval a0 Z none [] Z = some (.ref a)) (hx : (Jvm.Cond.arrayOf t ty).value a0 Z none Z [] = some true) (hl : (Jvm.Cond.eq (.length t) (.int z)).value a0 Z none Z [] = some true) : ∃ cl : Cell, Arr Z Z.heap a cl ty ∧ cl.slots.size < 2 ^ 31 ∧ cl.slots.size.toInt32 = z ∧ Z.arrayAt? a = some cl := by
  obtain ⟨cl, A⟩ := Arr.start ev hx
  have q := A.fin (Vm.Alike.refl _)
  refine ⟨cl, A, ?_, ?_, q⟩
  all_goals
    obtain ⟨u, w, h1, h2, -⟩ := cmp_v (Or.inl hl)
    have h1' : (if cl.slots.size < 2 ^ 31 then some (Value.int cl.slots.size.toInt32) else none) = some u := by simpa [Term.eval, ev, q] using h1
    by_cases g : cl.slots.size < 2 ^ 31
    · first
        | exact g
        | (have e1 : u = .int cl.slots.size.toInt32 := by simpa [g] using h1'.symm
           have e2 : w = .int z := by simpa [Term.eval] using h2.symm
           subst e1 e2
           exact gotT (Cond.eq_ints h1 h2) hl)
    · simp [g] at h1'
end OwnArrays
/-! OWN: the caches of boxes -/
section OwnBoxes
variable {En : State → Outcome → State → List Loc → Nat → Nat → Prop}
variable {Z : State} {hs : Heap} {W : List Addr} {own : String} {bytes : ByteArray} {maxL : Nat} {ret : Option FieldType} {nm : String}
  {p : Program} {l : Launch} {e : Env} {R : Room} {s : State} {m : MethodId} {args : Array Value} {below : List Frame} {meth : Method} {c : Code}
  {T : State} {h : Heap} {cells slots : Nat} {k n : Nat} {Q : Option Value → Heap → Prop} {a0 : Array Value} {pc : Nat} {Ls : Array Slot} {st rest : List Value} {a : Addr} {j z : Int32} {K d : String} {val : Int32 → Value} {cl : Cell}
theorem own_bxald (S : own_S Z hs W own bytes maxL ret nm p l e R s m args below meth c T h cells slots) (B : Bxs Z a cl K d z val) (h0 : ¬ j < 0) (h1 : j < z) (hd : decode bytes pc = .ok (.aaload, 1))
    (f : ∀ box, Exa Z Z.heap box K → Fld Z Z.heap box K "value" d (val j) → own_F En p e below s Z hs W k n Q (T.setTop (mkF m (pc + 1) Ls (.ref box :: rest)))) : own_F En p e below s Z hs W k n Q (T.setTop (mkF m pc Ls (.int j :: .ref a :: rest))) := by
  have S' := S
  obtain ⟨G, locs, X, N, e0, Kp⟩ := S
  obtain ⟨A, q1, q2⟩ := B.ext S'.old
  have hin := inb_of (j := j) q1 ⟨h0, h1⟩
  obtain ⟨box, r1, r2, r3⟩ := B.2.2.2 j hin
  exact own_F.of (fun t => X.aaload S'.hx (by rw [e0]; exact A.1) (State.isArrayOf_alike S'.hZ.alike A.2.1) rfl A.2.2 hin r1 (g := mkF m pc Ls (.int j :: .ref a :: rest)) rfl rfl (S'.dec hd) t) (f box r2 r3)
theorem own_staI {C fn dd : String} {v : Int32} (hx : (Jvm.Cond.eq (.static C fn dd) (.int v)).value a0 Z none Z [] = some true) (wi : (Jvm.Cond.initializedFor C fn dd).before a0 Z = true ∨ ((Jvm.Cond.initialized C).before a0 Z = true ∧ (Jvm.Cond.laysStatic C fn dd).before a0 Z = true)) : Sta Z Z.heap C fn dd (.int v) :=
  Sta.start (eqv_i rfl hx) wi
theorem own_sub_at {i : Nat} {v : Int32} (h0 : ¬ j < 0) : (Term.sub (.index 0) (.int v)).eval a0 Z none [j.toNatClampNeg] Z = some (.int (j - v)) := by
  have h1 : (Term.index 0).eval a0 Z none [j.toNatClampNeg] Z = some (.int j) := idx_at h0
  simp only [Term.eval] at h1
  simp only [Term.eval]
  rw [h1]; rfl
end OwnBoxes
/-! OWN: bodies that load String constants (the intern table may grow) -/
section OwnStrs
variable {Z : State} {hs : Heap} {W : List Addr} {own : String} {bytes : ByteArray} {maxL : Nat} {ret : Option FieldType} {nm : String}
  {p : Program} {l : Launch} {e : Env} {R : Room} {s : State} {m : MethodId} {args : Array Value} {below : List Frame} {meth : Method} {c : Code}
  {T : State} {h : Heap} {cells slots : Nat} {k n : Nat} {Q : Option Value → Heap → Prop} {a0 : Array Value} {pc : Nat} {Ls : Array Slot} {st rest : List Value} {HH : Vm → Prop}
/-- a body's contract, of a body that may intern; HH: what is asked of the tables at its start -/
def own_CW (l : Launch) (Z : State) (y : MethodName) (bytes : ByteArray) (maxL : Nat) (ret : Option FieldType) (ws : List Jvm.Cond) (rm : Room) (W : List Addr) (as' : Array Value) (h0 : Heap) (HH : Vm → Prop) (Q : Option Value → Heap → Prop) : Prop :=
  MetFree l y (head1 (Jvm.Cond.code y bytes maxL ret :: ws) rm) (fun a U => a = as' ∧ Z.Warmed39 U.vm ∧ U.heap = h0 ∧ HH U.vm) (fun _ _ _ _ _ => True)
    (fun _ U o U' => ∃ v L, o = .returned v ∧ (Fr Z.heap.size L ∧ Keep h0 U'.heap W ∧ Q v U'.heap) ∧ ReturnedEndW U o U' L rm.cells rm.slots)
theorem own_CW.of {y : MethodName} {ws : List Jvm.Cond} {rm : Room} {as' : Array Value} {h0 : Heap} (hpl : plainFor y = true) (hO : Ext Z.heap h0) (hW : ∀ a ∈ W, Z.heap.size ≤ a)
    (body : ∀ p e s m below meth c T, HH s.vm → own_S Z h0 W y.cls bytes maxL ret y.name p l e rm s m as' below meth c T h0 0 0 → own_F ReturnedEndW p e below s Z h0 W rm.cells rm.slots Q (T.setTop (entryFrame m as' maxL))) :
    own_CW l Z y bytes maxL ret ws rm W as' h0 HH Q := by
  refine MetFree.of_bodySF hpl hisR ?_
  intro p e s m args below meth c s₁ Bd hml hP hK
  obtain ⟨rfl, hZ, hh, hH⟩ := hP
  exact body p e s m below meth c s₁ hH ⟨⟨Bd.exec, hZ, findClass_of_methodNamed Bd.named, Bd.bytes, hml, Bd.returns, Bd.notSynchronized, (name_of_methodNamed Bd.named Bd.method).1, hO, hW⟩, [], Stand.of_body Bd, Fr.nil _, (by rw [← hh, Bd.state]; rfl), Keep.refl _ _⟩
/-- the end, said of the true start -/
theorem own_F.back {A : State} {vm1 : Vm} {k1 : Nat} (hS : s.Since vm1 k1) (hk : k1 ≤ A.heap.size) (f : own_F ReturnedEndW p e below (s.setVm vm1) Z hs W k n Q A) : own_F ReturnedEndW p e below s Z hs W k n Q A := by
  obtain ⟨s₂, o, h1, h2, h3, v, L, h4, h5, h6, h7, h8, h9⟩ := f
  have q := hS.trans ⟨h7, h8⟩ (Nat.le_trans hk h1.heap_le)
  exact ⟨s₂, o, h1, h2, h3, v, L, h4, h5, h6, q.1, q.2, h9.setVm s.vm⟩
theorem own_G.since {vm1 : Vm} {k1 : Nat} (G : own_G Z hs W own bytes maxL ret nm p s m meth c) (hS : s.Since vm1 k1) : own_G Z hs W own bytes maxL ret nm p (s.setVm vm1) m meth c :=
  ⟨G.1, State.Warmed39.trans (t := s) G.2.1 hS.1, (by rw [show (s.setVm vm1).vm = vm1 from rfl, hS.1.alike.findClass]; exact G.2.2.1), G.2.2.2⟩
theorem own_Sself (s : State) (n : Nat) : s.Since s.vm n := (State.WarmedH.refl s).since n
/-- ldc of a String constant: some object -/
theorem own_ldcR (S : own_S Z hs W own bytes maxL ret nm p l e R s m args below meth c T h cells slots) {index : Nat} {text : String} (w : (Jvm.Cond.stringLink own index text).before a0 Z = true) (wS : ∀ a ∈ Bundle.stringAtoms, a.before a0 Z = true) (z : Nat)
    (hd : decode bytes pc = .ok (.ldc index, 2)) (hn : 4 * text.toList.length ≤ z) (hbig : z ≤ 536870912) (hc : cells + 2 ≤ R.cells) (hl : slots + (z + 4) ≤ R.slots)
    (f : ∀ {s' : State} T' h' a, own_S Z hs W own bytes maxL ret nm p l e R s' m args below meth c T' h' (cells + 2) (slots + (z + 4)) → Ext h h' → own_F ReturnedEndW p e below s' Z hs W k n Q (T'.setTop (mkF m (pc + 2) Ls (.ref a :: st)))) : own_F ReturnedEndW p e below s Z hs W k n Q (T.setTop (mkF m pc Ls st)) := by
  have S' := S
  obtain ⟨G, locs, X, N, e0, K⟩ := S
  obtain ⟨a, T', h', k1, X', e', E, hS, hk, -, -, st'⟩ := Jvm.RoadKit.ldcS (vm0 := s.vm) X S'.hx S'.hZ S'.hown w wS e0 (own_Sself s h.size) (Nat.le_refl _) (g := mkF m pc Ls st) rfl (S'.dec hd) hn hbig hc hl
  exact own_F.of st' (own_F.back hS (by show k1 ≤ T'.heap.size; rw [e']; exact hk) (f T' h' a ⟨G.since hS, locs, X', N, e', K.ext E⟩ E))
variable {index : Nat} {y y' : MethodName} {bytes' : ByteArray} {maxL' : Nat} {ret' : Option FieldType} {rm : Room} {W' : List Addr} {Q' : Option Value → Heap → Prop} {argsL : List Value} {ps : List FieldType} {rt : Option FieldType}
theorem own_backW {len V : Nat} {as' : Array Value} {Q1 : Option Value → Heap → List Loc → Prop}
    (hM : MetFree l y (head1 [Jvm.Cond.code y bytes' maxL' ret'] rm) (fun a U => a = as' ∧ Z.Warmed39 U.vm ∧ U.heap = h ∧ HH U.vm) (fun _ _ _ _ _ => True) (fun _ U o U' => ∃ v L, o = .returned v ∧ Q1 v U'.heap L ∧ ReturnedEndW U o U' L rm.cells rm.slots))
    (hZ : Z.Warmed39 s.vm) (wc : (Jvm.Cond.code y bytes' maxL' ret').before a0 Z = true) (wz : (Jvm.Cond.initialized y.cls).before a0 Z = true) (hf : rm.frames + 1 ≤ R.frames) (hl : V + (maxL' + 11) + rm.locals ≤ R.locals) :
    BackS l R p e below s args y len V (fun A a => a = as' ∧ A.U.heap = h ∧ A.cells + rm.cells ≤ R.cells ∧ A.slots + rm.slots ≤ R.slots ∧ HH A.U.vm)
      (fun A _ v B => ∃ L, Q1 v B.U.heap L ∧ B.locs = A.locs ++ L ∧ B.cells = A.cells + rm.cells ∧ B.slots = A.slots + rm.slots) :=
  BackS.of_freeW (bytes := bytes') (maxL := maxL') (ret := ret') (E := fun _ _ o t L k n => k = rm.cells ∧ n = rm.slots ∧ ∃ v, o = .returned v ∧ Q1 v t.heap L) hM hf hl
    (fun m meth c A a Y hp => have hU : Z.Warmed39 A.U.vm := wtrans hZ Y.warmed
      ⟨by show (Jvm.Cond.and _ .tt).before a A.U = true; rw [Cond.before_and, mv hU wc]; rfl, mv hU wc, mv hU wz, hp.2.2.1, hp.2.2.2.1⟩)
    (fun m meth c A a g mk Y hp => ⟨hp.1, wtrans hZ Y.warmed, hp.2.1, hp.2.2.2.2⟩) (fun _ _ _ _ _ _ _ _ _ => trivial)
    (fun _ _ _ _ ⟨v, L, h1, h2, h3⟩ => ⟨L, _, _, h3, rfl, rfl, v, h1, h2⟩)
    (fun m meth c A a g mk v t L k n Y hp _ _ ⟨e1, e2, v', e3, e4⟩ => by cases e3; subst e1 e2; exact ⟨L, e4, rfl, rfl, rfl⟩)
theorem own_callSW (S : own_S Z hs W own bytes maxL ret nm p l e R s m args below meth c T h cells slots) (hH : ∀ vm1, s.WarmedH vm1 → HH vm1)
    (w1 : (Jvm.Cond.methodLink own index y).before a0 Z = true) (w2 : (Jvm.Cond.static y).before a0 Z = true) (w3 : (Jvm.Cond.initialized y.cls).before a0 Z = true) (w4 : (Jvm.Cond.code y bytes' maxL' ret').before a0 Z = true) (hy : y.cls ≠ "java/lang/invoke/MethodHandle" ∧ y.cls ≠ "java/lang/invoke/VarHandle")
    (C : own_CW l Z y bytes' maxL' ret' [] rm W' argsL.toArray h HH Q') (hWW : ∀ a ∈ W', a ∈ W ∨ hs.size ≤ a) (pd : parseMethodDescriptor y.desc = some ⟨ps, rt⟩) (hlen : argsL.length = ps.length) (hsz : Ls.size = maxL) (hst : st = argsL.reverse ++ rest)
    (hd : decode bytes pc = .ok (.invokestatic index, 3)) (hfr : rm.frames + 1 ≤ R.frames) (hlo : (rest.map fun v => v.category).sum + (maxL' + 11) + rm.locals ≤ R.locals) (hc : cells + rm.cells ≤ R.cells) (hsl : slots + rm.slots ≤ R.slots)
    (f : ∀ {s' : State} T' h' v, own_S Z hs W own bytes maxL ret nm p l e R s' m args below meth c T' h' (cells + rm.cells) (slots + rm.slots) → Keep h h' W' → Q' v h' → own_F ReturnedEndW p e below s' Z hs W k n Q (T'.setTop (mkF m (pc + 3) Ls (v.toList ++ rest)))) : own_F ReturnedEndW p e below s Z hs W k n Q (T.setTop (mkF m pc Ls st)) := by
  have S' := S
  obtain ⟨G, locs, X, N, e0, K⟩ := S
  obtain ⟨v, _, ⟨T', L', k', n'⟩, -, X', hS, hgr, ⟨Lc, hQ, h1, h2, h3⟩, st⟩ := Jvm.RoadKit.callSS X S'.hx (y := y) S'.hown (mvT S'.hZ w1) (mvT S'.hZ w2) (mvT S'.hZ w3) (mvT S'.hZ w4) hy (own_backW (V := (rest.map fun v => v.category).sum) (Q1 := fun v hh L => Fr Z.heap.size L ∧ Keep h hh W' ∧ Q' v hh) C S'.hZ w4 w3 hfr hlo) (g := mkF m pc Ls st) rfl (hsz.trans S'.hml.symm) (argsL := argsL) (rest := rest) (lenOf pd hlen) hst (by show 2 * 0 + _ ≤ _; omega) (S'.dec hd) (fun vm1 hv => ⟨rfl, e0, hc, hsl, hH vm1 hv⟩)
  dsimp only [Pt.U, Pt.locs, Pt.cells, Pt.slots] at X' h1 h2 h3 st hQ hS
  subst h1 h2 h3
  obtain ⟨N', K', q⟩ := hQ
  exact own_F.to st (own_F.back hS (Nat.le_refl _) (f T' T'.heap v ⟨G.since hS, _, X', Fr.app N N', rfl, K.trans K' hWW⟩ K' q))
theorem own_callIW (S : own_S Z hs W own bytes maxL ret nm p l e R s m args below meth c T h cells slots) (hH : ∀ vm1, s.WarmedH vm1 → HH vm1) (hy1 : y.name = "<init>")
    (w1 : (Jvm.Cond.methodLink own index y).before a0 Z = true) (w2 : (Jvm.Cond.instanceMethod y).before a0 Z = true) (w3 : (Jvm.Cond.initialized y.cls).before a0 Z = true) (w4 : (Jvm.Cond.code y bytes' maxL' none).before a0 Z = true) (hy : y.cls ≠ "java/lang/invoke/MethodHandle" ∧ y.cls ≠ "java/lang/invoke/VarHandle")
    {a : Addr} (C : own_CW l Z y bytes' maxL' none [] rm W' (.ref a :: argsL).toArray h HH Q') (hWW : ∀ a ∈ W', a ∈ W ∨ hs.size ≤ a) (pd : parseMethodDescriptor y.desc = some ⟨ps, rt⟩) (hlen : argsL.length = ps.length) (hsz : Ls.size = maxL) (hst : st = argsL.reverse ++ .ref a :: rest)
    (hd : decode bytes pc = .ok (.invokespecial index, 3)) (hfr : rm.frames + 1 ≤ R.frames) (hlo : (rest.map fun v => v.category).sum + (maxL' + 11) + rm.locals ≤ R.locals) (hc : cells + rm.cells ≤ R.cells) (hsl : slots + rm.slots ≤ R.slots)
    (f : ∀ {s' : State} T' h' v, own_S Z hs W own bytes maxL ret nm p l e R s' m args below meth c T' h' (cells + rm.cells) (slots + rm.slots) → Keep h h' W' → Q' v h' → own_F ReturnedEndW p e below s' Z hs W k n Q (T'.setTop (mkF m (pc + 3) Ls (v.toList ++ rest)))) : own_F ReturnedEndW p e below s Z hs W k n Q (T.setTop (mkF m pc Ls st)) := by
  have S' := S
  obtain ⟨G, locs, X, N, e0, K⟩ := S
  obtain ⟨v, _, ⟨T', L', k', n'⟩, -, X', hS, hgr, ⟨Lc, hQ, h1, h2, h3⟩, st⟩ := X.specialBackS S'.hx (y := y) hy1 S'.hown (mvT S'.hZ w1) (mvT S'.hZ w2) (mvT S'.hZ w4) hy (own_backW (V := (rest.map fun v => v.category).sum) (Q1 := fun v hh L => Fr Z.heap.size L ∧ Keep h hh W' ∧ Q' v hh) C S'.hZ w4 w3 hfr hlo) (g := mkF m pc Ls st) rfl (hsz.trans S'.hml.symm) (Steps.refl _) (a := a) (argsL := argsL) (rest := rest) (lenOf pd hlen) hst (by show 2 * 0 + _ ≤ _; omega) (S'.dec hd) (fun vm1 hv => ⟨rfl, e0, hc, hsl, hH vm1 hv⟩)
  dsimp only [Pt.U, Pt.locs, Pt.cells, Pt.slots] at X' h1 h2 h3 st hQ hS
  subst h1 h2 h3
  obtain ⟨N', K', q⟩ := hQ
  exact own_F.to st (own_F.back hS (Nat.le_refl _) (f T' T'.heap v ⟨G.since hS, _, X', Fr.app N N', rfl, K.trans K' hWW⟩ K' q))
theorem own_CHw {EL : List (String × Nat)} (S : own_S Z hs W own bytes maxL ret nm p l e R s m args below meth c T h cells slots) (w : EW Z a0 EL) {h1 : Heap} (H : CHv Z EL s.vm h1) {vm1 : Vm} (hW : s.WarmedH vm1) : CHv Z EL vm1 h1 :=
  (CHv.later (vm := s.vm) (h := h1) (h' := h1) S.hZ (show (Wst Z s.vm h1).Warmed39 vm1 from hW.wide) w ⟨Nat.le_refl _, fun _ _ q => q⟩ (Or.inl hW.interned_eq) H).1
theorem own_A.of_arv {a : Addr} {ty : FieldType} {vs : List Value} {d : Value} {kk : ClassId} {zz : Int32} (A : Arv Z h a kk ty zz vs d) (hl : zz.toNatClampNeg = vs.length) (h31 : vs.length < 2 ^ 31) : own_A Z h a ty vs := by
  obtain ⟨cl, Ar, q1, q2, q3, H, -⟩ := A
  refine ⟨cl, Ar, List.ext_getElem? fun i => ?_, h31⟩
  have hsz : cl.slots.size = vs.length := q2.trans hl
  by_cases hi : i < vs.length
  · have w := H i (by omega)
    rw [Array.getElem?_toList, w, List.getD_eq_getElem?_getD, List.getElem?_eq_getElem hi]; rfl
  · rw [List.getElem?_eq_none (by simpa [hsz] using hi), List.getElem?_eq_none (by omega)]
/-- ldc of the empty text, read -/
theorem own_ldcE {EL : List (String × Nat)} (S : own_S Z hs W own bytes maxL ret nm p l e R s m args below meth c T h cells slots) {index : Nat} (w : (Jvm.Cond.stringLink own index "").before a0 Z = true) (wS : ∀ a ∈ Bundle.stringAtoms, a.before a0 Z = true)
    (hEL : EW Z a0 EL) (hmem : (own, index) ∈ EL) (H : CHv Z EL s.vm h) (hd : decode bytes pc = .ok (.ldc index, 2)) (hc : cells + 2 ≤ R.cells) (hl : slots + 4 ≤ R.slots)
    (f : ∀ {s' : State} T' h' a b, own_S Z hs W own bytes maxL ret nm p l e R s' m args below meth c T' h' (cells + 2) (slots + 4) → Ext h h' → Exa Z h' a "java/lang/String" → Fld Z h' a "java/lang/String" "coder" "B" (.int 0) → Fld Z h' a "java/lang/String" "value" "[B" (.ref b) → own_A Z h' b .byte [] → Lit s' own index a →
      own_F ReturnedEndW p e below s' Z hs W k n Q (T'.setTop (mkF m (pc + 2) Ls (.ref a :: st)))) : own_F ReturnedEndW p e below s Z hs W k n Q (T.setTop (mkF m pc Ls st)) := by
  have S' := S
  obtain ⟨G, locs, X, N, e0, K⟩ := S
  obtain ⟨a, T', h', k1, b, kk, X', e', E, hS, hk, -, -, q1, q2, q3, q4, -, -, -, L, -, st'⟩ := ldcCH (vm0 := s.vm) X S'.hx S'.hZ S'.hown w wS e0 (own_Sself s h.size) (Nat.le_refl _) hEL hmem H (vs := []) (z := 0) ⟨(fun _ hc => by cases hc), rfl⟩ (by decide) rfl (g := mkF m pc Ls st) rfl (S'.dec hd) (n := 0) (by decide) (by decide) hc hl
  exact own_F.of st' (own_F.back hS (by show k1 ≤ T'.heap.size; rw [e']; exact hk) (f T' h' a b ⟨G.since hS, locs, X', N, e', K.ext E⟩ E q1 q2 q3 (own_A.of_arv q4 rfl (by decide)) L))
/-- .. again -/
theorem own_ldcA {En : State → Outcome → State → List Loc → Nat → Nat → Prop} (S : own_S Z hs W own bytes maxL ret nm p l e R s m args below meth c T h cells slots) {index : Nat} {text : String} {a : Addr} (w : (Jvm.Cond.stringLink own index text).before a0 Z = true) (L : Lit s own index a) (hd : decode bytes pc = .ok (.ldc index, 2))
    (f : own_F En p e below s Z hs W k n Q (T.setTop (mkF m (pc + 2) Ls (.ref a :: st)))) : own_F En p e below s Z hs W k n Q (T.setTop (mkF m pc Ls st)) := by
  have S' := S
  obtain ⟨G, locs, X, N, e0, K⟩ := S
  exact own_F.of (ldcAgain (vm0 := s.vm) X S'.hx S'.hZ S'.hown w L (g := mkF m pc Ls st) rfl (S'.dec hd)) f
end OwnStrs

theorem own_w {a0 : Array Value} {Z : State} (hw : ∀ d ∈ tables_1, d.before a0 Z = true) {d : Jvm.Cond} (i : Nat) (q : tables_1[i]? = some d) : d.before a0 Z = true := hw _ (List.mem_of_getElem? q)

theorem own_mayN {Z : State} {hs : Heap} {W : List Addr} {own : String} {bytes : ByteArray} {maxL : Nat} {ret : Option FieldType} {nm : String} {p : Program} {l : Launch} {e : Env} {R : Room} {s : State} {m : MethodId} {args : Array Value} {below : List Frame} {meth : Method} {c : Code} {T : State} {h : Heap} {cells slots : Nat}
    (S : own_S Z hs W own bytes maxL ret nm p l e R s m args below meth c T h cells slots) {a : Addr} (q : a ∈ W ∨ hs.size ≤ a) : Z.heap.size ≤ a := S.may q

theorem own_neA {Z : State} {h : Heap} {a b : Addr} {C : String} {k : Nat} {a0 : Array Value} {ty : FieldType} {vs : List Value} (E : Exa Z h a C) (wi : (Jvm.Cond.instantiable C k).before a0 Z = true) (A : own_A Z h b ty vs) : a ≠ b := by
  obtain ⟨cl, Ar, -⟩ := A
  exact ne_arr E wi Ar

def own_sp (x : Int32) : Int32 := if x = 33 then 1 else if x = 35 then 1 else if x = 36 then 1 else if x = 37 then 1 else if x = 38 then 1 else if x = 39 then 1 else if x = 42 then 1 else if x = 43 then 1 else if x = 45 then 1 else if x = 46 then 1 else if x = 94 then 1 else if x = 95 then 1 else if x = 96 then 1 else if x = 124 then 1 else if x = 126 then 1 else 0
def own_ex (x : Int32) : Int32 := if ¬ x < 48 ∧ ¬ 57 < x then 1 else if ¬ x < 65 ∧ ¬ 90 < x then 1 else if ¬ x < 97 ∧ ¬ 122 < x then 1 else own_sp x
def own_bit (j : Nat) : Int32 := own_ex j.toInt32
def own_tc (x : Int32) : Int32 := if x < 128 then own_bit x.toNatClampNeg else 0
theorem own_ite01 {q : Prop} [Decidable q] {y : Int32} (h : y = 0 ∨ y = 1) : (if q then 1 else y) = 0 ∨ (if q then 1 else y) = 1 := by
  split
  · exact Or.inr rfl
  · exact h
theorem own_sp01 (x : Int32) : own_sp x = 0 ∨ own_sp x = 1 := by
  unfold own_sp
  repeat (refine own_ite01 ?_)
  exact Or.inl rfl
theorem own_nsp (x : Int32) : nar .boolean (own_sp x) = own_sp x := by rcases own_sp01 x with h | h <;> rw [h] <;> rfl
theorem own_ex01 (x : Int32) : own_ex x = 0 ∨ own_ex x = 1 := by
  unfold own_ex
  split
  · exact Or.inr rfl
  · split
    · exact Or.inr rfl
    · split
      · exact Or.inr rfl
      · exact own_sp01 x
theorem own_chr (x : Int32) : ¬ x.toUInt32.toUInt16.toUInt32.toInt32 < 0 ∧ ¬ 65535 < x.toUInt32.toUInt16.toUInt32.toInt32 := by
  have h := c_i2c x
  rw [Int32.lt_iff_toInt_lt, Int32.lt_iff_toInt_lt]
  have e1 : (0 : Int32).toInt = 0 := rfl
  have e2 : (65535 : Int32).toInt = 65535 := rfl
  omega
theorem own_clamp {x : Int32} (h : ¬ x < 0) : x.toNatClampNeg.toInt32 = x := (back32 h).1
theorem own_far {x : Int32} (h : ¬ x < 128) : own_ex x = 0 := by
  have e : ∀ k : Int32, k < 128 → ¬ x < k ∧ k < x := fun k hk => by
    rw [Int32.lt_iff_toInt_lt] at *
    rw [Int32.lt_iff_toInt_lt]
    omega
  have d : ∀ k : Int32, k < 128 → ¬ x = k := fun k hk q => by subst q; exact h hk
  simp [own_ex, own_sp, (e 57 (by decide)).2, (e 90 (by decide)).2, (e 122 (by decide)).2, d 33 (by decide), d 35 (by decide), d 36 (by decide), d 37 (by decide), d 38 (by decide), d 39 (by decide), d 42 (by decide), d 43 (by decide), d 45 (by decide), d 46 (by decide), d 94 (by decide), d 95 (by decide), d 96 (by decide), d 124 (by decide), d 126 (by decide)]
theorem own_same {x : Int32} (h : ¬ x < 0) (h' : ¬ 65535 < x) : own_tc x = own_ex x := by
  unfold own_tc own_bit
  split
  · rw [own_clamp h]
  · next q => rw [own_far q]
def own_tab : List Value := (List.range 128).map fun j => .int (own_bit j)
theorem own_tab_at {j : Nat} (h : j < 128) : own_tab[j]? = some (.int (own_bit j)) := by simp [own_tab, h]

/-! OWN: chars and their two bytes -/
def own_isC (x : Int32) : Prop := ¬ x < 0 ∧ ¬ 65535 < x
theorem own_isC.int {x : Int32} (c : own_isC x) : 0 ≤ x.toInt ∧ x.toInt ≤ 65535 := by
  obtain ⟨h1, h2⟩ := c
  rw [Int32.lt_iff_toInt_lt] at h1 h2
  have e1 : (0 : Int32).toInt = 0 := rfl
  have e2 : (65535 : Int32).toInt = 65535 := rfl
  omega
theorem own_isC.of {x : Int32} (h1 : 0 ≤ x.toInt) (h2 : x.toInt ≤ 65535) : own_isC x := by
  have e1 : (0 : Int32).toInt = 0 := rfl
  have e2 : (65535 : Int32).toInt = 65535 := rfl
  constructor <;> rw [Int32.lt_iff_toInt_lt] <;> omega
theorem own_isC.chr (x : Int32) : own_isC (x.toUInt32.toUInt16.toUInt32.toInt32) := by
  have h := c_i2c x
  exact .of h.2.1 (by omega)
theorem own_isC.nar (x : Int32) : own_isC (nar .char x) := own_isC.chr x
theorem own_narC {x : Int32} (c : own_isC x) : nar .char x = x := by
  have h := c_i2c x
  have r := c.int
  apply Int32.toInt_inj.mp
  show x.toUInt32.toUInt16.toUInt32.toInt32.toInt = x.toInt
  omega
def own_lo (x : Int32) : Int32 := nar .byte ((x >>> ((0 : Int32) &&& 31)).toInt8.toInt32)
def own_hi (x : Int32) : Int32 := nar .byte ((x >>> ((8 : Int32) &&& 31)).toInt8.toInt32)
theorem own_glue {x : Int32} (c : own_isC x) : (((own_lo x &&& (255 : Int32)) <<< ((0 : Int32) &&& 31)) ||| ((own_hi x &&& (255 : Int32)) <<< ((8 : Int32) &&& 31))).toUInt32.toUInt16.toUInt32.toInt32 = x := by
  have r := c.int
  unfold own_lo own_hi
  show ((((x >>> ((0 : Int32) &&& 31)).toInt8.toInt32.toInt8.toInt32 &&& 255) <<< ((0 : Int32) &&& 31)) ||| (((x >>> ((8 : Int32) &&& 31)).toInt8.toInt32.toInt8.toInt32 &&& 255) <<< ((8 : Int32) &&& 31))).toUInt32.toUInt16.toUInt32.toInt32 = x
  generalize e0 : x >>> ((0 : Int32) &&& 31) = u0
  generalize e8 : x >>> ((8 : Int32) &&& 31) = u8
  have a0 := c_ishr x 0 0 (by decide)
  have a8 := c_ishr x 8 8 (by decide)
  rw [e0] at a0; rw [e8] at a8
  have b0 := c_i2b u0
  have b8 := c_i2b u8
  generalize u0.toInt8.toInt32 = v0 at *
  generalize u8.toInt8.toInt32 = v8 at *
  have d0 := c_i2b v0
  have d8 := c_i2b v8
  generalize v0.toInt8.toInt32 = w0 at *
  generalize v8.toInt8.toInt32 = w8 at *
  have m0 := c_mask w0 255 8 (by decide) (by decide)
  have m8 := c_mask w8 255 8 (by decide) (by decide)
  generalize w0 &&& 255 = y0 at *
  generalize w8 &&& 255 = y8 at *
  have s0 := c_ishl y0 0 0 (by decide)
  have s8 := c_ishl y8 8 8 (by decide)
  generalize y0 <<< ((0 : Int32) &&& 31) = z0 at *
  generalize y8 <<< ((8 : Int32) &&& 31) = z8 at *
  have t0 := rng32 z0
  have t8 := rng32 z8
  have f0 : z0.toInt = y0.toInt := by omega
  have f8 : z8.toInt = y8.toInt * 256 := by omega
  have o := c_or' z0 z8 8 (by decide) 256 (by decide) (by omega) (by omega) (by omega)
  generalize z0 ||| z8 = g at *
  have tg := rng32 g
  have i := c_i2c g
  apply Int32.toInt_inj.mp
  omega
def own_lat (xs : List Int32) : List Value := xs.map fun x => .int (nar .byte (x.toInt8.toInt32))
theorem own_glueL {x : Int32} (c : own_isC x) (h : ¬ 255 < x) : ((nar .byte (x.toInt8.toInt32)) &&& (255 : Int32)).toUInt32.toUInt16.toUInt32.toInt32 = x := by
  have r := c.int
  rw [Int32.lt_iff_toInt_lt] at h
  have e : (255 : Int32).toInt = 255 := rfl
  show ((x.toInt8.toInt32.toInt8.toInt32) &&& (255 : Int32)).toUInt32.toUInt16.toUInt32.toInt32 = x
  have b0 := c_i2b x
  generalize x.toInt8.toInt32 = v0 at *
  have d0 := c_i2b v0
  generalize v0.toInt8.toInt32 = w0 at *
  have m0 := c_mask w0 255 8 (by decide) (by decide)
  generalize w0 &&& 255 = y0 at *
  have i := c_i2c y0
  apply Int32.toInt_inj.mp
  omega

theorem own_isRef {a0 : Array Value} {Z : State} {t : Term} (hx : (Jvm.Cond.isRef t).value a0 Z none Z [] = some true) : ∃ v, t.eval a0 Z none [] Z = some v ∧ v.isRef = true := by
  simp only [Jvm.Cond.value] at hx
  cases e : t.eval a0 Z none [] Z with
  | none => simp [e] at hx
  | some v => exact ⟨v, rfl, by cases v <;> simp [e] at hx <;> rfl⟩

theorem own_mod5 (x : Int32) : ((x &&& (2147483647 : Int32)) % (5 : Int32)) = (0 : Int32) ∨ ((x &&& (2147483647 : Int32)) % (5 : Int32)) = (1 : Int32) ∨ ((x &&& (2147483647 : Int32)) % (5 : Int32)) = (2 : Int32) ∨ ((x &&& (2147483647 : Int32)) % (5 : Int32)) = (3 : Int32) ∨ ((x &&& (2147483647 : Int32)) % (5 : Int32)) = (4 : Int32) := by
  have h := c_mask x 2147483647 31 (by decide) (by decide)
  generalize x &&& (2147483647 : Int32) = y at *
  have hy : 0 ≤ y.toInt := by rw [h]; exact Int.emod_nonneg _ (by decide)
  have r := (c_irem y 5 5 rfl).1 hy
  generalize y % (5 : Int32) = z at *
  have e : ∀ k : Int32, z.toInt = k.toInt → z = k := fun k => Int32.toInt_inj.mp
  have h1 : z.toInt = 0 ∨ z.toInt = 1 ∨ z.toInt = 2 ∨ z.toInt = 3 ∨ z.toInt = 4 := by omega
  rcases h1 with q | q | q | q | q
  · exact Or.inl (e 0 q)
  · exact Or.inr (Or.inl (e 1 q))
  · exact Or.inr (Or.inr (Or.inl (e 2 q)))
  · exact Or.inr (Or.inr (Or.inr (Or.inl (e 3 q))))
  · exact Or.inr (Or.inr (Or.inr (Or.inr (e 4 q))))
def own_al : List Int32 → Int32
  | [] => 1
  | x :: t => if own_tc x = 0 then 0 else own_al t

theorem d19_0 : decode prog_16_method_3_code 0 = .ok (.iload_n 0, 1) := by decide +kernel
theorem d19_1 : decode prog_16_method_3_code 1 = .ok (.getstatic 27, 3) := by decide +kernel
theorem d19_4 : decode prog_16_method_3_code 4 = .ok (.arraylength, 1) := by decide +kernel
theorem d19_5 : decode prog_16_method_3_code 5 = .ok (.if_icmp .ge 15, 3) := by decide +kernel
theorem d19_8 : decode prog_16_method_3_code 8 = .ok (.getstatic 27, 3) := by decide +kernel
theorem d19_11 : decode prog_16_method_3_code 11 = .ok (.iload_n 0, 1) := by decide +kernel
theorem d19_12 : decode prog_16_method_3_code 12 = .ok (.baload, 1) := by decide +kernel
theorem d19_13 : decode prog_16_method_3_code 13 = .ok (.ifCond .eq 7, 3) := by decide +kernel
theorem d19_16 : decode prog_16_method_3_code 16 = .ok (.iconst 1, 1) := by decide +kernel
theorem d19_17 : decode prog_16_method_3_code 17 = .ok (.goto 4, 3) := by decide +kernel
theorem d19_20 : decode prog_16_method_3_code 20 = .ok (.iconst 0, 1) := by decide +kernel
theorem d19_21 : decode prog_16_method_3_code 21 = .ok (.ireturn, 1) := by decide +kernel
theorem pn19 : plainFor (⟨"com/example/libidem/libidem/protocol/Token", "isTchar", "(C)Z"⟩ : MethodName) = true := plainFor_of_name (by first | (simp [plainName, overriddenIn]; done) | decide +kernel)
theorem own_lt128 {x : Int32} (h : ¬ x < 0) (h' : x < 128) : x.toNatClampNeg < 128 := by
  have := nat_of h
  rw [Int32.lt_iff_toInt_lt] at h'
  have e : (128 : Int32).toInt = 128 := rfl
  omega

set_option maxRecDepth 65536 in
set_option maxHeartbeats 40000000 in
theorem own_isTchar (l : Launch) (Z : State) (a0 : Array Value) (hw : ∀ d ∈ tables_1, d.before a0 Z = true) (p1 : Int32) (aT : Addr) (h0 : Heap) (hO : Ext Z.heap h0) (ST : Sta Z Z.heap "com/example/libidem/libidem/protocol/Token" "TCHAR" "[Z" (.ref aT)) (AT : own_A Z Z.heap aT .boolean own_tab) (hp : ¬ p1 < 0) :
    own_C l Z (⟨"com/example/libidem/libidem/protocol/Token", "isTchar", "(C)Z"⟩ : MethodName) prog_16_method_3_code 1 (some .boolean) [] ({ frames := 0, cells := 0, slots := 0, locals := 0 } : Room) [] #[(.int p1)] h0 (fun v h => v = some (.int (own_tc p1)) ∧ h0 = h) := by
  refine own_C.of pn19 hO all0 ?_
  intro p e s m below meth c T0 S0
  refine own_F.cast (by first | (simp [entryFrame, mkF, argsToLocals, Value.category]; done) | rfl : entryFrame m #[(.int p1)] 1 = mkF m 0 #[.val (.int p1)] []) ?_
  show own_F _ p e below _ Z _ _ _ _ _ (T0.setTop (mkF m 0 #[.val (.int p1)] []))
  refine own_F.of (fun _ => XS.iloadN S0.here S0.hx rfl (S0.dec d19_0) rfl) ?_
  show own_F _ p e below _ Z _ _ _ _ _ (T0.setTop (mkF m 1 #[.val (.int p1)] [(.int p1)]))
  refine own_getS S0 (host := "") (Or.inl (own_w hw 88 rfl)) Via.refl (ST.ext S0.old) d19_1 (fun T1 S1 => ?_)
  show own_F _ p e below _ Z _ _ _ _ _ (T1.setTop (mkF m 4 #[.val (.int p1)] [(.ref aT), (.int p1)]))
  refine own_len S1 (AT.ext S1.old) d19_4 ?_
  show own_F _ p e below _ Z _ _ _ _ _ (T1.setTop (mkF m 5 #[.val (.int p1)] [(.int 128), (.int p1)]))
  refine own_icmp S1 20 d19_5 (by decide) (by decide) (fun (hc5_2 : ¬ (p1 < (128 : Int32))) => ?_) (fun (hc5_2 : p1 < (128 : Int32)) => ?_)
  · show own_F _ p e below _ Z _ _ _ _ _ (T1.setTop (mkF m 20 #[.val (.int p1)] []))
    refine own_F.of (fun _ => XS.iconst S1.here S1.hx rfl (S1.dec d19_20)) ?_
    show own_F _ p e below _ Z _ _ _ _ _ (T1.setTop (mkF m 21 #[.val (.int p1)] [(.int 0)]))
    refine own_retZ S1 (by simp) d19_21 (by decide) (by decide) ?_
    have hh : own_tc p1 = (0 : Int32) := by unfold own_tc; rw [if_neg hc5_2]
    rw [hh]; exact ⟨rfl, rfl⟩
  · show own_F _ p e below _ Z _ _ _ _ _ (T1.setTop (mkF m 8 #[.val (.int p1)] []))
    refine own_getS S1 (host := "") (Or.inl (own_w hw 88 rfl)) Via.refl (ST.ext S1.old) d19_8 (fun T3 S3 => ?_)
    show own_F _ p e below _ Z _ _ _ _ _ (T3.setTop (mkF m 11 #[.val (.int p1)] [(.ref aT)]))
    refine own_F.of (fun _ => XS.iloadN S3.here S3.hx rfl (S3.dec d19_11) rfl) ?_
    show own_F _ p e below _ Z _ _ _ _ _ (T3.setTop (mkF m 12 #[.val (.int p1)] [(.int p1), (.ref aT)]))
    refine own_zald S3 (AT.ext S3.old) hp (own_tab_at (own_lt128 hp hc5_2)) d19_12 ?_
    show own_F _ p e below _ Z _ _ _ _ _ (T3.setTop (mkF m 13 #[.val (.int p1)] [(.int (own_bit p1.toNatClampNeg))]))
    refine own_if S3 20 d19_13 (by decide) (by decide) (fun (hc13_4 : (own_bit p1.toNatClampNeg) = (0 : Int32)) => ?_) (fun (hc13_4 : ¬ ((own_bit p1.toNatClampNeg) = (0 : Int32))) => ?_)
    · show own_F _ p e below _ Z _ _ _ _ _ (T3.setTop (mkF m 20 #[.val (.int p1)] []))
      refine own_F.of (fun _ => XS.iconst S3.here S3.hx rfl (S3.dec d19_20)) ?_
      show own_F _ p e below _ Z _ _ _ _ _ (T3.setTop (mkF m 21 #[.val (.int p1)] [(.int 0)]))
      refine own_retZ S3 (by simp) d19_21 (by decide) (by decide) ?_
      have hh : own_tc p1 = (0 : Int32) := by unfold own_tc; rw [if_pos hc5_2, hc13_4]
      rw [hh]; exact ⟨rfl, rfl⟩
    · show own_F _ p e below _ Z _ _ _ _ _ (T3.setTop (mkF m 16 #[.val (.int p1)] []))
      refine own_F.of (fun _ => XS.iconst S3.here S3.hx rfl (S3.dec d19_16)) ?_
      show own_F _ p e below _ Z _ _ _ _ _ (T3.setTop (mkF m 17 #[.val (.int p1)] [(.int 1)]))
      refine own_F.of (fun _ => XS.goto S3.here S3.hx rfl (pc0 := 17) (pc' := 21) rfl (S3.dec d19_17) (by decide) (by decide)) ?_
      show own_F _ p e below _ Z _ _ _ _ _ (T3.setTop (mkF m 21 #[.val (.int p1)] [(.int 1)]))
      refine own_retZ S3 (by simp) d19_21 (by decide) (by decide) ?_
      have hh : own_tc p1 = (1 : Int32) := by unfold own_tc; rw [if_pos hc5_2]; exact (own_ex01 _).resolve_left hc13_4
      rw [hh]; exact ⟨rfl, rfl⟩
theorem own_only {j a b : Int32} {n m : Int} (ea : a.toInt = n) (eb : b.toInt = m) (e : m = n + 1) (q1 : ¬ j < a) (q2 : j < b) : j = a := by
  rw [Int32.lt_iff_toInt_lt] at q1 q2
  apply Int32.toInt_inj.mp
  omega
theorem own_elv {a0 : Array Value} {Z : State} {a : Addr} {t : Term} {cl : Cell} {i : Term} {idx : List Nat} {j x v : Int32} (ev : t.eval a0 Z none idx Z = some (.ref a)) (q : Z.arrayAt? a = some cl) (hi : i.eval a0 Z none idx Z = some (.int j)) (hj : ¬ j < 0) (hx : cl.slots[j.toNatClampNeg]? = some (.int x)) :
    (Jvm.Cond.eq (.elem t i) (.int v)).value a0 Z none Z idx = some (decide (x = v)) := by
  have e1 : (Term.elem t i).eval a0 Z none idx Z = some (.int x) := by simp [Term.eval, ev, q, hi, hj, hx]
  have e2 : (Term.int v).eval a0 Z none idx Z = some (.int v) := rfl
  simp [Jvm.Cond.value, e1, e2]

theorem d24_0 : decode jdk_52_method_5_code 0 = .ok (.getstatic 44, 3) := by decide +kernel
theorem d24_3 : decode jdk_52_method_5_code 3 = .ok (.ifCond .ne 25, 3) := by decide +kernel
theorem d24_6 : decode jdk_52_method_5_code 6 = .ok (.iload_n 1, 1) := by decide +kernel
theorem d24_7 : decode jdk_52_method_5_code 7 = .ok (.ifCond .lt 11, 3) := by decide +kernel
theorem d24_10 : decode jdk_52_method_5_code 10 = .ok (.iload_n 1, 1) := by decide +kernel
theorem d24_11 : decode jdk_52_method_5_code 11 = .ok (.aload_n 0, 1) := by decide +kernel
theorem d24_12 : decode jdk_52_method_5_code 12 = .ok (.invokestatic 48, 3) := by decide +kernel
theorem d24_15 : decode jdk_52_method_5_code 15 = .ok (.if_icmp .lt 13, 3) := by decide +kernel
theorem d24_18 : decode jdk_52_method_5_code 18 = .ok (.new 52, 3) := by decide +kernel
theorem d24_21 : decode jdk_52_method_5_code 21 = .ok (.dup, 1) := by decide +kernel
theorem d24_22 : decode jdk_52_method_5_code 22 = .ok (.ldc 54, 2) := by decide +kernel
theorem d24_24 : decode jdk_52_method_5_code 24 = .ok (.invokespecial 56, 3) := by decide +kernel
theorem d24_27 : decode jdk_52_method_5_code 27 = .ok (.athrow, 1) := by decide +kernel
theorem d24_28 : decode jdk_52_method_5_code 28 = .ok (.iload_n 1, 1) := by decide +kernel
theorem d24_29 : decode jdk_52_method_5_code 29 = .ok (.iconst 1, 1) := by decide +kernel
theorem d24_30 : decode jdk_52_method_5_code 30 = .ok (.ishl, 1) := by decide +kernel
theorem d24_31 : decode jdk_52_method_5_code 31 = .ok (.istore_n 1, 1) := by decide +kernel
theorem d24_32 : decode jdk_52_method_5_code 32 = .ok (.aload_n 0, 1) := by decide +kernel
theorem d24_33 : decode jdk_52_method_5_code 33 = .ok (.iload_n 1, 1) := by decide +kernel
theorem d24_34 : decode jdk_52_method_5_code 34 = .ok (.iinc 1 1, 3) := by decide +kernel
theorem d24_37 : decode jdk_52_method_5_code 37 = .ok (.baload, 1) := by decide +kernel
theorem d24_38 : decode jdk_52_method_5_code 38 = .ok (.sipush 255, 3) := by decide +kernel
theorem d24_41 : decode jdk_52_method_5_code 41 = .ok (.iand, 1) := by decide +kernel
theorem d24_42 : decode jdk_52_method_5_code 42 = .ok (.getstatic 59, 3) := by decide +kernel
theorem d24_45 : decode jdk_52_method_5_code 45 = .ok (.ishl, 1) := by decide +kernel
theorem d24_46 : decode jdk_52_method_5_code 46 = .ok (.aload_n 0, 1) := by decide +kernel
theorem d24_47 : decode jdk_52_method_5_code 47 = .ok (.iload_n 1, 1) := by decide +kernel
theorem d24_48 : decode jdk_52_method_5_code 48 = .ok (.baload, 1) := by decide +kernel
theorem d24_49 : decode jdk_52_method_5_code 49 = .ok (.sipush 255, 3) := by decide +kernel
theorem d24_52 : decode jdk_52_method_5_code 52 = .ok (.iand, 1) := by decide +kernel
theorem d24_53 : decode jdk_52_method_5_code 53 = .ok (.getstatic 63, 3) := by decide +kernel
theorem d24_56 : decode jdk_52_method_5_code 56 = .ok (.ishl, 1) := by decide +kernel
theorem d24_57 : decode jdk_52_method_5_code 57 = .ok (.ior, 1) := by decide +kernel
theorem d24_58 : decode jdk_52_method_5_code 58 = .ok (.i2c, 1) := by decide +kernel
theorem d24_59 : decode jdk_52_method_5_code 59 = .ok (.ireturn, 1) := by decide +kernel
theorem pn24 : plainFor (⟨"java/lang/StringUTF16", "getChar", "([BI)C"⟩ : MethodName) = true := plainFor_of_name (by first | (simp [plainName, overriddenIn]; done) | decide +kernel)
set_option maxRecDepth 65536 in
set_option maxHeartbeats 40000000 in
theorem own_getC (l : Launch) (Z : State) (a0 : Array Value) (hw : ∀ d ∈ tables_1, d.before a0 Z = true) (aB : Addr) (vs : List Value) (i j0 j1 x : Int32) (h0 : Heap) (hO : Ext Z.heap h0) (S_as : Sta Z Z.heap "java/lang/StringUTF16" "$assertionsDisabled" "Z" (.int 1)) (S_hi : Sta Z Z.heap "java/lang/StringUTF16" "HI_BYTE_SHIFT" "I" (.int 0)) (S_lo : Sta Z Z.heap "java/lang/StringUTF16" "LO_BYTE_SHIFT" "I" (.int 8)) (e0 : (i <<< ((1 : Int32) &&& 31)) = j0) (e1 : (j0 + (1 : Int32)) = j1) (g0 : ¬ j0 < 0) (g1 : ¬ j1 < 0) (v0 : vs[j0.toNatClampNeg]? = some (.int (own_lo x))) (v1 : vs[j1.toNatClampNeg]? = some (.int (own_hi x))) (cx : own_isC x) (AB : own_A Z h0 aB .byte vs) :
    own_C l Z (⟨"java/lang/StringUTF16", "getChar", "([BI)C"⟩ : MethodName) jdk_52_method_5_code 2 (some .char) [] ({ frames := 0, cells := 0, slots := 0, locals := 0 } : Room) [] #[(.ref aB), (.int i)] h0 (fun v h => v = some (.int x) ∧ h0 = h) := by
  refine own_C.of pn24 hO all0 ?_
  intro p e s m below meth c T0 S0
  refine own_F.cast (by first | (simp [entryFrame, mkF, argsToLocals, Value.category]; done) | rfl : entryFrame m #[(.ref aB), (.int i)] 2 = mkF m 0 #[.val (.ref aB), .val (.int i)] []) ?_
  subst e0 e1
  show own_F _ p e below _ Z _ _ _ _ _ (T0.setTop (mkF m 0 #[.val (.ref aB), .val (.int i)] []))
  refine own_getS S0 (host := "") (Or.inl (own_w hw 104 rfl)) Via.refl (S_as.ext S0.old) d24_0 (fun T1 S1 => ?_)
  show own_F _ p e below _ Z _ _ _ _ _ (T1.setTop (mkF m 3 #[.val (.ref aB), .val (.int i)] [(.int 1)]))
  refine own_if S1 28 d24_3 (by decide) (by decide) (fun (hc3_2 : ¬ ((1 : Int32) = (0 : Int32))) => ?_) (fun (hc3_2 : (1 : Int32) = (0 : Int32)) => False.elim (absurd hc3_2 (by decide)))
  show own_F _ p e below _ Z _ _ _ _ _ (T1.setTop (mkF m 28 #[.val (.ref aB), .val (.int i)] []))
  refine own_F.of (fun _ => XS.iloadN S1.here S1.hx rfl (S1.dec d24_28) rfl) ?_
  refine own_F.of (fun _ => XS.iconst S1.here S1.hx rfl (S1.dec d24_29)) ?_
  show own_F _ p e below _ Z _ _ _ _ _ (T1.setTop (mkF m 30 #[.val (.ref aB), .val (.int i)] [(.int 1), (.int i)]))
  refine own_F.of (fun _ => XS.ishl S1.here S1.hx rfl (S1.dec d24_30) rfl) ?_
  show own_F _ p e below _ Z _ _ _ _ _ (T1.setTop (mkF m 31 #[.val (.ref aB), .val (.int i)] [(.int (i <<< ((1 : Int32) &&& 31)))]))
  refine own_F.of (fun _ => XS.istoreN S1.here S1.hx rfl (S1.dec d24_31) rfl (l' := #[.val (.ref aB), .val (.int (i <<< ((1 : Int32) &&& 31)))]) rfl) ?_
  refine own_F.of (fun _ => XS.aloadN S1.here S1.hx rfl (S1.dec d24_32) rfl rfl) ?_
  refine own_F.of (fun _ => XS.iloadN S1.here S1.hx rfl (S1.dec d24_33) rfl) ?_
  show own_F _ p e below _ Z _ _ _ _ _ (T1.setTop (mkF m 34 #[.val (.ref aB), .val (.int (i <<< ((1 : Int32) &&& 31)))] [(.int (i <<< ((1 : Int32) &&& 31))), (.ref aB)]))
  refine own_F.of (fun _ => XS.iinc S1.here S1.hx rfl (S1.dec d24_34) rfl (l' := #[.val (.ref aB), .val (.int ((i <<< ((1 : Int32) &&& 31)) + (1 : Int32)))]) rfl) ?_
  show own_F _ p e below _ Z _ _ _ _ _ (T1.setTop (mkF m 37 #[.val (.ref aB), .val (.int ((i <<< ((1 : Int32) &&& 31)) + (1 : Int32)))] [(.int (i <<< ((1 : Int32) &&& 31))), (.ref aB)]))
  refine own_bald S1 AB g0 v0 d24_37 ?_
  show own_F _ p e below _ Z _ _ _ _ _ (T1.setTop (mkF m 38 #[.val (.ref aB), .val (.int ((i <<< ((1 : Int32) &&& 31)) + (1 : Int32)))] [(.int (own_lo x))]))
  refine own_F.of (fun _ => XS.sipush S1.here S1.hx rfl (S1.dec d24_38)) ?_
  show own_F _ p e below _ Z _ _ _ _ _ (T1.setTop (mkF m 41 #[.val (.ref aB), .val (.int ((i <<< ((1 : Int32) &&& 31)) + (1 : Int32)))] [(.int 255), (.int (own_lo x))]))
  refine own_F.of (fun _ => XS.iand S1.here S1.hx rfl (S1.dec d24_41) rfl) ?_
  show own_F _ p e below _ Z _ _ _ _ _ (T1.setTop (mkF m 42 #[.val (.ref aB), .val (.int ((i <<< ((1 : Int32) &&& 31)) + (1 : Int32)))] [(.int ((own_lo x) &&& (255 : Int32)))]))
  refine own_getS S1 (host := "") (Or.inl (own_w hw 105 rfl)) Via.refl (S_hi.ext S1.old) d24_42 (fun T3 S3 => ?_)
  show own_F _ p e below _ Z _ _ _ _ _ (T3.setTop (mkF m 45 #[.val (.ref aB), .val (.int ((i <<< ((1 : Int32) &&& 31)) + (1 : Int32)))] [(.int 0), (.int ((own_lo x) &&& (255 : Int32)))]))
  refine own_F.of (fun _ => XS.ishl S3.here S3.hx rfl (S3.dec d24_45) rfl) ?_
  show own_F _ p e below _ Z _ _ _ _ _ (T3.setTop (mkF m 46 #[.val (.ref aB), .val (.int ((i <<< ((1 : Int32) &&& 31)) + (1 : Int32)))] [(.int (((own_lo x) &&& (255 : Int32)) <<< ((0 : Int32) &&& 31)))]))
  refine own_F.of (fun _ => XS.aloadN S3.here S3.hx rfl (S3.dec d24_46) rfl rfl) ?_
  refine own_F.of (fun _ => XS.iloadN S3.here S3.hx rfl (S3.dec d24_47) rfl) ?_
  show own_F _ p e below _ Z _ _ _ _ _ (T3.setTop (mkF m 48 #[.val (.ref aB), .val (.int ((i <<< ((1 : Int32) &&& 31)) + (1 : Int32)))] [(.int ((i <<< ((1 : Int32) &&& 31)) + (1 : Int32))), (.ref aB), (.int (((own_lo x) &&& (255 : Int32)) <<< ((0 : Int32) &&& 31)))]))
  refine own_bald S3 AB g1 v1 d24_48 ?_
  show own_F _ p e below _ Z _ _ _ _ _ (T3.setTop (mkF m 49 #[.val (.ref aB), .val (.int ((i <<< ((1 : Int32) &&& 31)) + (1 : Int32)))] [(.int (own_hi x)), (.int (((own_lo x) &&& (255 : Int32)) <<< ((0 : Int32) &&& 31)))]))
  refine own_F.of (fun _ => XS.sipush S3.here S3.hx rfl (S3.dec d24_49)) ?_
  show own_F _ p e below _ Z _ _ _ _ _ (T3.setTop (mkF m 52 #[.val (.ref aB), .val (.int ((i <<< ((1 : Int32) &&& 31)) + (1 : Int32)))] [(.int 255), (.int (own_hi x)), (.int (((own_lo x) &&& (255 : Int32)) <<< ((0 : Int32) &&& 31)))]))
  refine own_F.of (fun _ => XS.iand S3.here S3.hx rfl (S3.dec d24_52) rfl) ?_
  show own_F _ p e below _ Z _ _ _ _ _ (T3.setTop (mkF m 53 #[.val (.ref aB), .val (.int ((i <<< ((1 : Int32) &&& 31)) + (1 : Int32)))] [(.int ((own_hi x) &&& (255 : Int32))), (.int (((own_lo x) &&& (255 : Int32)) <<< ((0 : Int32) &&& 31)))]))
  refine own_getS S3 (host := "") (Or.inl (own_w hw 106 rfl)) Via.refl (S_lo.ext S3.old) d24_53 (fun T4 S4 => ?_)
  show own_F _ p e below _ Z _ _ _ _ _ (T4.setTop (mkF m 56 #[.val (.ref aB), .val (.int ((i <<< ((1 : Int32) &&& 31)) + (1 : Int32)))] [(.int 8), (.int ((own_hi x) &&& (255 : Int32))), (.int (((own_lo x) &&& (255 : Int32)) <<< ((0 : Int32) &&& 31)))]))
  refine own_F.of (fun _ => XS.ishl S4.here S4.hx rfl (S4.dec d24_56) rfl) ?_
  show own_F _ p e below _ Z _ _ _ _ _ (T4.setTop (mkF m 57 #[.val (.ref aB), .val (.int ((i <<< ((1 : Int32) &&& 31)) + (1 : Int32)))] [(.int (((own_hi x) &&& (255 : Int32)) <<< ((8 : Int32) &&& 31))), (.int (((own_lo x) &&& (255 : Int32)) <<< ((0 : Int32) &&& 31)))]))
  refine own_F.of (fun _ => XS.ior S4.here S4.hx rfl (S4.dec d24_57) rfl) ?_
  show own_F _ p e below _ Z _ _ _ _ _ (T4.setTop (mkF m 58 #[.val (.ref aB), .val (.int ((i <<< ((1 : Int32) &&& 31)) + (1 : Int32)))] [(.int ((((own_lo x) &&& (255 : Int32)) <<< ((0 : Int32) &&& 31)) ||| (((own_hi x) &&& (255 : Int32)) <<< ((8 : Int32) &&& 31))))]))
  refine own_F.of (fun _ => XS.i2c S4.here S4.hx rfl (S4.dec d24_58) rfl) ?_
  show own_F _ p e below _ Z _ _ _ _ _ (T4.setTop (mkF m 59 #[.val (.ref aB), .val (.int ((i <<< ((1 : Int32) &&& 31)) + (1 : Int32)))] [(.int (((((own_lo x) &&& (255 : Int32)) <<< ((0 : Int32) &&& 31)) ||| (((own_hi x) &&& (255 : Int32)) <<< ((8 : Int32) &&& 31))).toUInt32.toUInt16.toUInt32.toInt32))]))
  refine own_retZ S4 (by simp) d24_59 (by decide) (by decide) ?_
  rw [own_glue cx, own_narC cx]; exact ⟨rfl, rfl⟩
theorem d23_0 : decode jdk_52_method_4_code 0 = .ok (.getstatic 44, 3) := by decide +kernel
theorem d23_3 : decode jdk_52_method_4_code 3 = .ok (.ifCond .ne 25, 3) := by decide +kernel
theorem d23_6 : decode jdk_52_method_4_code 6 = .ok (.iload_n 1, 1) := by decide +kernel
theorem d23_7 : decode jdk_52_method_4_code 7 = .ok (.ifCond .lt 11, 3) := by decide +kernel
theorem d23_10 : decode jdk_52_method_4_code 10 = .ok (.iload_n 1, 1) := by decide +kernel
theorem d23_11 : decode jdk_52_method_4_code 11 = .ok (.aload_n 0, 1) := by decide +kernel
theorem d23_12 : decode jdk_52_method_4_code 12 = .ok (.invokestatic 48, 3) := by decide +kernel
theorem d23_15 : decode jdk_52_method_4_code 15 = .ok (.if_icmp .lt 13, 3) := by decide +kernel
theorem d23_18 : decode jdk_52_method_4_code 18 = .ok (.new 52, 3) := by decide +kernel
theorem d23_21 : decode jdk_52_method_4_code 21 = .ok (.dup, 1) := by decide +kernel
theorem d23_22 : decode jdk_52_method_4_code 22 = .ok (.ldc 54, 2) := by decide +kernel
theorem d23_24 : decode jdk_52_method_4_code 24 = .ok (.invokespecial 56, 3) := by decide +kernel
theorem d23_27 : decode jdk_52_method_4_code 27 = .ok (.athrow, 1) := by decide +kernel
theorem d23_28 : decode jdk_52_method_4_code 28 = .ok (.iload_n 1, 1) := by decide +kernel
theorem d23_29 : decode jdk_52_method_4_code 29 = .ok (.iconst 1, 1) := by decide +kernel
theorem d23_30 : decode jdk_52_method_4_code 30 = .ok (.ishl, 1) := by decide +kernel
theorem d23_31 : decode jdk_52_method_4_code 31 = .ok (.istore_n 1, 1) := by decide +kernel
theorem d23_32 : decode jdk_52_method_4_code 32 = .ok (.aload_n 0, 1) := by decide +kernel
theorem d23_33 : decode jdk_52_method_4_code 33 = .ok (.iload_n 1, 1) := by decide +kernel
theorem d23_34 : decode jdk_52_method_4_code 34 = .ok (.iinc 1 1, 3) := by decide +kernel
theorem d23_37 : decode jdk_52_method_4_code 37 = .ok (.iload_n 2, 1) := by decide +kernel
theorem d23_38 : decode jdk_52_method_4_code 38 = .ok (.getstatic 59, 3) := by decide +kernel
theorem d23_41 : decode jdk_52_method_4_code 41 = .ok (.ishr, 1) := by decide +kernel
theorem d23_42 : decode jdk_52_method_4_code 42 = .ok (.i2b, 1) := by decide +kernel
theorem d23_43 : decode jdk_52_method_4_code 43 = .ok (.bastore, 1) := by decide +kernel
theorem d23_44 : decode jdk_52_method_4_code 44 = .ok (.aload_n 0, 1) := by decide +kernel
theorem d23_45 : decode jdk_52_method_4_code 45 = .ok (.iload_n 1, 1) := by decide +kernel
theorem d23_46 : decode jdk_52_method_4_code 46 = .ok (.iload_n 2, 1) := by decide +kernel
theorem d23_47 : decode jdk_52_method_4_code 47 = .ok (.getstatic 63, 3) := by decide +kernel
theorem d23_50 : decode jdk_52_method_4_code 50 = .ok (.ishr, 1) := by decide +kernel
theorem d23_51 : decode jdk_52_method_4_code 51 = .ok (.i2b, 1) := by decide +kernel
theorem d23_52 : decode jdk_52_method_4_code 52 = .ok (.bastore, 1) := by decide +kernel
theorem d23_53 : decode jdk_52_method_4_code 53 = .ok (.return_, 1) := by decide +kernel
theorem pn23 : plainFor (⟨"java/lang/StringUTF16", "putChar", "([BII)V"⟩ : MethodName) = true := plainFor_of_name (by first | (simp [plainName, overriddenIn]; done) | decide +kernel)
set_option maxRecDepth 65536 in
set_option maxHeartbeats 40000000 in
theorem own_putC (l : Launch) (Z : State) (a0 : Array Value) (hw : ∀ d ∈ tables_1, d.before a0 Z = true) (aB : Addr) (vs : List Value) (i j0 j1 x : Int32) (h0 : Heap) (hO : Ext Z.heap h0) (S_as : Sta Z Z.heap "java/lang/StringUTF16" "$assertionsDisabled" "Z" (.int 1)) (S_hi : Sta Z Z.heap "java/lang/StringUTF16" "HI_BYTE_SHIFT" "I" (.int 0)) (S_lo : Sta Z Z.heap "java/lang/StringUTF16" "LO_BYTE_SHIFT" "I" (.int 8)) (e0 : (i <<< ((1 : Int32) &&& 31)) = j0) (e1 : (j0 + (1 : Int32)) = j1) (g0 : ¬ j0 < 0) (g1 : ¬ j1 < 0) (l0 : j0.toNatClampNeg < vs.length) (l1 : j1.toNatClampNeg < vs.length) (gB : Z.heap.size ≤ aB) (AB : own_A Z h0 aB .byte vs) :
    own_C l Z (⟨"java/lang/StringUTF16", "putChar", "([BII)V"⟩ : MethodName) jdk_52_method_4_code 3 none [] ({ frames := 0, cells := 0, slots := 0, locals := 0 } : Room) [aB] #[(.ref aB), (.int i), (.int x)] h0 (fun v h => v = none ∧ own_A Z h aB .byte ((vs.set j0.toNatClampNeg (.int (own_lo x))).set j1.toNatClampNeg (.int (own_hi x)))) := by
  refine own_C.of pn23 hO (allS gB all0) ?_
  intro p e s m below meth c T0 S0
  refine own_F.cast (by first | (simp [entryFrame, mkF, argsToLocals, Value.category]; done) | rfl : entryFrame m #[(.ref aB), (.int i), (.int x)] 3 = mkF m 0 #[.val (.ref aB), .val (.int i), .val (.int x)] []) ?_
  subst e0 e1
  show own_F _ p e below _ Z _ _ _ _ _ (T0.setTop (mkF m 0 #[.val (.ref aB), .val (.int i), .val (.int x)] []))
  refine own_getS S0 (host := "") (Or.inl (own_w hw 104 rfl)) Via.refl (S_as.ext S0.old) d23_0 (fun T1 S1 => ?_)
  show own_F _ p e below _ Z _ _ _ _ _ (T1.setTop (mkF m 3 #[.val (.ref aB), .val (.int i), .val (.int x)] [(.int 1)]))
  refine own_if S1 28 d23_3 (by decide) (by decide) (fun (hc3_2 : ¬ ((1 : Int32) = (0 : Int32))) => ?_) (fun (hc3_2 : (1 : Int32) = (0 : Int32)) => False.elim (absurd hc3_2 (by decide)))
  show own_F _ p e below _ Z _ _ _ _ _ (T1.setTop (mkF m 28 #[.val (.ref aB), .val (.int i), .val (.int x)] []))
  refine own_F.of (fun _ => XS.iloadN S1.here S1.hx rfl (S1.dec d23_28) rfl) ?_
  refine own_F.of (fun _ => XS.iconst S1.here S1.hx rfl (S1.dec d23_29)) ?_
  show own_F _ p e below _ Z _ _ _ _ _ (T1.setTop (mkF m 30 #[.val (.ref aB), .val (.int i), .val (.int x)] [(.int 1), (.int i)]))
  refine own_F.of (fun _ => XS.ishl S1.here S1.hx rfl (S1.dec d23_30) rfl) ?_
  show own_F _ p e below _ Z _ _ _ _ _ (T1.setTop (mkF m 31 #[.val (.ref aB), .val (.int i), .val (.int x)] [(.int (i <<< ((1 : Int32) &&& 31)))]))
  refine own_F.of (fun _ => XS.istoreN S1.here S1.hx rfl (S1.dec d23_31) rfl (l' := #[.val (.ref aB), .val (.int (i <<< ((1 : Int32) &&& 31))), .val (.int x)]) rfl) ?_
  refine own_F.of (fun _ => XS.aloadN S1.here S1.hx rfl (S1.dec d23_32) rfl rfl) ?_
  refine own_F.of (fun _ => XS.iloadN S1.here S1.hx rfl (S1.dec d23_33) rfl) ?_
  show own_F _ p e below _ Z _ _ _ _ _ (T1.setTop (mkF m 34 #[.val (.ref aB), .val (.int (i <<< ((1 : Int32) &&& 31))), .val (.int x)] [(.int (i <<< ((1 : Int32) &&& 31))), (.ref aB)]))
  refine own_F.of (fun _ => XS.iinc S1.here S1.hx rfl (S1.dec d23_34) rfl (l' := #[.val (.ref aB), .val (.int ((i <<< ((1 : Int32) &&& 31)) + (1 : Int32))), .val (.int x)]) rfl) ?_
  show own_F _ p e below _ Z _ _ _ _ _ (T1.setTop (mkF m 37 #[.val (.ref aB), .val (.int ((i <<< ((1 : Int32) &&& 31)) + (1 : Int32))), .val (.int x)] [(.int (i <<< ((1 : Int32) &&& 31))), (.ref aB)]))
  refine own_F.of (fun _ => XS.iloadN S1.here S1.hx rfl (S1.dec d23_37) rfl) ?_
  show own_F _ p e below _ Z _ _ _ _ _ (T1.setTop (mkF m 38 #[.val (.ref aB), .val (.int ((i <<< ((1 : Int32) &&& 31)) + (1 : Int32))), .val (.int x)] [(.int x), (.int (i <<< ((1 : Int32) &&& 31))), (.ref aB)]))
  refine own_getS S1 (host := "") (Or.inl (own_w hw 105 rfl)) Via.refl (S_hi.ext S1.old) d23_38 (fun T3 S3 => ?_)
  show own_F _ p e below _ Z _ _ _ _ _ (T3.setTop (mkF m 41 #[.val (.ref aB), .val (.int ((i <<< ((1 : Int32) &&& 31)) + (1 : Int32))), .val (.int x)] [(.int 0), (.int x), (.int (i <<< ((1 : Int32) &&& 31))), (.ref aB)]))
  refine own_F.of (fun _ => XS.ishr S3.here S3.hx rfl (S3.dec d23_41) rfl) ?_
  show own_F _ p e below _ Z _ _ _ _ _ (T3.setTop (mkF m 42 #[.val (.ref aB), .val (.int ((i <<< ((1 : Int32) &&& 31)) + (1 : Int32))), .val (.int x)] [(.int (x >>> ((0 : Int32) &&& 31))), (.int (i <<< ((1 : Int32) &&& 31))), (.ref aB)]))
  refine own_F.of (fun _ => XS.i2b S3.here S3.hx rfl (S3.dec d23_42) rfl) ?_
  show own_F _ p e below _ Z _ _ _ _ _ (T3.setTop (mkF m 43 #[.val (.ref aB), .val (.int ((i <<< ((1 : Int32) &&& 31)) + (1 : Int32))), .val (.int x)] [(.int ((x >>> ((0 : Int32) &&& 31)).toInt8.toInt32)), (.int (i <<< ((1 : Int32) &&& 31))), (.ref aB)]))
  refine own_bst S3 AB g0 l0 d23_43 (Or.inl (List.mem_of_getElem? (i := 0) rfl)) (fun T4 h4 S4 W4 A4 => ?_)
  show own_F _ p e below _ Z _ _ _ _ _ (T4.setTop (mkF m 44 #[.val (.ref aB), .val (.int ((i <<< ((1 : Int32) &&& 31)) + (1 : Int32))), .val (.int x)] []))
  refine own_F.of (fun _ => XS.aloadN S4.here S4.hx rfl (S4.dec d23_44) rfl rfl) ?_
  refine own_F.of (fun _ => XS.iloadN S4.here S4.hx rfl (S4.dec d23_45) rfl) ?_
  refine own_F.of (fun _ => XS.iloadN S4.here S4.hx rfl (S4.dec d23_46) rfl) ?_
  show own_F _ p e below _ Z _ _ _ _ _ (T4.setTop (mkF m 47 #[.val (.ref aB), .val (.int ((i <<< ((1 : Int32) &&& 31)) + (1 : Int32))), .val (.int x)] [(.int x), (.int ((i <<< ((1 : Int32) &&& 31)) + (1 : Int32))), (.ref aB)]))
  refine own_getS S4 (host := "") (Or.inl (own_w hw 106 rfl)) Via.refl (S_lo.ext S4.old) d23_47 (fun T5 S5 => ?_)
  show own_F _ p e below _ Z _ _ _ _ _ (T5.setTop (mkF m 50 #[.val (.ref aB), .val (.int ((i <<< ((1 : Int32) &&& 31)) + (1 : Int32))), .val (.int x)] [(.int 8), (.int x), (.int ((i <<< ((1 : Int32) &&& 31)) + (1 : Int32))), (.ref aB)]))
  refine own_F.of (fun _ => XS.ishr S5.here S5.hx rfl (S5.dec d23_50) rfl) ?_
  show own_F _ p e below _ Z _ _ _ _ _ (T5.setTop (mkF m 51 #[.val (.ref aB), .val (.int ((i <<< ((1 : Int32) &&& 31)) + (1 : Int32))), .val (.int x)] [(.int (x >>> ((8 : Int32) &&& 31))), (.int ((i <<< ((1 : Int32) &&& 31)) + (1 : Int32))), (.ref aB)]))
  refine own_F.of (fun _ => XS.i2b S5.here S5.hx rfl (S5.dec d23_51) rfl) ?_
  show own_F _ p e below _ Z _ _ _ _ _ (T5.setTop (mkF m 52 #[.val (.ref aB), .val (.int ((i <<< ((1 : Int32) &&& 31)) + (1 : Int32))), .val (.int x)] [(.int ((x >>> ((8 : Int32) &&& 31)).toInt8.toInt32)), (.int ((i <<< ((1 : Int32) &&& 31)) + (1 : Int32))), (.ref aB)]))
  refine own_bst S5 A4 g1 (by rw [List.length_set]; exact l1) d23_52 (Or.inl (List.mem_of_getElem? (i := 0) rfl)) (fun T6 h6 S6 W6 A6 => ?_)
  show own_F _ p e below _ Z _ _ _ _ _ (T6.setTop (mkF m 53 #[.val (.ref aB), .val (.int ((i <<< ((1 : Int32) &&& 31)) + (1 : Int32))), .val (.int x)] []))
  refine own_retV S6 d23_53 (by decide) (by decide) ?_
  exact ⟨rfl, A6⟩
theorem d22_0 : decode jdk_52_method_3_code 0 = .ok (.iload_n 0, 1) := by decide +kernel
theorem d22_1 : decode jdk_52_method_3_code 1 = .ok (.ifCond .ge 11, 3) := by decide +kernel
theorem d22_4 : decode jdk_52_method_3_code 4 = .ok (.new 17, 3) := by decide +kernel
theorem d22_7 : decode jdk_52_method_3_code 7 = .ok (.dup, 1) := by decide +kernel
theorem d22_8 : decode jdk_52_method_3_code 8 = .ok (.invokespecial 19, 3) := by decide +kernel
theorem d22_11 : decode jdk_52_method_3_code 11 = .ok (.athrow, 1) := by decide +kernel
theorem d22_12 : decode jdk_52_method_3_code 12 = .ok (.iload_n 0, 1) := by decide +kernel
theorem d22_13 : decode jdk_52_method_3_code 13 = .ok (.ldc 20, 2) := by decide +kernel
theorem d22_15 : decode jdk_52_method_3_code 15 = .ok (.if_icmp .lt 40, 3) := by decide +kernel
theorem d22_18 : decode jdk_52_method_3_code 18 = .ok (.new 21, 3) := by decide +kernel
theorem d22_21 : decode jdk_52_method_3_code 21 = .ok (.dup, 1) := by decide +kernel
theorem d22_22 : decode jdk_52_method_3_code 22 = .ok (.new 23, 3) := by decide +kernel
theorem d22_25 : decode jdk_52_method_3_code 25 = .ok (.dup, 1) := by decide +kernel
theorem d22_26 : decode jdk_52_method_3_code 26 = .ok (.invokespecial 25, 3) := by decide +kernel
theorem d22_29 : decode jdk_52_method_3_code 29 = .ok (.ldc 26, 2) := by decide +kernel
theorem d22_31 : decode jdk_52_method_3_code 31 = .ok (.invokevirtual 28, 3) := by decide +kernel
theorem d22_34 : decode jdk_52_method_3_code 34 = .ok (.iload_n 0, 1) := by decide +kernel
theorem d22_35 : decode jdk_52_method_3_code 35 = .ok (.invokevirtual 32, 3) := by decide +kernel
theorem d22_38 : decode jdk_52_method_3_code 38 = .ok (.ldc 35, 2) := by decide +kernel
theorem d22_40 : decode jdk_52_method_3_code 40 = .ok (.invokevirtual 28, 3) := by decide +kernel
theorem d22_43 : decode jdk_52_method_3_code 43 = .ok (.ldc 20, 2) := by decide +kernel
theorem d22_45 : decode jdk_52_method_3_code 45 = .ok (.invokevirtual 32, 3) := by decide +kernel
theorem d22_48 : decode jdk_52_method_3_code 48 = .ok (.invokevirtual 37, 3) := by decide +kernel
theorem d22_51 : decode jdk_52_method_3_code 51 = .ok (.invokespecial 41, 3) := by decide +kernel
theorem d22_54 : decode jdk_52_method_3_code 54 = .ok (.athrow, 1) := by decide +kernel
theorem d22_55 : decode jdk_52_method_3_code 55 = .ok (.iload_n 0, 1) := by decide +kernel
theorem d22_56 : decode jdk_52_method_3_code 56 = .ok (.iconst 1, 1) := by decide +kernel
theorem d22_57 : decode jdk_52_method_3_code 57 = .ok (.ishl, 1) := by decide +kernel
theorem d22_58 : decode jdk_52_method_3_code 58 = .ok (.ireturn, 1) := by decide +kernel
theorem pn22 : plainFor (⟨"java/lang/StringUTF16", "newBytesLength", "(I)I"⟩ : MethodName) = true := plainFor_of_name (by first | (simp [plainName, overriddenIn]; done) | decide +kernel)
set_option maxRecDepth 65536 in
set_option maxHeartbeats 40000000 in
theorem own_nbl1 (l : Launch) (Z : State) (a0 : Array Value) (hw : ∀ d ∈ tables_1, d.before a0 Z = true)  (h0 : Heap) (hO : Ext Z.heap h0) :
    own_C l Z (⟨"java/lang/StringUTF16", "newBytesLength", "(I)I"⟩ : MethodName) jdk_52_method_3_code 1 (some .int) [] ({ frames := 0, cells := 0, slots := 0, locals := 0 } : Room) [] #[(.int (1 : Int32))] h0 (fun v h => v = some (.int (2 : Int32)) ∧ h0 = h) := by
  refine own_C.of pn22 hO all0 ?_
  intro p e s m below meth c T0 S0
  refine own_F.cast (by first | (simp [entryFrame, mkF, argsToLocals, Value.category]; done) | rfl : entryFrame m #[(.int (1 : Int32))] 1 = mkF m 0 #[.val (.int (1 : Int32))] []) ?_
  show own_F _ p e below _ Z _ _ _ _ _ (T0.setTop (mkF m 0 #[.val (.int 1)] []))
  refine own_F.of (fun _ => XS.iloadN S0.here S0.hx rfl (S0.dec d22_0) rfl) ?_
  show own_F _ p e below _ Z _ _ _ _ _ (T0.setTop (mkF m 1 #[.val (.int 1)] [(.int 1)]))
  refine own_if S0 12 d22_1 (by decide) (by decide) (fun (hc1_1 : ¬ ((1 : Int32) < (0 : Int32))) => ?_) (fun (hc1_1 : (1 : Int32) < (0 : Int32)) => False.elim (absurd hc1_1 (by decide)))
  show own_F _ p e below _ Z _ _ _ _ _ (T0.setTop (mkF m 12 #[.val (.int 1)] []))
  refine own_F.of (fun _ => XS.iloadN S0.here S0.hx rfl (S0.dec d22_12) rfl) ?_
  show own_F _ p e below _ Z _ _ _ _ _ (T0.setTop (mkF m 13 #[.val (.int 1)] [(.int 1)]))
  refine own_ldcI S0 (own_w hw 100 rfl) d22_13 ?_
  show own_F _ p e below _ Z _ _ _ _ _ (T0.setTop (mkF m 15 #[.val (.int 1)] [(.int 1073741823), (.int 1)]))
  refine own_icmp S0 55 d22_15 (by decide) (by decide) (fun (hc15_2 : (1 : Int32) < (1073741823 : Int32)) => ?_) (fun (hc15_2 : ¬ ((1 : Int32) < (1073741823 : Int32))) => False.elim (absurd hc15_2 (by decide)))
  show own_F _ p e below _ Z _ _ _ _ _ (T0.setTop (mkF m 55 #[.val (.int 1)] []))
  refine own_F.of (fun _ => XS.iloadN S0.here S0.hx rfl (S0.dec d22_55) rfl) ?_
  refine own_F.of (fun _ => XS.iconst S0.here S0.hx rfl (S0.dec d22_56)) ?_
  show own_F _ p e below _ Z _ _ _ _ _ (T0.setTop (mkF m 57 #[.val (.int 1)] [(.int 1), (.int 1)]))
  refine own_F.of (fun _ => XS.ishl S0.here S0.hx rfl (S0.dec d22_57) rfl) ?_
  show own_F _ p e below _ Z _ _ _ _ _ (T0.setTop (mkF m 58 #[.val (.int 1)] [(.int 2)]))
  refine own_retI S0 d22_58 (by decide) (by decide) ?_
  exact ⟨rfl, rfl⟩
theorem d21_0 : decode jdk_52_method_2_code 0 = .ok (.iload_n 0, 1) := by decide +kernel
theorem d21_1 : decode jdk_52_method_2_code 1 = .ok (.invokestatic 11, 3) := by decide +kernel
theorem d21_4 : decode jdk_52_method_2_code 4 = .ok (.newarray .byte, 2) := by decide +kernel
theorem d21_6 : decode jdk_52_method_2_code 6 = .ok (.areturn, 1) := by decide +kernel
theorem pn21 : plainFor (⟨"java/lang/StringUTF16", "newBytesFor", "(I)[B"⟩ : MethodName) = true := plainFor_of_name (by first | (simp [plainName, overriddenIn]; done) | decide +kernel)
set_option maxRecDepth 65536 in
set_option maxHeartbeats 40000000 in
theorem own_nbf1 (l : Launch) (Z : State) (a0 : Array Value) (hw : ∀ d ∈ tables_1, d.before a0 Z = true)  (h0 : Heap) (hO : Ext Z.heap h0) :
    own_C l Z (⟨"java/lang/StringUTF16", "newBytesFor", "(I)[B"⟩ : MethodName) jdk_52_method_2_code 1 (some (.array .byte)) [] ({ frames := 1, cells := 1, slots := 2, locals := 12 } : Room) [] #[(.int (1 : Int32))] h0 (fun v h => ∃ b, v = some (.ref b) ∧ h0.size ≤ b ∧ own_A Z h b .byte [(.int (0 : Int32)), (.int (0 : Int32))]) := by
  refine own_C.of pn21 hO all0 ?_
  intro p e s m below meth c T0 S0
  refine own_F.cast (by first | (simp [entryFrame, mkF, argsToLocals, Value.category]; done) | rfl : entryFrame m #[(.int (1 : Int32))] 1 = mkF m 0 #[.val (.int (1 : Int32))] []) ?_
  show own_F _ p e below _ Z _ _ _ _ _ (T0.setTop (mkF m 0 #[.val (.int 1)] []))
  refine own_F.of (fun _ => XS.iloadN S0.here S0.hx rfl (S0.dec d21_0) rfl) ?_
  show own_F _ p e below _ Z _ _ _ _ _ (T0.setTop (mkF m 1 #[.val (.int 1)] [(.int 1)]))
  refine own_callS S0 (y := (⟨"java/lang/StringUTF16", "newBytesLength", "(I)I"⟩ : MethodName)) (own_w hw 97 rfl) (own_w hw 98 rfl) (own_w hw 42 rfl) (own_w hw 99 rfl) (by decide) (argsL := [(.int (1 : Int32))]) (rest := []) (own_nbl1 l Z a0 hw h0 S0.old) all0 (by decide +kernel : parseMethodDescriptor "(I)I" = some ⟨[.int], some .int⟩) rfl rfl rfl d21_1 (by decide) (Nat.le_of_ble_eq_true rfl) (by decide) (by decide) (fun T1 h1 v1 S1 K1 q1 => ?_)
  obtain ⟨rfl, rfl⟩ := q1
  show own_F _ p e below _ Z _ _ _ _ _ (T1.setTop (mkF m 4 #[.val (.int 1)] [(.int 2)]))
  refine own_newP S1 (own_w hw 23 rfl) d21_4 (by decide) (cap := 2) (by decide) (by decide) (by decide) (by decide) (fun T2 h2 b2 g2 S2 E2 A2 => ?_)
  have V3 : own_A Z h2 b2 .byte [(.int (0 : Int32)), (.int (0 : Int32))] := A2
  show own_F _ p e below _ Z _ _ _ _ _ (T2.setTop (mkF m 6 #[.val (.int 1)] [(.ref b2)]))
  refine own_retA S2 rfl rfl d21_6 (by decide) (by decide) ?_
  exact ⟨_, rfl, (Nat.le_of_eq g2.symm), V3⟩
theorem d20_0 : decode jdk_52_method_14_code 0 = .ok (.iload_n 2, 1) := by decide +kernel
theorem d20_1 : decode jdk_52_method_14_code 1 = .ok (.invokestatic 107, 3) := by decide +kernel
theorem d20_4 : decode jdk_52_method_14_code 4 = .ok (.astore_n 3, 1) := by decide +kernel
theorem d20_5 : decode jdk_52_method_14_code 5 = .ok (.iconst 0, 1) := by decide +kernel
theorem d20_6 : decode jdk_52_method_14_code 6 = .ok (.istore 4, 2) := by decide +kernel
theorem d20_8 : decode jdk_52_method_14_code 8 = .ok (.iload 4, 2) := by decide +kernel
theorem d20_10 : decode jdk_52_method_14_code 10 = .ok (.iload_n 2, 1) := by decide +kernel
theorem d20_11 : decode jdk_52_method_14_code 11 = .ok (.if_icmp .ge 21, 3) := by decide +kernel
theorem d20_14 : decode jdk_52_method_14_code 14 = .ok (.aload_n 3, 1) := by decide +kernel
theorem d20_15 : decode jdk_52_method_14_code 15 = .ok (.iload 4, 2) := by decide +kernel
theorem d20_17 : decode jdk_52_method_14_code 17 = .ok (.aload_n 0, 1) := by decide +kernel
theorem d20_18 : decode jdk_52_method_14_code 18 = .ok (.iload_n 1, 1) := by decide +kernel
theorem d20_19 : decode jdk_52_method_14_code 19 = .ok (.caload, 1) := by decide +kernel
theorem d20_20 : decode jdk_52_method_14_code 20 = .ok (.invokestatic 111, 3) := by decide +kernel
theorem d20_23 : decode jdk_52_method_14_code 23 = .ok (.iinc 1 1, 3) := by decide +kernel
theorem d20_26 : decode jdk_52_method_14_code 26 = .ok (.iinc 4 1, 3) := by decide +kernel
theorem d20_29 : decode jdk_52_method_14_code 29 = .ok (.goto (-21), 3) := by decide +kernel
theorem d20_32 : decode jdk_52_method_14_code 32 = .ok (.aload_n 3, 1) := by decide +kernel
theorem d20_33 : decode jdk_52_method_14_code 33 = .ok (.areturn, 1) := by decide +kernel
theorem pn20 : plainFor (⟨"java/lang/StringUTF16", "toBytes", "([CII)[B"⟩ : MethodName) = true := plainFor_of_name (by first | (simp [plainName, overriddenIn]; done) | decide +kernel)
set_option maxRecDepth 65536 in
set_option maxHeartbeats 40000000 in
theorem own_toB1 (l : Launch) (Z : State) (a0 : Array Value) (hw : ∀ d ∈ tables_1, d.before a0 Z = true) (aC : Addr) (x1 : Int32) (h0 : Heap) (hO : Ext Z.heap h0) (S_as : Sta Z Z.heap "java/lang/StringUTF16" "$assertionsDisabled" "Z" (.int 1)) (S_hi : Sta Z Z.heap "java/lang/StringUTF16" "HI_BYTE_SHIFT" "I" (.int 0)) (S_lo : Sta Z Z.heap "java/lang/StringUTF16" "LO_BYTE_SHIFT" "I" (.int 8)) (AC : own_A Z h0 aC .char [(.int x1)]) :
    own_C l Z (⟨"java/lang/StringUTF16", "toBytes", "([CII)[B"⟩ : MethodName) jdk_52_method_14_code 5 (some (.array .byte)) [] ({ frames := 2, cells := 1, slots := 2, locals := 24 } : Room) [] #[(.ref aC), (.int (0 : Int32)), (.int (1 : Int32))] h0 (fun v h => ∃ b, v = some (.ref b) ∧ own_A Z h b .byte [(.int (own_lo x1)), (.int (own_hi x1))]) := by
  refine own_C.of pn20 hO all0 ?_
  intro p e s m below meth c T0 S0
  refine own_F.cast (by first | (simp [entryFrame, mkF, argsToLocals, Value.category]; done) | rfl : entryFrame m #[(.ref aC), (.int (0 : Int32)), (.int (1 : Int32))] 5 = mkF m 0 #[.val (.ref aC), .val (.int (0 : Int32)), .val (.int (1 : Int32)), .unset, .unset] []) ?_
  show own_F _ p e below _ Z _ _ _ _ _ (T0.setTop (mkF m 0 #[.val (.ref aC), .val (.int 0), .val (.int 1), .unset, .unset] []))
  refine own_F.of (fun _ => XS.iloadN S0.here S0.hx rfl (S0.dec d20_0) rfl) ?_
  show own_F _ p e below _ Z _ _ _ _ _ (T0.setTop (mkF m 1 #[.val (.ref aC), .val (.int 0), .val (.int 1), .unset, .unset] [(.int 1)]))
  refine own_callS S0 (y := (⟨"java/lang/StringUTF16", "newBytesFor", "(I)[B"⟩ : MethodName)) (own_w hw 94 rfl) (own_w hw 95 rfl) (own_w hw 42 rfl) (own_w hw 96 rfl) (by decide) (argsL := [(.int (1 : Int32))]) (rest := []) (own_nbf1 l Z a0 hw h0 S0.old) all0 (by decide +kernel : parseMethodDescriptor "(I)[B" = some ⟨[.int], some (.array .byte)⟩) rfl rfl rfl d20_1 (by decide) (Nat.le_of_ble_eq_true rfl) (by decide) (by decide) (fun T1 h1 v1 S1 K1 q1 => ?_)
  obtain ⟨b1, rfl, g1, F1⟩ := q1
  have V2 : own_A Z h1 b1 .byte [(.int (0 : Int32)), (.int (0 : Int32))] := F1
  show own_F _ p e below _ Z _ _ _ _ _ (T1.setTop (mkF m 4 #[.val (.ref aC), .val (.int 0), .val (.int 1), .unset, .unset] [(.ref b1)]))
  refine own_F.of (fun _ => XS.astoreN S1.here S1.hx rfl (S1.dec d20_4) rfl rfl (l' := #[.val (.ref aC), .val (.int 0), .val (.int 1), .val (.ref b1), .unset]) rfl) ?_
  refine own_F.of (fun _ => XS.iconst S1.here S1.hx rfl (S1.dec d20_5)) ?_
  show own_F _ p e below _ Z _ _ _ _ _ (T1.setTop (mkF m 6 #[.val (.ref aC), .val (.int 0), .val (.int 1), .val (.ref b1), .unset] [(.int 0)]))
  refine own_F.of (fun _ => XS.istore S1.here S1.hx rfl (S1.dec d20_6) rfl (l' := #[.val (.ref aC), .val (.int 0), .val (.int 1), .val (.ref b1), .val (.int 0)]) rfl) ?_
  refine own_F.of (fun _ => XS.iload S1.here S1.hx rfl (S1.dec d20_8) rfl) ?_
  refine own_F.of (fun _ => XS.iloadN S1.here S1.hx rfl (S1.dec d20_10) rfl) ?_
  show own_F _ p e below _ Z _ _ _ _ _ (T1.setTop (mkF m 11 #[.val (.ref aC), .val (.int 0), .val (.int 1), .val (.ref b1), .val (.int 0)] [(.int 1), (.int 0)]))
  refine own_icmp S1 32 d20_11 (by decide) (by decide) (fun (hc11_3 : ¬ ((0 : Int32) < (1 : Int32))) => False.elim (absurd hc11_3 (by decide))) (fun (hc11_3 : (0 : Int32) < (1 : Int32)) => ?_)
  show own_F _ p e below _ Z _ _ _ _ _ (T1.setTop (mkF m 14 #[.val (.ref aC), .val (.int 0), .val (.int 1), .val (.ref b1), .val (.int 0)] []))
  refine own_F.of (fun _ => XS.aloadN S1.here S1.hx rfl (S1.dec d20_14) rfl rfl) ?_
  refine own_F.of (fun _ => XS.iload S1.here S1.hx rfl (S1.dec d20_15) rfl) ?_
  refine own_F.of (fun _ => XS.aloadN S1.here S1.hx rfl (S1.dec d20_17) rfl rfl) ?_
  refine own_F.of (fun _ => XS.iloadN S1.here S1.hx rfl (S1.dec d20_18) rfl) ?_
  show own_F _ p e below _ Z _ _ _ _ _ (T1.setTop (mkF m 19 #[.val (.ref aC), .val (.int 0), .val (.int 1), .val (.ref b1), .val (.int 0)] [(.int 0), (.ref aC), (.int 0), (.ref b1)]))
  have fq4 := (AC.keep K1 nin0)
  refine own_cald S1 fq4 (by decide) rfl d20_19 ?_
  show own_F _ p e below _ Z _ _ _ _ _ (T1.setTop (mkF m 20 #[.val (.ref aC), .val (.int 0), .val (.int 1), .val (.ref b1), .val (.int 0)] [(.int x1), (.int 0), (.ref b1)]))
  refine own_callS S1 (y := (⟨"java/lang/StringUTF16", "putChar", "([BII)V"⟩ : MethodName)) (own_w hw 101 rfl) (own_w hw 102 rfl) (own_w hw 42 rfl) (own_w hw 103 rfl) (by decide) (argsL := [(.ref b1), (.int (0 : Int32)), (.int x1)]) (rest := []) (own_putC l Z a0 hw b1 [(.int (0 : Int32)), (.int (0 : Int32))] (0 : Int32) (0 : Int32) (1 : Int32) x1 h1 S1.old S_as S_hi S_lo (by decide) (by decide) (by decide) (by decide) (Nat.le_of_ble_eq_true rfl) (Nat.le_of_ble_eq_true rfl) (own_mayN S1 (Or.inr g1)) V2) (allS (Or.inr g1) all0) (by decide +kernel : parseMethodDescriptor "([BII)V" = some ⟨[(.array .byte), .int, .int], none⟩) rfl rfl rfl d20_20 (by decide) (Nat.le_of_ble_eq_true rfl) (by decide) (by decide) (fun T5 h5 v5 S5 K5 q5 => ?_)
  obtain ⟨rfl, F5⟩ := q5
  have V6 : own_A Z h5 b1 .byte [(.int (own_lo x1)), (.int (own_hi x1))] := F5
  show own_F _ p e below _ Z _ _ _ _ _ (T5.setTop (mkF m 23 #[.val (.ref aC), .val (.int 0), .val (.int 1), .val (.ref b1), .val (.int 0)] []))
  refine own_F.of (fun _ => XS.iinc S5.here S5.hx rfl (S5.dec d20_23) rfl (l' := #[.val (.ref aC), .val (.int 1), .val (.int 1), .val (.ref b1), .val (.int 0)]) rfl) ?_
  show own_F _ p e below _ Z _ _ _ _ _ (T5.setTop (mkF m 26 #[.val (.ref aC), .val (.int 1), .val (.int 1), .val (.ref b1), .val (.int 0)] []))
  refine own_F.of (fun _ => XS.iinc S5.here S5.hx rfl (S5.dec d20_26) rfl (l' := #[.val (.ref aC), .val (.int 1), .val (.int 1), .val (.ref b1), .val (.int 1)]) rfl) ?_
  show own_F _ p e below _ Z _ _ _ _ _ (T5.setTop (mkF m 29 #[.val (.ref aC), .val (.int 1), .val (.int 1), .val (.ref b1), .val (.int 1)] []))
  refine own_F.of (fun _ => XS.goto S5.here S5.hx rfl (pc0 := 29) (pc' := 8) rfl (S5.dec d20_29) (by decide) (by decide)) ?_
  show own_F _ p e below _ Z _ _ _ _ _ (T5.setTop (mkF m 8 #[.val (.ref aC), .val (.int 1), .val (.int 1), .val (.ref b1), .val (.int 1)] []))
  refine own_F.of (fun _ => XS.iload S5.here S5.hx rfl (S5.dec d20_8) rfl) ?_
  refine own_F.of (fun _ => XS.iloadN S5.here S5.hx rfl (S5.dec d20_10) rfl) ?_
  show own_F _ p e below _ Z _ _ _ _ _ (T5.setTop (mkF m 11 #[.val (.ref aC), .val (.int 1), .val (.int 1), .val (.ref b1), .val (.int 1)] [(.int 1), (.int 1)]))
  refine own_icmp S5 32 d20_11 (by decide) (by decide) (fun (hc11_7 : ¬ ((1 : Int32) < (1 : Int32))) => ?_) (fun (hc11_7 : (1 : Int32) < (1 : Int32)) => False.elim (absurd hc11_7 (by decide)))
  show own_F _ p e below _ Z _ _ _ _ _ (T5.setTop (mkF m 32 #[.val (.ref aC), .val (.int 1), .val (.int 1), .val (.ref b1), .val (.int 1)] []))
  refine own_F.of (fun _ => XS.aloadN S5.here S5.hx rfl (S5.dec d20_32) rfl rfl) ?_
  show own_F _ p e below _ Z _ _ _ _ _ (T5.setTop (mkF m 33 #[.val (.ref aC), .val (.int 1), .val (.int 1), .val (.ref b1), .val (.int 1)] [(.ref b1)]))
  refine own_retA S5 rfl rfl d20_33 (by decide) (by decide) ?_
  exact ⟨_, rfl, V6⟩
theorem d9_0 : decode jdk_52_method_21_code 0 = .ok (.iconst 0, 1) := by decide +kernel
theorem d9_1 : decode jdk_52_method_21_code 1 = .ok (.istore 5, 2) := by decide +kernel
theorem d9_3 : decode jdk_52_method_21_code 3 = .ok (.iload 5, 2) := by decide +kernel
theorem d9_5 : decode jdk_52_method_21_code 5 = .ok (.iload 4, 2) := by decide +kernel
theorem d9_7 : decode jdk_52_method_21_code 7 = .ok (.if_icmp .ge 37, 3) := by decide +kernel
theorem d9_10 : decode jdk_52_method_21_code 10 = .ok (.aload_n 0, 1) := by decide +kernel
theorem d9_11 : decode jdk_52_method_21_code 11 = .ok (.iload_n 1, 1) := by decide +kernel
theorem d9_12 : decode jdk_52_method_21_code 12 = .ok (.caload, 1) := by decide +kernel
theorem d9_13 : decode jdk_52_method_21_code 13 = .ok (.istore 6, 2) := by decide +kernel
theorem d9_15 : decode jdk_52_method_21_code 15 = .ok (.iload 6, 2) := by decide +kernel
theorem d9_17 : decode jdk_52_method_21_code 17 = .ok (.sipush 255, 3) := by decide +kernel
theorem d9_20 : decode jdk_52_method_21_code 20 = .ok (.if_icmp .le 6, 3) := by decide +kernel
theorem d9_23 : decode jdk_52_method_21_code 23 = .ok (.iload 5, 2) := by decide +kernel
theorem d9_25 : decode jdk_52_method_21_code 25 = .ok (.ireturn, 1) := by decide +kernel
theorem d9_26 : decode jdk_52_method_21_code 26 = .ok (.aload_n 2, 1) := by decide +kernel
theorem d9_27 : decode jdk_52_method_21_code 27 = .ok (.iload_n 3, 1) := by decide +kernel
theorem d9_28 : decode jdk_52_method_21_code 28 = .ok (.iload 6, 2) := by decide +kernel
theorem d9_30 : decode jdk_52_method_21_code 30 = .ok (.i2b, 1) := by decide +kernel
theorem d9_31 : decode jdk_52_method_21_code 31 = .ok (.bastore, 1) := by decide +kernel
theorem d9_32 : decode jdk_52_method_21_code 32 = .ok (.iinc 1 1, 3) := by decide +kernel
theorem d9_35 : decode jdk_52_method_21_code 35 = .ok (.iinc 3 1, 3) := by decide +kernel
theorem d9_38 : decode jdk_52_method_21_code 38 = .ok (.iinc 5 1, 3) := by decide +kernel
theorem d9_41 : decode jdk_52_method_21_code 41 = .ok (.goto (-38), 3) := by decide +kernel
theorem d9_44 : decode jdk_52_method_21_code 44 = .ok (.iload 4, 2) := by decide +kernel
theorem d9_46 : decode jdk_52_method_21_code 46 = .ok (.ireturn, 1) := by decide +kernel
theorem pn9 : plainFor (⟨"java/lang/StringUTF16", "compress", "([CI[BII)I"⟩ : MethodName) = true := plainFor_of_name (by first | (simp [plainName, overriddenIn]; done) | decide +kernel)
set_option maxRecDepth 65536 in
set_option maxHeartbeats 40000000 in
theorem own_cmpI1 (l : Launch) (Z : State) (a0 : Array Value) (hw : ∀ d ∈ tables_1, d.before a0 Z = true) (aC aB : Addr) (x1 : Int32) (h0 : Heap) (hO : Ext Z.heap h0) (AC : own_A Z h0 aC .char [(.int x1)]) (AB : own_A Z h0 aB .byte [(.int (0 : Int32))]) (gB : Z.heap.size ≤ aB) (nCB : aC ≠ aB) :
    own_C l Z (⟨"java/lang/StringUTF16", "compress", "([CI[BII)I"⟩ : MethodName) jdk_52_method_21_code 7 (some .int) [] ({ frames := 0, cells := 0, slots := 0, locals := 0 } : Room) [aB] #[(.ref aC), (.int (0 : Int32)), (.ref aB), (.int (0 : Int32)), (.int (1 : Int32))] h0 (fun v h => (v = some (.int (1 : Int32)) ∧ own_A Z h aB .byte [(.int (nar .byte (x1.toInt8.toInt32)))] ∧ ¬ 255 < x1) ∨ (v = some (.int (0 : Int32)) ∧ 255 < x1)) := by
  refine own_C.of pn9 hO (allS gB all0) ?_
  intro p e s m below meth c T0 S0
  refine own_F.cast (by first | (simp [entryFrame, mkF, argsToLocals, Value.category]; done) | rfl : entryFrame m #[(.ref aC), (.int (0 : Int32)), (.ref aB), (.int (0 : Int32)), (.int (1 : Int32))] 7 = mkF m 0 #[.val (.ref aC), .val (.int (0 : Int32)), .val (.ref aB), .val (.int (0 : Int32)), .val (.int (1 : Int32)), .unset, .unset] []) ?_
  show own_F _ p e below _ Z _ _ _ _ _ (T0.setTop (mkF m 0 #[.val (.ref aC), .val (.int 0), .val (.ref aB), .val (.int 0), .val (.int 1), .unset, .unset] []))
  refine own_F.of (fun _ => XS.iconst S0.here S0.hx rfl (S0.dec d9_0)) ?_
  show own_F _ p e below _ Z _ _ _ _ _ (T0.setTop (mkF m 1 #[.val (.ref aC), .val (.int 0), .val (.ref aB), .val (.int 0), .val (.int 1), .unset, .unset] [(.int 0)]))
  refine own_F.of (fun _ => XS.istore S0.here S0.hx rfl (S0.dec d9_1) rfl (l' := #[.val (.ref aC), .val (.int 0), .val (.ref aB), .val (.int 0), .val (.int 1), .val (.int 0), .unset]) rfl) ?_
  refine own_F.of (fun _ => XS.iload S0.here S0.hx rfl (S0.dec d9_3) rfl) ?_
  refine own_F.of (fun _ => XS.iload S0.here S0.hx rfl (S0.dec d9_5) rfl) ?_
  show own_F _ p e below _ Z _ _ _ _ _ (T0.setTop (mkF m 7 #[.val (.ref aC), .val (.int 0), .val (.ref aB), .val (.int 0), .val (.int 1), .val (.int 0), .unset] [(.int 1), (.int 0)]))
  refine own_icmp S0 44 d9_7 (by decide) (by decide) (fun (hc7_1 : ¬ ((0 : Int32) < (1 : Int32))) => False.elim (absurd hc7_1 (by decide))) (fun (hc7_1 : (0 : Int32) < (1 : Int32)) => ?_)
  show own_F _ p e below _ Z _ _ _ _ _ (T0.setTop (mkF m 10 #[.val (.ref aC), .val (.int 0), .val (.ref aB), .val (.int 0), .val (.int 1), .val (.int 0), .unset] []))
  refine own_F.of (fun _ => XS.aloadN S0.here S0.hx rfl (S0.dec d9_10) rfl rfl) ?_
  refine own_F.of (fun _ => XS.iloadN S0.here S0.hx rfl (S0.dec d9_11) rfl) ?_
  show own_F _ p e below _ Z _ _ _ _ _ (T0.setTop (mkF m 12 #[.val (.ref aC), .val (.int 0), .val (.ref aB), .val (.int 0), .val (.int 1), .val (.int 0), .unset] [(.int 0), (.ref aC)]))
  refine own_cald S0 AC (by decide) rfl d9_12 ?_
  show own_F _ p e below _ Z _ _ _ _ _ (T0.setTop (mkF m 13 #[.val (.ref aC), .val (.int 0), .val (.ref aB), .val (.int 0), .val (.int 1), .val (.int 0), .unset] [(.int x1)]))
  refine own_F.of (fun _ => XS.istore S0.here S0.hx rfl (S0.dec d9_13) rfl (l' := #[.val (.ref aC), .val (.int 0), .val (.ref aB), .val (.int 0), .val (.int 1), .val (.int 0), .val (.int x1)]) rfl) ?_
  refine own_F.of (fun _ => XS.iload S0.here S0.hx rfl (S0.dec d9_15) rfl) ?_
  refine own_F.of (fun _ => XS.sipush S0.here S0.hx rfl (S0.dec d9_17)) ?_
  show own_F _ p e below _ Z _ _ _ _ _ (T0.setTop (mkF m 20 #[.val (.ref aC), .val (.int 0), .val (.ref aB), .val (.int 0), .val (.int 1), .val (.int 0), .val (.int x1)] [(.int 255), (.int x1)]))
  refine own_icmp S0 26 d9_20 (by decide) (by decide) (fun (hc20_2 : ¬ ((255 : Int32) < x1)) => ?_) (fun (hc20_2 : (255 : Int32) < x1) => ?_)
  · show own_F _ p e below _ Z _ _ _ _ _ (T0.setTop (mkF m 26 #[.val (.ref aC), .val (.int 0), .val (.ref aB), .val (.int 0), .val (.int 1), .val (.int 0), .val (.int x1)] []))
    refine own_F.of (fun _ => XS.aloadN S0.here S0.hx rfl (S0.dec d9_26) rfl rfl) ?_
    refine own_F.of (fun _ => XS.iloadN S0.here S0.hx rfl (S0.dec d9_27) rfl) ?_
    refine own_F.of (fun _ => XS.iload S0.here S0.hx rfl (S0.dec d9_28) rfl) ?_
    show own_F _ p e below _ Z _ _ _ _ _ (T0.setTop (mkF m 30 #[.val (.ref aC), .val (.int 0), .val (.ref aB), .val (.int 0), .val (.int 1), .val (.int 0), .val (.int x1)] [(.int x1), (.int 0), (.ref aB)]))
    refine own_F.of (fun _ => XS.i2b S0.here S0.hx rfl (S0.dec d9_30) rfl) ?_
    show own_F _ p e below _ Z _ _ _ _ _ (T0.setTop (mkF m 31 #[.val (.ref aC), .val (.int 0), .val (.ref aB), .val (.int 0), .val (.int 1), .val (.int 0), .val (.int x1)] [(.int (x1.toInt8.toInt32)), (.int 0), (.ref aB)]))
    refine own_bst S0 AB (by decide) (Nat.le_of_ble_eq_true rfl) d9_31 (Or.inl (List.mem_of_getElem? (i := 0) rfl)) (fun T3 h3 S3 W3 A3 => ?_)
    have V4 : own_A Z h3 aB .byte [(.int (nar .byte (x1.toInt8.toInt32)))] := A3
    show own_F _ p e below _ Z _ _ _ _ _ (T3.setTop (mkF m 32 #[.val (.ref aC), .val (.int 0), .val (.ref aB), .val (.int 0), .val (.int 1), .val (.int 0), .val (.int x1)] []))
    refine own_F.of (fun _ => XS.iinc S3.here S3.hx rfl (S3.dec d9_32) rfl (l' := #[.val (.ref aC), .val (.int 1), .val (.ref aB), .val (.int 0), .val (.int 1), .val (.int 0), .val (.int x1)]) rfl) ?_
    show own_F _ p e below _ Z _ _ _ _ _ (T3.setTop (mkF m 35 #[.val (.ref aC), .val (.int 1), .val (.ref aB), .val (.int 0), .val (.int 1), .val (.int 0), .val (.int x1)] []))
    refine own_F.of (fun _ => XS.iinc S3.here S3.hx rfl (S3.dec d9_35) rfl (l' := #[.val (.ref aC), .val (.int 1), .val (.ref aB), .val (.int 1), .val (.int 1), .val (.int 0), .val (.int x1)]) rfl) ?_
    show own_F _ p e below _ Z _ _ _ _ _ (T3.setTop (mkF m 38 #[.val (.ref aC), .val (.int 1), .val (.ref aB), .val (.int 1), .val (.int 1), .val (.int 0), .val (.int x1)] []))
    refine own_F.of (fun _ => XS.iinc S3.here S3.hx rfl (S3.dec d9_38) rfl (l' := #[.val (.ref aC), .val (.int 1), .val (.ref aB), .val (.int 1), .val (.int 1), .val (.int 1), .val (.int x1)]) rfl) ?_
    show own_F _ p e below _ Z _ _ _ _ _ (T3.setTop (mkF m 41 #[.val (.ref aC), .val (.int 1), .val (.ref aB), .val (.int 1), .val (.int 1), .val (.int 1), .val (.int x1)] []))
    refine own_F.of (fun _ => XS.goto S3.here S3.hx rfl (pc0 := 41) (pc' := 3) rfl (S3.dec d9_41) (by decide) (by decide)) ?_
    show own_F _ p e below _ Z _ _ _ _ _ (T3.setTop (mkF m 3 #[.val (.ref aC), .val (.int 1), .val (.ref aB), .val (.int 1), .val (.int 1), .val (.int 1), .val (.int x1)] []))
    refine own_F.of (fun _ => XS.iload S3.here S3.hx rfl (S3.dec d9_3) rfl) ?_
    refine own_F.of (fun _ => XS.iload S3.here S3.hx rfl (S3.dec d9_5) rfl) ?_
    show own_F _ p e below _ Z _ _ _ _ _ (T3.setTop (mkF m 7 #[.val (.ref aC), .val (.int 1), .val (.ref aB), .val (.int 1), .val (.int 1), .val (.int 1), .val (.int x1)] [(.int 1), (.int 1)]))
    refine own_icmp S3 44 d9_7 (by decide) (by decide) (fun (hc7_5 : ¬ ((1 : Int32) < (1 : Int32))) => ?_) (fun (hc7_5 : (1 : Int32) < (1 : Int32)) => False.elim (absurd hc7_5 (by decide)))
    show own_F _ p e below _ Z _ _ _ _ _ (T3.setTop (mkF m 44 #[.val (.ref aC), .val (.int 1), .val (.ref aB), .val (.int 1), .val (.int 1), .val (.int 1), .val (.int x1)] []))
    refine own_F.of (fun _ => XS.iload S3.here S3.hx rfl (S3.dec d9_44) rfl) ?_
    show own_F _ p e below _ Z _ _ _ _ _ (T3.setTop (mkF m 46 #[.val (.ref aC), .val (.int 1), .val (.ref aB), .val (.int 1), .val (.int 1), .val (.int 1), .val (.int x1)] [(.int 1)]))
    refine own_retI S3 d9_46 (by decide) (by decide) ?_
    exact Or.inl ⟨rfl, V4, hc20_2⟩
  · show own_F _ p e below _ Z _ _ _ _ _ (T0.setTop (mkF m 23 #[.val (.ref aC), .val (.int 0), .val (.ref aB), .val (.int 0), .val (.int 1), .val (.int 0), .val (.int x1)] []))
    refine own_F.of (fun _ => XS.iload S0.here S0.hx rfl (S0.dec d9_23) rfl) ?_
    show own_F _ p e below _ Z _ _ _ _ _ (T0.setTop (mkF m 25 #[.val (.ref aC), .val (.int 0), .val (.ref aB), .val (.int 0), .val (.int 1), .val (.int 0), .val (.int x1)] [(.int 0)]))
    refine own_retI S0 d9_25 (by decide) (by decide) ?_
    exact Or.inr (⟨rfl, hc20_2⟩)
theorem d8_0 : decode jdk_52_method_16_code 0 = .ok (.iload_n 2, 1) := by decide +kernel
theorem d8_1 : decode jdk_52_method_16_code 1 = .ok (.newarray .byte, 2) := by decide +kernel
theorem d8_3 : decode jdk_52_method_16_code 3 = .ok (.astore_n 3, 1) := by decide +kernel
theorem d8_4 : decode jdk_52_method_16_code 4 = .ok (.aload_n 0, 1) := by decide +kernel
theorem d8_5 : decode jdk_52_method_16_code 5 = .ok (.iload_n 1, 1) := by decide +kernel
theorem d8_6 : decode jdk_52_method_16_code 6 = .ok (.aload_n 3, 1) := by decide +kernel
theorem d8_7 : decode jdk_52_method_16_code 7 = .ok (.iconst 0, 1) := by decide +kernel
theorem d8_8 : decode jdk_52_method_16_code 8 = .ok (.iload_n 2, 1) := by decide +kernel
theorem d8_9 : decode jdk_52_method_16_code 9 = .ok (.invokestatic 115, 3) := by decide +kernel
theorem d8_12 : decode jdk_52_method_16_code 12 = .ok (.istore 4, 2) := by decide +kernel
theorem d8_14 : decode jdk_52_method_16_code 14 = .ok (.iload 4, 2) := by decide +kernel
theorem d8_16 : decode jdk_52_method_16_code 16 = .ok (.iload_n 2, 1) := by decide +kernel
theorem d8_17 : decode jdk_52_method_16_code 17 = .ok (.if_icmp .eq 40, 3) := by decide +kernel
theorem d8_20 : decode jdk_52_method_16_code 20 = .ok (.aload_n 0, 1) := by decide +kernel
theorem d8_21 : decode jdk_52_method_16_code 21 = .ok (.iload_n 1, 1) := by decide +kernel
theorem d8_22 : decode jdk_52_method_16_code 22 = .ok (.iload_n 2, 1) := by decide +kernel
theorem d8_23 : decode jdk_52_method_16_code 23 = .ok (.invokestatic 119, 3) := by decide +kernel
theorem d8_26 : decode jdk_52_method_16_code 26 = .ok (.astore 5, 2) := by decide +kernel
theorem d8_28 : decode jdk_52_method_16_code 28 = .ok (.aload 5, 2) := by decide +kernel
theorem d8_30 : decode jdk_52_method_16_code 30 = .ok (.iload 4, 2) := by decide +kernel
theorem d8_32 : decode jdk_52_method_16_code 32 = .ok (.invokestatic 71, 3) := by decide +kernel
theorem d8_35 : decode jdk_52_method_16_code 35 = .ok (.sipush 255, 3) := by decide +kernel
theorem d8_38 : decode jdk_52_method_16_code 38 = .ok (.if_icmp .gt 16, 3) := by decide +kernel
theorem d8_41 : decode jdk_52_method_16_code 41 = .ok (.aload 5, 2) := by decide +kernel
theorem d8_43 : decode jdk_52_method_16_code 43 = .ok (.iconst 0, 1) := by decide +kernel
theorem d8_44 : decode jdk_52_method_16_code 44 = .ok (.aload_n 3, 1) := by decide +kernel
theorem d8_45 : decode jdk_52_method_16_code 45 = .ok (.iconst 0, 1) := by decide +kernel
theorem d8_46 : decode jdk_52_method_16_code 46 = .ok (.iload_n 2, 1) := by decide +kernel
theorem d8_47 : decode jdk_52_method_16_code 47 = .ok (.invokestatic 123, 3) := by decide +kernel
theorem d8_50 : decode jdk_52_method_16_code 50 = .ok (.iload_n 2, 1) := by decide +kernel
theorem d8_51 : decode jdk_52_method_16_code 51 = .ok (.if_icmp .eq 6, 3) := by decide +kernel
theorem d8_54 : decode jdk_52_method_16_code 54 = .ok (.aload 5, 2) := by decide +kernel
theorem d8_56 : decode jdk_52_method_16_code 56 = .ok (.areturn, 1) := by decide +kernel
theorem d8_57 : decode jdk_52_method_16_code 57 = .ok (.aload_n 3, 1) := by decide +kernel
theorem d8_58 : decode jdk_52_method_16_code 58 = .ok (.areturn, 1) := by decide +kernel
theorem pn8 : plainFor (⟨"java/lang/StringUTF16", "compress", "([CII)[B"⟩ : MethodName) = true := plainFor_of_name (by first | (simp [plainName, overriddenIn]; done) | decide +kernel)
set_option maxRecDepth 65536 in
set_option maxHeartbeats 40000000 in
theorem own_cmp1 (l : Launch) (Z : State) (a0 : Array Value) (hw : ∀ d ∈ tables_1, d.before a0 Z = true) (aC : Addr) (x1 : Int32) (h0 : Heap) (hO : Ext Z.heap h0) (S_as : Sta Z Z.heap "java/lang/StringUTF16" "$assertionsDisabled" "Z" (.int 1)) (S_hi : Sta Z Z.heap "java/lang/StringUTF16" "HI_BYTE_SHIFT" "I" (.int 0)) (S_lo : Sta Z Z.heap "java/lang/StringUTF16" "LO_BYTE_SHIFT" "I" (.int 8)) (cx1 : own_isC x1) (AC : own_A Z h0 aC .char [(.int x1)]) :
    own_C l Z (⟨"java/lang/StringUTF16", "compress", "([CII)[B"⟩ : MethodName) jdk_52_method_16_code 6 (some (.array .byte)) [] ({ frames := 3, cells := 2, slots := 3, locals := 40 } : Room) [] #[(.ref aC), (.int (0 : Int32)), (.int (1 : Int32))] h0 (fun v h => ∃ b, v = some (.ref b) ∧ ((own_A Z h b .byte [(.int (nar .byte (x1.toInt8.toInt32)))] ∧ ¬ 255 < x1) ∨ own_A Z h b .byte [(.int (own_lo x1)), (.int (own_hi x1))])) := by
  refine own_C.of pn8 hO all0 ?_
  intro p e s m below meth c T0 S0
  refine own_F.cast (by first | (simp [entryFrame, mkF, argsToLocals, Value.category]; done) | rfl : entryFrame m #[(.ref aC), (.int (0 : Int32)), (.int (1 : Int32))] 6 = mkF m 0 #[.val (.ref aC), .val (.int (0 : Int32)), .val (.int (1 : Int32)), .unset, .unset, .unset] []) ?_
  show own_F _ p e below _ Z _ _ _ _ _ (T0.setTop (mkF m 0 #[.val (.ref aC), .val (.int 0), .val (.int 1), .unset, .unset, .unset] []))
  refine own_F.of (fun _ => XS.iloadN S0.here S0.hx rfl (S0.dec d8_0) rfl) ?_
  show own_F _ p e below _ Z _ _ _ _ _ (T0.setTop (mkF m 1 #[.val (.ref aC), .val (.int 0), .val (.int 1), .unset, .unset, .unset] [(.int 1)]))
  refine own_newP S0 (own_w hw 23 rfl) d8_1 (by decide) (cap := 1) (by decide) (by decide) (by decide) (by decide) (fun T1 h1 b1 g1 S1 E1 A1 => ?_)
  have V2 : own_A Z h1 b1 .byte [(.int (0 : Int32))] := A1
  show own_F _ p e below _ Z _ _ _ _ _ (T1.setTop (mkF m 3 #[.val (.ref aC), .val (.int 0), .val (.int 1), .unset, .unset, .unset] [(.ref b1)]))
  refine own_F.of (fun _ => XS.astoreN S1.here S1.hx rfl (S1.dec d8_3) rfl rfl (l' := #[.val (.ref aC), .val (.int 0), .val (.int 1), .val (.ref b1), .unset, .unset]) rfl) ?_
  refine own_F.of (fun _ => XS.aloadN S1.here S1.hx rfl (S1.dec d8_4) rfl rfl) ?_
  refine own_F.of (fun _ => XS.iloadN S1.here S1.hx rfl (S1.dec d8_5) rfl) ?_
  refine own_F.of (fun _ => XS.aloadN S1.here S1.hx rfl (S1.dec d8_6) rfl rfl) ?_
  refine own_F.of (fun _ => XS.iconst S1.here S1.hx rfl (S1.dec d8_7)) ?_
  refine own_F.of (fun _ => XS.iloadN S1.here S1.hx rfl (S1.dec d8_8) rfl) ?_
  show own_F _ p e below _ Z _ _ _ _ _ (T1.setTop (mkF m 9 #[.val (.ref aC), .val (.int 0), .val (.int 1), .val (.ref b1), .unset, .unset] [(.int 1), (.int 0), (.ref b1), (.int 0), (.ref aC)]))
  have fq3 := (AC.ext E1)
  refine own_callS S1 (y := (⟨"java/lang/StringUTF16", "compress", "([CI[BII)I"⟩ : MethodName)) (own_w hw 44 rfl) (own_w hw 45 rfl) (own_w hw 42 rfl) (own_w hw 46 rfl) (by decide) (argsL := [(.ref aC), (.int (0 : Int32)), (.ref b1), (.int (0 : Int32)), (.int (1 : Int32))]) (rest := []) (own_cmpI1 l Z a0 hw aC b1 x1 h1 S1.old fq3 V2 (own_mayN S1 (Or.inr (by rw [g1]; exact S0.size))) (Nat.ne_of_lt (by rw [g1]; exact (AC).lt))) (allS (Or.inr (by rw [g1]; exact S0.size)) all0) (by decide +kernel : parseMethodDescriptor "([CI[BII)I" = some ⟨[(.array .char), .int, (.array .byte), .int, .int], some .int⟩) rfl rfl rfl d8_9 (by decide) (Nat.le_of_ble_eq_true rfl) (by decide) (by decide) (fun T4 h4 v4 S4 K4 q4 => ?_)
  obtain (⟨rfl, F4, hl4_1⟩ | ⟨rfl, hu4⟩) := q4
  · have V5 : own_A Z h4 b1 .byte [(.int (nar .byte (x1.toInt8.toInt32)))] := F4
    show own_F _ p e below _ Z _ _ _ _ _ (T4.setTop (mkF m 12 #[.val (.ref aC), .val (.int 0), .val (.int 1), .val (.ref b1), .unset, .unset] [(.int 1)]))
    refine own_F.of (fun _ => XS.istore S4.here S4.hx rfl (S4.dec d8_12) rfl (l' := #[.val (.ref aC), .val (.int 0), .val (.int 1), .val (.ref b1), .val (.int 1), .unset]) rfl) ?_
    refine own_F.of (fun _ => XS.iload S4.here S4.hx rfl (S4.dec d8_14) rfl) ?_
    refine own_F.of (fun _ => XS.iloadN S4.here S4.hx rfl (S4.dec d8_16) rfl) ?_
    show own_F _ p e below _ Z _ _ _ _ _ (T4.setTop (mkF m 17 #[.val (.ref aC), .val (.int 0), .val (.int 1), .val (.ref b1), .val (.int 1), .unset] [(.int 1), (.int 1)]))
    refine own_icmp S4 57 d8_17 (by decide) (by decide) (fun (hc17_6 : (1 : Int32) = (1 : Int32)) => ?_) (fun (hc17_6 : ¬ ((1 : Int32) = (1 : Int32))) => False.elim (absurd hc17_6 (by decide)))
    show own_F _ p e below _ Z _ _ _ _ _ (T4.setTop (mkF m 57 #[.val (.ref aC), .val (.int 0), .val (.int 1), .val (.ref b1), .val (.int 1), .unset] []))
    refine own_F.of (fun _ => XS.aloadN S4.here S4.hx rfl (S4.dec d8_57) rfl rfl) ?_
    show own_F _ p e below _ Z _ _ _ _ _ (T4.setTop (mkF m 58 #[.val (.ref aC), .val (.int 0), .val (.int 1), .val (.ref b1), .val (.int 1), .unset] [(.ref b1)]))
    refine own_retA S4 rfl rfl d8_58 (by decide) (by decide) ?_
    exact ⟨_, rfl, Or.inl ⟨V5, hl4_1⟩⟩
  · show own_F _ p e below _ Z _ _ _ _ _ (T4.setTop (mkF m 12 #[.val (.ref aC), .val (.int 0), .val (.int 1), .val (.ref b1), .unset, .unset] [(.int 0)]))
    refine own_F.of (fun _ => XS.istore S4.here S4.hx rfl (S4.dec d8_12) rfl (l' := #[.val (.ref aC), .val (.int 0), .val (.int 1), .val (.ref b1), .val (.int 0), .unset]) rfl) ?_
    refine own_F.of (fun _ => XS.iload S4.here S4.hx rfl (S4.dec d8_14) rfl) ?_
    refine own_F.of (fun _ => XS.iloadN S4.here S4.hx rfl (S4.dec d8_16) rfl) ?_
    show own_F _ p e below _ Z _ _ _ _ _ (T4.setTop (mkF m 17 #[.val (.ref aC), .val (.int 0), .val (.int 1), .val (.ref b1), .val (.int 0), .unset] [(.int 1), (.int 0)]))
    refine own_icmp S4 57 d8_17 (by decide) (by decide) (fun (hc17_7 : (0 : Int32) = (1 : Int32)) => False.elim (absurd hc17_7 (by decide))) (fun (hc17_7 : ¬ ((0 : Int32) = (1 : Int32))) => ?_)
    show own_F _ p e below _ Z _ _ _ _ _ (T4.setTop (mkF m 20 #[.val (.ref aC), .val (.int 0), .val (.int 1), .val (.ref b1), .val (.int 0), .unset] []))
    refine own_F.of (fun _ => XS.aloadN S4.here S4.hx rfl (S4.dec d8_20) rfl rfl) ?_
    refine own_F.of (fun _ => XS.iloadN S4.here S4.hx rfl (S4.dec d8_21) rfl) ?_
    refine own_F.of (fun _ => XS.iloadN S4.here S4.hx rfl (S4.dec d8_22) rfl) ?_
    show own_F _ p e below _ Z _ _ _ _ _ (T4.setTop (mkF m 23 #[.val (.ref aC), .val (.int 0), .val (.int 1), .val (.ref b1), .val (.int 0), .unset] [(.int 1), (.int 0), (.ref aC)]))
    have fq8 := (fq3.keep K4 (ninS (Nat.ne_of_lt (by rw [g1]; exact (AC).lt)) nin0))
    refine own_callS S4 (y := (⟨"java/lang/StringUTF16", "toBytes", "([CII)[B"⟩ : MethodName)) (own_w hw 91 rfl) (own_w hw 92 rfl) (own_w hw 42 rfl) (own_w hw 93 rfl) (by decide) (argsL := [(.ref aC), (.int (0 : Int32)), (.int (1 : Int32))]) (rest := []) (own_toB1 l Z a0 hw aC x1 h4 S4.old S_as S_hi S_lo fq8) all0 (by decide +kernel : parseMethodDescriptor "([CII)[B" = some ⟨[(.array .char), .int, .int], some (.array .byte)⟩) rfl rfl rfl d8_23 (by decide) (Nat.le_of_ble_eq_true rfl) (by decide) (by decide) (fun T9 h9 v9 S9 K9 q9 => ?_)
    obtain ⟨b9, rfl, F9⟩ := q9
    have V10 : own_A Z h9 b9 .byte [(.int (own_lo x1)), (.int (own_hi x1))] := F9
    show own_F _ p e below _ Z _ _ _ _ _ (T9.setTop (mkF m 26 #[.val (.ref aC), .val (.int 0), .val (.int 1), .val (.ref b1), .val (.int 0), .unset] [(.ref b9)]))
    refine own_F.of (fun _ => XS.astore S9.here S9.hx rfl (S9.dec d8_26) rfl rfl (l' := #[.val (.ref aC), .val (.int 0), .val (.int 1), .val (.ref b1), .val (.int 0), .val (.ref b9)]) rfl) ?_
    refine own_F.of (fun _ => XS.aload S9.here S9.hx rfl (S9.dec d8_28) rfl rfl) ?_
    refine own_F.of (fun _ => XS.iload S9.here S9.hx rfl (S9.dec d8_30) rfl) ?_
    show own_F _ p e below _ Z _ _ _ _ _ (T9.setTop (mkF m 32 #[.val (.ref aC), .val (.int 0), .val (.int 1), .val (.ref b1), .val (.int 0), .val (.ref b9)] [(.int 0), (.ref b9)]))
    refine own_callS S9 (y := (⟨"java/lang/StringUTF16", "getChar", "([BI)C"⟩ : MethodName)) (own_w hw 107 rfl) (own_w hw 108 rfl) (own_w hw 42 rfl) (own_w hw 109 rfl) (by decide) (argsL := [(.ref b9), (.int (0 : Int32))]) (rest := []) (own_getC l Z a0 hw b9 [(.int (own_lo x1)), (.int (own_hi x1))] (0 : Int32) (0 : Int32) (1 : Int32) x1 h9 S9.old S_as S_hi S_lo (by decide) (by decide) (by decide) (by decide) rfl rfl cx1 V10) all0 (by decide +kernel : parseMethodDescriptor "([BI)C" = some ⟨[(.array .byte), .int], some .char⟩) rfl rfl rfl d8_32 (by decide) (Nat.le_of_ble_eq_true rfl) (by decide) (by decide) (fun T11 h11 v11 S11 K11 q11 => ?_)
    obtain ⟨rfl, rfl⟩ := q11
    show own_F _ p e below _ Z _ _ _ _ _ (T11.setTop (mkF m 35 #[.val (.ref aC), .val (.int 0), .val (.int 1), .val (.ref b1), .val (.int 0), .val (.ref b9)] [(.int x1)]))
    refine own_F.of (fun _ => XS.sipush S11.here S11.hx rfl (S11.dec d8_35)) ?_
    show own_F _ p e below _ Z _ _ _ _ _ (T11.setTop (mkF m 38 #[.val (.ref aC), .val (.int 0), .val (.int 1), .val (.ref b1), .val (.int 0), .val (.ref b9)] [(.int 255), (.int x1)]))
    refine own_icmp S11 54 d8_38 (by decide) (by decide) (fun (hc38_12 : (255 : Int32) < x1) => ?_) (fun (hc38_12 : ¬ ((255 : Int32) < x1)) => False.elim (hc38_12 hu4))
    show own_F _ p e below _ Z _ _ _ _ _ (T11.setTop (mkF m 54 #[.val (.ref aC), .val (.int 0), .val (.int 1), .val (.ref b1), .val (.int 0), .val (.ref b9)] []))
    refine own_F.of (fun _ => XS.aload S11.here S11.hx rfl (S11.dec d8_54) rfl rfl) ?_
    show own_F _ p e below _ Z _ _ _ _ _ (T11.setTop (mkF m 56 #[.val (.ref aC), .val (.int 0), .val (.int 1), .val (.ref b1), .val (.int 0), .val (.ref b9)] [(.ref b9)]))
    refine own_retA S11 rfl rfl d8_56 (by decide) (by decide) ?_
    exact ⟨_, rfl, Or.inr V10⟩
theorem d10_0 : decode jdk_52_method_15_code 0 = .ok (.iload_n 1, 1) := by decide +kernel
theorem d10_1 : decode jdk_52_method_15_code 1 = .ok (.aload_n 0, 1) := by decide +kernel
theorem d10_2 : decode jdk_52_method_15_code 2 = .ok (.arraylength, 1) := by decide +kernel
theorem d10_3 : decode jdk_52_method_15_code 3 = .ok (.isub, 1) := by decide +kernel
theorem d10_4 : decode jdk_52_method_15_code 4 = .ok (.bipush 31, 2) := by decide +kernel
theorem d10_6 : decode jdk_52_method_15_code 6 = .ok (.iushr, 1) := by decide +kernel
theorem d10_7 : decode jdk_52_method_15_code 7 = .ok (.i2b, 1) := by decide +kernel
theorem d10_8 : decode jdk_52_method_15_code 8 = .ok (.ireturn, 1) := by decide +kernel
theorem pn10 : plainFor (⟨"java/lang/StringUTF16", "coderFromArrayLen", "([BI)B"⟩ : MethodName) = true := plainFor_of_name (by first | (simp [plainName, overriddenIn]; done) | decide +kernel)
set_option maxRecDepth 65536 in
set_option maxHeartbeats 40000000 in
theorem own_cod1L (l : Launch) (Z : State) (a0 : Array Value) (hw : ∀ d ∈ tables_1, d.before a0 Z = true) (aB : Addr) (x1 : Int32) (h0 : Heap) (hO : Ext Z.heap h0) (AB : own_A Z h0 aB .byte [(.int (nar .byte (x1.toInt8.toInt32)))]) :
    own_C l Z (⟨"java/lang/StringUTF16", "coderFromArrayLen", "([BI)B"⟩ : MethodName) jdk_52_method_15_code 2 (some .byte) [] ({ frames := 0, cells := 0, slots := 0, locals := 0 } : Room) [] #[(.ref aB), (.int (1 : Int32))] h0 (fun v h => v = some (.int (0 : Int32)) ∧ h0 = h) := by
  refine own_C.of pn10 hO all0 ?_
  intro p e s m below meth c T0 S0
  refine own_F.cast (by first | (simp [entryFrame, mkF, argsToLocals, Value.category]; done) | rfl : entryFrame m #[(.ref aB), (.int (1 : Int32))] 2 = mkF m 0 #[.val (.ref aB), .val (.int (1 : Int32))] []) ?_
  show own_F _ p e below _ Z _ _ _ _ _ (T0.setTop (mkF m 0 #[.val (.ref aB), .val (.int 1)] []))
  refine own_F.of (fun _ => XS.iloadN S0.here S0.hx rfl (S0.dec d10_0) rfl) ?_
  refine own_F.of (fun _ => XS.aloadN S0.here S0.hx rfl (S0.dec d10_1) rfl rfl) ?_
  show own_F _ p e below _ Z _ _ _ _ _ (T0.setTop (mkF m 2 #[.val (.ref aB), .val (.int 1)] [(.ref aB), (.int 1)]))
  refine own_len S0 AB d10_2 ?_
  show own_F _ p e below _ Z _ _ _ _ _ (T0.setTop (mkF m 3 #[.val (.ref aB), .val (.int 1)] [(.int 1), (.int 1)]))
  refine own_F.of (fun _ => XS.isub S0.here S0.hx rfl (S0.dec d10_3) rfl) ?_
  show own_F _ p e below _ Z _ _ _ _ _ (T0.setTop (mkF m 4 #[.val (.ref aB), .val (.int 1)] [(.int 0)]))
  refine own_F.of (fun _ => XS.bipush S0.here S0.hx rfl (S0.dec d10_4)) ?_
  show own_F _ p e below _ Z _ _ _ _ _ (T0.setTop (mkF m 6 #[.val (.ref aB), .val (.int 1)] [(.int 31), (.int 0)]))
  refine own_F.of (fun _ => XS.iushr S0.here S0.hx rfl (S0.dec d10_6) rfl) ?_
  show own_F _ p e below _ Z _ _ _ _ _ (T0.setTop (mkF m 7 #[.val (.ref aB), .val (.int 1)] [(.int 0)]))
  refine own_F.of (fun _ => XS.i2b S0.here S0.hx rfl (S0.dec d10_7) rfl) ?_
  show own_F _ p e below _ Z _ _ _ _ _ (T0.setTop (mkF m 8 #[.val (.ref aB), .val (.int 1)] [(.int 0)]))
  refine own_retZ S0 (by simp) d10_8 (by decide) (by decide) ?_
  exact ⟨rfl, rfl⟩
set_option maxRecDepth 65536 in
set_option maxHeartbeats 40000000 in
theorem own_cod1U (l : Launch) (Z : State) (a0 : Array Value) (hw : ∀ d ∈ tables_1, d.before a0 Z = true) (aB : Addr) (x1 : Int32) (h0 : Heap) (hO : Ext Z.heap h0) (AB : own_A Z h0 aB .byte [(.int (own_lo x1)), (.int (own_hi x1))]) :
    own_C l Z (⟨"java/lang/StringUTF16", "coderFromArrayLen", "([BI)B"⟩ : MethodName) jdk_52_method_15_code 2 (some .byte) [] ({ frames := 0, cells := 0, slots := 0, locals := 0 } : Room) [] #[(.ref aB), (.int (1 : Int32))] h0 (fun v h => v = some (.int (1 : Int32)) ∧ h0 = h) := by
  refine own_C.of pn10 hO all0 ?_
  intro p e s m below meth c T0 S0
  refine own_F.cast (by first | (simp [entryFrame, mkF, argsToLocals, Value.category]; done) | rfl : entryFrame m #[(.ref aB), (.int (1 : Int32))] 2 = mkF m 0 #[.val (.ref aB), .val (.int (1 : Int32))] []) ?_
  show own_F _ p e below _ Z _ _ _ _ _ (T0.setTop (mkF m 0 #[.val (.ref aB), .val (.int 1)] []))
  refine own_F.of (fun _ => XS.iloadN S0.here S0.hx rfl (S0.dec d10_0) rfl) ?_
  refine own_F.of (fun _ => XS.aloadN S0.here S0.hx rfl (S0.dec d10_1) rfl rfl) ?_
  show own_F _ p e below _ Z _ _ _ _ _ (T0.setTop (mkF m 2 #[.val (.ref aB), .val (.int 1)] [(.ref aB), (.int 1)]))
  refine own_len S0 AB d10_2 ?_
  show own_F _ p e below _ Z _ _ _ _ _ (T0.setTop (mkF m 3 #[.val (.ref aB), .val (.int 1)] [(.int 2), (.int 1)]))
  refine own_F.of (fun _ => XS.isub S0.here S0.hx rfl (S0.dec d10_3) rfl) ?_
  show own_F _ p e below _ Z _ _ _ _ _ (T0.setTop (mkF m 4 #[.val (.ref aB), .val (.int 1)] [(.int (-1 : Int32))]))
  refine own_F.of (fun _ => XS.bipush S0.here S0.hx rfl (S0.dec d10_4)) ?_
  show own_F _ p e below _ Z _ _ _ _ _ (T0.setTop (mkF m 6 #[.val (.ref aB), .val (.int 1)] [(.int 31), (.int (-1 : Int32))]))
  refine own_F.of (fun _ => XS.iushr S0.here S0.hx rfl (S0.dec d10_6) rfl) ?_
  show own_F _ p e below _ Z _ _ _ _ _ (T0.setTop (mkF m 7 #[.val (.ref aB), .val (.int 1)] [(.int 1)]))
  refine own_F.of (fun _ => XS.i2b S0.here S0.hx rfl (S0.dec d10_7) rfl) ?_
  show own_F _ p e below _ Z _ _ _ _ _ (T0.setTop (mkF m 8 #[.val (.ref aB), .val (.int 1)] [(.int 1)]))
  refine own_retZ S0 (by simp) d10_8 (by decide) (by decide) ?_
  exact ⟨rfl, rfl⟩
theorem d4_0 : decode jdk_42_method_149_code 0 = .ok (.aload_n 0, 1) := by decide +kernel
theorem d4_1 : decode jdk_42_method_149_code 1 = .ok (.invokespecial 1, 3) := by decide +kernel
theorem d4_4 : decode jdk_42_method_149_code 4 = .ok (.iload_n 3, 1) := by decide +kernel
theorem d4_5 : decode jdk_42_method_149_code 5 = .ok (.ifCond .ne 22, 3) := by decide +kernel
theorem d4_8 : decode jdk_42_method_149_code 8 = .ok (.aload_n 0, 1) := by decide +kernel
theorem d4_9 : decode jdk_42_method_149_code 9 = .ok (.ldc 7, 2) := by decide +kernel
theorem d4_11 : decode jdk_42_method_149_code 11 = .ok (.getfield 9, 3) := by decide +kernel
theorem d4_14 : decode jdk_42_method_149_code 14 = .ok (.putfield 9, 3) := by decide +kernel
theorem d4_17 : decode jdk_42_method_149_code 17 = .ok (.aload_n 0, 1) := by decide +kernel
theorem d4_18 : decode jdk_42_method_149_code 18 = .ok (.ldc 7, 2) := by decide +kernel
theorem d4_20 : decode jdk_42_method_149_code 20 = .ok (.getfield 15, 3) := by decide +kernel
theorem d4_23 : decode jdk_42_method_149_code 23 = .ok (.putfield 15, 3) := by decide +kernel
theorem d4_26 : decode jdk_42_method_149_code 26 = .ok (.return_, 1) := by decide +kernel
theorem d4_27 : decode jdk_42_method_149_code 27 = .ok (.getstatic 38, 3) := by decide +kernel
theorem d4_30 : decode jdk_42_method_149_code 30 = .ok (.ifCond .eq 28, 3) := by decide +kernel
theorem d4_33 : decode jdk_42_method_149_code 33 = .ok (.aload_n 1, 1) := by decide +kernel
theorem d4_34 : decode jdk_42_method_149_code 34 = .ok (.iload_n 2, 1) := by decide +kernel
theorem d4_35 : decode jdk_42_method_149_code 35 = .ok (.iload_n 3, 1) := by decide +kernel
theorem d4_36 : decode jdk_42_method_149_code 36 = .ok (.invokestatic 177, 3) := by decide +kernel
theorem d4_39 : decode jdk_42_method_149_code 39 = .ok (.astore 5, 2) := by decide +kernel
theorem d4_41 : decode jdk_42_method_149_code 41 = .ok (.aload_n 0, 1) := by decide +kernel
theorem d4_42 : decode jdk_42_method_149_code 42 = .ok (.aload 5, 2) := by decide +kernel
theorem d4_44 : decode jdk_42_method_149_code 44 = .ok (.iload_n 3, 1) := by decide +kernel
theorem d4_45 : decode jdk_42_method_149_code 45 = .ok (.invokestatic 47, 3) := by decide +kernel
theorem d4_48 : decode jdk_42_method_149_code 48 = .ok (.putfield 15, 3) := by decide +kernel
theorem d4_51 : decode jdk_42_method_149_code 51 = .ok (.aload_n 0, 1) := by decide +kernel
theorem d4_52 : decode jdk_42_method_149_code 52 = .ok (.aload 5, 2) := by decide +kernel
theorem d4_54 : decode jdk_42_method_149_code 54 = .ok (.putfield 9, 3) := by decide +kernel
theorem d4_57 : decode jdk_42_method_149_code 57 = .ok (.return_, 1) := by decide +kernel
theorem d4_58 : decode jdk_42_method_149_code 58 = .ok (.aload_n 0, 1) := by decide +kernel
theorem d4_59 : decode jdk_42_method_149_code 59 = .ok (.iconst 1, 1) := by decide +kernel
theorem d4_60 : decode jdk_42_method_149_code 60 = .ok (.putfield 15, 3) := by decide +kernel
theorem d4_63 : decode jdk_42_method_149_code 63 = .ok (.aload_n 0, 1) := by decide +kernel
theorem d4_64 : decode jdk_42_method_149_code 64 = .ok (.aload_n 1, 1) := by decide +kernel
theorem d4_65 : decode jdk_42_method_149_code 65 = .ok (.iload_n 2, 1) := by decide +kernel
theorem d4_66 : decode jdk_42_method_149_code 66 = .ok (.iload_n 3, 1) := by decide +kernel
theorem d4_67 : decode jdk_42_method_149_code 67 = .ok (.invokestatic 180, 3) := by decide +kernel
theorem d4_70 : decode jdk_42_method_149_code 70 = .ok (.putfield 9, 3) := by decide +kernel
theorem d4_73 : decode jdk_42_method_149_code 73 = .ok (.return_, 1) := by decide +kernel
theorem pn4 : plainFor (⟨"java/lang/String", "<init>", "([CIILjava/lang/Void;)V"⟩ : MethodName) = true := plainFor_of_name (by first | (simp [plainName, overriddenIn]; done) | decide +kernel)
set_option maxRecDepth 65536 in
set_option maxHeartbeats 40000000 in
theorem own_strV1 (l : Launch) (Z : State) (a0 : Array Value) (hw : ∀ d ∈ tables_1, d.before a0 Z = true) (a1 aC : Addr) (x1 : Int32) (zc : Int32) (h0 : Heap) (hO : Ext Z.heap h0) (SZ : Sta Z Z.heap "java/lang/String" "COMPACT_STRINGS" "Z" (.int zc)) (hz : ¬ zc = 0) (S_as : Sta Z Z.heap "java/lang/StringUTF16" "$assertionsDisabled" "Z" (.int 1)) (S_hi : Sta Z Z.heap "java/lang/StringUTF16" "HI_BYTE_SHIFT" "I" (.int 0)) (S_lo : Sta Z Z.heap "java/lang/StringUTF16" "LO_BYTE_SHIFT" "I" (.int 8)) (cx1 : own_isC x1) (ga : Z.heap.size ≤ a1) (E_a1 : Exa Z h0 a1 "java/lang/String") (F_value : Fld Z h0 a1 "java/lang/String" "value" "[B" .null) (F_coder : Fld Z h0 a1 "java/lang/String" "coder" "B" (.int 0)) (AC : own_A Z h0 aC .char [(.int x1)]) :
    own_C l Z (⟨"java/lang/String", "<init>", "([CIILjava/lang/Void;)V"⟩ : MethodName) jdk_42_method_149_code 6 none [] ({ frames := 4, cells := 2, slots := 3, locals := 57 } : Room) [a1] #[(.ref a1), (.ref aC), (.int (0 : Int32)), (.int (1 : Int32)), .null] h0 (fun v h => v = none ∧ ∃ b, Fld Z h a1 "java/lang/String" "value" "[B" (.ref b) ∧ (((Fld Z h a1 "java/lang/String" "coder" "B" (.int 0) ∧ own_A Z h b .byte [(.int (nar .byte (x1.toInt8.toInt32)))]) ∧ ¬ 255 < x1) ∨ (Fld Z h a1 "java/lang/String" "coder" "B" (.int 1) ∧ own_A Z h b .byte [(.int (own_lo x1)), (.int (own_hi x1))]))) := by
  refine own_C.of pn4 hO (allS ga all0) ?_
  intro p e s m below meth c T0 S0
  refine own_F.cast (by first | (simp [entryFrame, mkF, argsToLocals, Value.category]; done) | rfl : entryFrame m #[(.ref a1), (.ref aC), (.int (0 : Int32)), (.int (1 : Int32)), .null] 6 = mkF m 0 #[.val (.ref a1), .val (.ref aC), .val (.int (0 : Int32)), .val (.int (1 : Int32)), .val .null, .unset] []) ?_
  show own_F _ p e below _ Z _ _ _ _ _ (T0.setTop (mkF m 0 #[.val (.ref a1), .val (.ref aC), .val (.int 0), .val (.int 1), .val .null, .unset] []))
  refine own_F.of (fun _ => XS.aloadN S0.here S0.hx rfl (S0.dec d4_0) rfl rfl) ?_
  show own_F _ p e below _ Z _ _ _ _ _ (T0.setTop (mkF m 1 #[.val (.ref a1), .val (.ref aC), .val (.int 0), .val (.int 1), .val .null, .unset] [(.ref a1)]))
  refine own_initO S0 (own_w hw 19 rfl) (own_w hw 20 rfl) (own_w hw 21 rfl) rfl d4_1 (by decide) (Nat.le_of_ble_eq_true rfl) (fun T1 S1 => ?_)
  show own_F _ p e below _ Z _ _ _ _ _ (T1.setTop (mkF m 4 #[.val (.ref a1), .val (.ref aC), .val (.int 0), .val (.int 1), .val .null, .unset] []))
  refine own_F.of (fun _ => XS.iloadN S1.here S1.hx rfl (S1.dec d4_4) rfl) ?_
  show own_F _ p e below _ Z _ _ _ _ _ (T1.setTop (mkF m 5 #[.val (.ref a1), .val (.ref aC), .val (.int 0), .val (.int 1), .val .null, .unset] [(.int 1)]))
  refine own_if S1 27 d4_5 (by decide) (by decide) (fun (hc5_2 : ¬ ((1 : Int32) = (0 : Int32))) => ?_) (fun (hc5_2 : (1 : Int32) = (0 : Int32)) => False.elim (absurd hc5_2 (by decide)))
  show own_F _ p e below _ Z _ _ _ _ _ (T1.setTop (mkF m 27 #[.val (.ref a1), .val (.ref aC), .val (.int 0), .val (.int 1), .val .null, .unset] []))
  refine own_getS S1 (host := "") (Or.inl (own_w hw 39 rfl)) Via.refl (SZ.ext S1.old) d4_27 (fun T3 S3 => ?_)
  show own_F _ p e below _ Z _ _ _ _ _ (T3.setTop (mkF m 30 #[.val (.ref a1), .val (.ref aC), .val (.int 0), .val (.int 1), .val .null, .unset] [(.int zc)]))
  refine own_if S3 58 d4_30 (by decide) (by decide) (fun (hc30_4 : zc = (0 : Int32)) => False.elim (hz hc30_4)) (fun (hc30_4 : ¬ (zc = (0 : Int32))) => ?_)
  show own_F _ p e below _ Z _ _ _ _ _ (T3.setTop (mkF m 33 #[.val (.ref a1), .val (.ref aC), .val (.int 0), .val (.int 1), .val .null, .unset] []))
  refine own_F.of (fun _ => XS.aloadN S3.here S3.hx rfl (S3.dec d4_33) rfl rfl) ?_
  refine own_F.of (fun _ => XS.iloadN S3.here S3.hx rfl (S3.dec d4_34) rfl) ?_
  refine own_F.of (fun _ => XS.iloadN S3.here S3.hx rfl (S3.dec d4_35) rfl) ?_
  show own_F _ p e below _ Z _ _ _ _ _ (T3.setTop (mkF m 36 #[.val (.ref a1), .val (.ref aC), .val (.int 0), .val (.int 1), .val .null, .unset] [(.int 1), (.int 0), (.ref aC)]))
  refine own_callS S3 (y := (⟨"java/lang/StringUTF16", "compress", "([CII)[B"⟩ : MethodName)) (own_w hw 40 rfl) (own_w hw 41 rfl) (own_w hw 42 rfl) (own_w hw 43 rfl) (by decide) (argsL := [(.ref aC), (.int (0 : Int32)), (.int (1 : Int32))]) (rest := []) (own_cmp1 l Z a0 hw aC x1 h0 S3.old S_as S_hi S_lo cx1 AC) all0 (by decide +kernel : parseMethodDescriptor "([CII)[B" = some ⟨[(.array .char), .int, .int], some (.array .byte)⟩) rfl rfl rfl d4_36 (by decide) (Nat.le_of_ble_eq_true rfl) (by decide) (by decide) (fun T5 h5 v5 S5 K5 q5 => ?_)
  obtain ⟨b5, rfl, ⟨F5, hl5⟩ | F5⟩ := q5
  · have V6 : own_A Z h5 b5 .byte [(.int (nar .byte (x1.toInt8.toInt32)))] := F5
    have fq7 := (E_a1.keep K5)
    have nB5 := own_neA fq7 (own_w hw 9 rfl) F5
    show own_F _ p e below _ Z _ _ _ _ _ (T5.setTop (mkF m 39 #[.val (.ref a1), .val (.ref aC), .val (.int 0), .val (.int 1), .val .null, .unset] [(.ref b5)]))
    refine own_F.of (fun _ => XS.astore S5.here S5.hx rfl (S5.dec d4_39) rfl rfl (l' := #[.val (.ref a1), .val (.ref aC), .val (.int 0), .val (.int 1), .val .null, .val (.ref b5)]) rfl) ?_
    refine own_F.of (fun _ => XS.aloadN S5.here S5.hx rfl (S5.dec d4_41) rfl rfl) ?_
    refine own_F.of (fun _ => XS.aload S5.here S5.hx rfl (S5.dec d4_42) rfl rfl) ?_
    refine own_F.of (fun _ => XS.iloadN S5.here S5.hx rfl (S5.dec d4_44) rfl) ?_
    show own_F _ p e below _ Z _ _ _ _ _ (T5.setTop (mkF m 45 #[.val (.ref a1), .val (.ref aC), .val (.int 0), .val (.int 1), .val .null, .val (.ref b5)] [(.int 1), (.ref b5), (.ref a1)]))
    refine own_callS S5 (y := (⟨"java/lang/StringUTF16", "coderFromArrayLen", "([BI)B"⟩ : MethodName)) (own_w hw 47 rfl) (own_w hw 48 rfl) (own_w hw 42 rfl) (own_w hw 49 rfl) (by decide) (argsL := [(.ref b5), (.int (1 : Int32))]) (rest := [(.ref a1)]) (own_cod1L l Z a0 hw b5 x1 h5 S5.old V6) all0 (by decide +kernel : parseMethodDescriptor "([BI)B" = some ⟨[(.array .byte), .int], some .byte⟩) rfl rfl rfl d4_45 (by decide) (Nat.le_of_ble_eq_true rfl) (by decide) (by decide) (fun T8 h8 v8 S8 K8 q8 => ?_)
    obtain ⟨rfl, rfl⟩ := q8
    show own_F _ p e below _ Z _ _ _ _ _ (T8.setTop (mkF m 48 #[.val (.ref a1), .val (.ref aC), .val (.int 0), .val (.int 1), .val .null, .val (.ref b5)] [(.int 0), (.ref a1)]))
    have fq9 := (F_coder.keep K5 nin0)
    refine own_putF S8 (host := "") (Or.inl (own_w hw 29 rfl)) Via.refl fq9 fq7 (Or.inr ⟨(own_w hw 25 rfl), rfl, rfl⟩) (own_w hw 9 rfl) (ty := .byte) (by decide) rfl rfl d4_48 (Or.inl (List.mem_of_getElem? (i := 0) rfl)) (fun T10 h10 S10 W10 => ?_)
    have Fw10 := fq9.same W10
    show own_F _ p e below _ Z _ _ _ _ _ (T10.setTop (mkF m 51 #[.val (.ref a1), .val (.ref aC), .val (.int 0), .val (.int 1), .val .null, .val (.ref b5)] []))
    refine own_F.of (fun _ => XS.aloadN S10.here S10.hx rfl (S10.dec d4_51) rfl rfl) ?_
    refine own_F.of (fun _ => XS.aload S10.here S10.hx rfl (S10.dec d4_52) rfl rfl) ?_
    show own_F _ p e below _ Z _ _ _ _ _ (T10.setTop (mkF m 54 #[.val (.ref a1), .val (.ref aC), .val (.int 0), .val (.int 1), .val .null, .val (.ref b5)] [(.ref b5), (.ref a1)]))
    have fq11 := ((F_value.keep K5 nin0).other W10 (Or.inr (slot_ne (C := "java/lang/String") (Or.inr (own_w hw 24 rfl)) (Or.inr (own_w hw 25 rfl)) (by decide) (t := (.array .byte)) (t' := .byte) (by decide) (by decide))))
    have fq12 := (fq7.wr W10)
    refine own_putF S10 (host := "") (Or.inl (own_w hw 28 rfl)) Via.refl fq11 fq12 (Or.inr ⟨(own_w hw 24 rfl), rfl, rfl⟩) (own_w hw 9 rfl) (ty := (.array .byte)) (by decide) rfl rfl d4_54 (Or.inl (List.mem_of_getElem? (i := 0) rfl)) (fun T13 h13 S13 W13 => ?_)
    have Fw13 := fq11.same W13
    show own_F _ p e below _ Z _ _ _ _ _ (T13.setTop (mkF m 57 #[.val (.ref a1), .val (.ref aC), .val (.int 0), .val (.int 1), .val .null, .val (.ref b5)] []))
    have fq14 := (Fw10.other W13 (Or.inr (slot_ne (C := "java/lang/String") (Or.inr (own_w hw 25 rfl)) (Or.inr (own_w hw 24 rfl)) (by decide) (t := .byte) (t' := (.array .byte)) (by decide) (by decide))))
    have fq15 := ((V6.other W10 (Ne.symm nB5)).other W13 (Ne.symm nB5))
    refine own_retV S13 d4_57 (by decide) (by decide) ?_
    exact ⟨rfl, _, Fw13, Or.inl ⟨⟨fq14, fq15⟩, hl5⟩⟩
  · have V16 : own_A Z h5 b5 .byte [(.int (own_lo x1)), (.int (own_hi x1))] := F5
    have fq17 := (E_a1.keep K5)
    have nB5 := own_neA fq17 (own_w hw 9 rfl) F5
    show own_F _ p e below _ Z _ _ _ _ _ (T5.setTop (mkF m 39 #[.val (.ref a1), .val (.ref aC), .val (.int 0), .val (.int 1), .val .null, .unset] [(.ref b5)]))
    refine own_F.of (fun _ => XS.astore S5.here S5.hx rfl (S5.dec d4_39) rfl rfl (l' := #[.val (.ref a1), .val (.ref aC), .val (.int 0), .val (.int 1), .val .null, .val (.ref b5)]) rfl) ?_
    refine own_F.of (fun _ => XS.aloadN S5.here S5.hx rfl (S5.dec d4_41) rfl rfl) ?_
    refine own_F.of (fun _ => XS.aload S5.here S5.hx rfl (S5.dec d4_42) rfl rfl) ?_
    refine own_F.of (fun _ => XS.iloadN S5.here S5.hx rfl (S5.dec d4_44) rfl) ?_
    show own_F _ p e below _ Z _ _ _ _ _ (T5.setTop (mkF m 45 #[.val (.ref a1), .val (.ref aC), .val (.int 0), .val (.int 1), .val .null, .val (.ref b5)] [(.int 1), (.ref b5), (.ref a1)]))
    refine own_callS S5 (y := (⟨"java/lang/StringUTF16", "coderFromArrayLen", "([BI)B"⟩ : MethodName)) (own_w hw 47 rfl) (own_w hw 48 rfl) (own_w hw 42 rfl) (own_w hw 49 rfl) (by decide) (argsL := [(.ref b5), (.int (1 : Int32))]) (rest := [(.ref a1)]) (own_cod1U l Z a0 hw b5 x1 h5 S5.old V16) all0 (by decide +kernel : parseMethodDescriptor "([BI)B" = some ⟨[(.array .byte), .int], some .byte⟩) rfl rfl rfl d4_45 (by decide) (Nat.le_of_ble_eq_true rfl) (by decide) (by decide) (fun T18 h18 v18 S18 K18 q18 => ?_)
    obtain ⟨rfl, rfl⟩ := q18
    show own_F _ p e below _ Z _ _ _ _ _ (T18.setTop (mkF m 48 #[.val (.ref a1), .val (.ref aC), .val (.int 0), .val (.int 1), .val .null, .val (.ref b5)] [(.int 1), (.ref a1)]))
    have fq19 := (F_coder.keep K5 nin0)
    refine own_putF S18 (host := "") (Or.inl (own_w hw 29 rfl)) Via.refl fq19 fq17 (Or.inr ⟨(own_w hw 25 rfl), rfl, rfl⟩) (own_w hw 9 rfl) (ty := .byte) (by decide) rfl rfl d4_48 (Or.inl (List.mem_of_getElem? (i := 0) rfl)) (fun T20 h20 S20 W20 => ?_)
    have Fw20 := fq19.same W20
    show own_F _ p e below _ Z _ _ _ _ _ (T20.setTop (mkF m 51 #[.val (.ref a1), .val (.ref aC), .val (.int 0), .val (.int 1), .val .null, .val (.ref b5)] []))
    refine own_F.of (fun _ => XS.aloadN S20.here S20.hx rfl (S20.dec d4_51) rfl rfl) ?_
    refine own_F.of (fun _ => XS.aload S20.here S20.hx rfl (S20.dec d4_52) rfl rfl) ?_
    show own_F _ p e below _ Z _ _ _ _ _ (T20.setTop (mkF m 54 #[.val (.ref a1), .val (.ref aC), .val (.int 0), .val (.int 1), .val .null, .val (.ref b5)] [(.ref b5), (.ref a1)]))
    have fq21 := ((F_value.keep K5 nin0).other W20 (Or.inr (slot_ne (C := "java/lang/String") (Or.inr (own_w hw 24 rfl)) (Or.inr (own_w hw 25 rfl)) (by decide) (t := (.array .byte)) (t' := .byte) (by decide) (by decide))))
    have fq22 := (fq17.wr W20)
    refine own_putF S20 (host := "") (Or.inl (own_w hw 28 rfl)) Via.refl fq21 fq22 (Or.inr ⟨(own_w hw 24 rfl), rfl, rfl⟩) (own_w hw 9 rfl) (ty := (.array .byte)) (by decide) rfl rfl d4_54 (Or.inl (List.mem_of_getElem? (i := 0) rfl)) (fun T23 h23 S23 W23 => ?_)
    have Fw23 := fq21.same W23
    show own_F _ p e below _ Z _ _ _ _ _ (T23.setTop (mkF m 57 #[.val (.ref a1), .val (.ref aC), .val (.int 0), .val (.int 1), .val .null, .val (.ref b5)] []))
    have fq24 := (Fw20.other W23 (Or.inr (slot_ne (C := "java/lang/String") (Or.inr (own_w hw 25 rfl)) (Or.inr (own_w hw 24 rfl)) (by decide) (t := .byte) (t' := (.array .byte)) (by decide) (by decide))))
    have fq25 := ((V16.other W20 (Ne.symm nB5)).other W23 (Ne.symm nB5))
    refine own_retV S23 d4_57 (by decide) (by decide) ?_
    exact ⟨rfl, _, Fw23, Or.inr ⟨fq24, fq25⟩⟩
theorem d3_0 : decode jdk_42_method_3_code 0 = .ok (.aload_n 0, 1) := by decide +kernel
theorem d3_1 : decode jdk_42_method_3_code 1 = .ok (.aload_n 1, 1) := by decide +kernel
theorem d3_2 : decode jdk_42_method_3_code 2 = .ok (.iconst 0, 1) := by decide +kernel
theorem d3_3 : decode jdk_42_method_3_code 3 = .ok (.aload_n 1, 1) := by decide +kernel
theorem d3_4 : decode jdk_42_method_3_code 4 = .ok (.arraylength, 1) := by decide +kernel
theorem d3_5 : decode jdk_42_method_3_code 5 = .ok (.aconst_null, 1) := by decide +kernel
theorem d3_6 : decode jdk_42_method_3_code 6 = .ok (.invokespecial 27, 3) := by decide +kernel
theorem d3_9 : decode jdk_42_method_3_code 9 = .ok (.return_, 1) := by decide +kernel
theorem pn3 : plainFor (⟨"java/lang/String", "<init>", "([C)V"⟩ : MethodName) = true := plainFor_of_name (by first | (simp [plainName, overriddenIn]; done) | decide +kernel)
set_option maxRecDepth 65536 in
set_option maxHeartbeats 40000000 in
theorem own_strC1 (l : Launch) (Z : State) (a0 : Array Value) (hw : ∀ d ∈ tables_1, d.before a0 Z = true) (a1 aC : Addr) (x1 : Int32) (zc : Int32) (h0 : Heap) (hO : Ext Z.heap h0) (SZ : Sta Z Z.heap "java/lang/String" "COMPACT_STRINGS" "Z" (.int zc)) (hz : ¬ zc = 0) (S_as : Sta Z Z.heap "java/lang/StringUTF16" "$assertionsDisabled" "Z" (.int 1)) (S_hi : Sta Z Z.heap "java/lang/StringUTF16" "HI_BYTE_SHIFT" "I" (.int 0)) (S_lo : Sta Z Z.heap "java/lang/StringUTF16" "LO_BYTE_SHIFT" "I" (.int 8)) (cx1 : own_isC x1) (ga : Z.heap.size ≤ a1) (E_a1 : Exa Z h0 a1 "java/lang/String") (F_value : Fld Z h0 a1 "java/lang/String" "value" "[B" .null) (F_coder : Fld Z h0 a1 "java/lang/String" "coder" "B" (.int 0)) (AC : own_A Z h0 aC .char [(.int x1)]) :
    own_C l Z (⟨"java/lang/String", "<init>", "([C)V"⟩ : MethodName) jdk_42_method_3_code 2 none [] ({ frames := 5, cells := 2, slots := 3, locals := 74 } : Room) [a1] #[(.ref a1), (.ref aC)] h0 (fun v h => v = none ∧ ∃ b, Fld Z h a1 "java/lang/String" "value" "[B" (.ref b) ∧ (((Fld Z h a1 "java/lang/String" "coder" "B" (.int 0) ∧ own_A Z h b .byte [(.int (nar .byte (x1.toInt8.toInt32)))]) ∧ ¬ 255 < x1) ∨ (Fld Z h a1 "java/lang/String" "coder" "B" (.int 1) ∧ own_A Z h b .byte [(.int (own_lo x1)), (.int (own_hi x1))]))) := by
  refine own_C.of pn3 hO (allS ga all0) ?_
  intro p e s m below meth c T0 S0
  refine own_F.cast (by first | (simp [entryFrame, mkF, argsToLocals, Value.category]; done) | rfl : entryFrame m #[(.ref a1), (.ref aC)] 2 = mkF m 0 #[.val (.ref a1), .val (.ref aC)] []) ?_
  show own_F _ p e below _ Z _ _ _ _ _ (T0.setTop (mkF m 0 #[.val (.ref a1), .val (.ref aC)] []))
  refine own_F.of (fun _ => XS.aloadN S0.here S0.hx rfl (S0.dec d3_0) rfl rfl) ?_
  refine own_F.of (fun _ => XS.aloadN S0.here S0.hx rfl (S0.dec d3_1) rfl rfl) ?_
  refine own_F.of (fun _ => XS.iconst S0.here S0.hx rfl (S0.dec d3_2)) ?_
  refine own_F.of (fun _ => XS.aloadN S0.here S0.hx rfl (S0.dec d3_3) rfl rfl) ?_
  show own_F _ p e below _ Z _ _ _ _ _ (T0.setTop (mkF m 4 #[.val (.ref a1), .val (.ref aC)] [(.ref aC), (.int 0), (.ref aC), (.ref a1)]))
  refine own_len S0 AC d3_4 ?_
  show own_F _ p e below _ Z _ _ _ _ _ (T0.setTop (mkF m 5 #[.val (.ref a1), .val (.ref aC)] [(.int 1), (.int 0), (.ref aC), (.ref a1)]))
  refine own_F.of (fun _ => XS.aconstNull S0.here S0.hx rfl (S0.dec d3_5)) ?_
  show own_F _ p e below _ Z _ _ _ _ _ (T0.setTop (mkF m 6 #[.val (.ref a1), .val (.ref aC)] [.null, (.int 1), (.int 0), (.ref aC), (.ref a1)]))
  refine own_callI S0 (y := (⟨"java/lang/String", "<init>", "([CIILjava/lang/Void;)V"⟩ : MethodName)) rfl (own_w hw 15 rfl) (own_w hw 16 rfl) (own_w hw 10 rfl) (own_w hw 18 rfl) (by decide) (argsL := [(.ref aC), (.int (0 : Int32)), (.int (1 : Int32)), .null]) (rest := []) (own_strV1 l Z a0 hw a1 aC x1 zc h0 S0.old SZ hz S_as S_hi S_lo cx1 ga E_a1 F_value F_coder AC) (allS (Or.inl (List.mem_of_getElem? (i := 0) rfl)) all0) (by decide +kernel : parseMethodDescriptor "([CIILjava/lang/Void;)V" = some ⟨[(.array .char), .int, .int, (.object "java/lang/Void")], none⟩) rfl rfl rfl d3_6 (by decide) (Nat.le_of_ble_eq_true rfl) (by decide) (by decide) (fun T1 h1 v1 S1 K1 q1 => ?_)
  obtain ⟨rfl, F1⟩ := q1
  show own_F _ p e below _ Z _ _ _ _ _ (T1.setTop (mkF m 9 #[.val (.ref a1), .val (.ref aC)] []))
  refine own_retV S1 d3_9 (by decide) (by decide) ?_
  exact ⟨rfl, F1⟩
set_option maxRecDepth 65536 in
set_option maxHeartbeats 40000000 in
theorem own_nbl2 (l : Launch) (Z : State) (a0 : Array Value) (hw : ∀ d ∈ tables_1, d.before a0 Z = true)  (h0 : Heap) (hO : Ext Z.heap h0) :
    own_C l Z (⟨"java/lang/StringUTF16", "newBytesLength", "(I)I"⟩ : MethodName) jdk_52_method_3_code 1 (some .int) [] ({ frames := 0, cells := 0, slots := 0, locals := 0 } : Room) [] #[(.int (2 : Int32))] h0 (fun v h => v = some (.int (4 : Int32)) ∧ h0 = h) := by
  refine own_C.of pn22 hO all0 ?_
  intro p e s m below meth c T0 S0
  refine own_F.cast (by first | (simp [entryFrame, mkF, argsToLocals, Value.category]; done) | rfl : entryFrame m #[(.int (2 : Int32))] 1 = mkF m 0 #[.val (.int (2 : Int32))] []) ?_
  show own_F _ p e below _ Z _ _ _ _ _ (T0.setTop (mkF m 0 #[.val (.int 2)] []))
  refine own_F.of (fun _ => XS.iloadN S0.here S0.hx rfl (S0.dec d22_0) rfl) ?_
  show own_F _ p e below _ Z _ _ _ _ _ (T0.setTop (mkF m 1 #[.val (.int 2)] [(.int 2)]))
  refine own_if S0 12 d22_1 (by decide) (by decide) (fun (hc1_1 : ¬ ((2 : Int32) < (0 : Int32))) => ?_) (fun (hc1_1 : (2 : Int32) < (0 : Int32)) => False.elim (absurd hc1_1 (by decide)))
  show own_F _ p e below _ Z _ _ _ _ _ (T0.setTop (mkF m 12 #[.val (.int 2)] []))
  refine own_F.of (fun _ => XS.iloadN S0.here S0.hx rfl (S0.dec d22_12) rfl) ?_
  show own_F _ p e below _ Z _ _ _ _ _ (T0.setTop (mkF m 13 #[.val (.int 2)] [(.int 2)]))
  refine own_ldcI S0 (own_w hw 100 rfl) d22_13 ?_
  show own_F _ p e below _ Z _ _ _ _ _ (T0.setTop (mkF m 15 #[.val (.int 2)] [(.int 1073741823), (.int 2)]))
  refine own_icmp S0 55 d22_15 (by decide) (by decide) (fun (hc15_2 : (2 : Int32) < (1073741823 : Int32)) => ?_) (fun (hc15_2 : ¬ ((2 : Int32) < (1073741823 : Int32))) => False.elim (absurd hc15_2 (by decide)))
  show own_F _ p e below _ Z _ _ _ _ _ (T0.setTop (mkF m 55 #[.val (.int 2)] []))
  refine own_F.of (fun _ => XS.iloadN S0.here S0.hx rfl (S0.dec d22_55) rfl) ?_
  refine own_F.of (fun _ => XS.iconst S0.here S0.hx rfl (S0.dec d22_56)) ?_
  show own_F _ p e below _ Z _ _ _ _ _ (T0.setTop (mkF m 57 #[.val (.int 2)] [(.int 1), (.int 2)]))
  refine own_F.of (fun _ => XS.ishl S0.here S0.hx rfl (S0.dec d22_57) rfl) ?_
  show own_F _ p e below _ Z _ _ _ _ _ (T0.setTop (mkF m 58 #[.val (.int 2)] [(.int 4)]))
  refine own_retI S0 d22_58 (by decide) (by decide) ?_
  exact ⟨rfl, rfl⟩
set_option maxRecDepth 65536 in
set_option maxHeartbeats 40000000 in
theorem own_nbf2 (l : Launch) (Z : State) (a0 : Array Value) (hw : ∀ d ∈ tables_1, d.before a0 Z = true)  (h0 : Heap) (hO : Ext Z.heap h0) :
    own_C l Z (⟨"java/lang/StringUTF16", "newBytesFor", "(I)[B"⟩ : MethodName) jdk_52_method_2_code 1 (some (.array .byte)) [] ({ frames := 1, cells := 1, slots := 4, locals := 12 } : Room) [] #[(.int (2 : Int32))] h0 (fun v h => ∃ b, v = some (.ref b) ∧ h0.size ≤ b ∧ own_A Z h b .byte [(.int (0 : Int32)), (.int (0 : Int32)), (.int (0 : Int32)), (.int (0 : Int32))]) := by
  refine own_C.of pn21 hO all0 ?_
  intro p e s m below meth c T0 S0
  refine own_F.cast (by first | (simp [entryFrame, mkF, argsToLocals, Value.category]; done) | rfl : entryFrame m #[(.int (2 : Int32))] 1 = mkF m 0 #[.val (.int (2 : Int32))] []) ?_
  show own_F _ p e below _ Z _ _ _ _ _ (T0.setTop (mkF m 0 #[.val (.int 2)] []))
  refine own_F.of (fun _ => XS.iloadN S0.here S0.hx rfl (S0.dec d21_0) rfl) ?_
  show own_F _ p e below _ Z _ _ _ _ _ (T0.setTop (mkF m 1 #[.val (.int 2)] [(.int 2)]))
  refine own_callS S0 (y := (⟨"java/lang/StringUTF16", "newBytesLength", "(I)I"⟩ : MethodName)) (own_w hw 97 rfl) (own_w hw 98 rfl) (own_w hw 42 rfl) (own_w hw 99 rfl) (by decide) (argsL := [(.int (2 : Int32))]) (rest := []) (own_nbl2 l Z a0 hw h0 S0.old) all0 (by decide +kernel : parseMethodDescriptor "(I)I" = some ⟨[.int], some .int⟩) rfl rfl rfl d21_1 (by decide) (Nat.le_of_ble_eq_true rfl) (by decide) (by decide) (fun T1 h1 v1 S1 K1 q1 => ?_)
  obtain ⟨rfl, rfl⟩ := q1
  show own_F _ p e below _ Z _ _ _ _ _ (T1.setTop (mkF m 4 #[.val (.int 2)] [(.int 4)]))
  refine own_newP S1 (own_w hw 23 rfl) d21_4 (by decide) (cap := 4) (by decide) (by decide) (by decide) (by decide) (fun T2 h2 b2 g2 S2 E2 A2 => ?_)
  have V3 : own_A Z h2 b2 .byte [(.int (0 : Int32)), (.int (0 : Int32)), (.int (0 : Int32)), (.int (0 : Int32))] := A2
  show own_F _ p e below _ Z _ _ _ _ _ (T2.setTop (mkF m 6 #[.val (.int 2)] [(.ref b2)]))
  refine own_retA S2 rfl rfl d21_6 (by decide) (by decide) ?_
  exact ⟨_, rfl, (Nat.le_of_eq g2.symm), V3⟩
set_option maxRecDepth 65536 in
set_option maxHeartbeats 40000000 in
theorem own_toB2 (l : Launch) (Z : State) (a0 : Array Value) (hw : ∀ d ∈ tables_1, d.before a0 Z = true) (aC : Addr) (x1 x2 : Int32) (h0 : Heap) (hO : Ext Z.heap h0) (S_as : Sta Z Z.heap "java/lang/StringUTF16" "$assertionsDisabled" "Z" (.int 1)) (S_hi : Sta Z Z.heap "java/lang/StringUTF16" "HI_BYTE_SHIFT" "I" (.int 0)) (S_lo : Sta Z Z.heap "java/lang/StringUTF16" "LO_BYTE_SHIFT" "I" (.int 8)) (AC : own_A Z h0 aC .char [(.int x1), (.int x2)]) :
    own_C l Z (⟨"java/lang/StringUTF16", "toBytes", "([CII)[B"⟩ : MethodName) jdk_52_method_14_code 5 (some (.array .byte)) [] ({ frames := 2, cells := 1, slots := 4, locals := 24 } : Room) [] #[(.ref aC), (.int (0 : Int32)), (.int (2 : Int32))] h0 (fun v h => ∃ b, v = some (.ref b) ∧ own_A Z h b .byte [(.int (own_lo x1)), (.int (own_hi x1)), (.int (own_lo x2)), (.int (own_hi x2))]) := by
  refine own_C.of pn20 hO all0 ?_
  intro p e s m below meth c T0 S0
  refine own_F.cast (by first | (simp [entryFrame, mkF, argsToLocals, Value.category]; done) | rfl : entryFrame m #[(.ref aC), (.int (0 : Int32)), (.int (2 : Int32))] 5 = mkF m 0 #[.val (.ref aC), .val (.int (0 : Int32)), .val (.int (2 : Int32)), .unset, .unset] []) ?_
  show own_F _ p e below _ Z _ _ _ _ _ (T0.setTop (mkF m 0 #[.val (.ref aC), .val (.int 0), .val (.int 2), .unset, .unset] []))
  refine own_F.of (fun _ => XS.iloadN S0.here S0.hx rfl (S0.dec d20_0) rfl) ?_
  show own_F _ p e below _ Z _ _ _ _ _ (T0.setTop (mkF m 1 #[.val (.ref aC), .val (.int 0), .val (.int 2), .unset, .unset] [(.int 2)]))
  refine own_callS S0 (y := (⟨"java/lang/StringUTF16", "newBytesFor", "(I)[B"⟩ : MethodName)) (own_w hw 94 rfl) (own_w hw 95 rfl) (own_w hw 42 rfl) (own_w hw 96 rfl) (by decide) (argsL := [(.int (2 : Int32))]) (rest := []) (own_nbf2 l Z a0 hw h0 S0.old) all0 (by decide +kernel : parseMethodDescriptor "(I)[B" = some ⟨[.int], some (.array .byte)⟩) rfl rfl rfl d20_1 (by decide) (Nat.le_of_ble_eq_true rfl) (by decide) (by decide) (fun T1 h1 v1 S1 K1 q1 => ?_)
  obtain ⟨b1, rfl, g1, F1⟩ := q1
  have V2 : own_A Z h1 b1 .byte [(.int (0 : Int32)), (.int (0 : Int32)), (.int (0 : Int32)), (.int (0 : Int32))] := F1
  show own_F _ p e below _ Z _ _ _ _ _ (T1.setTop (mkF m 4 #[.val (.ref aC), .val (.int 0), .val (.int 2), .unset, .unset] [(.ref b1)]))
  refine own_F.of (fun _ => XS.astoreN S1.here S1.hx rfl (S1.dec d20_4) rfl rfl (l' := #[.val (.ref aC), .val (.int 0), .val (.int 2), .val (.ref b1), .unset]) rfl) ?_
  refine own_F.of (fun _ => XS.iconst S1.here S1.hx rfl (S1.dec d20_5)) ?_
  show own_F _ p e below _ Z _ _ _ _ _ (T1.setTop (mkF m 6 #[.val (.ref aC), .val (.int 0), .val (.int 2), .val (.ref b1), .unset] [(.int 0)]))
  refine own_F.of (fun _ => XS.istore S1.here S1.hx rfl (S1.dec d20_6) rfl (l' := #[.val (.ref aC), .val (.int 0), .val (.int 2), .val (.ref b1), .val (.int 0)]) rfl) ?_
  refine own_F.of (fun _ => XS.iload S1.here S1.hx rfl (S1.dec d20_8) rfl) ?_
  refine own_F.of (fun _ => XS.iloadN S1.here S1.hx rfl (S1.dec d20_10) rfl) ?_
  show own_F _ p e below _ Z _ _ _ _ _ (T1.setTop (mkF m 11 #[.val (.ref aC), .val (.int 0), .val (.int 2), .val (.ref b1), .val (.int 0)] [(.int 2), (.int 0)]))
  refine own_icmp S1 32 d20_11 (by decide) (by decide) (fun (hc11_3 : ¬ ((0 : Int32) < (2 : Int32))) => False.elim (absurd hc11_3 (by decide))) (fun (hc11_3 : (0 : Int32) < (2 : Int32)) => ?_)
  show own_F _ p e below _ Z _ _ _ _ _ (T1.setTop (mkF m 14 #[.val (.ref aC), .val (.int 0), .val (.int 2), .val (.ref b1), .val (.int 0)] []))
  refine own_F.of (fun _ => XS.aloadN S1.here S1.hx rfl (S1.dec d20_14) rfl rfl) ?_
  refine own_F.of (fun _ => XS.iload S1.here S1.hx rfl (S1.dec d20_15) rfl) ?_
  refine own_F.of (fun _ => XS.aloadN S1.here S1.hx rfl (S1.dec d20_17) rfl rfl) ?_
  refine own_F.of (fun _ => XS.iloadN S1.here S1.hx rfl (S1.dec d20_18) rfl) ?_
  show own_F _ p e below _ Z _ _ _ _ _ (T1.setTop (mkF m 19 #[.val (.ref aC), .val (.int 0), .val (.int 2), .val (.ref b1), .val (.int 0)] [(.int 0), (.ref aC), (.int 0), (.ref b1)]))
  have fq4 := (AC.keep K1 nin0)
  refine own_cald S1 fq4 (by decide) rfl d20_19 ?_
  show own_F _ p e below _ Z _ _ _ _ _ (T1.setTop (mkF m 20 #[.val (.ref aC), .val (.int 0), .val (.int 2), .val (.ref b1), .val (.int 0)] [(.int x1), (.int 0), (.ref b1)]))
  refine own_callS S1 (y := (⟨"java/lang/StringUTF16", "putChar", "([BII)V"⟩ : MethodName)) (own_w hw 101 rfl) (own_w hw 102 rfl) (own_w hw 42 rfl) (own_w hw 103 rfl) (by decide) (argsL := [(.ref b1), (.int (0 : Int32)), (.int x1)]) (rest := []) (own_putC l Z a0 hw b1 [(.int (0 : Int32)), (.int (0 : Int32)), (.int (0 : Int32)), (.int (0 : Int32))] (0 : Int32) (0 : Int32) (1 : Int32) x1 h1 S1.old S_as S_hi S_lo (by decide) (by decide) (by decide) (by decide) (Nat.le_of_ble_eq_true rfl) (Nat.le_of_ble_eq_true rfl) (own_mayN S1 (Or.inr g1)) V2) (allS (Or.inr g1) all0) (by decide +kernel : parseMethodDescriptor "([BII)V" = some ⟨[(.array .byte), .int, .int], none⟩) rfl rfl rfl d20_20 (by decide) (Nat.le_of_ble_eq_true rfl) (by decide) (by decide) (fun T5 h5 v5 S5 K5 q5 => ?_)
  obtain ⟨rfl, F5⟩ := q5
  have V6 : own_A Z h5 b1 .byte [(.int (own_lo x1)), (.int (own_hi x1)), (.int (0 : Int32)), (.int (0 : Int32))] := F5
  show own_F _ p e below _ Z _ _ _ _ _ (T5.setTop (mkF m 23 #[.val (.ref aC), .val (.int 0), .val (.int 2), .val (.ref b1), .val (.int 0)] []))
  refine own_F.of (fun _ => XS.iinc S5.here S5.hx rfl (S5.dec d20_23) rfl (l' := #[.val (.ref aC), .val (.int 1), .val (.int 2), .val (.ref b1), .val (.int 0)]) rfl) ?_
  show own_F _ p e below _ Z _ _ _ _ _ (T5.setTop (mkF m 26 #[.val (.ref aC), .val (.int 1), .val (.int 2), .val (.ref b1), .val (.int 0)] []))
  refine own_F.of (fun _ => XS.iinc S5.here S5.hx rfl (S5.dec d20_26) rfl (l' := #[.val (.ref aC), .val (.int 1), .val (.int 2), .val (.ref b1), .val (.int 1)]) rfl) ?_
  show own_F _ p e below _ Z _ _ _ _ _ (T5.setTop (mkF m 29 #[.val (.ref aC), .val (.int 1), .val (.int 2), .val (.ref b1), .val (.int 1)] []))
  refine own_F.of (fun _ => XS.goto S5.here S5.hx rfl (pc0 := 29) (pc' := 8) rfl (S5.dec d20_29) (by decide) (by decide)) ?_
  show own_F _ p e below _ Z _ _ _ _ _ (T5.setTop (mkF m 8 #[.val (.ref aC), .val (.int 1), .val (.int 2), .val (.ref b1), .val (.int 1)] []))
  refine own_F.of (fun _ => XS.iload S5.here S5.hx rfl (S5.dec d20_8) rfl) ?_
  refine own_F.of (fun _ => XS.iloadN S5.here S5.hx rfl (S5.dec d20_10) rfl) ?_
  show own_F _ p e below _ Z _ _ _ _ _ (T5.setTop (mkF m 11 #[.val (.ref aC), .val (.int 1), .val (.int 2), .val (.ref b1), .val (.int 1)] [(.int 2), (.int 1)]))
  refine own_icmp S5 32 d20_11 (by decide) (by decide) (fun (hc11_7 : ¬ ((1 : Int32) < (2 : Int32))) => False.elim (absurd hc11_7 (by decide))) (fun (hc11_7 : (1 : Int32) < (2 : Int32)) => ?_)
  show own_F _ p e below _ Z _ _ _ _ _ (T5.setTop (mkF m 14 #[.val (.ref aC), .val (.int 1), .val (.int 2), .val (.ref b1), .val (.int 1)] []))
  refine own_F.of (fun _ => XS.aloadN S5.here S5.hx rfl (S5.dec d20_14) rfl rfl) ?_
  refine own_F.of (fun _ => XS.iload S5.here S5.hx rfl (S5.dec d20_15) rfl) ?_
  refine own_F.of (fun _ => XS.aloadN S5.here S5.hx rfl (S5.dec d20_17) rfl rfl) ?_
  refine own_F.of (fun _ => XS.iloadN S5.here S5.hx rfl (S5.dec d20_18) rfl) ?_
  show own_F _ p e below _ Z _ _ _ _ _ (T5.setTop (mkF m 19 #[.val (.ref aC), .val (.int 1), .val (.int 2), .val (.ref b1), .val (.int 1)] [(.int 1), (.ref aC), (.int 1), (.ref b1)]))
  have fq8 := (fq4.keep K5 (ninS (Nat.ne_of_lt (Nat.lt_of_lt_of_le AC.lt g1)) nin0))
  refine own_cald S5 fq8 (by decide) rfl d20_19 ?_
  show own_F _ p e below _ Z _ _ _ _ _ (T5.setTop (mkF m 20 #[.val (.ref aC), .val (.int 1), .val (.int 2), .val (.ref b1), .val (.int 1)] [(.int x2), (.int 1), (.ref b1)]))
  refine own_callS S5 (y := (⟨"java/lang/StringUTF16", "putChar", "([BII)V"⟩ : MethodName)) (own_w hw 101 rfl) (own_w hw 102 rfl) (own_w hw 42 rfl) (own_w hw 103 rfl) (by decide) (argsL := [(.ref b1), (.int (1 : Int32)), (.int x2)]) (rest := []) (own_putC l Z a0 hw b1 [(.int (own_lo x1)), (.int (own_hi x1)), (.int (0 : Int32)), (.int (0 : Int32))] (1 : Int32) (2 : Int32) (3 : Int32) x2 h5 S5.old S_as S_hi S_lo (by decide) (by decide) (by decide) (by decide) (Nat.le_of_ble_eq_true rfl) (Nat.le_of_ble_eq_true rfl) (own_mayN S5 (Or.inr g1)) V6) (allS (Or.inr g1) all0) (by decide +kernel : parseMethodDescriptor "([BII)V" = some ⟨[(.array .byte), .int, .int], none⟩) rfl rfl rfl d20_20 (by decide) (Nat.le_of_ble_eq_true rfl) (by decide) (by decide) (fun T9 h9 v9 S9 K9 q9 => ?_)
  obtain ⟨rfl, F9⟩ := q9
  have V10 : own_A Z h9 b1 .byte [(.int (own_lo x1)), (.int (own_hi x1)), (.int (own_lo x2)), (.int (own_hi x2))] := F9
  show own_F _ p e below _ Z _ _ _ _ _ (T9.setTop (mkF m 23 #[.val (.ref aC), .val (.int 1), .val (.int 2), .val (.ref b1), .val (.int 1)] []))
  refine own_F.of (fun _ => XS.iinc S9.here S9.hx rfl (S9.dec d20_23) rfl (l' := #[.val (.ref aC), .val (.int 2), .val (.int 2), .val (.ref b1), .val (.int 1)]) rfl) ?_
  show own_F _ p e below _ Z _ _ _ _ _ (T9.setTop (mkF m 26 #[.val (.ref aC), .val (.int 2), .val (.int 2), .val (.ref b1), .val (.int 1)] []))
  refine own_F.of (fun _ => XS.iinc S9.here S9.hx rfl (S9.dec d20_26) rfl (l' := #[.val (.ref aC), .val (.int 2), .val (.int 2), .val (.ref b1), .val (.int 2)]) rfl) ?_
  show own_F _ p e below _ Z _ _ _ _ _ (T9.setTop (mkF m 29 #[.val (.ref aC), .val (.int 2), .val (.int 2), .val (.ref b1), .val (.int 2)] []))
  refine own_F.of (fun _ => XS.goto S9.here S9.hx rfl (pc0 := 29) (pc' := 8) rfl (S9.dec d20_29) (by decide) (by decide)) ?_
  show own_F _ p e below _ Z _ _ _ _ _ (T9.setTop (mkF m 8 #[.val (.ref aC), .val (.int 2), .val (.int 2), .val (.ref b1), .val (.int 2)] []))
  refine own_F.of (fun _ => XS.iload S9.here S9.hx rfl (S9.dec d20_8) rfl) ?_
  refine own_F.of (fun _ => XS.iloadN S9.here S9.hx rfl (S9.dec d20_10) rfl) ?_
  show own_F _ p e below _ Z _ _ _ _ _ (T9.setTop (mkF m 11 #[.val (.ref aC), .val (.int 2), .val (.int 2), .val (.ref b1), .val (.int 2)] [(.int 2), (.int 2)]))
  refine own_icmp S9 32 d20_11 (by decide) (by decide) (fun (hc11_11 : ¬ ((2 : Int32) < (2 : Int32))) => ?_) (fun (hc11_11 : (2 : Int32) < (2 : Int32)) => False.elim (absurd hc11_11 (by decide)))
  show own_F _ p e below _ Z _ _ _ _ _ (T9.setTop (mkF m 32 #[.val (.ref aC), .val (.int 2), .val (.int 2), .val (.ref b1), .val (.int 2)] []))
  refine own_F.of (fun _ => XS.aloadN S9.here S9.hx rfl (S9.dec d20_32) rfl rfl) ?_
  show own_F _ p e below _ Z _ _ _ _ _ (T9.setTop (mkF m 33 #[.val (.ref aC), .val (.int 2), .val (.int 2), .val (.ref b1), .val (.int 2)] [(.ref b1)]))
  refine own_retA S9 rfl rfl d20_33 (by decide) (by decide) ?_
  exact ⟨_, rfl, V10⟩
set_option maxRecDepth 65536 in
set_option maxHeartbeats 40000000 in
theorem own_cmpI2 (l : Launch) (Z : State) (a0 : Array Value) (hw : ∀ d ∈ tables_1, d.before a0 Z = true) (aC aB : Addr) (x1 x2 : Int32) (h0 : Heap) (hO : Ext Z.heap h0) (AC : own_A Z h0 aC .char [(.int x1), (.int x2)]) (AB : own_A Z h0 aB .byte [(.int (0 : Int32)), (.int (0 : Int32))]) (gB : Z.heap.size ≤ aB) (nCB : aC ≠ aB) :
    own_C l Z (⟨"java/lang/StringUTF16", "compress", "([CI[BII)I"⟩ : MethodName) jdk_52_method_21_code 7 (some .int) [] ({ frames := 0, cells := 0, slots := 0, locals := 0 } : Room) [aB] #[(.ref aC), (.int (0 : Int32)), (.ref aB), (.int (0 : Int32)), (.int (2 : Int32))] h0 (fun v h => (v = some (.int (2 : Int32)) ∧ own_A Z h aB .byte [(.int (nar .byte (x1.toInt8.toInt32))), (.int (nar .byte (x2.toInt8.toInt32)))] ∧ ¬ 255 < x1 ∧ ¬ 255 < x2) ∨ (v = some (.int (0 : Int32)) ∧ 255 < x1) ∨ (v = some (.int (1 : Int32)) ∧ 255 < x2)) := by
  refine own_C.of pn9 hO (allS gB all0) ?_
  intro p e s m below meth c T0 S0
  refine own_F.cast (by first | (simp [entryFrame, mkF, argsToLocals, Value.category]; done) | rfl : entryFrame m #[(.ref aC), (.int (0 : Int32)), (.ref aB), (.int (0 : Int32)), (.int (2 : Int32))] 7 = mkF m 0 #[.val (.ref aC), .val (.int (0 : Int32)), .val (.ref aB), .val (.int (0 : Int32)), .val (.int (2 : Int32)), .unset, .unset] []) ?_
  show own_F _ p e below _ Z _ _ _ _ _ (T0.setTop (mkF m 0 #[.val (.ref aC), .val (.int 0), .val (.ref aB), .val (.int 0), .val (.int 2), .unset, .unset] []))
  refine own_F.of (fun _ => XS.iconst S0.here S0.hx rfl (S0.dec d9_0)) ?_
  show own_F _ p e below _ Z _ _ _ _ _ (T0.setTop (mkF m 1 #[.val (.ref aC), .val (.int 0), .val (.ref aB), .val (.int 0), .val (.int 2), .unset, .unset] [(.int 0)]))
  refine own_F.of (fun _ => XS.istore S0.here S0.hx rfl (S0.dec d9_1) rfl (l' := #[.val (.ref aC), .val (.int 0), .val (.ref aB), .val (.int 0), .val (.int 2), .val (.int 0), .unset]) rfl) ?_
  refine own_F.of (fun _ => XS.iload S0.here S0.hx rfl (S0.dec d9_3) rfl) ?_
  refine own_F.of (fun _ => XS.iload S0.here S0.hx rfl (S0.dec d9_5) rfl) ?_
  show own_F _ p e below _ Z _ _ _ _ _ (T0.setTop (mkF m 7 #[.val (.ref aC), .val (.int 0), .val (.ref aB), .val (.int 0), .val (.int 2), .val (.int 0), .unset] [(.int 2), (.int 0)]))
  refine own_icmp S0 44 d9_7 (by decide) (by decide) (fun (hc7_1 : ¬ ((0 : Int32) < (2 : Int32))) => False.elim (absurd hc7_1 (by decide))) (fun (hc7_1 : (0 : Int32) < (2 : Int32)) => ?_)
  show own_F _ p e below _ Z _ _ _ _ _ (T0.setTop (mkF m 10 #[.val (.ref aC), .val (.int 0), .val (.ref aB), .val (.int 0), .val (.int 2), .val (.int 0), .unset] []))
  refine own_F.of (fun _ => XS.aloadN S0.here S0.hx rfl (S0.dec d9_10) rfl rfl) ?_
  refine own_F.of (fun _ => XS.iloadN S0.here S0.hx rfl (S0.dec d9_11) rfl) ?_
  show own_F _ p e below _ Z _ _ _ _ _ (T0.setTop (mkF m 12 #[.val (.ref aC), .val (.int 0), .val (.ref aB), .val (.int 0), .val (.int 2), .val (.int 0), .unset] [(.int 0), (.ref aC)]))
  refine own_cald S0 AC (by decide) rfl d9_12 ?_
  show own_F _ p e below _ Z _ _ _ _ _ (T0.setTop (mkF m 13 #[.val (.ref aC), .val (.int 0), .val (.ref aB), .val (.int 0), .val (.int 2), .val (.int 0), .unset] [(.int x1)]))
  refine own_F.of (fun _ => XS.istore S0.here S0.hx rfl (S0.dec d9_13) rfl (l' := #[.val (.ref aC), .val (.int 0), .val (.ref aB), .val (.int 0), .val (.int 2), .val (.int 0), .val (.int x1)]) rfl) ?_
  refine own_F.of (fun _ => XS.iload S0.here S0.hx rfl (S0.dec d9_15) rfl) ?_
  refine own_F.of (fun _ => XS.sipush S0.here S0.hx rfl (S0.dec d9_17)) ?_
  show own_F _ p e below _ Z _ _ _ _ _ (T0.setTop (mkF m 20 #[.val (.ref aC), .val (.int 0), .val (.ref aB), .val (.int 0), .val (.int 2), .val (.int 0), .val (.int x1)] [(.int 255), (.int x1)]))
  refine own_icmp S0 26 d9_20 (by decide) (by decide) (fun (hc20_2 : ¬ ((255 : Int32) < x1)) => ?_) (fun (hc20_2 : (255 : Int32) < x1) => ?_)
  · show own_F _ p e below _ Z _ _ _ _ _ (T0.setTop (mkF m 26 #[.val (.ref aC), .val (.int 0), .val (.ref aB), .val (.int 0), .val (.int 2), .val (.int 0), .val (.int x1)] []))
    refine own_F.of (fun _ => XS.aloadN S0.here S0.hx rfl (S0.dec d9_26) rfl rfl) ?_
    refine own_F.of (fun _ => XS.iloadN S0.here S0.hx rfl (S0.dec d9_27) rfl) ?_
    refine own_F.of (fun _ => XS.iload S0.here S0.hx rfl (S0.dec d9_28) rfl) ?_
    show own_F _ p e below _ Z _ _ _ _ _ (T0.setTop (mkF m 30 #[.val (.ref aC), .val (.int 0), .val (.ref aB), .val (.int 0), .val (.int 2), .val (.int 0), .val (.int x1)] [(.int x1), (.int 0), (.ref aB)]))
    refine own_F.of (fun _ => XS.i2b S0.here S0.hx rfl (S0.dec d9_30) rfl) ?_
    show own_F _ p e below _ Z _ _ _ _ _ (T0.setTop (mkF m 31 #[.val (.ref aC), .val (.int 0), .val (.ref aB), .val (.int 0), .val (.int 2), .val (.int 0), .val (.int x1)] [(.int (x1.toInt8.toInt32)), (.int 0), (.ref aB)]))
    refine own_bst S0 AB (by decide) (Nat.le_of_ble_eq_true rfl) d9_31 (Or.inl (List.mem_of_getElem? (i := 0) rfl)) (fun T3 h3 S3 W3 A3 => ?_)
    have V4 : own_A Z h3 aB .byte [(.int (nar .byte (x1.toInt8.toInt32))), (.int (0 : Int32))] := A3
    show own_F _ p e below _ Z _ _ _ _ _ (T3.setTop (mkF m 32 #[.val (.ref aC), .val (.int 0), .val (.ref aB), .val (.int 0), .val (.int 2), .val (.int 0), .val (.int x1)] []))
    refine own_F.of (fun _ => XS.iinc S3.here S3.hx rfl (S3.dec d9_32) rfl (l' := #[.val (.ref aC), .val (.int 1), .val (.ref aB), .val (.int 0), .val (.int 2), .val (.int 0), .val (.int x1)]) rfl) ?_
    show own_F _ p e below _ Z _ _ _ _ _ (T3.setTop (mkF m 35 #[.val (.ref aC), .val (.int 1), .val (.ref aB), .val (.int 0), .val (.int 2), .val (.int 0), .val (.int x1)] []))
    refine own_F.of (fun _ => XS.iinc S3.here S3.hx rfl (S3.dec d9_35) rfl (l' := #[.val (.ref aC), .val (.int 1), .val (.ref aB), .val (.int 1), .val (.int 2), .val (.int 0), .val (.int x1)]) rfl) ?_
    show own_F _ p e below _ Z _ _ _ _ _ (T3.setTop (mkF m 38 #[.val (.ref aC), .val (.int 1), .val (.ref aB), .val (.int 1), .val (.int 2), .val (.int 0), .val (.int x1)] []))
    refine own_F.of (fun _ => XS.iinc S3.here S3.hx rfl (S3.dec d9_38) rfl (l' := #[.val (.ref aC), .val (.int 1), .val (.ref aB), .val (.int 1), .val (.int 2), .val (.int 1), .val (.int x1)]) rfl) ?_
    show own_F _ p e below _ Z _ _ _ _ _ (T3.setTop (mkF m 41 #[.val (.ref aC), .val (.int 1), .val (.ref aB), .val (.int 1), .val (.int 2), .val (.int 1), .val (.int x1)] []))
    refine own_F.of (fun _ => XS.goto S3.here S3.hx rfl (pc0 := 41) (pc' := 3) rfl (S3.dec d9_41) (by decide) (by decide)) ?_
    show own_F _ p e below _ Z _ _ _ _ _ (T3.setTop (mkF m 3 #[.val (.ref aC), .val (.int 1), .val (.ref aB), .val (.int 1), .val (.int 2), .val (.int 1), .val (.int x1)] []))
    refine own_F.of (fun _ => XS.iload S3.here S3.hx rfl (S3.dec d9_3) rfl) ?_
    refine own_F.of (fun _ => XS.iload S3.here S3.hx rfl (S3.dec d9_5) rfl) ?_
    show own_F _ p e below _ Z _ _ _ _ _ (T3.setTop (mkF m 7 #[.val (.ref aC), .val (.int 1), .val (.ref aB), .val (.int 1), .val (.int 2), .val (.int 1), .val (.int x1)] [(.int 2), (.int 1)]))
    refine own_icmp S3 44 d9_7 (by decide) (by decide) (fun (hc7_5 : ¬ ((1 : Int32) < (2 : Int32))) => False.elim (absurd hc7_5 (by decide))) (fun (hc7_5 : (1 : Int32) < (2 : Int32)) => ?_)
    show own_F _ p e below _ Z _ _ _ _ _ (T3.setTop (mkF m 10 #[.val (.ref aC), .val (.int 1), .val (.ref aB), .val (.int 1), .val (.int 2), .val (.int 1), .val (.int x1)] []))
    refine own_F.of (fun _ => XS.aloadN S3.here S3.hx rfl (S3.dec d9_10) rfl rfl) ?_
    refine own_F.of (fun _ => XS.iloadN S3.here S3.hx rfl (S3.dec d9_11) rfl) ?_
    show own_F _ p e below _ Z _ _ _ _ _ (T3.setTop (mkF m 12 #[.val (.ref aC), .val (.int 1), .val (.ref aB), .val (.int 1), .val (.int 2), .val (.int 1), .val (.int x1)] [(.int 1), (.ref aC)]))
    have fq6 := (AC.other W3 nCB)
    refine own_cald S3 fq6 (by decide) rfl d9_12 ?_
    show own_F _ p e below _ Z _ _ _ _ _ (T3.setTop (mkF m 13 #[.val (.ref aC), .val (.int 1), .val (.ref aB), .val (.int 1), .val (.int 2), .val (.int 1), .val (.int x1)] [(.int x2)]))
    refine own_F.of (fun _ => XS.istore S3.here S3.hx rfl (S3.dec d9_13) rfl (l' := #[.val (.ref aC), .val (.int 1), .val (.ref aB), .val (.int 1), .val (.int 2), .val (.int 1), .val (.int x2)]) rfl) ?_
    refine own_F.of (fun _ => XS.iload S3.here S3.hx rfl (S3.dec d9_15) rfl) ?_
    refine own_F.of (fun _ => XS.sipush S3.here S3.hx rfl (S3.dec d9_17)) ?_
    show own_F _ p e below _ Z _ _ _ _ _ (T3.setTop (mkF m 20 #[.val (.ref aC), .val (.int 1), .val (.ref aB), .val (.int 1), .val (.int 2), .val (.int 1), .val (.int x2)] [(.int 255), (.int x2)]))
    refine own_icmp S3 26 d9_20 (by decide) (by decide) (fun (hc20_7 : ¬ ((255 : Int32) < x2)) => ?_) (fun (hc20_7 : (255 : Int32) < x2) => ?_)
    · show own_F _ p e below _ Z _ _ _ _ _ (T3.setTop (mkF m 26 #[.val (.ref aC), .val (.int 1), .val (.ref aB), .val (.int 1), .val (.int 2), .val (.int 1), .val (.int x2)] []))
      refine own_F.of (fun _ => XS.aloadN S3.here S3.hx rfl (S3.dec d9_26) rfl rfl) ?_
      refine own_F.of (fun _ => XS.iloadN S3.here S3.hx rfl (S3.dec d9_27) rfl) ?_
      refine own_F.of (fun _ => XS.iload S3.here S3.hx rfl (S3.dec d9_28) rfl) ?_
      show own_F _ p e below _ Z _ _ _ _ _ (T3.setTop (mkF m 30 #[.val (.ref aC), .val (.int 1), .val (.ref aB), .val (.int 1), .val (.int 2), .val (.int 1), .val (.int x2)] [(.int x2), (.int 1), (.ref aB)]))
      refine own_F.of (fun _ => XS.i2b S3.here S3.hx rfl (S3.dec d9_30) rfl) ?_
      show own_F _ p e below _ Z _ _ _ _ _ (T3.setTop (mkF m 31 #[.val (.ref aC), .val (.int 1), .val (.ref aB), .val (.int 1), .val (.int 2), .val (.int 1), .val (.int x2)] [(.int (x2.toInt8.toInt32)), (.int 1), (.ref aB)]))
      refine own_bst S3 V4 (by decide) (Nat.le_of_ble_eq_true rfl) d9_31 (Or.inl (List.mem_of_getElem? (i := 0) rfl)) (fun T8 h8 S8 W8 A8 => ?_)
      have V9 : own_A Z h8 aB .byte [(.int (nar .byte (x1.toInt8.toInt32))), (.int (nar .byte (x2.toInt8.toInt32)))] := A8
      show own_F _ p e below _ Z _ _ _ _ _ (T8.setTop (mkF m 32 #[.val (.ref aC), .val (.int 1), .val (.ref aB), .val (.int 1), .val (.int 2), .val (.int 1), .val (.int x2)] []))
      refine own_F.of (fun _ => XS.iinc S8.here S8.hx rfl (S8.dec d9_32) rfl (l' := #[.val (.ref aC), .val (.int 2), .val (.ref aB), .val (.int 1), .val (.int 2), .val (.int 1), .val (.int x2)]) rfl) ?_
      show own_F _ p e below _ Z _ _ _ _ _ (T8.setTop (mkF m 35 #[.val (.ref aC), .val (.int 2), .val (.ref aB), .val (.int 1), .val (.int 2), .val (.int 1), .val (.int x2)] []))
      refine own_F.of (fun _ => XS.iinc S8.here S8.hx rfl (S8.dec d9_35) rfl (l' := #[.val (.ref aC), .val (.int 2), .val (.ref aB), .val (.int 2), .val (.int 2), .val (.int 1), .val (.int x2)]) rfl) ?_
      show own_F _ p e below _ Z _ _ _ _ _ (T8.setTop (mkF m 38 #[.val (.ref aC), .val (.int 2), .val (.ref aB), .val (.int 2), .val (.int 2), .val (.int 1), .val (.int x2)] []))
      refine own_F.of (fun _ => XS.iinc S8.here S8.hx rfl (S8.dec d9_38) rfl (l' := #[.val (.ref aC), .val (.int 2), .val (.ref aB), .val (.int 2), .val (.int 2), .val (.int 2), .val (.int x2)]) rfl) ?_
      show own_F _ p e below _ Z _ _ _ _ _ (T8.setTop (mkF m 41 #[.val (.ref aC), .val (.int 2), .val (.ref aB), .val (.int 2), .val (.int 2), .val (.int 2), .val (.int x2)] []))
      refine own_F.of (fun _ => XS.goto S8.here S8.hx rfl (pc0 := 41) (pc' := 3) rfl (S8.dec d9_41) (by decide) (by decide)) ?_
      show own_F _ p e below _ Z _ _ _ _ _ (T8.setTop (mkF m 3 #[.val (.ref aC), .val (.int 2), .val (.ref aB), .val (.int 2), .val (.int 2), .val (.int 2), .val (.int x2)] []))
      refine own_F.of (fun _ => XS.iload S8.here S8.hx rfl (S8.dec d9_3) rfl) ?_
      refine own_F.of (fun _ => XS.iload S8.here S8.hx rfl (S8.dec d9_5) rfl) ?_
      show own_F _ p e below _ Z _ _ _ _ _ (T8.setTop (mkF m 7 #[.val (.ref aC), .val (.int 2), .val (.ref aB), .val (.int 2), .val (.int 2), .val (.int 2), .val (.int x2)] [(.int 2), (.int 2)]))
      refine own_icmp S8 44 d9_7 (by decide) (by decide) (fun (hc7_10 : ¬ ((2 : Int32) < (2 : Int32))) => ?_) (fun (hc7_10 : (2 : Int32) < (2 : Int32)) => False.elim (absurd hc7_10 (by decide)))
      show own_F _ p e below _ Z _ _ _ _ _ (T8.setTop (mkF m 44 #[.val (.ref aC), .val (.int 2), .val (.ref aB), .val (.int 2), .val (.int 2), .val (.int 2), .val (.int x2)] []))
      refine own_F.of (fun _ => XS.iload S8.here S8.hx rfl (S8.dec d9_44) rfl) ?_
      show own_F _ p e below _ Z _ _ _ _ _ (T8.setTop (mkF m 46 #[.val (.ref aC), .val (.int 2), .val (.ref aB), .val (.int 2), .val (.int 2), .val (.int 2), .val (.int x2)] [(.int 2)]))
      refine own_retI S8 d9_46 (by decide) (by decide) ?_
      exact Or.inl ⟨rfl, V9, hc20_2, hc20_7⟩
    · show own_F _ p e below _ Z _ _ _ _ _ (T3.setTop (mkF m 23 #[.val (.ref aC), .val (.int 1), .val (.ref aB), .val (.int 1), .val (.int 2), .val (.int 1), .val (.int x2)] []))
      refine own_F.of (fun _ => XS.iload S3.here S3.hx rfl (S3.dec d9_23) rfl) ?_
      show own_F _ p e below _ Z _ _ _ _ _ (T3.setTop (mkF m 25 #[.val (.ref aC), .val (.int 1), .val (.ref aB), .val (.int 1), .val (.int 2), .val (.int 1), .val (.int x2)] [(.int 1)]))
      refine own_retI S3 d9_25 (by decide) (by decide) ?_
      exact Or.inr (Or.inr (⟨rfl, hc20_7⟩))
  · show own_F _ p e below _ Z _ _ _ _ _ (T0.setTop (mkF m 23 #[.val (.ref aC), .val (.int 0), .val (.ref aB), .val (.int 0), .val (.int 2), .val (.int 0), .val (.int x1)] []))
    refine own_F.of (fun _ => XS.iload S0.here S0.hx rfl (S0.dec d9_23) rfl) ?_
    show own_F _ p e below _ Z _ _ _ _ _ (T0.setTop (mkF m 25 #[.val (.ref aC), .val (.int 0), .val (.ref aB), .val (.int 0), .val (.int 2), .val (.int 0), .val (.int x1)] [(.int 0)]))
    refine own_retI S0 d9_25 (by decide) (by decide) ?_
    exact Or.inr (Or.inl ⟨rfl, hc20_2⟩)
set_option maxRecDepth 65536 in
set_option maxHeartbeats 40000000 in
theorem own_cmp2 (l : Launch) (Z : State) (a0 : Array Value) (hw : ∀ d ∈ tables_1, d.before a0 Z = true) (aC : Addr) (x1 x2 : Int32) (h0 : Heap) (hO : Ext Z.heap h0) (S_as : Sta Z Z.heap "java/lang/StringUTF16" "$assertionsDisabled" "Z" (.int 1)) (S_hi : Sta Z Z.heap "java/lang/StringUTF16" "HI_BYTE_SHIFT" "I" (.int 0)) (S_lo : Sta Z Z.heap "java/lang/StringUTF16" "LO_BYTE_SHIFT" "I" (.int 8)) (cx1 : own_isC x1) (cx2 : own_isC x2) (AC : own_A Z h0 aC .char [(.int x1), (.int x2)]) :
    own_C l Z (⟨"java/lang/StringUTF16", "compress", "([CII)[B"⟩ : MethodName) jdk_52_method_16_code 6 (some (.array .byte)) [] ({ frames := 3, cells := 2, slots := 6, locals := 40 } : Room) [] #[(.ref aC), (.int (0 : Int32)), (.int (2 : Int32))] h0 (fun v h => ∃ b, v = some (.ref b) ∧ ((own_A Z h b .byte [(.int (nar .byte (x1.toInt8.toInt32))), (.int (nar .byte (x2.toInt8.toInt32)))] ∧ ¬ 255 < x1 ∧ ¬ 255 < x2) ∨ own_A Z h b .byte [(.int (own_lo x1)), (.int (own_hi x1)), (.int (own_lo x2)), (.int (own_hi x2))])) := by
  refine own_C.of pn8 hO all0 ?_
  intro p e s m below meth c T0 S0
  refine own_F.cast (by first | (simp [entryFrame, mkF, argsToLocals, Value.category]; done) | rfl : entryFrame m #[(.ref aC), (.int (0 : Int32)), (.int (2 : Int32))] 6 = mkF m 0 #[.val (.ref aC), .val (.int (0 : Int32)), .val (.int (2 : Int32)), .unset, .unset, .unset] []) ?_
  show own_F _ p e below _ Z _ _ _ _ _ (T0.setTop (mkF m 0 #[.val (.ref aC), .val (.int 0), .val (.int 2), .unset, .unset, .unset] []))
  refine own_F.of (fun _ => XS.iloadN S0.here S0.hx rfl (S0.dec d8_0) rfl) ?_
  show own_F _ p e below _ Z _ _ _ _ _ (T0.setTop (mkF m 1 #[.val (.ref aC), .val (.int 0), .val (.int 2), .unset, .unset, .unset] [(.int 2)]))
  refine own_newP S0 (own_w hw 23 rfl) d8_1 (by decide) (cap := 2) (by decide) (by decide) (by decide) (by decide) (fun T1 h1 b1 g1 S1 E1 A1 => ?_)
  have V2 : own_A Z h1 b1 .byte [(.int (0 : Int32)), (.int (0 : Int32))] := A1
  show own_F _ p e below _ Z _ _ _ _ _ (T1.setTop (mkF m 3 #[.val (.ref aC), .val (.int 0), .val (.int 2), .unset, .unset, .unset] [(.ref b1)]))
  refine own_F.of (fun _ => XS.astoreN S1.here S1.hx rfl (S1.dec d8_3) rfl rfl (l' := #[.val (.ref aC), .val (.int 0), .val (.int 2), .val (.ref b1), .unset, .unset]) rfl) ?_
  refine own_F.of (fun _ => XS.aloadN S1.here S1.hx rfl (S1.dec d8_4) rfl rfl) ?_
  refine own_F.of (fun _ => XS.iloadN S1.here S1.hx rfl (S1.dec d8_5) rfl) ?_
  refine own_F.of (fun _ => XS.aloadN S1.here S1.hx rfl (S1.dec d8_6) rfl rfl) ?_
  refine own_F.of (fun _ => XS.iconst S1.here S1.hx rfl (S1.dec d8_7)) ?_
  refine own_F.of (fun _ => XS.iloadN S1.here S1.hx rfl (S1.dec d8_8) rfl) ?_
  show own_F _ p e below _ Z _ _ _ _ _ (T1.setTop (mkF m 9 #[.val (.ref aC), .val (.int 0), .val (.int 2), .val (.ref b1), .unset, .unset] [(.int 2), (.int 0), (.ref b1), (.int 0), (.ref aC)]))
  have fq3 := (AC.ext E1)
  refine own_callS S1 (y := (⟨"java/lang/StringUTF16", "compress", "([CI[BII)I"⟩ : MethodName)) (own_w hw 44 rfl) (own_w hw 45 rfl) (own_w hw 42 rfl) (own_w hw 46 rfl) (by decide) (argsL := [(.ref aC), (.int (0 : Int32)), (.ref b1), (.int (0 : Int32)), (.int (2 : Int32))]) (rest := []) (own_cmpI2 l Z a0 hw aC b1 x1 x2 h1 S1.old fq3 V2 (own_mayN S1 (Or.inr (by rw [g1]; exact S0.size))) (Nat.ne_of_lt (by rw [g1]; exact (AC).lt))) (allS (Or.inr (by rw [g1]; exact S0.size)) all0) (by decide +kernel : parseMethodDescriptor "([CI[BII)I" = some ⟨[(.array .char), .int, (.array .byte), .int, .int], some .int⟩) rfl rfl rfl d8_9 (by decide) (Nat.le_of_ble_eq_true rfl) (by decide) (by decide) (fun T4 h4 v4 S4 K4 q4 => ?_)
  obtain (⟨rfl, F4, hl4_1, hl4_2⟩ | ⟨rfl, hu4⟩ | ⟨rfl, hu4⟩) := q4
  · have V5 : own_A Z h4 b1 .byte [(.int (nar .byte (x1.toInt8.toInt32))), (.int (nar .byte (x2.toInt8.toInt32)))] := F4
    show own_F _ p e below _ Z _ _ _ _ _ (T4.setTop (mkF m 12 #[.val (.ref aC), .val (.int 0), .val (.int 2), .val (.ref b1), .unset, .unset] [(.int 2)]))
    refine own_F.of (fun _ => XS.istore S4.here S4.hx rfl (S4.dec d8_12) rfl (l' := #[.val (.ref aC), .val (.int 0), .val (.int 2), .val (.ref b1), .val (.int 2), .unset]) rfl) ?_
    refine own_F.of (fun _ => XS.iload S4.here S4.hx rfl (S4.dec d8_14) rfl) ?_
    refine own_F.of (fun _ => XS.iloadN S4.here S4.hx rfl (S4.dec d8_16) rfl) ?_
    show own_F _ p e below _ Z _ _ _ _ _ (T4.setTop (mkF m 17 #[.val (.ref aC), .val (.int 0), .val (.int 2), .val (.ref b1), .val (.int 2), .unset] [(.int 2), (.int 2)]))
    refine own_icmp S4 57 d8_17 (by decide) (by decide) (fun (hc17_6 : (2 : Int32) = (2 : Int32)) => ?_) (fun (hc17_6 : ¬ ((2 : Int32) = (2 : Int32))) => False.elim (absurd hc17_6 (by decide)))
    show own_F _ p e below _ Z _ _ _ _ _ (T4.setTop (mkF m 57 #[.val (.ref aC), .val (.int 0), .val (.int 2), .val (.ref b1), .val (.int 2), .unset] []))
    refine own_F.of (fun _ => XS.aloadN S4.here S4.hx rfl (S4.dec d8_57) rfl rfl) ?_
    show own_F _ p e below _ Z _ _ _ _ _ (T4.setTop (mkF m 58 #[.val (.ref aC), .val (.int 0), .val (.int 2), .val (.ref b1), .val (.int 2), .unset] [(.ref b1)]))
    refine own_retA S4 rfl rfl d8_58 (by decide) (by decide) ?_
    exact ⟨_, rfl, Or.inl ⟨V5, hl4_1, hl4_2⟩⟩
  · show own_F _ p e below _ Z _ _ _ _ _ (T4.setTop (mkF m 12 #[.val (.ref aC), .val (.int 0), .val (.int 2), .val (.ref b1), .unset, .unset] [(.int 0)]))
    refine own_F.of (fun _ => XS.istore S4.here S4.hx rfl (S4.dec d8_12) rfl (l' := #[.val (.ref aC), .val (.int 0), .val (.int 2), .val (.ref b1), .val (.int 0), .unset]) rfl) ?_
    refine own_F.of (fun _ => XS.iload S4.here S4.hx rfl (S4.dec d8_14) rfl) ?_
    refine own_F.of (fun _ => XS.iloadN S4.here S4.hx rfl (S4.dec d8_16) rfl) ?_
    show own_F _ p e below _ Z _ _ _ _ _ (T4.setTop (mkF m 17 #[.val (.ref aC), .val (.int 0), .val (.int 2), .val (.ref b1), .val (.int 0), .unset] [(.int 2), (.int 0)]))
    refine own_icmp S4 57 d8_17 (by decide) (by decide) (fun (hc17_7 : (0 : Int32) = (2 : Int32)) => False.elim (absurd hc17_7 (by decide))) (fun (hc17_7 : ¬ ((0 : Int32) = (2 : Int32))) => ?_)
    show own_F _ p e below _ Z _ _ _ _ _ (T4.setTop (mkF m 20 #[.val (.ref aC), .val (.int 0), .val (.int 2), .val (.ref b1), .val (.int 0), .unset] []))
    refine own_F.of (fun _ => XS.aloadN S4.here S4.hx rfl (S4.dec d8_20) rfl rfl) ?_
    refine own_F.of (fun _ => XS.iloadN S4.here S4.hx rfl (S4.dec d8_21) rfl) ?_
    refine own_F.of (fun _ => XS.iloadN S4.here S4.hx rfl (S4.dec d8_22) rfl) ?_
    show own_F _ p e below _ Z _ _ _ _ _ (T4.setTop (mkF m 23 #[.val (.ref aC), .val (.int 0), .val (.int 2), .val (.ref b1), .val (.int 0), .unset] [(.int 2), (.int 0), (.ref aC)]))
    have fq8 := (fq3.keep K4 (ninS (Nat.ne_of_lt (by rw [g1]; exact (AC).lt)) nin0))
    refine own_callS S4 (y := (⟨"java/lang/StringUTF16", "toBytes", "([CII)[B"⟩ : MethodName)) (own_w hw 91 rfl) (own_w hw 92 rfl) (own_w hw 42 rfl) (own_w hw 93 rfl) (by decide) (argsL := [(.ref aC), (.int (0 : Int32)), (.int (2 : Int32))]) (rest := []) (own_toB2 l Z a0 hw aC x1 x2 h4 S4.old S_as S_hi S_lo fq8) all0 (by decide +kernel : parseMethodDescriptor "([CII)[B" = some ⟨[(.array .char), .int, .int], some (.array .byte)⟩) rfl rfl rfl d8_23 (by decide) (Nat.le_of_ble_eq_true rfl) (by decide) (by decide) (fun T9 h9 v9 S9 K9 q9 => ?_)
    obtain ⟨b9, rfl, F9⟩ := q9
    have V10 : own_A Z h9 b9 .byte [(.int (own_lo x1)), (.int (own_hi x1)), (.int (own_lo x2)), (.int (own_hi x2))] := F9
    show own_F _ p e below _ Z _ _ _ _ _ (T9.setTop (mkF m 26 #[.val (.ref aC), .val (.int 0), .val (.int 2), .val (.ref b1), .val (.int 0), .unset] [(.ref b9)]))
    refine own_F.of (fun _ => XS.astore S9.here S9.hx rfl (S9.dec d8_26) rfl rfl (l' := #[.val (.ref aC), .val (.int 0), .val (.int 2), .val (.ref b1), .val (.int 0), .val (.ref b9)]) rfl) ?_
    refine own_F.of (fun _ => XS.aload S9.here S9.hx rfl (S9.dec d8_28) rfl rfl) ?_
    refine own_F.of (fun _ => XS.iload S9.here S9.hx rfl (S9.dec d8_30) rfl) ?_
    show own_F _ p e below _ Z _ _ _ _ _ (T9.setTop (mkF m 32 #[.val (.ref aC), .val (.int 0), .val (.int 2), .val (.ref b1), .val (.int 0), .val (.ref b9)] [(.int 0), (.ref b9)]))
    refine own_callS S9 (y := (⟨"java/lang/StringUTF16", "getChar", "([BI)C"⟩ : MethodName)) (own_w hw 107 rfl) (own_w hw 108 rfl) (own_w hw 42 rfl) (own_w hw 109 rfl) (by decide) (argsL := [(.ref b9), (.int (0 : Int32))]) (rest := []) (own_getC l Z a0 hw b9 [(.int (own_lo x1)), (.int (own_hi x1)), (.int (own_lo x2)), (.int (own_hi x2))] (0 : Int32) (0 : Int32) (1 : Int32) x1 h9 S9.old S_as S_hi S_lo (by decide) (by decide) (by decide) (by decide) rfl rfl cx1 V10) all0 (by decide +kernel : parseMethodDescriptor "([BI)C" = some ⟨[(.array .byte), .int], some .char⟩) rfl rfl rfl d8_32 (by decide) (Nat.le_of_ble_eq_true rfl) (by decide) (by decide) (fun T11 h11 v11 S11 K11 q11 => ?_)
    obtain ⟨rfl, rfl⟩ := q11
    show own_F _ p e below _ Z _ _ _ _ _ (T11.setTop (mkF m 35 #[.val (.ref aC), .val (.int 0), .val (.int 2), .val (.ref b1), .val (.int 0), .val (.ref b9)] [(.int x1)]))
    refine own_F.of (fun _ => XS.sipush S11.here S11.hx rfl (S11.dec d8_35)) ?_
    show own_F _ p e below _ Z _ _ _ _ _ (T11.setTop (mkF m 38 #[.val (.ref aC), .val (.int 0), .val (.int 2), .val (.ref b1), .val (.int 0), .val (.ref b9)] [(.int 255), (.int x1)]))
    refine own_icmp S11 54 d8_38 (by decide) (by decide) (fun (hc38_12 : (255 : Int32) < x1) => ?_) (fun (hc38_12 : ¬ ((255 : Int32) < x1)) => False.elim (hc38_12 hu4))
    show own_F _ p e below _ Z _ _ _ _ _ (T11.setTop (mkF m 54 #[.val (.ref aC), .val (.int 0), .val (.int 2), .val (.ref b1), .val (.int 0), .val (.ref b9)] []))
    refine own_F.of (fun _ => XS.aload S11.here S11.hx rfl (S11.dec d8_54) rfl rfl) ?_
    show own_F _ p e below _ Z _ _ _ _ _ (T11.setTop (mkF m 56 #[.val (.ref aC), .val (.int 0), .val (.int 2), .val (.ref b1), .val (.int 0), .val (.ref b9)] [(.ref b9)]))
    refine own_retA S11 rfl rfl d8_56 (by decide) (by decide) ?_
    exact ⟨_, rfl, Or.inr V10⟩
  · show own_F _ p e below _ Z _ _ _ _ _ (T4.setTop (mkF m 12 #[.val (.ref aC), .val (.int 0), .val (.int 2), .val (.ref b1), .unset, .unset] [(.int 1)]))
    refine own_F.of (fun _ => XS.istore S4.here S4.hx rfl (S4.dec d8_12) rfl (l' := #[.val (.ref aC), .val (.int 0), .val (.int 2), .val (.ref b1), .val (.int 1), .unset]) rfl) ?_
    refine own_F.of (fun _ => XS.iload S4.here S4.hx rfl (S4.dec d8_14) rfl) ?_
    refine own_F.of (fun _ => XS.iloadN S4.here S4.hx rfl (S4.dec d8_16) rfl) ?_
    show own_F _ p e below _ Z _ _ _ _ _ (T4.setTop (mkF m 17 #[.val (.ref aC), .val (.int 0), .val (.int 2), .val (.ref b1), .val (.int 1), .unset] [(.int 2), (.int 1)]))
    refine own_icmp S4 57 d8_17 (by decide) (by decide) (fun (hc17_13 : (1 : Int32) = (2 : Int32)) => False.elim (absurd hc17_13 (by decide))) (fun (hc17_13 : ¬ ((1 : Int32) = (2 : Int32))) => ?_)
    show own_F _ p e below _ Z _ _ _ _ _ (T4.setTop (mkF m 20 #[.val (.ref aC), .val (.int 0), .val (.int 2), .val (.ref b1), .val (.int 1), .unset] []))
    refine own_F.of (fun _ => XS.aloadN S4.here S4.hx rfl (S4.dec d8_20) rfl rfl) ?_
    refine own_F.of (fun _ => XS.iloadN S4.here S4.hx rfl (S4.dec d8_21) rfl) ?_
    refine own_F.of (fun _ => XS.iloadN S4.here S4.hx rfl (S4.dec d8_22) rfl) ?_
    show own_F _ p e below _ Z _ _ _ _ _ (T4.setTop (mkF m 23 #[.val (.ref aC), .val (.int 0), .val (.int 2), .val (.ref b1), .val (.int 1), .unset] [(.int 2), (.int 0), (.ref aC)]))
    have fq14 := (fq3.keep K4 (ninS (Nat.ne_of_lt (by rw [g1]; exact (AC).lt)) nin0))
    refine own_callS S4 (y := (⟨"java/lang/StringUTF16", "toBytes", "([CII)[B"⟩ : MethodName)) (own_w hw 91 rfl) (own_w hw 92 rfl) (own_w hw 42 rfl) (own_w hw 93 rfl) (by decide) (argsL := [(.ref aC), (.int (0 : Int32)), (.int (2 : Int32))]) (rest := []) (own_toB2 l Z a0 hw aC x1 x2 h4 S4.old S_as S_hi S_lo fq14) all0 (by decide +kernel : parseMethodDescriptor "([CII)[B" = some ⟨[(.array .char), .int, .int], some (.array .byte)⟩) rfl rfl rfl d8_23 (by decide) (Nat.le_of_ble_eq_true rfl) (by decide) (by decide) (fun T15 h15 v15 S15 K15 q15 => ?_)
    obtain ⟨b15, rfl, F15⟩ := q15
    have V16 : own_A Z h15 b15 .byte [(.int (own_lo x1)), (.int (own_hi x1)), (.int (own_lo x2)), (.int (own_hi x2))] := F15
    show own_F _ p e below _ Z _ _ _ _ _ (T15.setTop (mkF m 26 #[.val (.ref aC), .val (.int 0), .val (.int 2), .val (.ref b1), .val (.int 1), .unset] [(.ref b15)]))
    refine own_F.of (fun _ => XS.astore S15.here S15.hx rfl (S15.dec d8_26) rfl rfl (l' := #[.val (.ref aC), .val (.int 0), .val (.int 2), .val (.ref b1), .val (.int 1), .val (.ref b15)]) rfl) ?_
    refine own_F.of (fun _ => XS.aload S15.here S15.hx rfl (S15.dec d8_28) rfl rfl) ?_
    refine own_F.of (fun _ => XS.iload S15.here S15.hx rfl (S15.dec d8_30) rfl) ?_
    show own_F _ p e below _ Z _ _ _ _ _ (T15.setTop (mkF m 32 #[.val (.ref aC), .val (.int 0), .val (.int 2), .val (.ref b1), .val (.int 1), .val (.ref b15)] [(.int 1), (.ref b15)]))
    refine own_callS S15 (y := (⟨"java/lang/StringUTF16", "getChar", "([BI)C"⟩ : MethodName)) (own_w hw 107 rfl) (own_w hw 108 rfl) (own_w hw 42 rfl) (own_w hw 109 rfl) (by decide) (argsL := [(.ref b15), (.int (1 : Int32))]) (rest := []) (own_getC l Z a0 hw b15 [(.int (own_lo x1)), (.int (own_hi x1)), (.int (own_lo x2)), (.int (own_hi x2))] (1 : Int32) (2 : Int32) (3 : Int32) x2 h15 S15.old S_as S_hi S_lo (by decide) (by decide) (by decide) (by decide) rfl rfl cx2 V16) all0 (by decide +kernel : parseMethodDescriptor "([BI)C" = some ⟨[(.array .byte), .int], some .char⟩) rfl rfl rfl d8_32 (by decide) (Nat.le_of_ble_eq_true rfl) (by decide) (by decide) (fun T17 h17 v17 S17 K17 q17 => ?_)
    obtain ⟨rfl, rfl⟩ := q17
    show own_F _ p e below _ Z _ _ _ _ _ (T17.setTop (mkF m 35 #[.val (.ref aC), .val (.int 0), .val (.int 2), .val (.ref b1), .val (.int 1), .val (.ref b15)] [(.int x2)]))
    refine own_F.of (fun _ => XS.sipush S17.here S17.hx rfl (S17.dec d8_35)) ?_
    show own_F _ p e below _ Z _ _ _ _ _ (T17.setTop (mkF m 38 #[.val (.ref aC), .val (.int 0), .val (.int 2), .val (.ref b1), .val (.int 1), .val (.ref b15)] [(.int 255), (.int x2)]))
    refine own_icmp S17 54 d8_38 (by decide) (by decide) (fun (hc38_18 : (255 : Int32) < x2) => ?_) (fun (hc38_18 : ¬ ((255 : Int32) < x2)) => False.elim (hc38_18 hu4))
    show own_F _ p e below _ Z _ _ _ _ _ (T17.setTop (mkF m 54 #[.val (.ref aC), .val (.int 0), .val (.int 2), .val (.ref b1), .val (.int 1), .val (.ref b15)] []))
    refine own_F.of (fun _ => XS.aload S17.here S17.hx rfl (S17.dec d8_54) rfl rfl) ?_
    show own_F _ p e below _ Z _ _ _ _ _ (T17.setTop (mkF m 56 #[.val (.ref aC), .val (.int 0), .val (.int 2), .val (.ref b1), .val (.int 1), .val (.ref b15)] [(.ref b15)]))
    refine own_retA S17 rfl rfl d8_56 (by decide) (by decide) ?_
    exact ⟨_, rfl, Or.inr V16⟩
set_option maxRecDepth 65536 in
set_option maxHeartbeats 40000000 in
theorem own_cod2L (l : Launch) (Z : State) (a0 : Array Value) (hw : ∀ d ∈ tables_1, d.before a0 Z = true) (aB : Addr) (x1 x2 : Int32) (h0 : Heap) (hO : Ext Z.heap h0) (AB : own_A Z h0 aB .byte [(.int (nar .byte (x1.toInt8.toInt32))), (.int (nar .byte (x2.toInt8.toInt32)))]) :
    own_C l Z (⟨"java/lang/StringUTF16", "coderFromArrayLen", "([BI)B"⟩ : MethodName) jdk_52_method_15_code 2 (some .byte) [] ({ frames := 0, cells := 0, slots := 0, locals := 0 } : Room) [] #[(.ref aB), (.int (2 : Int32))] h0 (fun v h => v = some (.int (0 : Int32)) ∧ h0 = h) := by
  refine own_C.of pn10 hO all0 ?_
  intro p e s m below meth c T0 S0
  refine own_F.cast (by first | (simp [entryFrame, mkF, argsToLocals, Value.category]; done) | rfl : entryFrame m #[(.ref aB), (.int (2 : Int32))] 2 = mkF m 0 #[.val (.ref aB), .val (.int (2 : Int32))] []) ?_
  show own_F _ p e below _ Z _ _ _ _ _ (T0.setTop (mkF m 0 #[.val (.ref aB), .val (.int 2)] []))
  refine own_F.of (fun _ => XS.iloadN S0.here S0.hx rfl (S0.dec d10_0) rfl) ?_
  refine own_F.of (fun _ => XS.aloadN S0.here S0.hx rfl (S0.dec d10_1) rfl rfl) ?_
  show own_F _ p e below _ Z _ _ _ _ _ (T0.setTop (mkF m 2 #[.val (.ref aB), .val (.int 2)] [(.ref aB), (.int 2)]))
  refine own_len S0 AB d10_2 ?_
  show own_F _ p e below _ Z _ _ _ _ _ (T0.setTop (mkF m 3 #[.val (.ref aB), .val (.int 2)] [(.int 2), (.int 2)]))
  refine own_F.of (fun _ => XS.isub S0.here S0.hx rfl (S0.dec d10_3) rfl) ?_
  show own_F _ p e below _ Z _ _ _ _ _ (T0.setTop (mkF m 4 #[.val (.ref aB), .val (.int 2)] [(.int 0)]))
  refine own_F.of (fun _ => XS.bipush S0.here S0.hx rfl (S0.dec d10_4)) ?_
  show own_F _ p e below _ Z _ _ _ _ _ (T0.setTop (mkF m 6 #[.val (.ref aB), .val (.int 2)] [(.int 31), (.int 0)]))
  refine own_F.of (fun _ => XS.iushr S0.here S0.hx rfl (S0.dec d10_6) rfl) ?_
  show own_F _ p e below _ Z _ _ _ _ _ (T0.setTop (mkF m 7 #[.val (.ref aB), .val (.int 2)] [(.int 0)]))
  refine own_F.of (fun _ => XS.i2b S0.here S0.hx rfl (S0.dec d10_7) rfl) ?_
  show own_F _ p e below _ Z _ _ _ _ _ (T0.setTop (mkF m 8 #[.val (.ref aB), .val (.int 2)] [(.int 0)]))
  refine own_retZ S0 (by simp) d10_8 (by decide) (by decide) ?_
  exact ⟨rfl, rfl⟩
set_option maxRecDepth 65536 in
set_option maxHeartbeats 40000000 in
theorem own_cod2U (l : Launch) (Z : State) (a0 : Array Value) (hw : ∀ d ∈ tables_1, d.before a0 Z = true) (aB : Addr) (x1 x2 : Int32) (h0 : Heap) (hO : Ext Z.heap h0) (AB : own_A Z h0 aB .byte [(.int (own_lo x1)), (.int (own_hi x1)), (.int (own_lo x2)), (.int (own_hi x2))]) :
    own_C l Z (⟨"java/lang/StringUTF16", "coderFromArrayLen", "([BI)B"⟩ : MethodName) jdk_52_method_15_code 2 (some .byte) [] ({ frames := 0, cells := 0, slots := 0, locals := 0 } : Room) [] #[(.ref aB), (.int (2 : Int32))] h0 (fun v h => v = some (.int (1 : Int32)) ∧ h0 = h) := by
  refine own_C.of pn10 hO all0 ?_
  intro p e s m below meth c T0 S0
  refine own_F.cast (by first | (simp [entryFrame, mkF, argsToLocals, Value.category]; done) | rfl : entryFrame m #[(.ref aB), (.int (2 : Int32))] 2 = mkF m 0 #[.val (.ref aB), .val (.int (2 : Int32))] []) ?_
  show own_F _ p e below _ Z _ _ _ _ _ (T0.setTop (mkF m 0 #[.val (.ref aB), .val (.int 2)] []))
  refine own_F.of (fun _ => XS.iloadN S0.here S0.hx rfl (S0.dec d10_0) rfl) ?_
  refine own_F.of (fun _ => XS.aloadN S0.here S0.hx rfl (S0.dec d10_1) rfl rfl) ?_
  show own_F _ p e below _ Z _ _ _ _ _ (T0.setTop (mkF m 2 #[.val (.ref aB), .val (.int 2)] [(.ref aB), (.int 2)]))
  refine own_len S0 AB d10_2 ?_
  show own_F _ p e below _ Z _ _ _ _ _ (T0.setTop (mkF m 3 #[.val (.ref aB), .val (.int 2)] [(.int 4), (.int 2)]))
  refine own_F.of (fun _ => XS.isub S0.here S0.hx rfl (S0.dec d10_3) rfl) ?_
  show own_F _ p e below _ Z _ _ _ _ _ (T0.setTop (mkF m 4 #[.val (.ref aB), .val (.int 2)] [(.int (-2 : Int32))]))
  refine own_F.of (fun _ => XS.bipush S0.here S0.hx rfl (S0.dec d10_4)) ?_
  show own_F _ p e below _ Z _ _ _ _ _ (T0.setTop (mkF m 6 #[.val (.ref aB), .val (.int 2)] [(.int 31), (.int (-2 : Int32))]))
  refine own_F.of (fun _ => XS.iushr S0.here S0.hx rfl (S0.dec d10_6) rfl) ?_
  show own_F _ p e below _ Z _ _ _ _ _ (T0.setTop (mkF m 7 #[.val (.ref aB), .val (.int 2)] [(.int 1)]))
  refine own_F.of (fun _ => XS.i2b S0.here S0.hx rfl (S0.dec d10_7) rfl) ?_
  show own_F _ p e below _ Z _ _ _ _ _ (T0.setTop (mkF m 8 #[.val (.ref aB), .val (.int 2)] [(.int 1)]))
  refine own_retZ S0 (by simp) d10_8 (by decide) (by decide) ?_
  exact ⟨rfl, rfl⟩
set_option maxRecDepth 65536 in
set_option maxHeartbeats 40000000 in
theorem own_strV2 (l : Launch) (Z : State) (a0 : Array Value) (hw : ∀ d ∈ tables_1, d.before a0 Z = true) (a1 aC : Addr) (x1 x2 : Int32) (zc : Int32) (h0 : Heap) (hO : Ext Z.heap h0) (SZ : Sta Z Z.heap "java/lang/String" "COMPACT_STRINGS" "Z" (.int zc)) (hz : ¬ zc = 0) (S_as : Sta Z Z.heap "java/lang/StringUTF16" "$assertionsDisabled" "Z" (.int 1)) (S_hi : Sta Z Z.heap "java/lang/StringUTF16" "HI_BYTE_SHIFT" "I" (.int 0)) (S_lo : Sta Z Z.heap "java/lang/StringUTF16" "LO_BYTE_SHIFT" "I" (.int 8)) (cx1 : own_isC x1) (cx2 : own_isC x2) (ga : Z.heap.size ≤ a1) (E_a1 : Exa Z h0 a1 "java/lang/String") (F_value : Fld Z h0 a1 "java/lang/String" "value" "[B" .null) (F_coder : Fld Z h0 a1 "java/lang/String" "coder" "B" (.int 0)) (AC : own_A Z h0 aC .char [(.int x1), (.int x2)]) :
    own_C l Z (⟨"java/lang/String", "<init>", "([CIILjava/lang/Void;)V"⟩ : MethodName) jdk_42_method_149_code 6 none [] ({ frames := 4, cells := 2, slots := 6, locals := 57 } : Room) [a1] #[(.ref a1), (.ref aC), (.int (0 : Int32)), (.int (2 : Int32)), .null] h0 (fun v h => v = none ∧ ∃ b, Fld Z h a1 "java/lang/String" "value" "[B" (.ref b) ∧ (((Fld Z h a1 "java/lang/String" "coder" "B" (.int 0) ∧ own_A Z h b .byte [(.int (nar .byte (x1.toInt8.toInt32))), (.int (nar .byte (x2.toInt8.toInt32)))]) ∧ ¬ 255 < x1 ∧ ¬ 255 < x2) ∨ (Fld Z h a1 "java/lang/String" "coder" "B" (.int 1) ∧ own_A Z h b .byte [(.int (own_lo x1)), (.int (own_hi x1)), (.int (own_lo x2)), (.int (own_hi x2))]))) := by
  refine own_C.of pn4 hO (allS ga all0) ?_
  intro p e s m below meth c T0 S0
  refine own_F.cast (by first | (simp [entryFrame, mkF, argsToLocals, Value.category]; done) | rfl : entryFrame m #[(.ref a1), (.ref aC), (.int (0 : Int32)), (.int (2 : Int32)), .null] 6 = mkF m 0 #[.val (.ref a1), .val (.ref aC), .val (.int (0 : Int32)), .val (.int (2 : Int32)), .val .null, .unset] []) ?_
  show own_F _ p e below _ Z _ _ _ _ _ (T0.setTop (mkF m 0 #[.val (.ref a1), .val (.ref aC), .val (.int 0), .val (.int 2), .val .null, .unset] []))
  refine own_F.of (fun _ => XS.aloadN S0.here S0.hx rfl (S0.dec d4_0) rfl rfl) ?_
  show own_F _ p e below _ Z _ _ _ _ _ (T0.setTop (mkF m 1 #[.val (.ref a1), .val (.ref aC), .val (.int 0), .val (.int 2), .val .null, .unset] [(.ref a1)]))
  refine own_initO S0 (own_w hw 19 rfl) (own_w hw 20 rfl) (own_w hw 21 rfl) rfl d4_1 (by decide) (Nat.le_of_ble_eq_true rfl) (fun T1 S1 => ?_)
  show own_F _ p e below _ Z _ _ _ _ _ (T1.setTop (mkF m 4 #[.val (.ref a1), .val (.ref aC), .val (.int 0), .val (.int 2), .val .null, .unset] []))
  refine own_F.of (fun _ => XS.iloadN S1.here S1.hx rfl (S1.dec d4_4) rfl) ?_
  show own_F _ p e below _ Z _ _ _ _ _ (T1.setTop (mkF m 5 #[.val (.ref a1), .val (.ref aC), .val (.int 0), .val (.int 2), .val .null, .unset] [(.int 2)]))
  refine own_if S1 27 d4_5 (by decide) (by decide) (fun (hc5_2 : ¬ ((2 : Int32) = (0 : Int32))) => ?_) (fun (hc5_2 : (2 : Int32) = (0 : Int32)) => False.elim (absurd hc5_2 (by decide)))
  show own_F _ p e below _ Z _ _ _ _ _ (T1.setTop (mkF m 27 #[.val (.ref a1), .val (.ref aC), .val (.int 0), .val (.int 2), .val .null, .unset] []))
  refine own_getS S1 (host := "") (Or.inl (own_w hw 39 rfl)) Via.refl (SZ.ext S1.old) d4_27 (fun T3 S3 => ?_)
  show own_F _ p e below _ Z _ _ _ _ _ (T3.setTop (mkF m 30 #[.val (.ref a1), .val (.ref aC), .val (.int 0), .val (.int 2), .val .null, .unset] [(.int zc)]))
  refine own_if S3 58 d4_30 (by decide) (by decide) (fun (hc30_4 : zc = (0 : Int32)) => False.elim (hz hc30_4)) (fun (hc30_4 : ¬ (zc = (0 : Int32))) => ?_)
  show own_F _ p e below _ Z _ _ _ _ _ (T3.setTop (mkF m 33 #[.val (.ref a1), .val (.ref aC), .val (.int 0), .val (.int 2), .val .null, .unset] []))
  refine own_F.of (fun _ => XS.aloadN S3.here S3.hx rfl (S3.dec d4_33) rfl rfl) ?_
  refine own_F.of (fun _ => XS.iloadN S3.here S3.hx rfl (S3.dec d4_34) rfl) ?_
  refine own_F.of (fun _ => XS.iloadN S3.here S3.hx rfl (S3.dec d4_35) rfl) ?_
  show own_F _ p e below _ Z _ _ _ _ _ (T3.setTop (mkF m 36 #[.val (.ref a1), .val (.ref aC), .val (.int 0), .val (.int 2), .val .null, .unset] [(.int 2), (.int 0), (.ref aC)]))
  refine own_callS S3 (y := (⟨"java/lang/StringUTF16", "compress", "([CII)[B"⟩ : MethodName)) (own_w hw 40 rfl) (own_w hw 41 rfl) (own_w hw 42 rfl) (own_w hw 43 rfl) (by decide) (argsL := [(.ref aC), (.int (0 : Int32)), (.int (2 : Int32))]) (rest := []) (own_cmp2 l Z a0 hw aC x1 x2 h0 S3.old S_as S_hi S_lo cx1 cx2 AC) all0 (by decide +kernel : parseMethodDescriptor "([CII)[B" = some ⟨[(.array .char), .int, .int], some (.array .byte)⟩) rfl rfl rfl d4_36 (by decide) (Nat.le_of_ble_eq_true rfl) (by decide) (by decide) (fun T5 h5 v5 S5 K5 q5 => ?_)
  obtain ⟨b5, rfl, ⟨F5, hl5⟩ | F5⟩ := q5
  · have V6 : own_A Z h5 b5 .byte [(.int (nar .byte (x1.toInt8.toInt32))), (.int (nar .byte (x2.toInt8.toInt32)))] := F5
    have fq7 := (E_a1.keep K5)
    have nB5 := own_neA fq7 (own_w hw 9 rfl) F5
    show own_F _ p e below _ Z _ _ _ _ _ (T5.setTop (mkF m 39 #[.val (.ref a1), .val (.ref aC), .val (.int 0), .val (.int 2), .val .null, .unset] [(.ref b5)]))
    refine own_F.of (fun _ => XS.astore S5.here S5.hx rfl (S5.dec d4_39) rfl rfl (l' := #[.val (.ref a1), .val (.ref aC), .val (.int 0), .val (.int 2), .val .null, .val (.ref b5)]) rfl) ?_
    refine own_F.of (fun _ => XS.aloadN S5.here S5.hx rfl (S5.dec d4_41) rfl rfl) ?_
    refine own_F.of (fun _ => XS.aload S5.here S5.hx rfl (S5.dec d4_42) rfl rfl) ?_
    refine own_F.of (fun _ => XS.iloadN S5.here S5.hx rfl (S5.dec d4_44) rfl) ?_
    show own_F _ p e below _ Z _ _ _ _ _ (T5.setTop (mkF m 45 #[.val (.ref a1), .val (.ref aC), .val (.int 0), .val (.int 2), .val .null, .val (.ref b5)] [(.int 2), (.ref b5), (.ref a1)]))
    refine own_callS S5 (y := (⟨"java/lang/StringUTF16", "coderFromArrayLen", "([BI)B"⟩ : MethodName)) (own_w hw 47 rfl) (own_w hw 48 rfl) (own_w hw 42 rfl) (own_w hw 49 rfl) (by decide) (argsL := [(.ref b5), (.int (2 : Int32))]) (rest := [(.ref a1)]) (own_cod2L l Z a0 hw b5 x1 x2 h5 S5.old V6) all0 (by decide +kernel : parseMethodDescriptor "([BI)B" = some ⟨[(.array .byte), .int], some .byte⟩) rfl rfl rfl d4_45 (by decide) (Nat.le_of_ble_eq_true rfl) (by decide) (by decide) (fun T8 h8 v8 S8 K8 q8 => ?_)
    obtain ⟨rfl, rfl⟩ := q8
    show own_F _ p e below _ Z _ _ _ _ _ (T8.setTop (mkF m 48 #[.val (.ref a1), .val (.ref aC), .val (.int 0), .val (.int 2), .val .null, .val (.ref b5)] [(.int 0), (.ref a1)]))
    have fq9 := (F_coder.keep K5 nin0)
    refine own_putF S8 (host := "") (Or.inl (own_w hw 29 rfl)) Via.refl fq9 fq7 (Or.inr ⟨(own_w hw 25 rfl), rfl, rfl⟩) (own_w hw 9 rfl) (ty := .byte) (by decide) rfl rfl d4_48 (Or.inl (List.mem_of_getElem? (i := 0) rfl)) (fun T10 h10 S10 W10 => ?_)
    have Fw10 := fq9.same W10
    show own_F _ p e below _ Z _ _ _ _ _ (T10.setTop (mkF m 51 #[.val (.ref a1), .val (.ref aC), .val (.int 0), .val (.int 2), .val .null, .val (.ref b5)] []))
    refine own_F.of (fun _ => XS.aloadN S10.here S10.hx rfl (S10.dec d4_51) rfl rfl) ?_
    refine own_F.of (fun _ => XS.aload S10.here S10.hx rfl (S10.dec d4_52) rfl rfl) ?_
    show own_F _ p e below _ Z _ _ _ _ _ (T10.setTop (mkF m 54 #[.val (.ref a1), .val (.ref aC), .val (.int 0), .val (.int 2), .val .null, .val (.ref b5)] [(.ref b5), (.ref a1)]))
    have fq11 := ((F_value.keep K5 nin0).other W10 (Or.inr (slot_ne (C := "java/lang/String") (Or.inr (own_w hw 24 rfl)) (Or.inr (own_w hw 25 rfl)) (by decide) (t := (.array .byte)) (t' := .byte) (by decide) (by decide))))
    have fq12 := (fq7.wr W10)
    refine own_putF S10 (host := "") (Or.inl (own_w hw 28 rfl)) Via.refl fq11 fq12 (Or.inr ⟨(own_w hw 24 rfl), rfl, rfl⟩) (own_w hw 9 rfl) (ty := (.array .byte)) (by decide) rfl rfl d4_54 (Or.inl (List.mem_of_getElem? (i := 0) rfl)) (fun T13 h13 S13 W13 => ?_)
    have Fw13 := fq11.same W13
    show own_F _ p e below _ Z _ _ _ _ _ (T13.setTop (mkF m 57 #[.val (.ref a1), .val (.ref aC), .val (.int 0), .val (.int 2), .val .null, .val (.ref b5)] []))
    have fq14 := (Fw10.other W13 (Or.inr (slot_ne (C := "java/lang/String") (Or.inr (own_w hw 25 rfl)) (Or.inr (own_w hw 24 rfl)) (by decide) (t := .byte) (t' := (.array .byte)) (by decide) (by decide))))
    have fq15 := ((V6.other W10 (Ne.symm nB5)).other W13 (Ne.symm nB5))
    refine own_retV S13 d4_57 (by decide) (by decide) ?_
    exact ⟨rfl, _, Fw13, Or.inl ⟨⟨fq14, fq15⟩, hl5⟩⟩
  · have V16 : own_A Z h5 b5 .byte [(.int (own_lo x1)), (.int (own_hi x1)), (.int (own_lo x2)), (.int (own_hi x2))] := F5
    have fq17 := (E_a1.keep K5)
    have nB5 := own_neA fq17 (own_w hw 9 rfl) F5
    show own_F _ p e below _ Z _ _ _ _ _ (T5.setTop (mkF m 39 #[.val (.ref a1), .val (.ref aC), .val (.int 0), .val (.int 2), .val .null, .unset] [(.ref b5)]))
    refine own_F.of (fun _ => XS.astore S5.here S5.hx rfl (S5.dec d4_39) rfl rfl (l' := #[.val (.ref a1), .val (.ref aC), .val (.int 0), .val (.int 2), .val .null, .val (.ref b5)]) rfl) ?_
    refine own_F.of (fun _ => XS.aloadN S5.here S5.hx rfl (S5.dec d4_41) rfl rfl) ?_
    refine own_F.of (fun _ => XS.aload S5.here S5.hx rfl (S5.dec d4_42) rfl rfl) ?_
    refine own_F.of (fun _ => XS.iloadN S5.here S5.hx rfl (S5.dec d4_44) rfl) ?_
    show own_F _ p e below _ Z _ _ _ _ _ (T5.setTop (mkF m 45 #[.val (.ref a1), .val (.ref aC), .val (.int 0), .val (.int 2), .val .null, .val (.ref b5)] [(.int 2), (.ref b5), (.ref a1)]))
    refine own_callS S5 (y := (⟨"java/lang/StringUTF16", "coderFromArrayLen", "([BI)B"⟩ : MethodName)) (own_w hw 47 rfl) (own_w hw 48 rfl) (own_w hw 42 rfl) (own_w hw 49 rfl) (by decide) (argsL := [(.ref b5), (.int (2 : Int32))]) (rest := [(.ref a1)]) (own_cod2U l Z a0 hw b5 x1 x2 h5 S5.old V16) all0 (by decide +kernel : parseMethodDescriptor "([BI)B" = some ⟨[(.array .byte), .int], some .byte⟩) rfl rfl rfl d4_45 (by decide) (Nat.le_of_ble_eq_true rfl) (by decide) (by decide) (fun T18 h18 v18 S18 K18 q18 => ?_)
    obtain ⟨rfl, rfl⟩ := q18
    show own_F _ p e below _ Z _ _ _ _ _ (T18.setTop (mkF m 48 #[.val (.ref a1), .val (.ref aC), .val (.int 0), .val (.int 2), .val .null, .val (.ref b5)] [(.int 1), (.ref a1)]))
    have fq19 := (F_coder.keep K5 nin0)
    refine own_putF S18 (host := "") (Or.inl (own_w hw 29 rfl)) Via.refl fq19 fq17 (Or.inr ⟨(own_w hw 25 rfl), rfl, rfl⟩) (own_w hw 9 rfl) (ty := .byte) (by decide) rfl rfl d4_48 (Or.inl (List.mem_of_getElem? (i := 0) rfl)) (fun T20 h20 S20 W20 => ?_)
    have Fw20 := fq19.same W20
    show own_F _ p e below _ Z _ _ _ _ _ (T20.setTop (mkF m 51 #[.val (.ref a1), .val (.ref aC), .val (.int 0), .val (.int 2), .val .null, .val (.ref b5)] []))
    refine own_F.of (fun _ => XS.aloadN S20.here S20.hx rfl (S20.dec d4_51) rfl rfl) ?_
    refine own_F.of (fun _ => XS.aload S20.here S20.hx rfl (S20.dec d4_52) rfl rfl) ?_
    show own_F _ p e below _ Z _ _ _ _ _ (T20.setTop (mkF m 54 #[.val (.ref a1), .val (.ref aC), .val (.int 0), .val (.int 2), .val .null, .val (.ref b5)] [(.ref b5), (.ref a1)]))
    have fq21 := ((F_value.keep K5 nin0).other W20 (Or.inr (slot_ne (C := "java/lang/String") (Or.inr (own_w hw 24 rfl)) (Or.inr (own_w hw 25 rfl)) (by decide) (t := (.array .byte)) (t' := .byte) (by decide) (by decide))))
    have fq22 := (fq17.wr W20)
    refine own_putF S20 (host := "") (Or.inl (own_w hw 28 rfl)) Via.refl fq21 fq22 (Or.inr ⟨(own_w hw 24 rfl), rfl, rfl⟩) (own_w hw 9 rfl) (ty := (.array .byte)) (by decide) rfl rfl d4_54 (Or.inl (List.mem_of_getElem? (i := 0) rfl)) (fun T23 h23 S23 W23 => ?_)
    have Fw23 := fq21.same W23
    show own_F _ p e below _ Z _ _ _ _ _ (T23.setTop (mkF m 57 #[.val (.ref a1), .val (.ref aC), .val (.int 0), .val (.int 2), .val .null, .val (.ref b5)] []))
    have fq24 := (Fw20.other W23 (Or.inr (slot_ne (C := "java/lang/String") (Or.inr (own_w hw 25 rfl)) (Or.inr (own_w hw 24 rfl)) (by decide) (t := .byte) (t' := (.array .byte)) (by decide) (by decide))))
    have fq25 := ((V16.other W20 (Ne.symm nB5)).other W23 (Ne.symm nB5))
    refine own_retV S23 d4_57 (by decide) (by decide) ?_
    exact ⟨rfl, _, Fw23, Or.inr ⟨fq24, fq25⟩⟩
set_option maxRecDepth 65536 in
set_option maxHeartbeats 40000000 in
theorem own_strC2 (l : Launch) (Z : State) (a0 : Array Value) (hw : ∀ d ∈ tables_1, d.before a0 Z = true) (a1 aC : Addr) (x1 x2 : Int32) (zc : Int32) (h0 : Heap) (hO : Ext Z.heap h0) (SZ : Sta Z Z.heap "java/lang/String" "COMPACT_STRINGS" "Z" (.int zc)) (hz : ¬ zc = 0) (S_as : Sta Z Z.heap "java/lang/StringUTF16" "$assertionsDisabled" "Z" (.int 1)) (S_hi : Sta Z Z.heap "java/lang/StringUTF16" "HI_BYTE_SHIFT" "I" (.int 0)) (S_lo : Sta Z Z.heap "java/lang/StringUTF16" "LO_BYTE_SHIFT" "I" (.int 8)) (cx1 : own_isC x1) (cx2 : own_isC x2) (ga : Z.heap.size ≤ a1) (E_a1 : Exa Z h0 a1 "java/lang/String") (F_value : Fld Z h0 a1 "java/lang/String" "value" "[B" .null) (F_coder : Fld Z h0 a1 "java/lang/String" "coder" "B" (.int 0)) (AC : own_A Z h0 aC .char [(.int x1), (.int x2)]) :
    own_C l Z (⟨"java/lang/String", "<init>", "([C)V"⟩ : MethodName) jdk_42_method_3_code 2 none [] ({ frames := 5, cells := 2, slots := 6, locals := 74 } : Room) [a1] #[(.ref a1), (.ref aC)] h0 (fun v h => v = none ∧ ∃ b, Fld Z h a1 "java/lang/String" "value" "[B" (.ref b) ∧ (((Fld Z h a1 "java/lang/String" "coder" "B" (.int 0) ∧ own_A Z h b .byte [(.int (nar .byte (x1.toInt8.toInt32))), (.int (nar .byte (x2.toInt8.toInt32)))]) ∧ ¬ 255 < x1 ∧ ¬ 255 < x2) ∨ (Fld Z h a1 "java/lang/String" "coder" "B" (.int 1) ∧ own_A Z h b .byte [(.int (own_lo x1)), (.int (own_hi x1)), (.int (own_lo x2)), (.int (own_hi x2))]))) := by
  refine own_C.of pn3 hO (allS ga all0) ?_
  intro p e s m below meth c T0 S0
  refine own_F.cast (by first | (simp [entryFrame, mkF, argsToLocals, Value.category]; done) | rfl : entryFrame m #[(.ref a1), (.ref aC)] 2 = mkF m 0 #[.val (.ref a1), .val (.ref aC)] []) ?_
  show own_F _ p e below _ Z _ _ _ _ _ (T0.setTop (mkF m 0 #[.val (.ref a1), .val (.ref aC)] []))
  refine own_F.of (fun _ => XS.aloadN S0.here S0.hx rfl (S0.dec d3_0) rfl rfl) ?_
  refine own_F.of (fun _ => XS.aloadN S0.here S0.hx rfl (S0.dec d3_1) rfl rfl) ?_
  refine own_F.of (fun _ => XS.iconst S0.here S0.hx rfl (S0.dec d3_2)) ?_
  refine own_F.of (fun _ => XS.aloadN S0.here S0.hx rfl (S0.dec d3_3) rfl rfl) ?_
  show own_F _ p e below _ Z _ _ _ _ _ (T0.setTop (mkF m 4 #[.val (.ref a1), .val (.ref aC)] [(.ref aC), (.int 0), (.ref aC), (.ref a1)]))
  refine own_len S0 AC d3_4 ?_
  show own_F _ p e below _ Z _ _ _ _ _ (T0.setTop (mkF m 5 #[.val (.ref a1), .val (.ref aC)] [(.int 2), (.int 0), (.ref aC), (.ref a1)]))
  refine own_F.of (fun _ => XS.aconstNull S0.here S0.hx rfl (S0.dec d3_5)) ?_
  show own_F _ p e below _ Z _ _ _ _ _ (T0.setTop (mkF m 6 #[.val (.ref a1), .val (.ref aC)] [.null, (.int 2), (.int 0), (.ref aC), (.ref a1)]))
  refine own_callI S0 (y := (⟨"java/lang/String", "<init>", "([CIILjava/lang/Void;)V"⟩ : MethodName)) rfl (own_w hw 15 rfl) (own_w hw 16 rfl) (own_w hw 10 rfl) (own_w hw 18 rfl) (by decide) (argsL := [(.ref aC), (.int (0 : Int32)), (.int (2 : Int32)), .null]) (rest := []) (own_strV2 l Z a0 hw a1 aC x1 x2 zc h0 S0.old SZ hz S_as S_hi S_lo cx1 cx2 ga E_a1 F_value F_coder AC) (allS (Or.inl (List.mem_of_getElem? (i := 0) rfl)) all0) (by decide +kernel : parseMethodDescriptor "([CIILjava/lang/Void;)V" = some ⟨[(.array .char), .int, .int, (.object "java/lang/Void")], none⟩) rfl rfl rfl d3_6 (by decide) (Nat.le_of_ble_eq_true rfl) (by decide) (by decide) (fun T1 h1 v1 S1 K1 q1 => ?_)
  obtain ⟨rfl, F1⟩ := q1
  show own_F _ p e below _ Z _ _ _ _ _ (T1.setTop (mkF m 9 #[.val (.ref a1), .val (.ref aC)] []))
  refine own_retV S1 d3_9 (by decide) (by decide) ?_
  exact ⟨rfl, F1⟩
set_option maxRecDepth 65536 in
set_option maxHeartbeats 40000000 in
theorem own_nbl3 (l : Launch) (Z : State) (a0 : Array Value) (hw : ∀ d ∈ tables_1, d.before a0 Z = true)  (h0 : Heap) (hO : Ext Z.heap h0) :
    own_C l Z (⟨"java/lang/StringUTF16", "newBytesLength", "(I)I"⟩ : MethodName) jdk_52_method_3_code 1 (some .int) [] ({ frames := 0, cells := 0, slots := 0, locals := 0 } : Room) [] #[(.int (3 : Int32))] h0 (fun v h => v = some (.int (6 : Int32)) ∧ h0 = h) := by
  refine own_C.of pn22 hO all0 ?_
  intro p e s m below meth c T0 S0
  refine own_F.cast (by first | (simp [entryFrame, mkF, argsToLocals, Value.category]; done) | rfl : entryFrame m #[(.int (3 : Int32))] 1 = mkF m 0 #[.val (.int (3 : Int32))] []) ?_
  show own_F _ p e below _ Z _ _ _ _ _ (T0.setTop (mkF m 0 #[.val (.int 3)] []))
  refine own_F.of (fun _ => XS.iloadN S0.here S0.hx rfl (S0.dec d22_0) rfl) ?_
  show own_F _ p e below _ Z _ _ _ _ _ (T0.setTop (mkF m 1 #[.val (.int 3)] [(.int 3)]))
  refine own_if S0 12 d22_1 (by decide) (by decide) (fun (hc1_1 : ¬ ((3 : Int32) < (0 : Int32))) => ?_) (fun (hc1_1 : (3 : Int32) < (0 : Int32)) => False.elim (absurd hc1_1 (by decide)))
  show own_F _ p e below _ Z _ _ _ _ _ (T0.setTop (mkF m 12 #[.val (.int 3)] []))
  refine own_F.of (fun _ => XS.iloadN S0.here S0.hx rfl (S0.dec d22_12) rfl) ?_
  show own_F _ p e below _ Z _ _ _ _ _ (T0.setTop (mkF m 13 #[.val (.int 3)] [(.int 3)]))
  refine own_ldcI S0 (own_w hw 100 rfl) d22_13 ?_
  show own_F _ p e below _ Z _ _ _ _ _ (T0.setTop (mkF m 15 #[.val (.int 3)] [(.int 1073741823), (.int 3)]))
  refine own_icmp S0 55 d22_15 (by decide) (by decide) (fun (hc15_2 : (3 : Int32) < (1073741823 : Int32)) => ?_) (fun (hc15_2 : ¬ ((3 : Int32) < (1073741823 : Int32))) => False.elim (absurd hc15_2 (by decide)))
  show own_F _ p e below _ Z _ _ _ _ _ (T0.setTop (mkF m 55 #[.val (.int 3)] []))
  refine own_F.of (fun _ => XS.iloadN S0.here S0.hx rfl (S0.dec d22_55) rfl) ?_
  refine own_F.of (fun _ => XS.iconst S0.here S0.hx rfl (S0.dec d22_56)) ?_
  show own_F _ p e below _ Z _ _ _ _ _ (T0.setTop (mkF m 57 #[.val (.int 3)] [(.int 1), (.int 3)]))
  refine own_F.of (fun _ => XS.ishl S0.here S0.hx rfl (S0.dec d22_57) rfl) ?_
  show own_F _ p e below _ Z _ _ _ _ _ (T0.setTop (mkF m 58 #[.val (.int 3)] [(.int 6)]))
  refine own_retI S0 d22_58 (by decide) (by decide) ?_
  exact ⟨rfl, rfl⟩
set_option maxRecDepth 65536 in
set_option maxHeartbeats 40000000 in
theorem own_nbf3 (l : Launch) (Z : State) (a0 : Array Value) (hw : ∀ d ∈ tables_1, d.before a0 Z = true)  (h0 : Heap) (hO : Ext Z.heap h0) :
    own_C l Z (⟨"java/lang/StringUTF16", "newBytesFor", "(I)[B"⟩ : MethodName) jdk_52_method_2_code 1 (some (.array .byte)) [] ({ frames := 1, cells := 1, slots := 6, locals := 12 } : Room) [] #[(.int (3 : Int32))] h0 (fun v h => ∃ b, v = some (.ref b) ∧ h0.size ≤ b ∧ own_A Z h b .byte [(.int (0 : Int32)), (.int (0 : Int32)), (.int (0 : Int32)), (.int (0 : Int32)), (.int (0 : Int32)), (.int (0 : Int32))]) := by
  refine own_C.of pn21 hO all0 ?_
  intro p e s m below meth c T0 S0
  refine own_F.cast (by first | (simp [entryFrame, mkF, argsToLocals, Value.category]; done) | rfl : entryFrame m #[(.int (3 : Int32))] 1 = mkF m 0 #[.val (.int (3 : Int32))] []) ?_
  show own_F _ p e below _ Z _ _ _ _ _ (T0.setTop (mkF m 0 #[.val (.int 3)] []))
  refine own_F.of (fun _ => XS.iloadN S0.here S0.hx rfl (S0.dec d21_0) rfl) ?_
  show own_F _ p e below _ Z _ _ _ _ _ (T0.setTop (mkF m 1 #[.val (.int 3)] [(.int 3)]))
  refine own_callS S0 (y := (⟨"java/lang/StringUTF16", "newBytesLength", "(I)I"⟩ : MethodName)) (own_w hw 97 rfl) (own_w hw 98 rfl) (own_w hw 42 rfl) (own_w hw 99 rfl) (by decide) (argsL := [(.int (3 : Int32))]) (rest := []) (own_nbl3 l Z a0 hw h0 S0.old) all0 (by decide +kernel : parseMethodDescriptor "(I)I" = some ⟨[.int], some .int⟩) rfl rfl rfl d21_1 (by decide) (Nat.le_of_ble_eq_true rfl) (by decide) (by decide) (fun T1 h1 v1 S1 K1 q1 => ?_)
  obtain ⟨rfl, rfl⟩ := q1
  show own_F _ p e below _ Z _ _ _ _ _ (T1.setTop (mkF m 4 #[.val (.int 3)] [(.int 6)]))
  refine own_newP S1 (own_w hw 23 rfl) d21_4 (by decide) (cap := 6) (by decide) (by decide) (by decide) (by decide) (fun T2 h2 b2 g2 S2 E2 A2 => ?_)
  have V3 : own_A Z h2 b2 .byte [(.int (0 : Int32)), (.int (0 : Int32)), (.int (0 : Int32)), (.int (0 : Int32)), (.int (0 : Int32)), (.int (0 : Int32))] := A2
  show own_F _ p e below _ Z _ _ _ _ _ (T2.setTop (mkF m 6 #[.val (.int 3)] [(.ref b2)]))
  refine own_retA S2 rfl rfl d21_6 (by decide) (by decide) ?_
  exact ⟨_, rfl, (Nat.le_of_eq g2.symm), V3⟩
set_option maxRecDepth 65536 in
set_option maxHeartbeats 40000000 in
theorem own_toB3 (l : Launch) (Z : State) (a0 : Array Value) (hw : ∀ d ∈ tables_1, d.before a0 Z = true) (aC : Addr) (x1 x2 x3 : Int32) (h0 : Heap) (hO : Ext Z.heap h0) (S_as : Sta Z Z.heap "java/lang/StringUTF16" "$assertionsDisabled" "Z" (.int 1)) (S_hi : Sta Z Z.heap "java/lang/StringUTF16" "HI_BYTE_SHIFT" "I" (.int 0)) (S_lo : Sta Z Z.heap "java/lang/StringUTF16" "LO_BYTE_SHIFT" "I" (.int 8)) (AC : own_A Z h0 aC .char [(.int x1), (.int x2), (.int x3)]) :
    own_C l Z (⟨"java/lang/StringUTF16", "toBytes", "([CII)[B"⟩ : MethodName) jdk_52_method_14_code 5 (some (.array .byte)) [] ({ frames := 2, cells := 1, slots := 6, locals := 24 } : Room) [] #[(.ref aC), (.int (0 : Int32)), (.int (3 : Int32))] h0 (fun v h => ∃ b, v = some (.ref b) ∧ own_A Z h b .byte [(.int (own_lo x1)), (.int (own_hi x1)), (.int (own_lo x2)), (.int (own_hi x2)), (.int (own_lo x3)), (.int (own_hi x3))]) := by
  refine own_C.of pn20 hO all0 ?_
  intro p e s m below meth c T0 S0
  refine own_F.cast (by first | (simp [entryFrame, mkF, argsToLocals, Value.category]; done) | rfl : entryFrame m #[(.ref aC), (.int (0 : Int32)), (.int (3 : Int32))] 5 = mkF m 0 #[.val (.ref aC), .val (.int (0 : Int32)), .val (.int (3 : Int32)), .unset, .unset] []) ?_
  show own_F _ p e below _ Z _ _ _ _ _ (T0.setTop (mkF m 0 #[.val (.ref aC), .val (.int 0), .val (.int 3), .unset, .unset] []))
  refine own_F.of (fun _ => XS.iloadN S0.here S0.hx rfl (S0.dec d20_0) rfl) ?_
  show own_F _ p e below _ Z _ _ _ _ _ (T0.setTop (mkF m 1 #[.val (.ref aC), .val (.int 0), .val (.int 3), .unset, .unset] [(.int 3)]))
  refine own_callS S0 (y := (⟨"java/lang/StringUTF16", "newBytesFor", "(I)[B"⟩ : MethodName)) (own_w hw 94 rfl) (own_w hw 95 rfl) (own_w hw 42 rfl) (own_w hw 96 rfl) (by decide) (argsL := [(.int (3 : Int32))]) (rest := []) (own_nbf3 l Z a0 hw h0 S0.old) all0 (by decide +kernel : parseMethodDescriptor "(I)[B" = some ⟨[.int], some (.array .byte)⟩) rfl rfl rfl d20_1 (by decide) (Nat.le_of_ble_eq_true rfl) (by decide) (by decide) (fun T1 h1 v1 S1 K1 q1 => ?_)
  obtain ⟨b1, rfl, g1, F1⟩ := q1
  have V2 : own_A Z h1 b1 .byte [(.int (0 : Int32)), (.int (0 : Int32)), (.int (0 : Int32)), (.int (0 : Int32)), (.int (0 : Int32)), (.int (0 : Int32))] := F1
  show own_F _ p e below _ Z _ _ _ _ _ (T1.setTop (mkF m 4 #[.val (.ref aC), .val (.int 0), .val (.int 3), .unset, .unset] [(.ref b1)]))
  refine own_F.of (fun _ => XS.astoreN S1.here S1.hx rfl (S1.dec d20_4) rfl rfl (l' := #[.val (.ref aC), .val (.int 0), .val (.int 3), .val (.ref b1), .unset]) rfl) ?_
  refine own_F.of (fun _ => XS.iconst S1.here S1.hx rfl (S1.dec d20_5)) ?_
  show own_F _ p e below _ Z _ _ _ _ _ (T1.setTop (mkF m 6 #[.val (.ref aC), .val (.int 0), .val (.int 3), .val (.ref b1), .unset] [(.int 0)]))
  refine own_F.of (fun _ => XS.istore S1.here S1.hx rfl (S1.dec d20_6) rfl (l' := #[.val (.ref aC), .val (.int 0), .val (.int 3), .val (.ref b1), .val (.int 0)]) rfl) ?_
  refine own_F.of (fun _ => XS.iload S1.here S1.hx rfl (S1.dec d20_8) rfl) ?_
  refine own_F.of (fun _ => XS.iloadN S1.here S1.hx rfl (S1.dec d20_10) rfl) ?_
  show own_F _ p e below _ Z _ _ _ _ _ (T1.setTop (mkF m 11 #[.val (.ref aC), .val (.int 0), .val (.int 3), .val (.ref b1), .val (.int 0)] [(.int 3), (.int 0)]))
  refine own_icmp S1 32 d20_11 (by decide) (by decide) (fun (hc11_3 : ¬ ((0 : Int32) < (3 : Int32))) => False.elim (absurd hc11_3 (by decide))) (fun (hc11_3 : (0 : Int32) < (3 : Int32)) => ?_)
  show own_F _ p e below _ Z _ _ _ _ _ (T1.setTop (mkF m 14 #[.val (.ref aC), .val (.int 0), .val (.int 3), .val (.ref b1), .val (.int 0)] []))
  refine own_F.of (fun _ => XS.aloadN S1.here S1.hx rfl (S1.dec d20_14) rfl rfl) ?_
  refine own_F.of (fun _ => XS.iload S1.here S1.hx rfl (S1.dec d20_15) rfl) ?_
  refine own_F.of (fun _ => XS.aloadN S1.here S1.hx rfl (S1.dec d20_17) rfl rfl) ?_
  refine own_F.of (fun _ => XS.iloadN S1.here S1.hx rfl (S1.dec d20_18) rfl) ?_
  show own_F _ p e below _ Z _ _ _ _ _ (T1.setTop (mkF m 19 #[.val (.ref aC), .val (.int 0), .val (.int 3), .val (.ref b1), .val (.int 0)] [(.int 0), (.ref aC), (.int 0), (.ref b1)]))
  have fq4 := (AC.keep K1 nin0)
  refine own_cald S1 fq4 (by decide) rfl d20_19 ?_
  show own_F _ p e below _ Z _ _ _ _ _ (T1.setTop (mkF m 20 #[.val (.ref aC), .val (.int 0), .val (.int 3), .val (.ref b1), .val (.int 0)] [(.int x1), (.int 0), (.ref b1)]))
  refine own_callS S1 (y := (⟨"java/lang/StringUTF16", "putChar", "([BII)V"⟩ : MethodName)) (own_w hw 101 rfl) (own_w hw 102 rfl) (own_w hw 42 rfl) (own_w hw 103 rfl) (by decide) (argsL := [(.ref b1), (.int (0 : Int32)), (.int x1)]) (rest := []) (own_putC l Z a0 hw b1 [(.int (0 : Int32)), (.int (0 : Int32)), (.int (0 : Int32)), (.int (0 : Int32)), (.int (0 : Int32)), (.int (0 : Int32))] (0 : Int32) (0 : Int32) (1 : Int32) x1 h1 S1.old S_as S_hi S_lo (by decide) (by decide) (by decide) (by decide) (Nat.le_of_ble_eq_true rfl) (Nat.le_of_ble_eq_true rfl) (own_mayN S1 (Or.inr g1)) V2) (allS (Or.inr g1) all0) (by decide +kernel : parseMethodDescriptor "([BII)V" = some ⟨[(.array .byte), .int, .int], none⟩) rfl rfl rfl d20_20 (by decide) (Nat.le_of_ble_eq_true rfl) (by decide) (by decide) (fun T5 h5 v5 S5 K5 q5 => ?_)
  obtain ⟨rfl, F5⟩ := q5
  have V6 : own_A Z h5 b1 .byte [(.int (own_lo x1)), (.int (own_hi x1)), (.int (0 : Int32)), (.int (0 : Int32)), (.int (0 : Int32)), (.int (0 : Int32))] := F5
  show own_F _ p e below _ Z _ _ _ _ _ (T5.setTop (mkF m 23 #[.val (.ref aC), .val (.int 0), .val (.int 3), .val (.ref b1), .val (.int 0)] []))
  refine own_F.of (fun _ => XS.iinc S5.here S5.hx rfl (S5.dec d20_23) rfl (l' := #[.val (.ref aC), .val (.int 1), .val (.int 3), .val (.ref b1), .val (.int 0)]) rfl) ?_
  show own_F _ p e below _ Z _ _ _ _ _ (T5.setTop (mkF m 26 #[.val (.ref aC), .val (.int 1), .val (.int 3), .val (.ref b1), .val (.int 0)] []))
  refine own_F.of (fun _ => XS.iinc S5.here S5.hx rfl (S5.dec d20_26) rfl (l' := #[.val (.ref aC), .val (.int 1), .val (.int 3), .val (.ref b1), .val (.int 1)]) rfl) ?_
  show own_F _ p e below _ Z _ _ _ _ _ (T5.setTop (mkF m 29 #[.val (.ref aC), .val (.int 1), .val (.int 3), .val (.ref b1), .val (.int 1)] []))
  refine own_F.of (fun _ => XS.goto S5.here S5.hx rfl (pc0 := 29) (pc' := 8) rfl (S5.dec d20_29) (by decide) (by decide)) ?_
  show own_F _ p e below _ Z _ _ _ _ _ (T5.setTop (mkF m 8 #[.val (.ref aC), .val (.int 1), .val (.int 3), .val (.ref b1), .val (.int 1)] []))
  refine own_F.of (fun _ => XS.iload S5.here S5.hx rfl (S5.dec d20_8) rfl) ?_
  refine own_F.of (fun _ => XS.iloadN S5.here S5.hx rfl (S5.dec d20_10) rfl) ?_
  show own_F _ p e below _ Z _ _ _ _ _ (T5.setTop (mkF m 11 #[.val (.ref aC), .val (.int 1), .val (.int 3), .val (.ref b1), .val (.int 1)] [(.int 3), (.int 1)]))
  refine own_icmp S5 32 d20_11 (by decide) (by decide) (fun (hc11_7 : ¬ ((1 : Int32) < (3 : Int32))) => False.elim (absurd hc11_7 (by decide))) (fun (hc11_7 : (1 : Int32) < (3 : Int32)) => ?_)
  show own_F _ p e below _ Z _ _ _ _ _ (T5.setTop (mkF m 14 #[.val (.ref aC), .val (.int 1), .val (.int 3), .val (.ref b1), .val (.int 1)] []))
  refine own_F.of (fun _ => XS.aloadN S5.here S5.hx rfl (S5.dec d20_14) rfl rfl) ?_
  refine own_F.of (fun _ => XS.iload S5.here S5.hx rfl (S5.dec d20_15) rfl) ?_
  refine own_F.of (fun _ => XS.aloadN S5.here S5.hx rfl (S5.dec d20_17) rfl rfl) ?_
  refine own_F.of (fun _ => XS.iloadN S5.here S5.hx rfl (S5.dec d20_18) rfl) ?_
  show own_F _ p e below _ Z _ _ _ _ _ (T5.setTop (mkF m 19 #[.val (.ref aC), .val (.int 1), .val (.int 3), .val (.ref b1), .val (.int 1)] [(.int 1), (.ref aC), (.int 1), (.ref b1)]))
  have fq8 := (fq4.keep K5 (ninS (Nat.ne_of_lt (Nat.lt_of_lt_of_le AC.lt g1)) nin0))
  refine own_cald S5 fq8 (by decide) rfl d20_19 ?_
  show own_F _ p e below _ Z _ _ _ _ _ (T5.setTop (mkF m 20 #[.val (.ref aC), .val (.int 1), .val (.int 3), .val (.ref b1), .val (.int 1)] [(.int x2), (.int 1), (.ref b1)]))
  refine own_callS S5 (y := (⟨"java/lang/StringUTF16", "putChar", "([BII)V"⟩ : MethodName)) (own_w hw 101 rfl) (own_w hw 102 rfl) (own_w hw 42 rfl) (own_w hw 103 rfl) (by decide) (argsL := [(.ref b1), (.int (1 : Int32)), (.int x2)]) (rest := []) (own_putC l Z a0 hw b1 [(.int (own_lo x1)), (.int (own_hi x1)), (.int (0 : Int32)), (.int (0 : Int32)), (.int (0 : Int32)), (.int (0 : Int32))] (1 : Int32) (2 : Int32) (3 : Int32) x2 h5 S5.old S_as S_hi S_lo (by decide) (by decide) (by decide) (by decide) (Nat.le_of_ble_eq_true rfl) (Nat.le_of_ble_eq_true rfl) (own_mayN S5 (Or.inr g1)) V6) (allS (Or.inr g1) all0) (by decide +kernel : parseMethodDescriptor "([BII)V" = some ⟨[(.array .byte), .int, .int], none⟩) rfl rfl rfl d20_20 (by decide) (Nat.le_of_ble_eq_true rfl) (by decide) (by decide) (fun T9 h9 v9 S9 K9 q9 => ?_)
  obtain ⟨rfl, F9⟩ := q9
  have V10 : own_A Z h9 b1 .byte [(.int (own_lo x1)), (.int (own_hi x1)), (.int (own_lo x2)), (.int (own_hi x2)), (.int (0 : Int32)), (.int (0 : Int32))] := F9
  show own_F _ p e below _ Z _ _ _ _ _ (T9.setTop (mkF m 23 #[.val (.ref aC), .val (.int 1), .val (.int 3), .val (.ref b1), .val (.int 1)] []))
  refine own_F.of (fun _ => XS.iinc S9.here S9.hx rfl (S9.dec d20_23) rfl (l' := #[.val (.ref aC), .val (.int 2), .val (.int 3), .val (.ref b1), .val (.int 1)]) rfl) ?_
  show own_F _ p e below _ Z _ _ _ _ _ (T9.setTop (mkF m 26 #[.val (.ref aC), .val (.int 2), .val (.int 3), .val (.ref b1), .val (.int 1)] []))
  refine own_F.of (fun _ => XS.iinc S9.here S9.hx rfl (S9.dec d20_26) rfl (l' := #[.val (.ref aC), .val (.int 2), .val (.int 3), .val (.ref b1), .val (.int 2)]) rfl) ?_
  show own_F _ p e below _ Z _ _ _ _ _ (T9.setTop (mkF m 29 #[.val (.ref aC), .val (.int 2), .val (.int 3), .val (.ref b1), .val (.int 2)] []))
  refine own_F.of (fun _ => XS.goto S9.here S9.hx rfl (pc0 := 29) (pc' := 8) rfl (S9.dec d20_29) (by decide) (by decide)) ?_
  show own_F _ p e below _ Z _ _ _ _ _ (T9.setTop (mkF m 8 #[.val (.ref aC), .val (.int 2), .val (.int 3), .val (.ref b1), .val (.int 2)] []))
  refine own_F.of (fun _ => XS.iload S9.here S9.hx rfl (S9.dec d20_8) rfl) ?_
  refine own_F.of (fun _ => XS.iloadN S9.here S9.hx rfl (S9.dec d20_10) rfl) ?_
  show own_F _ p e below _ Z _ _ _ _ _ (T9.setTop (mkF m 11 #[.val (.ref aC), .val (.int 2), .val (.int 3), .val (.ref b1), .val (.int 2)] [(.int 3), (.int 2)]))
  refine own_icmp S9 32 d20_11 (by decide) (by decide) (fun (hc11_11 : ¬ ((2 : Int32) < (3 : Int32))) => False.elim (absurd hc11_11 (by decide))) (fun (hc11_11 : (2 : Int32) < (3 : Int32)) => ?_)
  show own_F _ p e below _ Z _ _ _ _ _ (T9.setTop (mkF m 14 #[.val (.ref aC), .val (.int 2), .val (.int 3), .val (.ref b1), .val (.int 2)] []))
  refine own_F.of (fun _ => XS.aloadN S9.here S9.hx rfl (S9.dec d20_14) rfl rfl) ?_
  refine own_F.of (fun _ => XS.iload S9.here S9.hx rfl (S9.dec d20_15) rfl) ?_
  refine own_F.of (fun _ => XS.aloadN S9.here S9.hx rfl (S9.dec d20_17) rfl rfl) ?_
  refine own_F.of (fun _ => XS.iloadN S9.here S9.hx rfl (S9.dec d20_18) rfl) ?_
  show own_F _ p e below _ Z _ _ _ _ _ (T9.setTop (mkF m 19 #[.val (.ref aC), .val (.int 2), .val (.int 3), .val (.ref b1), .val (.int 2)] [(.int 2), (.ref aC), (.int 2), (.ref b1)]))
  have fq12 := (fq8.keep K9 (ninS (Nat.ne_of_lt (Nat.lt_of_lt_of_le AC.lt g1)) nin0))
  refine own_cald S9 fq12 (by decide) rfl d20_19 ?_
  show own_F _ p e below _ Z _ _ _ _ _ (T9.setTop (mkF m 20 #[.val (.ref aC), .val (.int 2), .val (.int 3), .val (.ref b1), .val (.int 2)] [(.int x3), (.int 2), (.ref b1)]))
  refine own_callS S9 (y := (⟨"java/lang/StringUTF16", "putChar", "([BII)V"⟩ : MethodName)) (own_w hw 101 rfl) (own_w hw 102 rfl) (own_w hw 42 rfl) (own_w hw 103 rfl) (by decide) (argsL := [(.ref b1), (.int (2 : Int32)), (.int x3)]) (rest := []) (own_putC l Z a0 hw b1 [(.int (own_lo x1)), (.int (own_hi x1)), (.int (own_lo x2)), (.int (own_hi x2)), (.int (0 : Int32)), (.int (0 : Int32))] (2 : Int32) (4 : Int32) (5 : Int32) x3 h9 S9.old S_as S_hi S_lo (by decide) (by decide) (by decide) (by decide) (Nat.le_of_ble_eq_true rfl) (Nat.le_of_ble_eq_true rfl) (own_mayN S9 (Or.inr g1)) V10) (allS (Or.inr g1) all0) (by decide +kernel : parseMethodDescriptor "([BII)V" = some ⟨[(.array .byte), .int, .int], none⟩) rfl rfl rfl d20_20 (by decide) (Nat.le_of_ble_eq_true rfl) (by decide) (by decide) (fun T13 h13 v13 S13 K13 q13 => ?_)
  obtain ⟨rfl, F13⟩ := q13
  have V14 : own_A Z h13 b1 .byte [(.int (own_lo x1)), (.int (own_hi x1)), (.int (own_lo x2)), (.int (own_hi x2)), (.int (own_lo x3)), (.int (own_hi x3))] := F13
  show own_F _ p e below _ Z _ _ _ _ _ (T13.setTop (mkF m 23 #[.val (.ref aC), .val (.int 2), .val (.int 3), .val (.ref b1), .val (.int 2)] []))
  refine own_F.of (fun _ => XS.iinc S13.here S13.hx rfl (S13.dec d20_23) rfl (l' := #[.val (.ref aC), .val (.int 3), .val (.int 3), .val (.ref b1), .val (.int 2)]) rfl) ?_
  show own_F _ p e below _ Z _ _ _ _ _ (T13.setTop (mkF m 26 #[.val (.ref aC), .val (.int 3), .val (.int 3), .val (.ref b1), .val (.int 2)] []))
  refine own_F.of (fun _ => XS.iinc S13.here S13.hx rfl (S13.dec d20_26) rfl (l' := #[.val (.ref aC), .val (.int 3), .val (.int 3), .val (.ref b1), .val (.int 3)]) rfl) ?_
  show own_F _ p e below _ Z _ _ _ _ _ (T13.setTop (mkF m 29 #[.val (.ref aC), .val (.int 3), .val (.int 3), .val (.ref b1), .val (.int 3)] []))
  refine own_F.of (fun _ => XS.goto S13.here S13.hx rfl (pc0 := 29) (pc' := 8) rfl (S13.dec d20_29) (by decide) (by decide)) ?_
  show own_F _ p e below _ Z _ _ _ _ _ (T13.setTop (mkF m 8 #[.val (.ref aC), .val (.int 3), .val (.int 3), .val (.ref b1), .val (.int 3)] []))
  refine own_F.of (fun _ => XS.iload S13.here S13.hx rfl (S13.dec d20_8) rfl) ?_
  refine own_F.of (fun _ => XS.iloadN S13.here S13.hx rfl (S13.dec d20_10) rfl) ?_
  show own_F _ p e below _ Z _ _ _ _ _ (T13.setTop (mkF m 11 #[.val (.ref aC), .val (.int 3), .val (.int 3), .val (.ref b1), .val (.int 3)] [(.int 3), (.int 3)]))
  refine own_icmp S13 32 d20_11 (by decide) (by decide) (fun (hc11_15 : ¬ ((3 : Int32) < (3 : Int32))) => ?_) (fun (hc11_15 : (3 : Int32) < (3 : Int32)) => False.elim (absurd hc11_15 (by decide)))
  show own_F _ p e below _ Z _ _ _ _ _ (T13.setTop (mkF m 32 #[.val (.ref aC), .val (.int 3), .val (.int 3), .val (.ref b1), .val (.int 3)] []))
  refine own_F.of (fun _ => XS.aloadN S13.here S13.hx rfl (S13.dec d20_32) rfl rfl) ?_
  show own_F _ p e below _ Z _ _ _ _ _ (T13.setTop (mkF m 33 #[.val (.ref aC), .val (.int 3), .val (.int 3), .val (.ref b1), .val (.int 3)] [(.ref b1)]))
  refine own_retA S13 rfl rfl d20_33 (by decide) (by decide) ?_
  exact ⟨_, rfl, V14⟩
set_option maxRecDepth 65536 in
set_option maxHeartbeats 40000000 in
theorem own_cmpI3 (l : Launch) (Z : State) (a0 : Array Value) (hw : ∀ d ∈ tables_1, d.before a0 Z = true) (aC aB : Addr) (x1 x2 x3 : Int32) (h0 : Heap) (hO : Ext Z.heap h0) (AC : own_A Z h0 aC .char [(.int x1), (.int x2), (.int x3)]) (AB : own_A Z h0 aB .byte [(.int (0 : Int32)), (.int (0 : Int32)), (.int (0 : Int32))]) (gB : Z.heap.size ≤ aB) (nCB : aC ≠ aB) :
    own_C l Z (⟨"java/lang/StringUTF16", "compress", "([CI[BII)I"⟩ : MethodName) jdk_52_method_21_code 7 (some .int) [] ({ frames := 0, cells := 0, slots := 0, locals := 0 } : Room) [aB] #[(.ref aC), (.int (0 : Int32)), (.ref aB), (.int (0 : Int32)), (.int (3 : Int32))] h0 (fun v h => (v = some (.int (3 : Int32)) ∧ own_A Z h aB .byte [(.int (nar .byte (x1.toInt8.toInt32))), (.int (nar .byte (x2.toInt8.toInt32))), (.int (nar .byte (x3.toInt8.toInt32)))] ∧ ¬ 255 < x1 ∧ ¬ 255 < x2 ∧ ¬ 255 < x3) ∨ (v = some (.int (0 : Int32)) ∧ 255 < x1) ∨ (v = some (.int (1 : Int32)) ∧ 255 < x2) ∨ (v = some (.int (2 : Int32)) ∧ 255 < x3)) := by
  refine own_C.of pn9 hO (allS gB all0) ?_
  intro p e s m below meth c T0 S0
  refine own_F.cast (by first | (simp [entryFrame, mkF, argsToLocals, Value.category]; done) | rfl : entryFrame m #[(.ref aC), (.int (0 : Int32)), (.ref aB), (.int (0 : Int32)), (.int (3 : Int32))] 7 = mkF m 0 #[.val (.ref aC), .val (.int (0 : Int32)), .val (.ref aB), .val (.int (0 : Int32)), .val (.int (3 : Int32)), .unset, .unset] []) ?_
  show own_F _ p e below _ Z _ _ _ _ _ (T0.setTop (mkF m 0 #[.val (.ref aC), .val (.int 0), .val (.ref aB), .val (.int 0), .val (.int 3), .unset, .unset] []))
  refine own_F.of (fun _ => XS.iconst S0.here S0.hx rfl (S0.dec d9_0)) ?_
  show own_F _ p e below _ Z _ _ _ _ _ (T0.setTop (mkF m 1 #[.val (.ref aC), .val (.int 0), .val (.ref aB), .val (.int 0), .val (.int 3), .unset, .unset] [(.int 0)]))
  refine own_F.of (fun _ => XS.istore S0.here S0.hx rfl (S0.dec d9_1) rfl (l' := #[.val (.ref aC), .val (.int 0), .val (.ref aB), .val (.int 0), .val (.int 3), .val (.int 0), .unset]) rfl) ?_
  refine own_F.of (fun _ => XS.iload S0.here S0.hx rfl (S0.dec d9_3) rfl) ?_
  refine own_F.of (fun _ => XS.iload S0.here S0.hx rfl (S0.dec d9_5) rfl) ?_
  show own_F _ p e below _ Z _ _ _ _ _ (T0.setTop (mkF m 7 #[.val (.ref aC), .val (.int 0), .val (.ref aB), .val (.int 0), .val (.int 3), .val (.int 0), .unset] [(.int 3), (.int 0)]))
  refine own_icmp S0 44 d9_7 (by decide) (by decide) (fun (hc7_1 : ¬ ((0 : Int32) < (3 : Int32))) => False.elim (absurd hc7_1 (by decide))) (fun (hc7_1 : (0 : Int32) < (3 : Int32)) => ?_)
  show own_F _ p e below _ Z _ _ _ _ _ (T0.setTop (mkF m 10 #[.val (.ref aC), .val (.int 0), .val (.ref aB), .val (.int 0), .val (.int 3), .val (.int 0), .unset] []))
  refine own_F.of (fun _ => XS.aloadN S0.here S0.hx rfl (S0.dec d9_10) rfl rfl) ?_
  refine own_F.of (fun _ => XS.iloadN S0.here S0.hx rfl (S0.dec d9_11) rfl) ?_
  show own_F _ p e below _ Z _ _ _ _ _ (T0.setTop (mkF m 12 #[.val (.ref aC), .val (.int 0), .val (.ref aB), .val (.int 0), .val (.int 3), .val (.int 0), .unset] [(.int 0), (.ref aC)]))
  refine own_cald S0 AC (by decide) rfl d9_12 ?_
  show own_F _ p e below _ Z _ _ _ _ _ (T0.setTop (mkF m 13 #[.val (.ref aC), .val (.int 0), .val (.ref aB), .val (.int 0), .val (.int 3), .val (.int 0), .unset] [(.int x1)]))
  refine own_F.of (fun _ => XS.istore S0.here S0.hx rfl (S0.dec d9_13) rfl (l' := #[.val (.ref aC), .val (.int 0), .val (.ref aB), .val (.int 0), .val (.int 3), .val (.int 0), .val (.int x1)]) rfl) ?_
  refine own_F.of (fun _ => XS.iload S0.here S0.hx rfl (S0.dec d9_15) rfl) ?_
  refine own_F.of (fun _ => XS.sipush S0.here S0.hx rfl (S0.dec d9_17)) ?_
  show own_F _ p e below _ Z _ _ _ _ _ (T0.setTop (mkF m 20 #[.val (.ref aC), .val (.int 0), .val (.ref aB), .val (.int 0), .val (.int 3), .val (.int 0), .val (.int x1)] [(.int 255), (.int x1)]))
  refine own_icmp S0 26 d9_20 (by decide) (by decide) (fun (hc20_2 : ¬ ((255 : Int32) < x1)) => ?_) (fun (hc20_2 : (255 : Int32) < x1) => ?_)
  · show own_F _ p e below _ Z _ _ _ _ _ (T0.setTop (mkF m 26 #[.val (.ref aC), .val (.int 0), .val (.ref aB), .val (.int 0), .val (.int 3), .val (.int 0), .val (.int x1)] []))
    refine own_F.of (fun _ => XS.aloadN S0.here S0.hx rfl (S0.dec d9_26) rfl rfl) ?_
    refine own_F.of (fun _ => XS.iloadN S0.here S0.hx rfl (S0.dec d9_27) rfl) ?_
    refine own_F.of (fun _ => XS.iload S0.here S0.hx rfl (S0.dec d9_28) rfl) ?_
    show own_F _ p e below _ Z _ _ _ _ _ (T0.setTop (mkF m 30 #[.val (.ref aC), .val (.int 0), .val (.ref aB), .val (.int 0), .val (.int 3), .val (.int 0), .val (.int x1)] [(.int x1), (.int 0), (.ref aB)]))
    refine own_F.of (fun _ => XS.i2b S0.here S0.hx rfl (S0.dec d9_30) rfl) ?_
    show own_F _ p e below _ Z _ _ _ _ _ (T0.setTop (mkF m 31 #[.val (.ref aC), .val (.int 0), .val (.ref aB), .val (.int 0), .val (.int 3), .val (.int 0), .val (.int x1)] [(.int (x1.toInt8.toInt32)), (.int 0), (.ref aB)]))
    refine own_bst S0 AB (by decide) (Nat.le_of_ble_eq_true rfl) d9_31 (Or.inl (List.mem_of_getElem? (i := 0) rfl)) (fun T3 h3 S3 W3 A3 => ?_)
    have V4 : own_A Z h3 aB .byte [(.int (nar .byte (x1.toInt8.toInt32))), (.int (0 : Int32)), (.int (0 : Int32))] := A3
    show own_F _ p e below _ Z _ _ _ _ _ (T3.setTop (mkF m 32 #[.val (.ref aC), .val (.int 0), .val (.ref aB), .val (.int 0), .val (.int 3), .val (.int 0), .val (.int x1)] []))
    refine own_F.of (fun _ => XS.iinc S3.here S3.hx rfl (S3.dec d9_32) rfl (l' := #[.val (.ref aC), .val (.int 1), .val (.ref aB), .val (.int 0), .val (.int 3), .val (.int 0), .val (.int x1)]) rfl) ?_
    show own_F _ p e below _ Z _ _ _ _ _ (T3.setTop (mkF m 35 #[.val (.ref aC), .val (.int 1), .val (.ref aB), .val (.int 0), .val (.int 3), .val (.int 0), .val (.int x1)] []))
    refine own_F.of (fun _ => XS.iinc S3.here S3.hx rfl (S3.dec d9_35) rfl (l' := #[.val (.ref aC), .val (.int 1), .val (.ref aB), .val (.int 1), .val (.int 3), .val (.int 0), .val (.int x1)]) rfl) ?_
    show own_F _ p e below _ Z _ _ _ _ _ (T3.setTop (mkF m 38 #[.val (.ref aC), .val (.int 1), .val (.ref aB), .val (.int 1), .val (.int 3), .val (.int 0), .val (.int x1)] []))
    refine own_F.of (fun _ => XS.iinc S3.here S3.hx rfl (S3.dec d9_38) rfl (l' := #[.val (.ref aC), .val (.int 1), .val (.ref aB), .val (.int 1), .val (.int 3), .val (.int 1), .val (.int x1)]) rfl) ?_
    show own_F _ p e below _ Z _ _ _ _ _ (T3.setTop (mkF m 41 #[.val (.ref aC), .val (.int 1), .val (.ref aB), .val (.int 1), .val (.int 3), .val (.int 1), .val (.int x1)] []))
    refine own_F.of (fun _ => XS.goto S3.here S3.hx rfl (pc0 := 41) (pc' := 3) rfl (S3.dec d9_41) (by decide) (by decide)) ?_
    show own_F _ p e below _ Z _ _ _ _ _ (T3.setTop (mkF m 3 #[.val (.ref aC), .val (.int 1), .val (.ref aB), .val (.int 1), .val (.int 3), .val (.int 1), .val (.int x1)] []))
    refine own_F.of (fun _ => XS.iload S3.here S3.hx rfl (S3.dec d9_3) rfl) ?_
    refine own_F.of (fun _ => XS.iload S3.here S3.hx rfl (S3.dec d9_5) rfl) ?_
    show own_F _ p e below _ Z _ _ _ _ _ (T3.setTop (mkF m 7 #[.val (.ref aC), .val (.int 1), .val (.ref aB), .val (.int 1), .val (.int 3), .val (.int 1), .val (.int x1)] [(.int 3), (.int 1)]))
    refine own_icmp S3 44 d9_7 (by decide) (by decide) (fun (hc7_5 : ¬ ((1 : Int32) < (3 : Int32))) => False.elim (absurd hc7_5 (by decide))) (fun (hc7_5 : (1 : Int32) < (3 : Int32)) => ?_)
    show own_F _ p e below _ Z _ _ _ _ _ (T3.setTop (mkF m 10 #[.val (.ref aC), .val (.int 1), .val (.ref aB), .val (.int 1), .val (.int 3), .val (.int 1), .val (.int x1)] []))
    refine own_F.of (fun _ => XS.aloadN S3.here S3.hx rfl (S3.dec d9_10) rfl rfl) ?_
    refine own_F.of (fun _ => XS.iloadN S3.here S3.hx rfl (S3.dec d9_11) rfl) ?_
    show own_F _ p e below _ Z _ _ _ _ _ (T3.setTop (mkF m 12 #[.val (.ref aC), .val (.int 1), .val (.ref aB), .val (.int 1), .val (.int 3), .val (.int 1), .val (.int x1)] [(.int 1), (.ref aC)]))
    have fq6 := (AC.other W3 nCB)
    refine own_cald S3 fq6 (by decide) rfl d9_12 ?_
    show own_F _ p e below _ Z _ _ _ _ _ (T3.setTop (mkF m 13 #[.val (.ref aC), .val (.int 1), .val (.ref aB), .val (.int 1), .val (.int 3), .val (.int 1), .val (.int x1)] [(.int x2)]))
    refine own_F.of (fun _ => XS.istore S3.here S3.hx rfl (S3.dec d9_13) rfl (l' := #[.val (.ref aC), .val (.int 1), .val (.ref aB), .val (.int 1), .val (.int 3), .val (.int 1), .val (.int x2)]) rfl) ?_
    refine own_F.of (fun _ => XS.iload S3.here S3.hx rfl (S3.dec d9_15) rfl) ?_
    refine own_F.of (fun _ => XS.sipush S3.here S3.hx rfl (S3.dec d9_17)) ?_
    show own_F _ p e below _ Z _ _ _ _ _ (T3.setTop (mkF m 20 #[.val (.ref aC), .val (.int 1), .val (.ref aB), .val (.int 1), .val (.int 3), .val (.int 1), .val (.int x2)] [(.int 255), (.int x2)]))
    refine own_icmp S3 26 d9_20 (by decide) (by decide) (fun (hc20_7 : ¬ ((255 : Int32) < x2)) => ?_) (fun (hc20_7 : (255 : Int32) < x2) => ?_)
    · show own_F _ p e below _ Z _ _ _ _ _ (T3.setTop (mkF m 26 #[.val (.ref aC), .val (.int 1), .val (.ref aB), .val (.int 1), .val (.int 3), .val (.int 1), .val (.int x2)] []))
      refine own_F.of (fun _ => XS.aloadN S3.here S3.hx rfl (S3.dec d9_26) rfl rfl) ?_
      refine own_F.of (fun _ => XS.iloadN S3.here S3.hx rfl (S3.dec d9_27) rfl) ?_
      refine own_F.of (fun _ => XS.iload S3.here S3.hx rfl (S3.dec d9_28) rfl) ?_
      show own_F _ p e below _ Z _ _ _ _ _ (T3.setTop (mkF m 30 #[.val (.ref aC), .val (.int 1), .val (.ref aB), .val (.int 1), .val (.int 3), .val (.int 1), .val (.int x2)] [(.int x2), (.int 1), (.ref aB)]))
      refine own_F.of (fun _ => XS.i2b S3.here S3.hx rfl (S3.dec d9_30) rfl) ?_
      show own_F _ p e below _ Z _ _ _ _ _ (T3.setTop (mkF m 31 #[.val (.ref aC), .val (.int 1), .val (.ref aB), .val (.int 1), .val (.int 3), .val (.int 1), .val (.int x2)] [(.int (x2.toInt8.toInt32)), (.int 1), (.ref aB)]))
      refine own_bst S3 V4 (by decide) (Nat.le_of_ble_eq_true rfl) d9_31 (Or.inl (List.mem_of_getElem? (i := 0) rfl)) (fun T8 h8 S8 W8 A8 => ?_)
      have V9 : own_A Z h8 aB .byte [(.int (nar .byte (x1.toInt8.toInt32))), (.int (nar .byte (x2.toInt8.toInt32))), (.int (0 : Int32))] := A8
      show own_F _ p e below _ Z _ _ _ _ _ (T8.setTop (mkF m 32 #[.val (.ref aC), .val (.int 1), .val (.ref aB), .val (.int 1), .val (.int 3), .val (.int 1), .val (.int x2)] []))
      refine own_F.of (fun _ => XS.iinc S8.here S8.hx rfl (S8.dec d9_32) rfl (l' := #[.val (.ref aC), .val (.int 2), .val (.ref aB), .val (.int 1), .val (.int 3), .val (.int 1), .val (.int x2)]) rfl) ?_
      show own_F _ p e below _ Z _ _ _ _ _ (T8.setTop (mkF m 35 #[.val (.ref aC), .val (.int 2), .val (.ref aB), .val (.int 1), .val (.int 3), .val (.int 1), .val (.int x2)] []))
      refine own_F.of (fun _ => XS.iinc S8.here S8.hx rfl (S8.dec d9_35) rfl (l' := #[.val (.ref aC), .val (.int 2), .val (.ref aB), .val (.int 2), .val (.int 3), .val (.int 1), .val (.int x2)]) rfl) ?_
      show own_F _ p e below _ Z _ _ _ _ _ (T8.setTop (mkF m 38 #[.val (.ref aC), .val (.int 2), .val (.ref aB), .val (.int 2), .val (.int 3), .val (.int 1), .val (.int x2)] []))
      refine own_F.of (fun _ => XS.iinc S8.here S8.hx rfl (S8.dec d9_38) rfl (l' := #[.val (.ref aC), .val (.int 2), .val (.ref aB), .val (.int 2), .val (.int 3), .val (.int 2), .val (.int x2)]) rfl) ?_
      show own_F _ p e below _ Z _ _ _ _ _ (T8.setTop (mkF m 41 #[.val (.ref aC), .val (.int 2), .val (.ref aB), .val (.int 2), .val (.int 3), .val (.int 2), .val (.int x2)] []))
      refine own_F.of (fun _ => XS.goto S8.here S8.hx rfl (pc0 := 41) (pc' := 3) rfl (S8.dec d9_41) (by decide) (by decide)) ?_
      show own_F _ p e below _ Z _ _ _ _ _ (T8.setTop (mkF m 3 #[.val (.ref aC), .val (.int 2), .val (.ref aB), .val (.int 2), .val (.int 3), .val (.int 2), .val (.int x2)] []))
      refine own_F.of (fun _ => XS.iload S8.here S8.hx rfl (S8.dec d9_3) rfl) ?_
      refine own_F.of (fun _ => XS.iload S8.here S8.hx rfl (S8.dec d9_5) rfl) ?_
      show own_F _ p e below _ Z _ _ _ _ _ (T8.setTop (mkF m 7 #[.val (.ref aC), .val (.int 2), .val (.ref aB), .val (.int 2), .val (.int 3), .val (.int 2), .val (.int x2)] [(.int 3), (.int 2)]))
      refine own_icmp S8 44 d9_7 (by decide) (by decide) (fun (hc7_10 : ¬ ((2 : Int32) < (3 : Int32))) => False.elim (absurd hc7_10 (by decide))) (fun (hc7_10 : (2 : Int32) < (3 : Int32)) => ?_)
      show own_F _ p e below _ Z _ _ _ _ _ (T8.setTop (mkF m 10 #[.val (.ref aC), .val (.int 2), .val (.ref aB), .val (.int 2), .val (.int 3), .val (.int 2), .val (.int x2)] []))
      refine own_F.of (fun _ => XS.aloadN S8.here S8.hx rfl (S8.dec d9_10) rfl rfl) ?_
      refine own_F.of (fun _ => XS.iloadN S8.here S8.hx rfl (S8.dec d9_11) rfl) ?_
      show own_F _ p e below _ Z _ _ _ _ _ (T8.setTop (mkF m 12 #[.val (.ref aC), .val (.int 2), .val (.ref aB), .val (.int 2), .val (.int 3), .val (.int 2), .val (.int x2)] [(.int 2), (.ref aC)]))
      have fq11 := (fq6.other W8 nCB)
      refine own_cald S8 fq11 (by decide) rfl d9_12 ?_
      show own_F _ p e below _ Z _ _ _ _ _ (T8.setTop (mkF m 13 #[.val (.ref aC), .val (.int 2), .val (.ref aB), .val (.int 2), .val (.int 3), .val (.int 2), .val (.int x2)] [(.int x3)]))
      refine own_F.of (fun _ => XS.istore S8.here S8.hx rfl (S8.dec d9_13) rfl (l' := #[.val (.ref aC), .val (.int 2), .val (.ref aB), .val (.int 2), .val (.int 3), .val (.int 2), .val (.int x3)]) rfl) ?_
      refine own_F.of (fun _ => XS.iload S8.here S8.hx rfl (S8.dec d9_15) rfl) ?_
      refine own_F.of (fun _ => XS.sipush S8.here S8.hx rfl (S8.dec d9_17)) ?_
      show own_F _ p e below _ Z _ _ _ _ _ (T8.setTop (mkF m 20 #[.val (.ref aC), .val (.int 2), .val (.ref aB), .val (.int 2), .val (.int 3), .val (.int 2), .val (.int x3)] [(.int 255), (.int x3)]))
      refine own_icmp S8 26 d9_20 (by decide) (by decide) (fun (hc20_12 : ¬ ((255 : Int32) < x3)) => ?_) (fun (hc20_12 : (255 : Int32) < x3) => ?_)
      · show own_F _ p e below _ Z _ _ _ _ _ (T8.setTop (mkF m 26 #[.val (.ref aC), .val (.int 2), .val (.ref aB), .val (.int 2), .val (.int 3), .val (.int 2), .val (.int x3)] []))
        refine own_F.of (fun _ => XS.aloadN S8.here S8.hx rfl (S8.dec d9_26) rfl rfl) ?_
        refine own_F.of (fun _ => XS.iloadN S8.here S8.hx rfl (S8.dec d9_27) rfl) ?_
        refine own_F.of (fun _ => XS.iload S8.here S8.hx rfl (S8.dec d9_28) rfl) ?_
        show own_F _ p e below _ Z _ _ _ _ _ (T8.setTop (mkF m 30 #[.val (.ref aC), .val (.int 2), .val (.ref aB), .val (.int 2), .val (.int 3), .val (.int 2), .val (.int x3)] [(.int x3), (.int 2), (.ref aB)]))
        refine own_F.of (fun _ => XS.i2b S8.here S8.hx rfl (S8.dec d9_30) rfl) ?_
        show own_F _ p e below _ Z _ _ _ _ _ (T8.setTop (mkF m 31 #[.val (.ref aC), .val (.int 2), .val (.ref aB), .val (.int 2), .val (.int 3), .val (.int 2), .val (.int x3)] [(.int (x3.toInt8.toInt32)), (.int 2), (.ref aB)]))
        refine own_bst S8 V9 (by decide) (Nat.le_of_ble_eq_true rfl) d9_31 (Or.inl (List.mem_of_getElem? (i := 0) rfl)) (fun T13 h13 S13 W13 A13 => ?_)
        have V14 : own_A Z h13 aB .byte [(.int (nar .byte (x1.toInt8.toInt32))), (.int (nar .byte (x2.toInt8.toInt32))), (.int (nar .byte (x3.toInt8.toInt32)))] := A13
        show own_F _ p e below _ Z _ _ _ _ _ (T13.setTop (mkF m 32 #[.val (.ref aC), .val (.int 2), .val (.ref aB), .val (.int 2), .val (.int 3), .val (.int 2), .val (.int x3)] []))
        refine own_F.of (fun _ => XS.iinc S13.here S13.hx rfl (S13.dec d9_32) rfl (l' := #[.val (.ref aC), .val (.int 3), .val (.ref aB), .val (.int 2), .val (.int 3), .val (.int 2), .val (.int x3)]) rfl) ?_
        show own_F _ p e below _ Z _ _ _ _ _ (T13.setTop (mkF m 35 #[.val (.ref aC), .val (.int 3), .val (.ref aB), .val (.int 2), .val (.int 3), .val (.int 2), .val (.int x3)] []))
        refine own_F.of (fun _ => XS.iinc S13.here S13.hx rfl (S13.dec d9_35) rfl (l' := #[.val (.ref aC), .val (.int 3), .val (.ref aB), .val (.int 3), .val (.int 3), .val (.int 2), .val (.int x3)]) rfl) ?_
        show own_F _ p e below _ Z _ _ _ _ _ (T13.setTop (mkF m 38 #[.val (.ref aC), .val (.int 3), .val (.ref aB), .val (.int 3), .val (.int 3), .val (.int 2), .val (.int x3)] []))
        refine own_F.of (fun _ => XS.iinc S13.here S13.hx rfl (S13.dec d9_38) rfl (l' := #[.val (.ref aC), .val (.int 3), .val (.ref aB), .val (.int 3), .val (.int 3), .val (.int 3), .val (.int x3)]) rfl) ?_
        show own_F _ p e below _ Z _ _ _ _ _ (T13.setTop (mkF m 41 #[.val (.ref aC), .val (.int 3), .val (.ref aB), .val (.int 3), .val (.int 3), .val (.int 3), .val (.int x3)] []))
        refine own_F.of (fun _ => XS.goto S13.here S13.hx rfl (pc0 := 41) (pc' := 3) rfl (S13.dec d9_41) (by decide) (by decide)) ?_
        show own_F _ p e below _ Z _ _ _ _ _ (T13.setTop (mkF m 3 #[.val (.ref aC), .val (.int 3), .val (.ref aB), .val (.int 3), .val (.int 3), .val (.int 3), .val (.int x3)] []))
        refine own_F.of (fun _ => XS.iload S13.here S13.hx rfl (S13.dec d9_3) rfl) ?_
        refine own_F.of (fun _ => XS.iload S13.here S13.hx rfl (S13.dec d9_5) rfl) ?_
        show own_F _ p e below _ Z _ _ _ _ _ (T13.setTop (mkF m 7 #[.val (.ref aC), .val (.int 3), .val (.ref aB), .val (.int 3), .val (.int 3), .val (.int 3), .val (.int x3)] [(.int 3), (.int 3)]))
        refine own_icmp S13 44 d9_7 (by decide) (by decide) (fun (hc7_15 : ¬ ((3 : Int32) < (3 : Int32))) => ?_) (fun (hc7_15 : (3 : Int32) < (3 : Int32)) => False.elim (absurd hc7_15 (by decide)))
        show own_F _ p e below _ Z _ _ _ _ _ (T13.setTop (mkF m 44 #[.val (.ref aC), .val (.int 3), .val (.ref aB), .val (.int 3), .val (.int 3), .val (.int 3), .val (.int x3)] []))
        refine own_F.of (fun _ => XS.iload S13.here S13.hx rfl (S13.dec d9_44) rfl) ?_
        show own_F _ p e below _ Z _ _ _ _ _ (T13.setTop (mkF m 46 #[.val (.ref aC), .val (.int 3), .val (.ref aB), .val (.int 3), .val (.int 3), .val (.int 3), .val (.int x3)] [(.int 3)]))
        refine own_retI S13 d9_46 (by decide) (by decide) ?_
        exact Or.inl ⟨rfl, V14, hc20_2, hc20_7, hc20_12⟩
      · show own_F _ p e below _ Z _ _ _ _ _ (T8.setTop (mkF m 23 #[.val (.ref aC), .val (.int 2), .val (.ref aB), .val (.int 2), .val (.int 3), .val (.int 2), .val (.int x3)] []))
        refine own_F.of (fun _ => XS.iload S8.here S8.hx rfl (S8.dec d9_23) rfl) ?_
        show own_F _ p e below _ Z _ _ _ _ _ (T8.setTop (mkF m 25 #[.val (.ref aC), .val (.int 2), .val (.ref aB), .val (.int 2), .val (.int 3), .val (.int 2), .val (.int x3)] [(.int 2)]))
        refine own_retI S8 d9_25 (by decide) (by decide) ?_
        exact Or.inr (Or.inr (Or.inr (⟨rfl, hc20_12⟩)))
    · show own_F _ p e below _ Z _ _ _ _ _ (T3.setTop (mkF m 23 #[.val (.ref aC), .val (.int 1), .val (.ref aB), .val (.int 1), .val (.int 3), .val (.int 1), .val (.int x2)] []))
      refine own_F.of (fun _ => XS.iload S3.here S3.hx rfl (S3.dec d9_23) rfl) ?_
      show own_F _ p e below _ Z _ _ _ _ _ (T3.setTop (mkF m 25 #[.val (.ref aC), .val (.int 1), .val (.ref aB), .val (.int 1), .val (.int 3), .val (.int 1), .val (.int x2)] [(.int 1)]))
      refine own_retI S3 d9_25 (by decide) (by decide) ?_
      exact Or.inr (Or.inr (Or.inl ⟨rfl, hc20_7⟩))
  · show own_F _ p e below _ Z _ _ _ _ _ (T0.setTop (mkF m 23 #[.val (.ref aC), .val (.int 0), .val (.ref aB), .val (.int 0), .val (.int 3), .val (.int 0), .val (.int x1)] []))
    refine own_F.of (fun _ => XS.iload S0.here S0.hx rfl (S0.dec d9_23) rfl) ?_
    show own_F _ p e below _ Z _ _ _ _ _ (T0.setTop (mkF m 25 #[.val (.ref aC), .val (.int 0), .val (.ref aB), .val (.int 0), .val (.int 3), .val (.int 0), .val (.int x1)] [(.int 0)]))
    refine own_retI S0 d9_25 (by decide) (by decide) ?_
    exact Or.inr (Or.inl ⟨rfl, hc20_2⟩)
set_option maxRecDepth 65536 in
set_option maxHeartbeats 40000000 in
theorem own_cmp3 (l : Launch) (Z : State) (a0 : Array Value) (hw : ∀ d ∈ tables_1, d.before a0 Z = true) (aC : Addr) (x1 x2 x3 : Int32) (h0 : Heap) (hO : Ext Z.heap h0) (S_as : Sta Z Z.heap "java/lang/StringUTF16" "$assertionsDisabled" "Z" (.int 1)) (S_hi : Sta Z Z.heap "java/lang/StringUTF16" "HI_BYTE_SHIFT" "I" (.int 0)) (S_lo : Sta Z Z.heap "java/lang/StringUTF16" "LO_BYTE_SHIFT" "I" (.int 8)) (cx1 : own_isC x1) (cx2 : own_isC x2) (cx3 : own_isC x3) (AC : own_A Z h0 aC .char [(.int x1), (.int x2), (.int x3)]) :
    own_C l Z (⟨"java/lang/StringUTF16", "compress", "([CII)[B"⟩ : MethodName) jdk_52_method_16_code 6 (some (.array .byte)) [] ({ frames := 3, cells := 2, slots := 9, locals := 40 } : Room) [] #[(.ref aC), (.int (0 : Int32)), (.int (3 : Int32))] h0 (fun v h => ∃ b, v = some (.ref b) ∧ ((own_A Z h b .byte [(.int (nar .byte (x1.toInt8.toInt32))), (.int (nar .byte (x2.toInt8.toInt32))), (.int (nar .byte (x3.toInt8.toInt32)))] ∧ ¬ 255 < x1 ∧ ¬ 255 < x2 ∧ ¬ 255 < x3) ∨ own_A Z h b .byte [(.int (own_lo x1)), (.int (own_hi x1)), (.int (own_lo x2)), (.int (own_hi x2)), (.int (own_lo x3)), (.int (own_hi x3))])) := by
  refine own_C.of pn8 hO all0 ?_
  intro p e s m below meth c T0 S0
  refine own_F.cast (by first | (simp [entryFrame, mkF, argsToLocals, Value.category]; done) | rfl : entryFrame m #[(.ref aC), (.int (0 : Int32)), (.int (3 : Int32))] 6 = mkF m 0 #[.val (.ref aC), .val (.int (0 : Int32)), .val (.int (3 : Int32)), .unset, .unset, .unset] []) ?_
  show own_F _ p e below _ Z _ _ _ _ _ (T0.setTop (mkF m 0 #[.val (.ref aC), .val (.int 0), .val (.int 3), .unset, .unset, .unset] []))
  refine own_F.of (fun _ => XS.iloadN S0.here S0.hx rfl (S0.dec d8_0) rfl) ?_
  show own_F _ p e below _ Z _ _ _ _ _ (T0.setTop (mkF m 1 #[.val (.ref aC), .val (.int 0), .val (.int 3), .unset, .unset, .unset] [(.int 3)]))
  refine own_newP S0 (own_w hw 23 rfl) d8_1 (by decide) (cap := 3) (by decide) (by decide) (by decide) (by decide) (fun T1 h1 b1 g1 S1 E1 A1 => ?_)
  have V2 : own_A Z h1 b1 .byte [(.int (0 : Int32)), (.int (0 : Int32)), (.int (0 : Int32))] := A1
  show own_F _ p e below _ Z _ _ _ _ _ (T1.setTop (mkF m 3 #[.val (.ref aC), .val (.int 0), .val (.int 3), .unset, .unset, .unset] [(.ref b1)]))
  refine own_F.of (fun _ => XS.astoreN S1.here S1.hx rfl (S1.dec d8_3) rfl rfl (l' := #[.val (.ref aC), .val (.int 0), .val (.int 3), .val (.ref b1), .unset, .unset]) rfl) ?_
  refine own_F.of (fun _ => XS.aloadN S1.here S1.hx rfl (S1.dec d8_4) rfl rfl) ?_
  refine own_F.of (fun _ => XS.iloadN S1.here S1.hx rfl (S1.dec d8_5) rfl) ?_
  refine own_F.of (fun _ => XS.aloadN S1.here S1.hx rfl (S1.dec d8_6) rfl rfl) ?_
  refine own_F.of (fun _ => XS.iconst S1.here S1.hx rfl (S1.dec d8_7)) ?_
  refine own_F.of (fun _ => XS.iloadN S1.here S1.hx rfl (S1.dec d8_8) rfl) ?_
  show own_F _ p e below _ Z _ _ _ _ _ (T1.setTop (mkF m 9 #[.val (.ref aC), .val (.int 0), .val (.int 3), .val (.ref b1), .unset, .unset] [(.int 3), (.int 0), (.ref b1), (.int 0), (.ref aC)]))
  have fq3 := (AC.ext E1)
  refine own_callS S1 (y := (⟨"java/lang/StringUTF16", "compress", "([CI[BII)I"⟩ : MethodName)) (own_w hw 44 rfl) (own_w hw 45 rfl) (own_w hw 42 rfl) (own_w hw 46 rfl) (by decide) (argsL := [(.ref aC), (.int (0 : Int32)), (.ref b1), (.int (0 : Int32)), (.int (3 : Int32))]) (rest := []) (own_cmpI3 l Z a0 hw aC b1 x1 x2 x3 h1 S1.old fq3 V2 (own_mayN S1 (Or.inr (by rw [g1]; exact S0.size))) (Nat.ne_of_lt (by rw [g1]; exact (AC).lt))) (allS (Or.inr (by rw [g1]; exact S0.size)) all0) (by decide +kernel : parseMethodDescriptor "([CI[BII)I" = some ⟨[(.array .char), .int, (.array .byte), .int, .int], some .int⟩) rfl rfl rfl d8_9 (by decide) (Nat.le_of_ble_eq_true rfl) (by decide) (by decide) (fun T4 h4 v4 S4 K4 q4 => ?_)
  obtain (⟨rfl, F4, hl4_1, hl4_2, hl4_3⟩ | ⟨rfl, hu4⟩ | ⟨rfl, hu4⟩ | ⟨rfl, hu4⟩) := q4
  · have V5 : own_A Z h4 b1 .byte [(.int (nar .byte (x1.toInt8.toInt32))), (.int (nar .byte (x2.toInt8.toInt32))), (.int (nar .byte (x3.toInt8.toInt32)))] := F4
    show own_F _ p e below _ Z _ _ _ _ _ (T4.setTop (mkF m 12 #[.val (.ref aC), .val (.int 0), .val (.int 3), .val (.ref b1), .unset, .unset] [(.int 3)]))
    refine own_F.of (fun _ => XS.istore S4.here S4.hx rfl (S4.dec d8_12) rfl (l' := #[.val (.ref aC), .val (.int 0), .val (.int 3), .val (.ref b1), .val (.int 3), .unset]) rfl) ?_
    refine own_F.of (fun _ => XS.iload S4.here S4.hx rfl (S4.dec d8_14) rfl) ?_
    refine own_F.of (fun _ => XS.iloadN S4.here S4.hx rfl (S4.dec d8_16) rfl) ?_
    show own_F _ p e below _ Z _ _ _ _ _ (T4.setTop (mkF m 17 #[.val (.ref aC), .val (.int 0), .val (.int 3), .val (.ref b1), .val (.int 3), .unset] [(.int 3), (.int 3)]))
    refine own_icmp S4 57 d8_17 (by decide) (by decide) (fun (hc17_6 : (3 : Int32) = (3 : Int32)) => ?_) (fun (hc17_6 : ¬ ((3 : Int32) = (3 : Int32))) => False.elim (absurd hc17_6 (by decide)))
    show own_F _ p e below _ Z _ _ _ _ _ (T4.setTop (mkF m 57 #[.val (.ref aC), .val (.int 0), .val (.int 3), .val (.ref b1), .val (.int 3), .unset] []))
    refine own_F.of (fun _ => XS.aloadN S4.here S4.hx rfl (S4.dec d8_57) rfl rfl) ?_
    show own_F _ p e below _ Z _ _ _ _ _ (T4.setTop (mkF m 58 #[.val (.ref aC), .val (.int 0), .val (.int 3), .val (.ref b1), .val (.int 3), .unset] [(.ref b1)]))
    refine own_retA S4 rfl rfl d8_58 (by decide) (by decide) ?_
    exact ⟨_, rfl, Or.inl ⟨V5, hl4_1, hl4_2, hl4_3⟩⟩
  · show own_F _ p e below _ Z _ _ _ _ _ (T4.setTop (mkF m 12 #[.val (.ref aC), .val (.int 0), .val (.int 3), .val (.ref b1), .unset, .unset] [(.int 0)]))
    refine own_F.of (fun _ => XS.istore S4.here S4.hx rfl (S4.dec d8_12) rfl (l' := #[.val (.ref aC), .val (.int 0), .val (.int 3), .val (.ref b1), .val (.int 0), .unset]) rfl) ?_
    refine own_F.of (fun _ => XS.iload S4.here S4.hx rfl (S4.dec d8_14) rfl) ?_
    refine own_F.of (fun _ => XS.iloadN S4.here S4.hx rfl (S4.dec d8_16) rfl) ?_
    show own_F _ p e below _ Z _ _ _ _ _ (T4.setTop (mkF m 17 #[.val (.ref aC), .val (.int 0), .val (.int 3), .val (.ref b1), .val (.int 0), .unset] [(.int 3), (.int 0)]))
    refine own_icmp S4 57 d8_17 (by decide) (by decide) (fun (hc17_7 : (0 : Int32) = (3 : Int32)) => False.elim (absurd hc17_7 (by decide))) (fun (hc17_7 : ¬ ((0 : Int32) = (3 : Int32))) => ?_)
    show own_F _ p e below _ Z _ _ _ _ _ (T4.setTop (mkF m 20 #[.val (.ref aC), .val (.int 0), .val (.int 3), .val (.ref b1), .val (.int 0), .unset] []))
    refine own_F.of (fun _ => XS.aloadN S4.here S4.hx rfl (S4.dec d8_20) rfl rfl) ?_
    refine own_F.of (fun _ => XS.iloadN S4.here S4.hx rfl (S4.dec d8_21) rfl) ?_
    refine own_F.of (fun _ => XS.iloadN S4.here S4.hx rfl (S4.dec d8_22) rfl) ?_
    show own_F _ p e below _ Z _ _ _ _ _ (T4.setTop (mkF m 23 #[.val (.ref aC), .val (.int 0), .val (.int 3), .val (.ref b1), .val (.int 0), .unset] [(.int 3), (.int 0), (.ref aC)]))
    have fq8 := (fq3.keep K4 (ninS (Nat.ne_of_lt (by rw [g1]; exact (AC).lt)) nin0))
    refine own_callS S4 (y := (⟨"java/lang/StringUTF16", "toBytes", "([CII)[B"⟩ : MethodName)) (own_w hw 91 rfl) (own_w hw 92 rfl) (own_w hw 42 rfl) (own_w hw 93 rfl) (by decide) (argsL := [(.ref aC), (.int (0 : Int32)), (.int (3 : Int32))]) (rest := []) (own_toB3 l Z a0 hw aC x1 x2 x3 h4 S4.old S_as S_hi S_lo fq8) all0 (by decide +kernel : parseMethodDescriptor "([CII)[B" = some ⟨[(.array .char), .int, .int], some (.array .byte)⟩) rfl rfl rfl d8_23 (by decide) (Nat.le_of_ble_eq_true rfl) (by decide) (by decide) (fun T9 h9 v9 S9 K9 q9 => ?_)
    obtain ⟨b9, rfl, F9⟩ := q9
    have V10 : own_A Z h9 b9 .byte [(.int (own_lo x1)), (.int (own_hi x1)), (.int (own_lo x2)), (.int (own_hi x2)), (.int (own_lo x3)), (.int (own_hi x3))] := F9
    show own_F _ p e below _ Z _ _ _ _ _ (T9.setTop (mkF m 26 #[.val (.ref aC), .val (.int 0), .val (.int 3), .val (.ref b1), .val (.int 0), .unset] [(.ref b9)]))
    refine own_F.of (fun _ => XS.astore S9.here S9.hx rfl (S9.dec d8_26) rfl rfl (l' := #[.val (.ref aC), .val (.int 0), .val (.int 3), .val (.ref b1), .val (.int 0), .val (.ref b9)]) rfl) ?_
    refine own_F.of (fun _ => XS.aload S9.here S9.hx rfl (S9.dec d8_28) rfl rfl) ?_
    refine own_F.of (fun _ => XS.iload S9.here S9.hx rfl (S9.dec d8_30) rfl) ?_
    show own_F _ p e below _ Z _ _ _ _ _ (T9.setTop (mkF m 32 #[.val (.ref aC), .val (.int 0), .val (.int 3), .val (.ref b1), .val (.int 0), .val (.ref b9)] [(.int 0), (.ref b9)]))
    refine own_callS S9 (y := (⟨"java/lang/StringUTF16", "getChar", "([BI)C"⟩ : MethodName)) (own_w hw 107 rfl) (own_w hw 108 rfl) (own_w hw 42 rfl) (own_w hw 109 rfl) (by decide) (argsL := [(.ref b9), (.int (0 : Int32))]) (rest := []) (own_getC l Z a0 hw b9 [(.int (own_lo x1)), (.int (own_hi x1)), (.int (own_lo x2)), (.int (own_hi x2)), (.int (own_lo x3)), (.int (own_hi x3))] (0 : Int32) (0 : Int32) (1 : Int32) x1 h9 S9.old S_as S_hi S_lo (by decide) (by decide) (by decide) (by decide) rfl rfl cx1 V10) all0 (by decide +kernel : parseMethodDescriptor "([BI)C" = some ⟨[(.array .byte), .int], some .char⟩) rfl rfl rfl d8_32 (by decide) (Nat.le_of_ble_eq_true rfl) (by decide) (by decide) (fun T11 h11 v11 S11 K11 q11 => ?_)
    obtain ⟨rfl, rfl⟩ := q11
    show own_F _ p e below _ Z _ _ _ _ _ (T11.setTop (mkF m 35 #[.val (.ref aC), .val (.int 0), .val (.int 3), .val (.ref b1), .val (.int 0), .val (.ref b9)] [(.int x1)]))
    refine own_F.of (fun _ => XS.sipush S11.here S11.hx rfl (S11.dec d8_35)) ?_
    show own_F _ p e below _ Z _ _ _ _ _ (T11.setTop (mkF m 38 #[.val (.ref aC), .val (.int 0), .val (.int 3), .val (.ref b1), .val (.int 0), .val (.ref b9)] [(.int 255), (.int x1)]))
    refine own_icmp S11 54 d8_38 (by decide) (by decide) (fun (hc38_12 : (255 : Int32) < x1) => ?_) (fun (hc38_12 : ¬ ((255 : Int32) < x1)) => False.elim (hc38_12 hu4))
    show own_F _ p e below _ Z _ _ _ _ _ (T11.setTop (mkF m 54 #[.val (.ref aC), .val (.int 0), .val (.int 3), .val (.ref b1), .val (.int 0), .val (.ref b9)] []))
    refine own_F.of (fun _ => XS.aload S11.here S11.hx rfl (S11.dec d8_54) rfl rfl) ?_
    show own_F _ p e below _ Z _ _ _ _ _ (T11.setTop (mkF m 56 #[.val (.ref aC), .val (.int 0), .val (.int 3), .val (.ref b1), .val (.int 0), .val (.ref b9)] [(.ref b9)]))
    refine own_retA S11 rfl rfl d8_56 (by decide) (by decide) ?_
    exact ⟨_, rfl, Or.inr V10⟩
  · show own_F _ p e below _ Z _ _ _ _ _ (T4.setTop (mkF m 12 #[.val (.ref aC), .val (.int 0), .val (.int 3), .val (.ref b1), .unset, .unset] [(.int 1)]))
    refine own_F.of (fun _ => XS.istore S4.here S4.hx rfl (S4.dec d8_12) rfl (l' := #[.val (.ref aC), .val (.int 0), .val (.int 3), .val (.ref b1), .val (.int 1), .unset]) rfl) ?_
    refine own_F.of (fun _ => XS.iload S4.here S4.hx rfl (S4.dec d8_14) rfl) ?_
    refine own_F.of (fun _ => XS.iloadN S4.here S4.hx rfl (S4.dec d8_16) rfl) ?_
    show own_F _ p e below _ Z _ _ _ _ _ (T4.setTop (mkF m 17 #[.val (.ref aC), .val (.int 0), .val (.int 3), .val (.ref b1), .val (.int 1), .unset] [(.int 3), (.int 1)]))
    refine own_icmp S4 57 d8_17 (by decide) (by decide) (fun (hc17_13 : (1 : Int32) = (3 : Int32)) => False.elim (absurd hc17_13 (by decide))) (fun (hc17_13 : ¬ ((1 : Int32) = (3 : Int32))) => ?_)
    show own_F _ p e below _ Z _ _ _ _ _ (T4.setTop (mkF m 20 #[.val (.ref aC), .val (.int 0), .val (.int 3), .val (.ref b1), .val (.int 1), .unset] []))
    refine own_F.of (fun _ => XS.aloadN S4.here S4.hx rfl (S4.dec d8_20) rfl rfl) ?_
    refine own_F.of (fun _ => XS.iloadN S4.here S4.hx rfl (S4.dec d8_21) rfl) ?_
    refine own_F.of (fun _ => XS.iloadN S4.here S4.hx rfl (S4.dec d8_22) rfl) ?_
    show own_F _ p e below _ Z _ _ _ _ _ (T4.setTop (mkF m 23 #[.val (.ref aC), .val (.int 0), .val (.int 3), .val (.ref b1), .val (.int 1), .unset] [(.int 3), (.int 0), (.ref aC)]))
    have fq14 := (fq3.keep K4 (ninS (Nat.ne_of_lt (by rw [g1]; exact (AC).lt)) nin0))
    refine own_callS S4 (y := (⟨"java/lang/StringUTF16", "toBytes", "([CII)[B"⟩ : MethodName)) (own_w hw 91 rfl) (own_w hw 92 rfl) (own_w hw 42 rfl) (own_w hw 93 rfl) (by decide) (argsL := [(.ref aC), (.int (0 : Int32)), (.int (3 : Int32))]) (rest := []) (own_toB3 l Z a0 hw aC x1 x2 x3 h4 S4.old S_as S_hi S_lo fq14) all0 (by decide +kernel : parseMethodDescriptor "([CII)[B" = some ⟨[(.array .char), .int, .int], some (.array .byte)⟩) rfl rfl rfl d8_23 (by decide) (Nat.le_of_ble_eq_true rfl) (by decide) (by decide) (fun T15 h15 v15 S15 K15 q15 => ?_)
    obtain ⟨b15, rfl, F15⟩ := q15
    have V16 : own_A Z h15 b15 .byte [(.int (own_lo x1)), (.int (own_hi x1)), (.int (own_lo x2)), (.int (own_hi x2)), (.int (own_lo x3)), (.int (own_hi x3))] := F15
    show own_F _ p e below _ Z _ _ _ _ _ (T15.setTop (mkF m 26 #[.val (.ref aC), .val (.int 0), .val (.int 3), .val (.ref b1), .val (.int 1), .unset] [(.ref b15)]))
    refine own_F.of (fun _ => XS.astore S15.here S15.hx rfl (S15.dec d8_26) rfl rfl (l' := #[.val (.ref aC), .val (.int 0), .val (.int 3), .val (.ref b1), .val (.int 1), .val (.ref b15)]) rfl) ?_
    refine own_F.of (fun _ => XS.aload S15.here S15.hx rfl (S15.dec d8_28) rfl rfl) ?_
    refine own_F.of (fun _ => XS.iload S15.here S15.hx rfl (S15.dec d8_30) rfl) ?_
    show own_F _ p e below _ Z _ _ _ _ _ (T15.setTop (mkF m 32 #[.val (.ref aC), .val (.int 0), .val (.int 3), .val (.ref b1), .val (.int 1), .val (.ref b15)] [(.int 1), (.ref b15)]))
    refine own_callS S15 (y := (⟨"java/lang/StringUTF16", "getChar", "([BI)C"⟩ : MethodName)) (own_w hw 107 rfl) (own_w hw 108 rfl) (own_w hw 42 rfl) (own_w hw 109 rfl) (by decide) (argsL := [(.ref b15), (.int (1 : Int32))]) (rest := []) (own_getC l Z a0 hw b15 [(.int (own_lo x1)), (.int (own_hi x1)), (.int (own_lo x2)), (.int (own_hi x2)), (.int (own_lo x3)), (.int (own_hi x3))] (1 : Int32) (2 : Int32) (3 : Int32) x2 h15 S15.old S_as S_hi S_lo (by decide) (by decide) (by decide) (by decide) rfl rfl cx2 V16) all0 (by decide +kernel : parseMethodDescriptor "([BI)C" = some ⟨[(.array .byte), .int], some .char⟩) rfl rfl rfl d8_32 (by decide) (Nat.le_of_ble_eq_true rfl) (by decide) (by decide) (fun T17 h17 v17 S17 K17 q17 => ?_)
    obtain ⟨rfl, rfl⟩ := q17
    show own_F _ p e below _ Z _ _ _ _ _ (T17.setTop (mkF m 35 #[.val (.ref aC), .val (.int 0), .val (.int 3), .val (.ref b1), .val (.int 1), .val (.ref b15)] [(.int x2)]))
    refine own_F.of (fun _ => XS.sipush S17.here S17.hx rfl (S17.dec d8_35)) ?_
    show own_F _ p e below _ Z _ _ _ _ _ (T17.setTop (mkF m 38 #[.val (.ref aC), .val (.int 0), .val (.int 3), .val (.ref b1), .val (.int 1), .val (.ref b15)] [(.int 255), (.int x2)]))
    refine own_icmp S17 54 d8_38 (by decide) (by decide) (fun (hc38_18 : (255 : Int32) < x2) => ?_) (fun (hc38_18 : ¬ ((255 : Int32) < x2)) => False.elim (hc38_18 hu4))
    show own_F _ p e below _ Z _ _ _ _ _ (T17.setTop (mkF m 54 #[.val (.ref aC), .val (.int 0), .val (.int 3), .val (.ref b1), .val (.int 1), .val (.ref b15)] []))
    refine own_F.of (fun _ => XS.aload S17.here S17.hx rfl (S17.dec d8_54) rfl rfl) ?_
    show own_F _ p e below _ Z _ _ _ _ _ (T17.setTop (mkF m 56 #[.val (.ref aC), .val (.int 0), .val (.int 3), .val (.ref b1), .val (.int 1), .val (.ref b15)] [(.ref b15)]))
    refine own_retA S17 rfl rfl d8_56 (by decide) (by decide) ?_
    exact ⟨_, rfl, Or.inr V16⟩
  · show own_F _ p e below _ Z _ _ _ _ _ (T4.setTop (mkF m 12 #[.val (.ref aC), .val (.int 0), .val (.int 3), .val (.ref b1), .unset, .unset] [(.int 2)]))
    refine own_F.of (fun _ => XS.istore S4.here S4.hx rfl (S4.dec d8_12) rfl (l' := #[.val (.ref aC), .val (.int 0), .val (.int 3), .val (.ref b1), .val (.int 2), .unset]) rfl) ?_
    refine own_F.of (fun _ => XS.iload S4.here S4.hx rfl (S4.dec d8_14) rfl) ?_
    refine own_F.of (fun _ => XS.iloadN S4.here S4.hx rfl (S4.dec d8_16) rfl) ?_
    show own_F _ p e below _ Z _ _ _ _ _ (T4.setTop (mkF m 17 #[.val (.ref aC), .val (.int 0), .val (.int 3), .val (.ref b1), .val (.int 2), .unset] [(.int 3), (.int 2)]))
    refine own_icmp S4 57 d8_17 (by decide) (by decide) (fun (hc17_19 : (2 : Int32) = (3 : Int32)) => False.elim (absurd hc17_19 (by decide))) (fun (hc17_19 : ¬ ((2 : Int32) = (3 : Int32))) => ?_)
    show own_F _ p e below _ Z _ _ _ _ _ (T4.setTop (mkF m 20 #[.val (.ref aC), .val (.int 0), .val (.int 3), .val (.ref b1), .val (.int 2), .unset] []))
    refine own_F.of (fun _ => XS.aloadN S4.here S4.hx rfl (S4.dec d8_20) rfl rfl) ?_
    refine own_F.of (fun _ => XS.iloadN S4.here S4.hx rfl (S4.dec d8_21) rfl) ?_
    refine own_F.of (fun _ => XS.iloadN S4.here S4.hx rfl (S4.dec d8_22) rfl) ?_
    show own_F _ p e below _ Z _ _ _ _ _ (T4.setTop (mkF m 23 #[.val (.ref aC), .val (.int 0), .val (.int 3), .val (.ref b1), .val (.int 2), .unset] [(.int 3), (.int 0), (.ref aC)]))
    have fq20 := (fq3.keep K4 (ninS (Nat.ne_of_lt (by rw [g1]; exact (AC).lt)) nin0))
    refine own_callS S4 (y := (⟨"java/lang/StringUTF16", "toBytes", "([CII)[B"⟩ : MethodName)) (own_w hw 91 rfl) (own_w hw 92 rfl) (own_w hw 42 rfl) (own_w hw 93 rfl) (by decide) (argsL := [(.ref aC), (.int (0 : Int32)), (.int (3 : Int32))]) (rest := []) (own_toB3 l Z a0 hw aC x1 x2 x3 h4 S4.old S_as S_hi S_lo fq20) all0 (by decide +kernel : parseMethodDescriptor "([CII)[B" = some ⟨[(.array .char), .int, .int], some (.array .byte)⟩) rfl rfl rfl d8_23 (by decide) (Nat.le_of_ble_eq_true rfl) (by decide) (by decide) (fun T21 h21 v21 S21 K21 q21 => ?_)
    obtain ⟨b21, rfl, F21⟩ := q21
    have V22 : own_A Z h21 b21 .byte [(.int (own_lo x1)), (.int (own_hi x1)), (.int (own_lo x2)), (.int (own_hi x2)), (.int (own_lo x3)), (.int (own_hi x3))] := F21
    show own_F _ p e below _ Z _ _ _ _ _ (T21.setTop (mkF m 26 #[.val (.ref aC), .val (.int 0), .val (.int 3), .val (.ref b1), .val (.int 2), .unset] [(.ref b21)]))
    refine own_F.of (fun _ => XS.astore S21.here S21.hx rfl (S21.dec d8_26) rfl rfl (l' := #[.val (.ref aC), .val (.int 0), .val (.int 3), .val (.ref b1), .val (.int 2), .val (.ref b21)]) rfl) ?_
    refine own_F.of (fun _ => XS.aload S21.here S21.hx rfl (S21.dec d8_28) rfl rfl) ?_
    refine own_F.of (fun _ => XS.iload S21.here S21.hx rfl (S21.dec d8_30) rfl) ?_
    show own_F _ p e below _ Z _ _ _ _ _ (T21.setTop (mkF m 32 #[.val (.ref aC), .val (.int 0), .val (.int 3), .val (.ref b1), .val (.int 2), .val (.ref b21)] [(.int 2), (.ref b21)]))
    refine own_callS S21 (y := (⟨"java/lang/StringUTF16", "getChar", "([BI)C"⟩ : MethodName)) (own_w hw 107 rfl) (own_w hw 108 rfl) (own_w hw 42 rfl) (own_w hw 109 rfl) (by decide) (argsL := [(.ref b21), (.int (2 : Int32))]) (rest := []) (own_getC l Z a0 hw b21 [(.int (own_lo x1)), (.int (own_hi x1)), (.int (own_lo x2)), (.int (own_hi x2)), (.int (own_lo x3)), (.int (own_hi x3))] (2 : Int32) (4 : Int32) (5 : Int32) x3 h21 S21.old S_as S_hi S_lo (by decide) (by decide) (by decide) (by decide) rfl rfl cx3 V22) all0 (by decide +kernel : parseMethodDescriptor "([BI)C" = some ⟨[(.array .byte), .int], some .char⟩) rfl rfl rfl d8_32 (by decide) (Nat.le_of_ble_eq_true rfl) (by decide) (by decide) (fun T23 h23 v23 S23 K23 q23 => ?_)
    obtain ⟨rfl, rfl⟩ := q23
    show own_F _ p e below _ Z _ _ _ _ _ (T23.setTop (mkF m 35 #[.val (.ref aC), .val (.int 0), .val (.int 3), .val (.ref b1), .val (.int 2), .val (.ref b21)] [(.int x3)]))
    refine own_F.of (fun _ => XS.sipush S23.here S23.hx rfl (S23.dec d8_35)) ?_
    show own_F _ p e below _ Z _ _ _ _ _ (T23.setTop (mkF m 38 #[.val (.ref aC), .val (.int 0), .val (.int 3), .val (.ref b1), .val (.int 2), .val (.ref b21)] [(.int 255), (.int x3)]))
    refine own_icmp S23 54 d8_38 (by decide) (by decide) (fun (hc38_24 : (255 : Int32) < x3) => ?_) (fun (hc38_24 : ¬ ((255 : Int32) < x3)) => False.elim (hc38_24 hu4))
    show own_F _ p e below _ Z _ _ _ _ _ (T23.setTop (mkF m 54 #[.val (.ref aC), .val (.int 0), .val (.int 3), .val (.ref b1), .val (.int 2), .val (.ref b21)] []))
    refine own_F.of (fun _ => XS.aload S23.here S23.hx rfl (S23.dec d8_54) rfl rfl) ?_
    show own_F _ p e below _ Z _ _ _ _ _ (T23.setTop (mkF m 56 #[.val (.ref aC), .val (.int 0), .val (.int 3), .val (.ref b1), .val (.int 2), .val (.ref b21)] [(.ref b21)]))
    refine own_retA S23 rfl rfl d8_56 (by decide) (by decide) ?_
    exact ⟨_, rfl, Or.inr V22⟩
set_option maxRecDepth 65536 in
set_option maxHeartbeats 40000000 in
theorem own_cod3L (l : Launch) (Z : State) (a0 : Array Value) (hw : ∀ d ∈ tables_1, d.before a0 Z = true) (aB : Addr) (x1 x2 x3 : Int32) (h0 : Heap) (hO : Ext Z.heap h0) (AB : own_A Z h0 aB .byte [(.int (nar .byte (x1.toInt8.toInt32))), (.int (nar .byte (x2.toInt8.toInt32))), (.int (nar .byte (x3.toInt8.toInt32)))]) :
    own_C l Z (⟨"java/lang/StringUTF16", "coderFromArrayLen", "([BI)B"⟩ : MethodName) jdk_52_method_15_code 2 (some .byte) [] ({ frames := 0, cells := 0, slots := 0, locals := 0 } : Room) [] #[(.ref aB), (.int (3 : Int32))] h0 (fun v h => v = some (.int (0 : Int32)) ∧ h0 = h) := by
  refine own_C.of pn10 hO all0 ?_
  intro p e s m below meth c T0 S0
  refine own_F.cast (by first | (simp [entryFrame, mkF, argsToLocals, Value.category]; done) | rfl : entryFrame m #[(.ref aB), (.int (3 : Int32))] 2 = mkF m 0 #[.val (.ref aB), .val (.int (3 : Int32))] []) ?_
  show own_F _ p e below _ Z _ _ _ _ _ (T0.setTop (mkF m 0 #[.val (.ref aB), .val (.int 3)] []))
  refine own_F.of (fun _ => XS.iloadN S0.here S0.hx rfl (S0.dec d10_0) rfl) ?_
  refine own_F.of (fun _ => XS.aloadN S0.here S0.hx rfl (S0.dec d10_1) rfl rfl) ?_
  show own_F _ p e below _ Z _ _ _ _ _ (T0.setTop (mkF m 2 #[.val (.ref aB), .val (.int 3)] [(.ref aB), (.int 3)]))
  refine own_len S0 AB d10_2 ?_
  show own_F _ p e below _ Z _ _ _ _ _ (T0.setTop (mkF m 3 #[.val (.ref aB), .val (.int 3)] [(.int 3), (.int 3)]))
  refine own_F.of (fun _ => XS.isub S0.here S0.hx rfl (S0.dec d10_3) rfl) ?_
  show own_F _ p e below _ Z _ _ _ _ _ (T0.setTop (mkF m 4 #[.val (.ref aB), .val (.int 3)] [(.int 0)]))
  refine own_F.of (fun _ => XS.bipush S0.here S0.hx rfl (S0.dec d10_4)) ?_
  show own_F _ p e below _ Z _ _ _ _ _ (T0.setTop (mkF m 6 #[.val (.ref aB), .val (.int 3)] [(.int 31), (.int 0)]))
  refine own_F.of (fun _ => XS.iushr S0.here S0.hx rfl (S0.dec d10_6) rfl) ?_
  show own_F _ p e below _ Z _ _ _ _ _ (T0.setTop (mkF m 7 #[.val (.ref aB), .val (.int 3)] [(.int 0)]))
  refine own_F.of (fun _ => XS.i2b S0.here S0.hx rfl (S0.dec d10_7) rfl) ?_
  show own_F _ p e below _ Z _ _ _ _ _ (T0.setTop (mkF m 8 #[.val (.ref aB), .val (.int 3)] [(.int 0)]))
  refine own_retZ S0 (by simp) d10_8 (by decide) (by decide) ?_
  exact ⟨rfl, rfl⟩
set_option maxRecDepth 65536 in
set_option maxHeartbeats 40000000 in
theorem own_cod3U (l : Launch) (Z : State) (a0 : Array Value) (hw : ∀ d ∈ tables_1, d.before a0 Z = true) (aB : Addr) (x1 x2 x3 : Int32) (h0 : Heap) (hO : Ext Z.heap h0) (AB : own_A Z h0 aB .byte [(.int (own_lo x1)), (.int (own_hi x1)), (.int (own_lo x2)), (.int (own_hi x2)), (.int (own_lo x3)), (.int (own_hi x3))]) :
    own_C l Z (⟨"java/lang/StringUTF16", "coderFromArrayLen", "([BI)B"⟩ : MethodName) jdk_52_method_15_code 2 (some .byte) [] ({ frames := 0, cells := 0, slots := 0, locals := 0 } : Room) [] #[(.ref aB), (.int (3 : Int32))] h0 (fun v h => v = some (.int (1 : Int32)) ∧ h0 = h) := by
  refine own_C.of pn10 hO all0 ?_
  intro p e s m below meth c T0 S0
  refine own_F.cast (by first | (simp [entryFrame, mkF, argsToLocals, Value.category]; done) | rfl : entryFrame m #[(.ref aB), (.int (3 : Int32))] 2 = mkF m 0 #[.val (.ref aB), .val (.int (3 : Int32))] []) ?_
  show own_F _ p e below _ Z _ _ _ _ _ (T0.setTop (mkF m 0 #[.val (.ref aB), .val (.int 3)] []))
  refine own_F.of (fun _ => XS.iloadN S0.here S0.hx rfl (S0.dec d10_0) rfl) ?_
  refine own_F.of (fun _ => XS.aloadN S0.here S0.hx rfl (S0.dec d10_1) rfl rfl) ?_
  show own_F _ p e below _ Z _ _ _ _ _ (T0.setTop (mkF m 2 #[.val (.ref aB), .val (.int 3)] [(.ref aB), (.int 3)]))
  refine own_len S0 AB d10_2 ?_
  show own_F _ p e below _ Z _ _ _ _ _ (T0.setTop (mkF m 3 #[.val (.ref aB), .val (.int 3)] [(.int 6), (.int 3)]))
  refine own_F.of (fun _ => XS.isub S0.here S0.hx rfl (S0.dec d10_3) rfl) ?_
  show own_F _ p e below _ Z _ _ _ _ _ (T0.setTop (mkF m 4 #[.val (.ref aB), .val (.int 3)] [(.int (-3 : Int32))]))
  refine own_F.of (fun _ => XS.bipush S0.here S0.hx rfl (S0.dec d10_4)) ?_
  show own_F _ p e below _ Z _ _ _ _ _ (T0.setTop (mkF m 6 #[.val (.ref aB), .val (.int 3)] [(.int 31), (.int (-3 : Int32))]))
  refine own_F.of (fun _ => XS.iushr S0.here S0.hx rfl (S0.dec d10_6) rfl) ?_
  show own_F _ p e below _ Z _ _ _ _ _ (T0.setTop (mkF m 7 #[.val (.ref aB), .val (.int 3)] [(.int 1)]))
  refine own_F.of (fun _ => XS.i2b S0.here S0.hx rfl (S0.dec d10_7) rfl) ?_
  show own_F _ p e below _ Z _ _ _ _ _ (T0.setTop (mkF m 8 #[.val (.ref aB), .val (.int 3)] [(.int 1)]))
  refine own_retZ S0 (by simp) d10_8 (by decide) (by decide) ?_
  exact ⟨rfl, rfl⟩
set_option maxRecDepth 65536 in
set_option maxHeartbeats 40000000 in
theorem own_strV3 (l : Launch) (Z : State) (a0 : Array Value) (hw : ∀ d ∈ tables_1, d.before a0 Z = true) (a1 aC : Addr) (x1 x2 x3 : Int32) (zc : Int32) (h0 : Heap) (hO : Ext Z.heap h0) (SZ : Sta Z Z.heap "java/lang/String" "COMPACT_STRINGS" "Z" (.int zc)) (hz : ¬ zc = 0) (S_as : Sta Z Z.heap "java/lang/StringUTF16" "$assertionsDisabled" "Z" (.int 1)) (S_hi : Sta Z Z.heap "java/lang/StringUTF16" "HI_BYTE_SHIFT" "I" (.int 0)) (S_lo : Sta Z Z.heap "java/lang/StringUTF16" "LO_BYTE_SHIFT" "I" (.int 8)) (cx1 : own_isC x1) (cx2 : own_isC x2) (cx3 : own_isC x3) (ga : Z.heap.size ≤ a1) (E_a1 : Exa Z h0 a1 "java/lang/String") (F_value : Fld Z h0 a1 "java/lang/String" "value" "[B" .null) (F_coder : Fld Z h0 a1 "java/lang/String" "coder" "B" (.int 0)) (AC : own_A Z h0 aC .char [(.int x1), (.int x2), (.int x3)]) :
    own_C l Z (⟨"java/lang/String", "<init>", "([CIILjava/lang/Void;)V"⟩ : MethodName) jdk_42_method_149_code 6 none [] ({ frames := 4, cells := 2, slots := 9, locals := 57 } : Room) [a1] #[(.ref a1), (.ref aC), (.int (0 : Int32)), (.int (3 : Int32)), .null] h0 (fun v h => v = none ∧ ∃ b, Fld Z h a1 "java/lang/String" "value" "[B" (.ref b) ∧ (((Fld Z h a1 "java/lang/String" "coder" "B" (.int 0) ∧ own_A Z h b .byte [(.int (nar .byte (x1.toInt8.toInt32))), (.int (nar .byte (x2.toInt8.toInt32))), (.int (nar .byte (x3.toInt8.toInt32)))]) ∧ ¬ 255 < x1 ∧ ¬ 255 < x2 ∧ ¬ 255 < x3) ∨ (Fld Z h a1 "java/lang/String" "coder" "B" (.int 1) ∧ own_A Z h b .byte [(.int (own_lo x1)), (.int (own_hi x1)), (.int (own_lo x2)), (.int (own_hi x2)), (.int (own_lo x3)), (.int (own_hi x3))]))) := by
  refine own_C.of pn4 hO (allS ga all0) ?_
  intro p e s m below meth c T0 S0
  refine own_F.cast (by first | (simp [entryFrame, mkF, argsToLocals, Value.category]; done) | rfl : entryFrame m #[(.ref a1), (.ref aC), (.int (0 : Int32)), (.int (3 : Int32)), .null] 6 = mkF m 0 #[.val (.ref a1), .val (.ref aC), .val (.int (0 : Int32)), .val (.int (3 : Int32)), .val .null, .unset] []) ?_
  show own_F _ p e below _ Z _ _ _ _ _ (T0.setTop (mkF m 0 #[.val (.ref a1), .val (.ref aC), .val (.int 0), .val (.int 3), .val .null, .unset] []))
  refine own_F.of (fun _ => XS.aloadN S0.here S0.hx rfl (S0.dec d4_0) rfl rfl) ?_
  show own_F _ p e below _ Z _ _ _ _ _ (T0.setTop (mkF m 1 #[.val (.ref a1), .val (.ref aC), .val (.int 0), .val (.int 3), .val .null, .unset] [(.ref a1)]))
  refine own_initO S0 (own_w hw 19 rfl) (own_w hw 20 rfl) (own_w hw 21 rfl) rfl d4_1 (by decide) (Nat.le_of_ble_eq_true rfl) (fun T1 S1 => ?_)
  show own_F _ p e below _ Z _ _ _ _ _ (T1.setTop (mkF m 4 #[.val (.ref a1), .val (.ref aC), .val (.int 0), .val (.int 3), .val .null, .unset] []))
  refine own_F.of (fun _ => XS.iloadN S1.here S1.hx rfl (S1.dec d4_4) rfl) ?_
  show own_F _ p e below _ Z _ _ _ _ _ (T1.setTop (mkF m 5 #[.val (.ref a1), .val (.ref aC), .val (.int 0), .val (.int 3), .val .null, .unset] [(.int 3)]))
  refine own_if S1 27 d4_5 (by decide) (by decide) (fun (hc5_2 : ¬ ((3 : Int32) = (0 : Int32))) => ?_) (fun (hc5_2 : (3 : Int32) = (0 : Int32)) => False.elim (absurd hc5_2 (by decide)))
  show own_F _ p e below _ Z _ _ _ _ _ (T1.setTop (mkF m 27 #[.val (.ref a1), .val (.ref aC), .val (.int 0), .val (.int 3), .val .null, .unset] []))
  refine own_getS S1 (host := "") (Or.inl (own_w hw 39 rfl)) Via.refl (SZ.ext S1.old) d4_27 (fun T3 S3 => ?_)
  show own_F _ p e below _ Z _ _ _ _ _ (T3.setTop (mkF m 30 #[.val (.ref a1), .val (.ref aC), .val (.int 0), .val (.int 3), .val .null, .unset] [(.int zc)]))
  refine own_if S3 58 d4_30 (by decide) (by decide) (fun (hc30_4 : zc = (0 : Int32)) => False.elim (hz hc30_4)) (fun (hc30_4 : ¬ (zc = (0 : Int32))) => ?_)
  show own_F _ p e below _ Z _ _ _ _ _ (T3.setTop (mkF m 33 #[.val (.ref a1), .val (.ref aC), .val (.int 0), .val (.int 3), .val .null, .unset] []))
  refine own_F.of (fun _ => XS.aloadN S3.here S3.hx rfl (S3.dec d4_33) rfl rfl) ?_
  refine own_F.of (fun _ => XS.iloadN S3.here S3.hx rfl (S3.dec d4_34) rfl) ?_
  refine own_F.of (fun _ => XS.iloadN S3.here S3.hx rfl (S3.dec d4_35) rfl) ?_
  show own_F _ p e below _ Z _ _ _ _ _ (T3.setTop (mkF m 36 #[.val (.ref a1), .val (.ref aC), .val (.int 0), .val (.int 3), .val .null, .unset] [(.int 3), (.int 0), (.ref aC)]))
  refine own_callS S3 (y := (⟨"java/lang/StringUTF16", "compress", "([CII)[B"⟩ : MethodName)) (own_w hw 40 rfl) (own_w hw 41 rfl) (own_w hw 42 rfl) (own_w hw 43 rfl) (by decide) (argsL := [(.ref aC), (.int (0 : Int32)), (.int (3 : Int32))]) (rest := []) (own_cmp3 l Z a0 hw aC x1 x2 x3 h0 S3.old S_as S_hi S_lo cx1 cx2 cx3 AC) all0 (by decide +kernel : parseMethodDescriptor "([CII)[B" = some ⟨[(.array .char), .int, .int], some (.array .byte)⟩) rfl rfl rfl d4_36 (by decide) (Nat.le_of_ble_eq_true rfl) (by decide) (by decide) (fun T5 h5 v5 S5 K5 q5 => ?_)
  obtain ⟨b5, rfl, ⟨F5, hl5⟩ | F5⟩ := q5
  · have V6 : own_A Z h5 b5 .byte [(.int (nar .byte (x1.toInt8.toInt32))), (.int (nar .byte (x2.toInt8.toInt32))), (.int (nar .byte (x3.toInt8.toInt32)))] := F5
    have fq7 := (E_a1.keep K5)
    have nB5 := own_neA fq7 (own_w hw 9 rfl) F5
    show own_F _ p e below _ Z _ _ _ _ _ (T5.setTop (mkF m 39 #[.val (.ref a1), .val (.ref aC), .val (.int 0), .val (.int 3), .val .null, .unset] [(.ref b5)]))
    refine own_F.of (fun _ => XS.astore S5.here S5.hx rfl (S5.dec d4_39) rfl rfl (l' := #[.val (.ref a1), .val (.ref aC), .val (.int 0), .val (.int 3), .val .null, .val (.ref b5)]) rfl) ?_
    refine own_F.of (fun _ => XS.aloadN S5.here S5.hx rfl (S5.dec d4_41) rfl rfl) ?_
    refine own_F.of (fun _ => XS.aload S5.here S5.hx rfl (S5.dec d4_42) rfl rfl) ?_
    refine own_F.of (fun _ => XS.iloadN S5.here S5.hx rfl (S5.dec d4_44) rfl) ?_
    show own_F _ p e below _ Z _ _ _ _ _ (T5.setTop (mkF m 45 #[.val (.ref a1), .val (.ref aC), .val (.int 0), .val (.int 3), .val .null, .val (.ref b5)] [(.int 3), (.ref b5), (.ref a1)]))
    refine own_callS S5 (y := (⟨"java/lang/StringUTF16", "coderFromArrayLen", "([BI)B"⟩ : MethodName)) (own_w hw 47 rfl) (own_w hw 48 rfl) (own_w hw 42 rfl) (own_w hw 49 rfl) (by decide) (argsL := [(.ref b5), (.int (3 : Int32))]) (rest := [(.ref a1)]) (own_cod3L l Z a0 hw b5 x1 x2 x3 h5 S5.old V6) all0 (by decide +kernel : parseMethodDescriptor "([BI)B" = some ⟨[(.array .byte), .int], some .byte⟩) rfl rfl rfl d4_45 (by decide) (Nat.le_of_ble_eq_true rfl) (by decide) (by decide) (fun T8 h8 v8 S8 K8 q8 => ?_)
    obtain ⟨rfl, rfl⟩ := q8
    show own_F _ p e below _ Z _ _ _ _ _ (T8.setTop (mkF m 48 #[.val (.ref a1), .val (.ref aC), .val (.int 0), .val (.int 3), .val .null, .val (.ref b5)] [(.int 0), (.ref a1)]))
    have fq9 := (F_coder.keep K5 nin0)
    refine own_putF S8 (host := "") (Or.inl (own_w hw 29 rfl)) Via.refl fq9 fq7 (Or.inr ⟨(own_w hw 25 rfl), rfl, rfl⟩) (own_w hw 9 rfl) (ty := .byte) (by decide) rfl rfl d4_48 (Or.inl (List.mem_of_getElem? (i := 0) rfl)) (fun T10 h10 S10 W10 => ?_)
    have Fw10 := fq9.same W10
    show own_F _ p e below _ Z _ _ _ _ _ (T10.setTop (mkF m 51 #[.val (.ref a1), .val (.ref aC), .val (.int 0), .val (.int 3), .val .null, .val (.ref b5)] []))
    refine own_F.of (fun _ => XS.aloadN S10.here S10.hx rfl (S10.dec d4_51) rfl rfl) ?_
    refine own_F.of (fun _ => XS.aload S10.here S10.hx rfl (S10.dec d4_52) rfl rfl) ?_
    show own_F _ p e below _ Z _ _ _ _ _ (T10.setTop (mkF m 54 #[.val (.ref a1), .val (.ref aC), .val (.int 0), .val (.int 3), .val .null, .val (.ref b5)] [(.ref b5), (.ref a1)]))
    have fq11 := ((F_value.keep K5 nin0).other W10 (Or.inr (slot_ne (C := "java/lang/String") (Or.inr (own_w hw 24 rfl)) (Or.inr (own_w hw 25 rfl)) (by decide) (t := (.array .byte)) (t' := .byte) (by decide) (by decide))))
    have fq12 := (fq7.wr W10)
    refine own_putF S10 (host := "") (Or.inl (own_w hw 28 rfl)) Via.refl fq11 fq12 (Or.inr ⟨(own_w hw 24 rfl), rfl, rfl⟩) (own_w hw 9 rfl) (ty := (.array .byte)) (by decide) rfl rfl d4_54 (Or.inl (List.mem_of_getElem? (i := 0) rfl)) (fun T13 h13 S13 W13 => ?_)
    have Fw13 := fq11.same W13
    show own_F _ p e below _ Z _ _ _ _ _ (T13.setTop (mkF m 57 #[.val (.ref a1), .val (.ref aC), .val (.int 0), .val (.int 3), .val .null, .val (.ref b5)] []))
    have fq14 := (Fw10.other W13 (Or.inr (slot_ne (C := "java/lang/String") (Or.inr (own_w hw 25 rfl)) (Or.inr (own_w hw 24 rfl)) (by decide) (t := .byte) (t' := (.array .byte)) (by decide) (by decide))))
    have fq15 := ((V6.other W10 (Ne.symm nB5)).other W13 (Ne.symm nB5))
    refine own_retV S13 d4_57 (by decide) (by decide) ?_
    exact ⟨rfl, _, Fw13, Or.inl ⟨⟨fq14, fq15⟩, hl5⟩⟩
  · have V16 : own_A Z h5 b5 .byte [(.int (own_lo x1)), (.int (own_hi x1)), (.int (own_lo x2)), (.int (own_hi x2)), (.int (own_lo x3)), (.int (own_hi x3))] := F5
    have fq17 := (E_a1.keep K5)
    have nB5 := own_neA fq17 (own_w hw 9 rfl) F5
    show own_F _ p e below _ Z _ _ _ _ _ (T5.setTop (mkF m 39 #[.val (.ref a1), .val (.ref aC), .val (.int 0), .val (.int 3), .val .null, .unset] [(.ref b5)]))
    refine own_F.of (fun _ => XS.astore S5.here S5.hx rfl (S5.dec d4_39) rfl rfl (l' := #[.val (.ref a1), .val (.ref aC), .val (.int 0), .val (.int 3), .val .null, .val (.ref b5)]) rfl) ?_
    refine own_F.of (fun _ => XS.aloadN S5.here S5.hx rfl (S5.dec d4_41) rfl rfl) ?_
    refine own_F.of (fun _ => XS.aload S5.here S5.hx rfl (S5.dec d4_42) rfl rfl) ?_
    refine own_F.of (fun _ => XS.iloadN S5.here S5.hx rfl (S5.dec d4_44) rfl) ?_
    show own_F _ p e below _ Z _ _ _ _ _ (T5.setTop (mkF m 45 #[.val (.ref a1), .val (.ref aC), .val (.int 0), .val (.int 3), .val .null, .val (.ref b5)] [(.int 3), (.ref b5), (.ref a1)]))
    refine own_callS S5 (y := (⟨"java/lang/StringUTF16", "coderFromArrayLen", "([BI)B"⟩ : MethodName)) (own_w hw 47 rfl) (own_w hw 48 rfl) (own_w hw 42 rfl) (own_w hw 49 rfl) (by decide) (argsL := [(.ref b5), (.int (3 : Int32))]) (rest := [(.ref a1)]) (own_cod3U l Z a0 hw b5 x1 x2 x3 h5 S5.old V16) all0 (by decide +kernel : parseMethodDescriptor "([BI)B" = some ⟨[(.array .byte), .int], some .byte⟩) rfl rfl rfl d4_45 (by decide) (Nat.le_of_ble_eq_true rfl) (by decide) (by decide) (fun T18 h18 v18 S18 K18 q18 => ?_)
    obtain ⟨rfl, rfl⟩ := q18
    show own_F _ p e below _ Z _ _ _ _ _ (T18.setTop (mkF m 48 #[.val (.ref a1), .val (.ref aC), .val (.int 0), .val (.int 3), .val .null, .val (.ref b5)] [(.int 1), (.ref a1)]))
    have fq19 := (F_coder.keep K5 nin0)
    refine own_putF S18 (host := "") (Or.inl (own_w hw 29 rfl)) Via.refl fq19 fq17 (Or.inr ⟨(own_w hw 25 rfl), rfl, rfl⟩) (own_w hw 9 rfl) (ty := .byte) (by decide) rfl rfl d4_48 (Or.inl (List.mem_of_getElem? (i := 0) rfl)) (fun T20 h20 S20 W20 => ?_)
    have Fw20 := fq19.same W20
    show own_F _ p e below _ Z _ _ _ _ _ (T20.setTop (mkF m 51 #[.val (.ref a1), .val (.ref aC), .val (.int 0), .val (.int 3), .val .null, .val (.ref b5)] []))
    refine own_F.of (fun _ => XS.aloadN S20.here S20.hx rfl (S20.dec d4_51) rfl rfl) ?_
    refine own_F.of (fun _ => XS.aload S20.here S20.hx rfl (S20.dec d4_52) rfl rfl) ?_
    show own_F _ p e below _ Z _ _ _ _ _ (T20.setTop (mkF m 54 #[.val (.ref a1), .val (.ref aC), .val (.int 0), .val (.int 3), .val .null, .val (.ref b5)] [(.ref b5), (.ref a1)]))
    have fq21 := ((F_value.keep K5 nin0).other W20 (Or.inr (slot_ne (C := "java/lang/String") (Or.inr (own_w hw 24 rfl)) (Or.inr (own_w hw 25 rfl)) (by decide) (t := (.array .byte)) (t' := .byte) (by decide) (by decide))))
    have fq22 := (fq17.wr W20)
    refine own_putF S20 (host := "") (Or.inl (own_w hw 28 rfl)) Via.refl fq21 fq22 (Or.inr ⟨(own_w hw 24 rfl), rfl, rfl⟩) (own_w hw 9 rfl) (ty := (.array .byte)) (by decide) rfl rfl d4_54 (Or.inl (List.mem_of_getElem? (i := 0) rfl)) (fun T23 h23 S23 W23 => ?_)
    have Fw23 := fq21.same W23
    show own_F _ p e below _ Z _ _ _ _ _ (T23.setTop (mkF m 57 #[.val (.ref a1), .val (.ref aC), .val (.int 0), .val (.int 3), .val .null, .val (.ref b5)] []))
    have fq24 := (Fw20.other W23 (Or.inr (slot_ne (C := "java/lang/String") (Or.inr (own_w hw 25 rfl)) (Or.inr (own_w hw 24 rfl)) (by decide) (t := .byte) (t' := (.array .byte)) (by decide) (by decide))))
    have fq25 := ((V16.other W20 (Ne.symm nB5)).other W23 (Ne.symm nB5))
    refine own_retV S23 d4_57 (by decide) (by decide) ?_
    exact ⟨rfl, _, Fw23, Or.inr ⟨fq24, fq25⟩⟩
set_option maxRecDepth 65536 in
set_option maxHeartbeats 40000000 in
theorem own_strC3 (l : Launch) (Z : State) (a0 : Array Value) (hw : ∀ d ∈ tables_1, d.before a0 Z = true) (a1 aC : Addr) (x1 x2 x3 : Int32) (zc : Int32) (h0 : Heap) (hO : Ext Z.heap h0) (SZ : Sta Z Z.heap "java/lang/String" "COMPACT_STRINGS" "Z" (.int zc)) (hz : ¬ zc = 0) (S_as : Sta Z Z.heap "java/lang/StringUTF16" "$assertionsDisabled" "Z" (.int 1)) (S_hi : Sta Z Z.heap "java/lang/StringUTF16" "HI_BYTE_SHIFT" "I" (.int 0)) (S_lo : Sta Z Z.heap "java/lang/StringUTF16" "LO_BYTE_SHIFT" "I" (.int 8)) (cx1 : own_isC x1) (cx2 : own_isC x2) (cx3 : own_isC x3) (ga : Z.heap.size ≤ a1) (E_a1 : Exa Z h0 a1 "java/lang/String") (F_value : Fld Z h0 a1 "java/lang/String" "value" "[B" .null) (F_coder : Fld Z h0 a1 "java/lang/String" "coder" "B" (.int 0)) (AC : own_A Z h0 aC .char [(.int x1), (.int x2), (.int x3)]) :
    own_C l Z (⟨"java/lang/String", "<init>", "([C)V"⟩ : MethodName) jdk_42_method_3_code 2 none [] ({ frames := 5, cells := 2, slots := 9, locals := 74 } : Room) [a1] #[(.ref a1), (.ref aC)] h0 (fun v h => v = none ∧ ∃ b, Fld Z h a1 "java/lang/String" "value" "[B" (.ref b) ∧ (((Fld Z h a1 "java/lang/String" "coder" "B" (.int 0) ∧ own_A Z h b .byte [(.int (nar .byte (x1.toInt8.toInt32))), (.int (nar .byte (x2.toInt8.toInt32))), (.int (nar .byte (x3.toInt8.toInt32)))]) ∧ ¬ 255 < x1 ∧ ¬ 255 < x2 ∧ ¬ 255 < x3) ∨ (Fld Z h a1 "java/lang/String" "coder" "B" (.int 1) ∧ own_A Z h b .byte [(.int (own_lo x1)), (.int (own_hi x1)), (.int (own_lo x2)), (.int (own_hi x2)), (.int (own_lo x3)), (.int (own_hi x3))]))) := by
  refine own_C.of pn3 hO (allS ga all0) ?_
  intro p e s m below meth c T0 S0
  refine own_F.cast (by first | (simp [entryFrame, mkF, argsToLocals, Value.category]; done) | rfl : entryFrame m #[(.ref a1), (.ref aC)] 2 = mkF m 0 #[.val (.ref a1), .val (.ref aC)] []) ?_
  show own_F _ p e below _ Z _ _ _ _ _ (T0.setTop (mkF m 0 #[.val (.ref a1), .val (.ref aC)] []))
  refine own_F.of (fun _ => XS.aloadN S0.here S0.hx rfl (S0.dec d3_0) rfl rfl) ?_
  refine own_F.of (fun _ => XS.aloadN S0.here S0.hx rfl (S0.dec d3_1) rfl rfl) ?_
  refine own_F.of (fun _ => XS.iconst S0.here S0.hx rfl (S0.dec d3_2)) ?_
  refine own_F.of (fun _ => XS.aloadN S0.here S0.hx rfl (S0.dec d3_3) rfl rfl) ?_
  show own_F _ p e below _ Z _ _ _ _ _ (T0.setTop (mkF m 4 #[.val (.ref a1), .val (.ref aC)] [(.ref aC), (.int 0), (.ref aC), (.ref a1)]))
  refine own_len S0 AC d3_4 ?_
  show own_F _ p e below _ Z _ _ _ _ _ (T0.setTop (mkF m 5 #[.val (.ref a1), .val (.ref aC)] [(.int 3), (.int 0), (.ref aC), (.ref a1)]))
  refine own_F.of (fun _ => XS.aconstNull S0.here S0.hx rfl (S0.dec d3_5)) ?_
  show own_F _ p e below _ Z _ _ _ _ _ (T0.setTop (mkF m 6 #[.val (.ref a1), .val (.ref aC)] [.null, (.int 3), (.int 0), (.ref aC), (.ref a1)]))
  refine own_callI S0 (y := (⟨"java/lang/String", "<init>", "([CIILjava/lang/Void;)V"⟩ : MethodName)) rfl (own_w hw 15 rfl) (own_w hw 16 rfl) (own_w hw 10 rfl) (own_w hw 18 rfl) (by decide) (argsL := [(.ref aC), (.int (0 : Int32)), (.int (3 : Int32)), .null]) (rest := []) (own_strV3 l Z a0 hw a1 aC x1 x2 x3 zc h0 S0.old SZ hz S_as S_hi S_lo cx1 cx2 cx3 ga E_a1 F_value F_coder AC) (allS (Or.inl (List.mem_of_getElem? (i := 0) rfl)) all0) (by decide +kernel : parseMethodDescriptor "([CIILjava/lang/Void;)V" = some ⟨[(.array .char), .int, .int, (.object "java/lang/Void")], none⟩) rfl rfl rfl d3_6 (by decide) (Nat.le_of_ble_eq_true rfl) (by decide) (by decide) (fun T1 h1 v1 S1 K1 q1 => ?_)
  obtain ⟨rfl, F1⟩ := q1
  show own_F _ p e below _ Z _ _ _ _ _ (T1.setTop (mkF m 9 #[.val (.ref a1), .val (.ref aC)] []))
  refine own_retV S1 d3_9 (by decide) (by decide) ?_
  exact ⟨rfl, F1⟩
set_option maxRecDepth 65536 in
set_option maxHeartbeats 40000000 in
theorem own_nbl4 (l : Launch) (Z : State) (a0 : Array Value) (hw : ∀ d ∈ tables_1, d.before a0 Z = true)  (h0 : Heap) (hO : Ext Z.heap h0) :
    own_C l Z (⟨"java/lang/StringUTF16", "newBytesLength", "(I)I"⟩ : MethodName) jdk_52_method_3_code 1 (some .int) [] ({ frames := 0, cells := 0, slots := 0, locals := 0 } : Room) [] #[(.int (4 : Int32))] h0 (fun v h => v = some (.int (8 : Int32)) ∧ h0 = h) := by
  refine own_C.of pn22 hO all0 ?_
  intro p e s m below meth c T0 S0
  refine own_F.cast (by first | (simp [entryFrame, mkF, argsToLocals, Value.category]; done) | rfl : entryFrame m #[(.int (4 : Int32))] 1 = mkF m 0 #[.val (.int (4 : Int32))] []) ?_
  show own_F _ p e below _ Z _ _ _ _ _ (T0.setTop (mkF m 0 #[.val (.int 4)] []))
  refine own_F.of (fun _ => XS.iloadN S0.here S0.hx rfl (S0.dec d22_0) rfl) ?_
  show own_F _ p e below _ Z _ _ _ _ _ (T0.setTop (mkF m 1 #[.val (.int 4)] [(.int 4)]))
  refine own_if S0 12 d22_1 (by decide) (by decide) (fun (hc1_1 : ¬ ((4 : Int32) < (0 : Int32))) => ?_) (fun (hc1_1 : (4 : Int32) < (0 : Int32)) => False.elim (absurd hc1_1 (by decide)))
  show own_F _ p e below _ Z _ _ _ _ _ (T0.setTop (mkF m 12 #[.val (.int 4)] []))
  refine own_F.of (fun _ => XS.iloadN S0.here S0.hx rfl (S0.dec d22_12) rfl) ?_
  show own_F _ p e below _ Z _ _ _ _ _ (T0.setTop (mkF m 13 #[.val (.int 4)] [(.int 4)]))
  refine own_ldcI S0 (own_w hw 100 rfl) d22_13 ?_
  show own_F _ p e below _ Z _ _ _ _ _ (T0.setTop (mkF m 15 #[.val (.int 4)] [(.int 1073741823), (.int 4)]))
  refine own_icmp S0 55 d22_15 (by decide) (by decide) (fun (hc15_2 : (4 : Int32) < (1073741823 : Int32)) => ?_) (fun (hc15_2 : ¬ ((4 : Int32) < (1073741823 : Int32))) => False.elim (absurd hc15_2 (by decide)))
  show own_F _ p e below _ Z _ _ _ _ _ (T0.setTop (mkF m 55 #[.val (.int 4)] []))
  refine own_F.of (fun _ => XS.iloadN S0.here S0.hx rfl (S0.dec d22_55) rfl) ?_
  refine own_F.of (fun _ => XS.iconst S0.here S0.hx rfl (S0.dec d22_56)) ?_
  show own_F _ p e below _ Z _ _ _ _ _ (T0.setTop (mkF m 57 #[.val (.int 4)] [(.int 1), (.int 4)]))
  refine own_F.of (fun _ => XS.ishl S0.here S0.hx rfl (S0.dec d22_57) rfl) ?_
  show own_F _ p e below _ Z _ _ _ _ _ (T0.setTop (mkF m 58 #[.val (.int 4)] [(.int 8)]))
  refine own_retI S0 d22_58 (by decide) (by decide) ?_
  exact ⟨rfl, rfl⟩
set_option maxRecDepth 65536 in
set_option maxHeartbeats 40000000 in
theorem own_nbf4 (l : Launch) (Z : State) (a0 : Array Value) (hw : ∀ d ∈ tables_1, d.before a0 Z = true)  (h0 : Heap) (hO : Ext Z.heap h0) :
    own_C l Z (⟨"java/lang/StringUTF16", "newBytesFor", "(I)[B"⟩ : MethodName) jdk_52_method_2_code 1 (some (.array .byte)) [] ({ frames := 1, cells := 1, slots := 8, locals := 12 } : Room) [] #[(.int (4 : Int32))] h0 (fun v h => ∃ b, v = some (.ref b) ∧ h0.size ≤ b ∧ own_A Z h b .byte [(.int (0 : Int32)), (.int (0 : Int32)), (.int (0 : Int32)), (.int (0 : Int32)), (.int (0 : Int32)), (.int (0 : Int32)), (.int (0 : Int32)), (.int (0 : Int32))]) := by
  refine own_C.of pn21 hO all0 ?_
  intro p e s m below meth c T0 S0
  refine own_F.cast (by first | (simp [entryFrame, mkF, argsToLocals, Value.category]; done) | rfl : entryFrame m #[(.int (4 : Int32))] 1 = mkF m 0 #[.val (.int (4 : Int32))] []) ?_
  show own_F _ p e below _ Z _ _ _ _ _ (T0.setTop (mkF m 0 #[.val (.int 4)] []))
  refine own_F.of (fun _ => XS.iloadN S0.here S0.hx rfl (S0.dec d21_0) rfl) ?_
  show own_F _ p e below _ Z _ _ _ _ _ (T0.setTop (mkF m 1 #[.val (.int 4)] [(.int 4)]))
  refine own_callS S0 (y := (⟨"java/lang/StringUTF16", "newBytesLength", "(I)I"⟩ : MethodName)) (own_w hw 97 rfl) (own_w hw 98 rfl) (own_w hw 42 rfl) (own_w hw 99 rfl) (by decide) (argsL := [(.int (4 : Int32))]) (rest := []) (own_nbl4 l Z a0 hw h0 S0.old) all0 (by decide +kernel : parseMethodDescriptor "(I)I" = some ⟨[.int], some .int⟩) rfl rfl rfl d21_1 (by decide) (Nat.le_of_ble_eq_true rfl) (by decide) (by decide) (fun T1 h1 v1 S1 K1 q1 => ?_)
  obtain ⟨rfl, rfl⟩ := q1
  show own_F _ p e below _ Z _ _ _ _ _ (T1.setTop (mkF m 4 #[.val (.int 4)] [(.int 8)]))
  refine own_newP S1 (own_w hw 23 rfl) d21_4 (by decide) (cap := 8) (by decide) (by decide) (by decide) (by decide) (fun T2 h2 b2 g2 S2 E2 A2 => ?_)
  have V3 : own_A Z h2 b2 .byte [(.int (0 : Int32)), (.int (0 : Int32)), (.int (0 : Int32)), (.int (0 : Int32)), (.int (0 : Int32)), (.int (0 : Int32)), (.int (0 : Int32)), (.int (0 : Int32))] := A2
  show own_F _ p e below _ Z _ _ _ _ _ (T2.setTop (mkF m 6 #[.val (.int 4)] [(.ref b2)]))
  refine own_retA S2 rfl rfl d21_6 (by decide) (by decide) ?_
  exact ⟨_, rfl, (Nat.le_of_eq g2.symm), V3⟩
set_option maxRecDepth 65536 in
set_option maxHeartbeats 40000000 in
theorem own_toB4 (l : Launch) (Z : State) (a0 : Array Value) (hw : ∀ d ∈ tables_1, d.before a0 Z = true) (aC : Addr) (x1 x2 x3 x4 : Int32) (h0 : Heap) (hO : Ext Z.heap h0) (S_as : Sta Z Z.heap "java/lang/StringUTF16" "$assertionsDisabled" "Z" (.int 1)) (S_hi : Sta Z Z.heap "java/lang/StringUTF16" "HI_BYTE_SHIFT" "I" (.int 0)) (S_lo : Sta Z Z.heap "java/lang/StringUTF16" "LO_BYTE_SHIFT" "I" (.int 8)) (AC : own_A Z h0 aC .char [(.int x1), (.int x2), (.int x3), (.int x4)]) :
    own_C l Z (⟨"java/lang/StringUTF16", "toBytes", "([CII)[B"⟩ : MethodName) jdk_52_method_14_code 5 (some (.array .byte)) [] ({ frames := 2, cells := 1, slots := 8, locals := 24 } : Room) [] #[(.ref aC), (.int (0 : Int32)), (.int (4 : Int32))] h0 (fun v h => ∃ b, v = some (.ref b) ∧ own_A Z h b .byte [(.int (own_lo x1)), (.int (own_hi x1)), (.int (own_lo x2)), (.int (own_hi x2)), (.int (own_lo x3)), (.int (own_hi x3)), (.int (own_lo x4)), (.int (own_hi x4))]) := by
  refine own_C.of pn20 hO all0 ?_
  intro p e s m below meth c T0 S0
  refine own_F.cast (by first | (simp [entryFrame, mkF, argsToLocals, Value.category]; done) | rfl : entryFrame m #[(.ref aC), (.int (0 : Int32)), (.int (4 : Int32))] 5 = mkF m 0 #[.val (.ref aC), .val (.int (0 : Int32)), .val (.int (4 : Int32)), .unset, .unset] []) ?_
  show own_F _ p e below _ Z _ _ _ _ _ (T0.setTop (mkF m 0 #[.val (.ref aC), .val (.int 0), .val (.int 4), .unset, .unset] []))
  refine own_F.of (fun _ => XS.iloadN S0.here S0.hx rfl (S0.dec d20_0) rfl) ?_
  show own_F _ p e below _ Z _ _ _ _ _ (T0.setTop (mkF m 1 #[.val (.ref aC), .val (.int 0), .val (.int 4), .unset, .unset] [(.int 4)]))
  refine own_callS S0 (y := (⟨"java/lang/StringUTF16", "newBytesFor", "(I)[B"⟩ : MethodName)) (own_w hw 94 rfl) (own_w hw 95 rfl) (own_w hw 42 rfl) (own_w hw 96 rfl) (by decide) (argsL := [(.int (4 : Int32))]) (rest := []) (own_nbf4 l Z a0 hw h0 S0.old) all0 (by decide +kernel : parseMethodDescriptor "(I)[B" = some ⟨[.int], some (.array .byte)⟩) rfl rfl rfl d20_1 (by decide) (Nat.le_of_ble_eq_true rfl) (by decide) (by decide) (fun T1 h1 v1 S1 K1 q1 => ?_)
  obtain ⟨b1, rfl, g1, F1⟩ := q1
  have V2 : own_A Z h1 b1 .byte [(.int (0 : Int32)), (.int (0 : Int32)), (.int (0 : Int32)), (.int (0 : Int32)), (.int (0 : Int32)), (.int (0 : Int32)), (.int (0 : Int32)), (.int (0 : Int32))] := F1
  show own_F _ p e below _ Z _ _ _ _ _ (T1.setTop (mkF m 4 #[.val (.ref aC), .val (.int 0), .val (.int 4), .unset, .unset] [(.ref b1)]))
  refine own_F.of (fun _ => XS.astoreN S1.here S1.hx rfl (S1.dec d20_4) rfl rfl (l' := #[.val (.ref aC), .val (.int 0), .val (.int 4), .val (.ref b1), .unset]) rfl) ?_
  refine own_F.of (fun _ => XS.iconst S1.here S1.hx rfl (S1.dec d20_5)) ?_
  show own_F _ p e below _ Z _ _ _ _ _ (T1.setTop (mkF m 6 #[.val (.ref aC), .val (.int 0), .val (.int 4), .val (.ref b1), .unset] [(.int 0)]))
  refine own_F.of (fun _ => XS.istore S1.here S1.hx rfl (S1.dec d20_6) rfl (l' := #[.val (.ref aC), .val (.int 0), .val (.int 4), .val (.ref b1), .val (.int 0)]) rfl) ?_
  refine own_F.of (fun _ => XS.iload S1.here S1.hx rfl (S1.dec d20_8) rfl) ?_
  refine own_F.of (fun _ => XS.iloadN S1.here S1.hx rfl (S1.dec d20_10) rfl) ?_
  show own_F _ p e below _ Z _ _ _ _ _ (T1.setTop (mkF m 11 #[.val (.ref aC), .val (.int 0), .val (.int 4), .val (.ref b1), .val (.int 0)] [(.int 4), (.int 0)]))
  refine own_icmp S1 32 d20_11 (by decide) (by decide) (fun (hc11_3 : ¬ ((0 : Int32) < (4 : Int32))) => False.elim (absurd hc11_3 (by decide))) (fun (hc11_3 : (0 : Int32) < (4 : Int32)) => ?_)
  show own_F _ p e below _ Z _ _ _ _ _ (T1.setTop (mkF m 14 #[.val (.ref aC), .val (.int 0), .val (.int 4), .val (.ref b1), .val (.int 0)] []))
  refine own_F.of (fun _ => XS.aloadN S1.here S1.hx rfl (S1.dec d20_14) rfl rfl) ?_
  refine own_F.of (fun _ => XS.iload S1.here S1.hx rfl (S1.dec d20_15) rfl) ?_
  refine own_F.of (fun _ => XS.aloadN S1.here S1.hx rfl (S1.dec d20_17) rfl rfl) ?_
  refine own_F.of (fun _ => XS.iloadN S1.here S1.hx rfl (S1.dec d20_18) rfl) ?_
  show own_F _ p e below _ Z _ _ _ _ _ (T1.setTop (mkF m 19 #[.val (.ref aC), .val (.int 0), .val (.int 4), .val (.ref b1), .val (.int 0)] [(.int 0), (.ref aC), (.int 0), (.ref b1)]))
  have fq4 := (AC.keep K1 nin0)
  refine own_cald S1 fq4 (by decide) rfl d20_19 ?_
  show own_F _ p e below _ Z _ _ _ _ _ (T1.setTop (mkF m 20 #[.val (.ref aC), .val (.int 0), .val (.int 4), .val (.ref b1), .val (.int 0)] [(.int x1), (.int 0), (.ref b1)]))
  refine own_callS S1 (y := (⟨"java/lang/StringUTF16", "putChar", "([BII)V"⟩ : MethodName)) (own_w hw 101 rfl) (own_w hw 102 rfl) (own_w hw 42 rfl) (own_w hw 103 rfl) (by decide) (argsL := [(.ref b1), (.int (0 : Int32)), (.int x1)]) (rest := []) (own_putC l Z a0 hw b1 [(.int (0 : Int32)), (.int (0 : Int32)), (.int (0 : Int32)), (.int (0 : Int32)), (.int (0 : Int32)), (.int (0 : Int32)), (.int (0 : Int32)), (.int (0 : Int32))] (0 : Int32) (0 : Int32) (1 : Int32) x1 h1 S1.old S_as S_hi S_lo (by decide) (by decide) (by decide) (by decide) (Nat.le_of_ble_eq_true rfl) (Nat.le_of_ble_eq_true rfl) (own_mayN S1 (Or.inr g1)) V2) (allS (Or.inr g1) all0) (by decide +kernel : parseMethodDescriptor "([BII)V" = some ⟨[(.array .byte), .int, .int], none⟩) rfl rfl rfl d20_20 (by decide) (Nat.le_of_ble_eq_true rfl) (by decide) (by decide) (fun T5 h5 v5 S5 K5 q5 => ?_)
  obtain ⟨rfl, F5⟩ := q5
  have V6 : own_A Z h5 b1 .byte [(.int (own_lo x1)), (.int (own_hi x1)), (.int (0 : Int32)), (.int (0 : Int32)), (.int (0 : Int32)), (.int (0 : Int32)), (.int (0 : Int32)), (.int (0 : Int32))] := F5
  show own_F _ p e below _ Z _ _ _ _ _ (T5.setTop (mkF m 23 #[.val (.ref aC), .val (.int 0), .val (.int 4), .val (.ref b1), .val (.int 0)] []))
  refine own_F.of (fun _ => XS.iinc S5.here S5.hx rfl (S5.dec d20_23) rfl (l' := #[.val (.ref aC), .val (.int 1), .val (.int 4), .val (.ref b1), .val (.int 0)]) rfl) ?_
  show own_F _ p e below _ Z _ _ _ _ _ (T5.setTop (mkF m 26 #[.val (.ref aC), .val (.int 1), .val (.int 4), .val (.ref b1), .val (.int 0)] []))
  refine own_F.of (fun _ => XS.iinc S5.here S5.hx rfl (S5.dec d20_26) rfl (l' := #[.val (.ref aC), .val (.int 1), .val (.int 4), .val (.ref b1), .val (.int 1)]) rfl) ?_
  show own_F _ p e below _ Z _ _ _ _ _ (T5.setTop (mkF m 29 #[.val (.ref aC), .val (.int 1), .val (.int 4), .val (.ref b1), .val (.int 1)] []))
  refine own_F.of (fun _ => XS.goto S5.here S5.hx rfl (pc0 := 29) (pc' := 8) rfl (S5.dec d20_29) (by decide) (by decide)) ?_
  show own_F _ p e below _ Z _ _ _ _ _ (T5.setTop (mkF m 8 #[.val (.ref aC), .val (.int 1), .val (.int 4), .val (.ref b1), .val (.int 1)] []))
  refine own_F.of (fun _ => XS.iload S5.here S5.hx rfl (S5.dec d20_8) rfl) ?_
  refine own_F.of (fun _ => XS.iloadN S5.here S5.hx rfl (S5.dec d20_10) rfl) ?_
  show own_F _ p e below _ Z _ _ _ _ _ (T5.setTop (mkF m 11 #[.val (.ref aC), .val (.int 1), .val (.int 4), .val (.ref b1), .val (.int 1)] [(.int 4), (.int 1)]))
  refine own_icmp S5 32 d20_11 (by decide) (by decide) (fun (hc11_7 : ¬ ((1 : Int32) < (4 : Int32))) => False.elim (absurd hc11_7 (by decide))) (fun (hc11_7 : (1 : Int32) < (4 : Int32)) => ?_)
  show own_F _ p e below _ Z _ _ _ _ _ (T5.setTop (mkF m 14 #[.val (.ref aC), .val (.int 1), .val (.int 4), .val (.ref b1), .val (.int 1)] []))
  refine own_F.of (fun _ => XS.aloadN S5.here S5.hx rfl (S5.dec d20_14) rfl rfl) ?_
  refine own_F.of (fun _ => XS.iload S5.here S5.hx rfl (S5.dec d20_15) rfl) ?_
  refine own_F.of (fun _ => XS.aloadN S5.here S5.hx rfl (S5.dec d20_17) rfl rfl) ?_
  refine own_F.of (fun _ => XS.iloadN S5.here S5.hx rfl (S5.dec d20_18) rfl) ?_
  show own_F _ p e below _ Z _ _ _ _ _ (T5.setTop (mkF m 19 #[.val (.ref aC), .val (.int 1), .val (.int 4), .val (.ref b1), .val (.int 1)] [(.int 1), (.ref aC), (.int 1), (.ref b1)]))
  have fq8 := (fq4.keep K5 (ninS (Nat.ne_of_lt (Nat.lt_of_lt_of_le AC.lt g1)) nin0))
  refine own_cald S5 fq8 (by decide) rfl d20_19 ?_
  show own_F _ p e below _ Z _ _ _ _ _ (T5.setTop (mkF m 20 #[.val (.ref aC), .val (.int 1), .val (.int 4), .val (.ref b1), .val (.int 1)] [(.int x2), (.int 1), (.ref b1)]))
  refine own_callS S5 (y := (⟨"java/lang/StringUTF16", "putChar", "([BII)V"⟩ : MethodName)) (own_w hw 101 rfl) (own_w hw 102 rfl) (own_w hw 42 rfl) (own_w hw 103 rfl) (by decide) (argsL := [(.ref b1), (.int (1 : Int32)), (.int x2)]) (rest := []) (own_putC l Z a0 hw b1 [(.int (own_lo x1)), (.int (own_hi x1)), (.int (0 : Int32)), (.int (0 : Int32)), (.int (0 : Int32)), (.int (0 : Int32)), (.int (0 : Int32)), (.int (0 : Int32))] (1 : Int32) (2 : Int32) (3 : Int32) x2 h5 S5.old S_as S_hi S_lo (by decide) (by decide) (by decide) (by decide) (Nat.le_of_ble_eq_true rfl) (Nat.le_of_ble_eq_true rfl) (own_mayN S5 (Or.inr g1)) V6) (allS (Or.inr g1) all0) (by decide +kernel : parseMethodDescriptor "([BII)V" = some ⟨[(.array .byte), .int, .int], none⟩) rfl rfl rfl d20_20 (by decide) (Nat.le_of_ble_eq_true rfl) (by decide) (by decide) (fun T9 h9 v9 S9 K9 q9 => ?_)
  obtain ⟨rfl, F9⟩ := q9
  have V10 : own_A Z h9 b1 .byte [(.int (own_lo x1)), (.int (own_hi x1)), (.int (own_lo x2)), (.int (own_hi x2)), (.int (0 : Int32)), (.int (0 : Int32)), (.int (0 : Int32)), (.int (0 : Int32))] := F9
  show own_F _ p e below _ Z _ _ _ _ _ (T9.setTop (mkF m 23 #[.val (.ref aC), .val (.int 1), .val (.int 4), .val (.ref b1), .val (.int 1)] []))
  refine own_F.of (fun _ => XS.iinc S9.here S9.hx rfl (S9.dec d20_23) rfl (l' := #[.val (.ref aC), .val (.int 2), .val (.int 4), .val (.ref b1), .val (.int 1)]) rfl) ?_
  show own_F _ p e below _ Z _ _ _ _ _ (T9.setTop (mkF m 26 #[.val (.ref aC), .val (.int 2), .val (.int 4), .val (.ref b1), .val (.int 1)] []))
  refine own_F.of (fun _ => XS.iinc S9.here S9.hx rfl (S9.dec d20_26) rfl (l' := #[.val (.ref aC), .val (.int 2), .val (.int 4), .val (.ref b1), .val (.int 2)]) rfl) ?_
  show own_F _ p e below _ Z _ _ _ _ _ (T9.setTop (mkF m 29 #[.val (.ref aC), .val (.int 2), .val (.int 4), .val (.ref b1), .val (.int 2)] []))
  refine own_F.of (fun _ => XS.goto S9.here S9.hx rfl (pc0 := 29) (pc' := 8) rfl (S9.dec d20_29) (by decide) (by decide)) ?_
  show own_F _ p e below _ Z _ _ _ _ _ (T9.setTop (mkF m 8 #[.val (.ref aC), .val (.int 2), .val (.int 4), .val (.ref b1), .val (.int 2)] []))
  refine own_F.of (fun _ => XS.iload S9.here S9.hx rfl (S9.dec d20_8) rfl) ?_
  refine own_F.of (fun _ => XS.iloadN S9.here S9.hx rfl (S9.dec d20_10) rfl) ?_
  show own_F _ p e below _ Z _ _ _ _ _ (T9.setTop (mkF m 11 #[.val (.ref aC), .val (.int 2), .val (.int 4), .val (.ref b1), .val (.int 2)] [(.int 4), (.int 2)]))
  refine own_icmp S9 32 d20_11 (by decide) (by decide) (fun (hc11_11 : ¬ ((2 : Int32) < (4 : Int32))) => False.elim (absurd hc11_11 (by decide))) (fun (hc11_11 : (2 : Int32) < (4 : Int32)) => ?_)
  show own_F _ p e below _ Z _ _ _ _ _ (T9.setTop (mkF m 14 #[.val (.ref aC), .val (.int 2), .val (.int 4), .val (.ref b1), .val (.int 2)] []))
  refine own_F.of (fun _ => XS.aloadN S9.here S9.hx rfl (S9.dec d20_14) rfl rfl) ?_
  refine own_F.of (fun _ => XS.iload S9.here S9.hx rfl (S9.dec d20_15) rfl) ?_
  refine own_F.of (fun _ => XS.aloadN S9.here S9.hx rfl (S9.dec d20_17) rfl rfl) ?_
  refine own_F.of (fun _ => XS.iloadN S9.here S9.hx rfl (S9.dec d20_18) rfl) ?_
  show own_F _ p e below _ Z _ _ _ _ _ (T9.setTop (mkF m 19 #[.val (.ref aC), .val (.int 2), .val (.int 4), .val (.ref b1), .val (.int 2)] [(.int 2), (.ref aC), (.int 2), (.ref b1)]))
  have fq12 := (fq8.keep K9 (ninS (Nat.ne_of_lt (Nat.lt_of_lt_of_le AC.lt g1)) nin0))
  refine own_cald S9 fq12 (by decide) rfl d20_19 ?_
  show own_F _ p e below _ Z _ _ _ _ _ (T9.setTop (mkF m 20 #[.val (.ref aC), .val (.int 2), .val (.int 4), .val (.ref b1), .val (.int 2)] [(.int x3), (.int 2), (.ref b1)]))
  refine own_callS S9 (y := (⟨"java/lang/StringUTF16", "putChar", "([BII)V"⟩ : MethodName)) (own_w hw 101 rfl) (own_w hw 102 rfl) (own_w hw 42 rfl) (own_w hw 103 rfl) (by decide) (argsL := [(.ref b1), (.int (2 : Int32)), (.int x3)]) (rest := []) (own_putC l Z a0 hw b1 [(.int (own_lo x1)), (.int (own_hi x1)), (.int (own_lo x2)), (.int (own_hi x2)), (.int (0 : Int32)), (.int (0 : Int32)), (.int (0 : Int32)), (.int (0 : Int32))] (2 : Int32) (4 : Int32) (5 : Int32) x3 h9 S9.old S_as S_hi S_lo (by decide) (by decide) (by decide) (by decide) (Nat.le_of_ble_eq_true rfl) (Nat.le_of_ble_eq_true rfl) (own_mayN S9 (Or.inr g1)) V10) (allS (Or.inr g1) all0) (by decide +kernel : parseMethodDescriptor "([BII)V" = some ⟨[(.array .byte), .int, .int], none⟩) rfl rfl rfl d20_20 (by decide) (Nat.le_of_ble_eq_true rfl) (by decide) (by decide) (fun T13 h13 v13 S13 K13 q13 => ?_)
  obtain ⟨rfl, F13⟩ := q13
  have V14 : own_A Z h13 b1 .byte [(.int (own_lo x1)), (.int (own_hi x1)), (.int (own_lo x2)), (.int (own_hi x2)), (.int (own_lo x3)), (.int (own_hi x3)), (.int (0 : Int32)), (.int (0 : Int32))] := F13
  show own_F _ p e below _ Z _ _ _ _ _ (T13.setTop (mkF m 23 #[.val (.ref aC), .val (.int 2), .val (.int 4), .val (.ref b1), .val (.int 2)] []))
  refine own_F.of (fun _ => XS.iinc S13.here S13.hx rfl (S13.dec d20_23) rfl (l' := #[.val (.ref aC), .val (.int 3), .val (.int 4), .val (.ref b1), .val (.int 2)]) rfl) ?_
  show own_F _ p e below _ Z _ _ _ _ _ (T13.setTop (mkF m 26 #[.val (.ref aC), .val (.int 3), .val (.int 4), .val (.ref b1), .val (.int 2)] []))
  refine own_F.of (fun _ => XS.iinc S13.here S13.hx rfl (S13.dec d20_26) rfl (l' := #[.val (.ref aC), .val (.int 3), .val (.int 4), .val (.ref b1), .val (.int 3)]) rfl) ?_
  show own_F _ p e below _ Z _ _ _ _ _ (T13.setTop (mkF m 29 #[.val (.ref aC), .val (.int 3), .val (.int 4), .val (.ref b1), .val (.int 3)] []))
  refine own_F.of (fun _ => XS.goto S13.here S13.hx rfl (pc0 := 29) (pc' := 8) rfl (S13.dec d20_29) (by decide) (by decide)) ?_
  show own_F _ p e below _ Z _ _ _ _ _ (T13.setTop (mkF m 8 #[.val (.ref aC), .val (.int 3), .val (.int 4), .val (.ref b1), .val (.int 3)] []))
  refine own_F.of (fun _ => XS.iload S13.here S13.hx rfl (S13.dec d20_8) rfl) ?_
  refine own_F.of (fun _ => XS.iloadN S13.here S13.hx rfl (S13.dec d20_10) rfl) ?_
  show own_F _ p e below _ Z _ _ _ _ _ (T13.setTop (mkF m 11 #[.val (.ref aC), .val (.int 3), .val (.int 4), .val (.ref b1), .val (.int 3)] [(.int 4), (.int 3)]))
  refine own_icmp S13 32 d20_11 (by decide) (by decide) (fun (hc11_15 : ¬ ((3 : Int32) < (4 : Int32))) => False.elim (absurd hc11_15 (by decide))) (fun (hc11_15 : (3 : Int32) < (4 : Int32)) => ?_)
  show own_F _ p e below _ Z _ _ _ _ _ (T13.setTop (mkF m 14 #[.val (.ref aC), .val (.int 3), .val (.int 4), .val (.ref b1), .val (.int 3)] []))
  refine own_F.of (fun _ => XS.aloadN S13.here S13.hx rfl (S13.dec d20_14) rfl rfl) ?_
  refine own_F.of (fun _ => XS.iload S13.here S13.hx rfl (S13.dec d20_15) rfl) ?_
  refine own_F.of (fun _ => XS.aloadN S13.here S13.hx rfl (S13.dec d20_17) rfl rfl) ?_
  refine own_F.of (fun _ => XS.iloadN S13.here S13.hx rfl (S13.dec d20_18) rfl) ?_
  show own_F _ p e below _ Z _ _ _ _ _ (T13.setTop (mkF m 19 #[.val (.ref aC), .val (.int 3), .val (.int 4), .val (.ref b1), .val (.int 3)] [(.int 3), (.ref aC), (.int 3), (.ref b1)]))
  have fq16 := (fq12.keep K13 (ninS (Nat.ne_of_lt (Nat.lt_of_lt_of_le AC.lt g1)) nin0))
  refine own_cald S13 fq16 (by decide) rfl d20_19 ?_
  show own_F _ p e below _ Z _ _ _ _ _ (T13.setTop (mkF m 20 #[.val (.ref aC), .val (.int 3), .val (.int 4), .val (.ref b1), .val (.int 3)] [(.int x4), (.int 3), (.ref b1)]))
  refine own_callS S13 (y := (⟨"java/lang/StringUTF16", "putChar", "([BII)V"⟩ : MethodName)) (own_w hw 101 rfl) (own_w hw 102 rfl) (own_w hw 42 rfl) (own_w hw 103 rfl) (by decide) (argsL := [(.ref b1), (.int (3 : Int32)), (.int x4)]) (rest := []) (own_putC l Z a0 hw b1 [(.int (own_lo x1)), (.int (own_hi x1)), (.int (own_lo x2)), (.int (own_hi x2)), (.int (own_lo x3)), (.int (own_hi x3)), (.int (0 : Int32)), (.int (0 : Int32))] (3 : Int32) (6 : Int32) (7 : Int32) x4 h13 S13.old S_as S_hi S_lo (by decide) (by decide) (by decide) (by decide) (Nat.le_of_ble_eq_true rfl) (Nat.le_of_ble_eq_true rfl) (own_mayN S13 (Or.inr g1)) V14) (allS (Or.inr g1) all0) (by decide +kernel : parseMethodDescriptor "([BII)V" = some ⟨[(.array .byte), .int, .int], none⟩) rfl rfl rfl d20_20 (by decide) (Nat.le_of_ble_eq_true rfl) (by decide) (by decide) (fun T17 h17 v17 S17 K17 q17 => ?_)
  obtain ⟨rfl, F17⟩ := q17
  have V18 : own_A Z h17 b1 .byte [(.int (own_lo x1)), (.int (own_hi x1)), (.int (own_lo x2)), (.int (own_hi x2)), (.int (own_lo x3)), (.int (own_hi x3)), (.int (own_lo x4)), (.int (own_hi x4))] := F17
  show own_F _ p e below _ Z _ _ _ _ _ (T17.setTop (mkF m 23 #[.val (.ref aC), .val (.int 3), .val (.int 4), .val (.ref b1), .val (.int 3)] []))
  refine own_F.of (fun _ => XS.iinc S17.here S17.hx rfl (S17.dec d20_23) rfl (l' := #[.val (.ref aC), .val (.int 4), .val (.int 4), .val (.ref b1), .val (.int 3)]) rfl) ?_
  show own_F _ p e below _ Z _ _ _ _ _ (T17.setTop (mkF m 26 #[.val (.ref aC), .val (.int 4), .val (.int 4), .val (.ref b1), .val (.int 3)] []))
  refine own_F.of (fun _ => XS.iinc S17.here S17.hx rfl (S17.dec d20_26) rfl (l' := #[.val (.ref aC), .val (.int 4), .val (.int 4), .val (.ref b1), .val (.int 4)]) rfl) ?_
  show own_F _ p e below _ Z _ _ _ _ _ (T17.setTop (mkF m 29 #[.val (.ref aC), .val (.int 4), .val (.int 4), .val (.ref b1), .val (.int 4)] []))
  refine own_F.of (fun _ => XS.goto S17.here S17.hx rfl (pc0 := 29) (pc' := 8) rfl (S17.dec d20_29) (by decide) (by decide)) ?_
  show own_F _ p e below _ Z _ _ _ _ _ (T17.setTop (mkF m 8 #[.val (.ref aC), .val (.int 4), .val (.int 4), .val (.ref b1), .val (.int 4)] []))
  refine own_F.of (fun _ => XS.iload S17.here S17.hx rfl (S17.dec d20_8) rfl) ?_
  refine own_F.of (fun _ => XS.iloadN S17.here S17.hx rfl (S17.dec d20_10) rfl) ?_
  show own_F _ p e below _ Z _ _ _ _ _ (T17.setTop (mkF m 11 #[.val (.ref aC), .val (.int 4), .val (.int 4), .val (.ref b1), .val (.int 4)] [(.int 4), (.int 4)]))
  refine own_icmp S17 32 d20_11 (by decide) (by decide) (fun (hc11_19 : ¬ ((4 : Int32) < (4 : Int32))) => ?_) (fun (hc11_19 : (4 : Int32) < (4 : Int32)) => False.elim (absurd hc11_19 (by decide)))
  show own_F _ p e below _ Z _ _ _ _ _ (T17.setTop (mkF m 32 #[.val (.ref aC), .val (.int 4), .val (.int 4), .val (.ref b1), .val (.int 4)] []))
  refine own_F.of (fun _ => XS.aloadN S17.here S17.hx rfl (S17.dec d20_32) rfl rfl) ?_
  show own_F _ p e below _ Z _ _ _ _ _ (T17.setTop (mkF m 33 #[.val (.ref aC), .val (.int 4), .val (.int 4), .val (.ref b1), .val (.int 4)] [(.ref b1)]))
  refine own_retA S17 rfl rfl d20_33 (by decide) (by decide) ?_
  exact ⟨_, rfl, V18⟩
set_option maxRecDepth 65536 in
set_option maxHeartbeats 40000000 in
theorem own_cmpI4 (l : Launch) (Z : State) (a0 : Array Value) (hw : ∀ d ∈ tables_1, d.before a0 Z = true) (aC aB : Addr) (x1 x2 x3 x4 : Int32) (h0 : Heap) (hO : Ext Z.heap h0) (AC : own_A Z h0 aC .char [(.int x1), (.int x2), (.int x3), (.int x4)]) (AB : own_A Z h0 aB .byte [(.int (0 : Int32)), (.int (0 : Int32)), (.int (0 : Int32)), (.int (0 : Int32))]) (gB : Z.heap.size ≤ aB) (nCB : aC ≠ aB) :
    own_C l Z (⟨"java/lang/StringUTF16", "compress", "([CI[BII)I"⟩ : MethodName) jdk_52_method_21_code 7 (some .int) [] ({ frames := 0, cells := 0, slots := 0, locals := 0 } : Room) [aB] #[(.ref aC), (.int (0 : Int32)), (.ref aB), (.int (0 : Int32)), (.int (4 : Int32))] h0 (fun v h => (v = some (.int (4 : Int32)) ∧ own_A Z h aB .byte [(.int (nar .byte (x1.toInt8.toInt32))), (.int (nar .byte (x2.toInt8.toInt32))), (.int (nar .byte (x3.toInt8.toInt32))), (.int (nar .byte (x4.toInt8.toInt32)))] ∧ ¬ 255 < x1 ∧ ¬ 255 < x2 ∧ ¬ 255 < x3 ∧ ¬ 255 < x4) ∨ (v = some (.int (0 : Int32)) ∧ 255 < x1) ∨ (v = some (.int (1 : Int32)) ∧ 255 < x2) ∨ (v = some (.int (2 : Int32)) ∧ 255 < x3) ∨ (v = some (.int (3 : Int32)) ∧ 255 < x4)) := by
  refine own_C.of pn9 hO (allS gB all0) ?_
  intro p e s m below meth c T0 S0
  refine own_F.cast (by first | (simp [entryFrame, mkF, argsToLocals, Value.category]; done) | rfl : entryFrame m #[(.ref aC), (.int (0 : Int32)), (.ref aB), (.int (0 : Int32)), (.int (4 : Int32))] 7 = mkF m 0 #[.val (.ref aC), .val (.int (0 : Int32)), .val (.ref aB), .val (.int (0 : Int32)), .val (.int (4 : Int32)), .unset, .unset] []) ?_
  show own_F _ p e below _ Z _ _ _ _ _ (T0.setTop (mkF m 0 #[.val (.ref aC), .val (.int 0), .val (.ref aB), .val (.int 0), .val (.int 4), .unset, .unset] []))
  refine own_F.of (fun _ => XS.iconst S0.here S0.hx rfl (S0.dec d9_0)) ?_
  show own_F _ p e below _ Z _ _ _ _ _ (T0.setTop (mkF m 1 #[.val (.ref aC), .val (.int 0), .val (.ref aB), .val (.int 0), .val (.int 4), .unset, .unset] [(.int 0)]))
  refine own_F.of (fun _ => XS.istore S0.here S0.hx rfl (S0.dec d9_1) rfl (l' := #[.val (.ref aC), .val (.int 0), .val (.ref aB), .val (.int 0), .val (.int 4), .val (.int 0), .unset]) rfl) ?_
  refine own_F.of (fun _ => XS.iload S0.here S0.hx rfl (S0.dec d9_3) rfl) ?_
  refine own_F.of (fun _ => XS.iload S0.here S0.hx rfl (S0.dec d9_5) rfl) ?_
  show own_F _ p e below _ Z _ _ _ _ _ (T0.setTop (mkF m 7 #[.val (.ref aC), .val (.int 0), .val (.ref aB), .val (.int 0), .val (.int 4), .val (.int 0), .unset] [(.int 4), (.int 0)]))
  refine own_icmp S0 44 d9_7 (by decide) (by decide) (fun (hc7_1 : ¬ ((0 : Int32) < (4 : Int32))) => False.elim (absurd hc7_1 (by decide))) (fun (hc7_1 : (0 : Int32) < (4 : Int32)) => ?_)
  show own_F _ p e below _ Z _ _ _ _ _ (T0.setTop (mkF m 10 #[.val (.ref aC), .val (.int 0), .val (.ref aB), .val (.int 0), .val (.int 4), .val (.int 0), .unset] []))
  refine own_F.of (fun _ => XS.aloadN S0.here S0.hx rfl (S0.dec d9_10) rfl rfl) ?_
  refine own_F.of (fun _ => XS.iloadN S0.here S0.hx rfl (S0.dec d9_11) rfl) ?_
  show own_F _ p e below _ Z _ _ _ _ _ (T0.setTop (mkF m 12 #[.val (.ref aC), .val (.int 0), .val (.ref aB), .val (.int 0), .val (.int 4), .val (.int 0), .unset] [(.int 0), (.ref aC)]))
  refine own_cald S0 AC (by decide) rfl d9_12 ?_
  show own_F _ p e below _ Z _ _ _ _ _ (T0.setTop (mkF m 13 #[.val (.ref aC), .val (.int 0), .val (.ref aB), .val (.int 0), .val (.int 4), .val (.int 0), .unset] [(.int x1)]))
  refine own_F.of (fun _ => XS.istore S0.here S0.hx rfl (S0.dec d9_13) rfl (l' := #[.val (.ref aC), .val (.int 0), .val (.ref aB), .val (.int 0), .val (.int 4), .val (.int 0), .val (.int x1)]) rfl) ?_
  refine own_F.of (fun _ => XS.iload S0.here S0.hx rfl (S0.dec d9_15) rfl) ?_
  refine own_F.of (fun _ => XS.sipush S0.here S0.hx rfl (S0.dec d9_17)) ?_
  show own_F _ p e below _ Z _ _ _ _ _ (T0.setTop (mkF m 20 #[.val (.ref aC), .val (.int 0), .val (.ref aB), .val (.int 0), .val (.int 4), .val (.int 0), .val (.int x1)] [(.int 255), (.int x1)]))
  refine own_icmp S0 26 d9_20 (by decide) (by decide) (fun (hc20_2 : ¬ ((255 : Int32) < x1)) => ?_) (fun (hc20_2 : (255 : Int32) < x1) => ?_)
  · show own_F _ p e below _ Z _ _ _ _ _ (T0.setTop (mkF m 26 #[.val (.ref aC), .val (.int 0), .val (.ref aB), .val (.int 0), .val (.int 4), .val (.int 0), .val (.int x1)] []))
    refine own_F.of (fun _ => XS.aloadN S0.here S0.hx rfl (S0.dec d9_26) rfl rfl) ?_
    refine own_F.of (fun _ => XS.iloadN S0.here S0.hx rfl (S0.dec d9_27) rfl) ?_
    refine own_F.of (fun _ => XS.iload S0.here S0.hx rfl (S0.dec d9_28) rfl) ?_
    show own_F _ p e below _ Z _ _ _ _ _ (T0.setTop (mkF m 30 #[.val (.ref aC), .val (.int 0), .val (.ref aB), .val (.int 0), .val (.int 4), .val (.int 0), .val (.int x1)] [(.int x1), (.int 0), (.ref aB)]))
    refine own_F.of (fun _ => XS.i2b S0.here S0.hx rfl (S0.dec d9_30) rfl) ?_
    show own_F _ p e below _ Z _ _ _ _ _ (T0.setTop (mkF m 31 #[.val (.ref aC), .val (.int 0), .val (.ref aB), .val (.int 0), .val (.int 4), .val (.int 0), .val (.int x1)] [(.int (x1.toInt8.toInt32)), (.int 0), (.ref aB)]))
    refine own_bst S0 AB (by decide) (Nat.le_of_ble_eq_true rfl) d9_31 (Or.inl (List.mem_of_getElem? (i := 0) rfl)) (fun T3 h3 S3 W3 A3 => ?_)
    have V4 : own_A Z h3 aB .byte [(.int (nar .byte (x1.toInt8.toInt32))), (.int (0 : Int32)), (.int (0 : Int32)), (.int (0 : Int32))] := A3
    show own_F _ p e below _ Z _ _ _ _ _ (T3.setTop (mkF m 32 #[.val (.ref aC), .val (.int 0), .val (.ref aB), .val (.int 0), .val (.int 4), .val (.int 0), .val (.int x1)] []))
    refine own_F.of (fun _ => XS.iinc S3.here S3.hx rfl (S3.dec d9_32) rfl (l' := #[.val (.ref aC), .val (.int 1), .val (.ref aB), .val (.int 0), .val (.int 4), .val (.int 0), .val (.int x1)]) rfl) ?_
    show own_F _ p e below _ Z _ _ _ _ _ (T3.setTop (mkF m 35 #[.val (.ref aC), .val (.int 1), .val (.ref aB), .val (.int 0), .val (.int 4), .val (.int 0), .val (.int x1)] []))
    refine own_F.of (fun _ => XS.iinc S3.here S3.hx rfl (S3.dec d9_35) rfl (l' := #[.val (.ref aC), .val (.int 1), .val (.ref aB), .val (.int 1), .val (.int 4), .val (.int 0), .val (.int x1)]) rfl) ?_
    show own_F _ p e below _ Z _ _ _ _ _ (T3.setTop (mkF m 38 #[.val (.ref aC), .val (.int 1), .val (.ref aB), .val (.int 1), .val (.int 4), .val (.int 0), .val (.int x1)] []))
    refine own_F.of (fun _ => XS.iinc S3.here S3.hx rfl (S3.dec d9_38) rfl (l' := #[.val (.ref aC), .val (.int 1), .val (.ref aB), .val (.int 1), .val (.int 4), .val (.int 1), .val (.int x1)]) rfl) ?_
    show own_F _ p e below _ Z _ _ _ _ _ (T3.setTop (mkF m 41 #[.val (.ref aC), .val (.int 1), .val (.ref aB), .val (.int 1), .val (.int 4), .val (.int 1), .val (.int x1)] []))
    refine own_F.of (fun _ => XS.goto S3.here S3.hx rfl (pc0 := 41) (pc' := 3) rfl (S3.dec d9_41) (by decide) (by decide)) ?_
    show own_F _ p e below _ Z _ _ _ _ _ (T3.setTop (mkF m 3 #[.val (.ref aC), .val (.int 1), .val (.ref aB), .val (.int 1), .val (.int 4), .val (.int 1), .val (.int x1)] []))
    refine own_F.of (fun _ => XS.iload S3.here S3.hx rfl (S3.dec d9_3) rfl) ?_
    refine own_F.of (fun _ => XS.iload S3.here S3.hx rfl (S3.dec d9_5) rfl) ?_
    show own_F _ p e below _ Z _ _ _ _ _ (T3.setTop (mkF m 7 #[.val (.ref aC), .val (.int 1), .val (.ref aB), .val (.int 1), .val (.int 4), .val (.int 1), .val (.int x1)] [(.int 4), (.int 1)]))
    refine own_icmp S3 44 d9_7 (by decide) (by decide) (fun (hc7_5 : ¬ ((1 : Int32) < (4 : Int32))) => False.elim (absurd hc7_5 (by decide))) (fun (hc7_5 : (1 : Int32) < (4 : Int32)) => ?_)
    show own_F _ p e below _ Z _ _ _ _ _ (T3.setTop (mkF m 10 #[.val (.ref aC), .val (.int 1), .val (.ref aB), .val (.int 1), .val (.int 4), .val (.int 1), .val (.int x1)] []))
    refine own_F.of (fun _ => XS.aloadN S3.here S3.hx rfl (S3.dec d9_10) rfl rfl) ?_
    refine own_F.of (fun _ => XS.iloadN S3.here S3.hx rfl (S3.dec d9_11) rfl) ?_
    show own_F _ p e below _ Z _ _ _ _ _ (T3.setTop (mkF m 12 #[.val (.ref aC), .val (.int 1), .val (.ref aB), .val (.int 1), .val (.int 4), .val (.int 1), .val (.int x1)] [(.int 1), (.ref aC)]))
    have fq6 := (AC.other W3 nCB)
    refine own_cald S3 fq6 (by decide) rfl d9_12 ?_
    show own_F _ p e below _ Z _ _ _ _ _ (T3.setTop (mkF m 13 #[.val (.ref aC), .val (.int 1), .val (.ref aB), .val (.int 1), .val (.int 4), .val (.int 1), .val (.int x1)] [(.int x2)]))
    refine own_F.of (fun _ => XS.istore S3.here S3.hx rfl (S3.dec d9_13) rfl (l' := #[.val (.ref aC), .val (.int 1), .val (.ref aB), .val (.int 1), .val (.int 4), .val (.int 1), .val (.int x2)]) rfl) ?_
    refine own_F.of (fun _ => XS.iload S3.here S3.hx rfl (S3.dec d9_15) rfl) ?_
    refine own_F.of (fun _ => XS.sipush S3.here S3.hx rfl (S3.dec d9_17)) ?_
    show own_F _ p e below _ Z _ _ _ _ _ (T3.setTop (mkF m 20 #[.val (.ref aC), .val (.int 1), .val (.ref aB), .val (.int 1), .val (.int 4), .val (.int 1), .val (.int x2)] [(.int 255), (.int x2)]))
    refine own_icmp S3 26 d9_20 (by decide) (by decide) (fun (hc20_7 : ¬ ((255 : Int32) < x2)) => ?_) (fun (hc20_7 : (255 : Int32) < x2) => ?_)
    · show own_F _ p e below _ Z _ _ _ _ _ (T3.setTop (mkF m 26 #[.val (.ref aC), .val (.int 1), .val (.ref aB), .val (.int 1), .val (.int 4), .val (.int 1), .val (.int x2)] []))
      refine own_F.of (fun _ => XS.aloadN S3.here S3.hx rfl (S3.dec d9_26) rfl rfl) ?_
      refine own_F.of (fun _ => XS.iloadN S3.here S3.hx rfl (S3.dec d9_27) rfl) ?_
      refine own_F.of (fun _ => XS.iload S3.here S3.hx rfl (S3.dec d9_28) rfl) ?_
      show own_F _ p e below _ Z _ _ _ _ _ (T3.setTop (mkF m 30 #[.val (.ref aC), .val (.int 1), .val (.ref aB), .val (.int 1), .val (.int 4), .val (.int 1), .val (.int x2)] [(.int x2), (.int 1), (.ref aB)]))
      refine own_F.of (fun _ => XS.i2b S3.here S3.hx rfl (S3.dec d9_30) rfl) ?_
      show own_F _ p e below _ Z _ _ _ _ _ (T3.setTop (mkF m 31 #[.val (.ref aC), .val (.int 1), .val (.ref aB), .val (.int 1), .val (.int 4), .val (.int 1), .val (.int x2)] [(.int (x2.toInt8.toInt32)), (.int 1), (.ref aB)]))
      refine own_bst S3 V4 (by decide) (Nat.le_of_ble_eq_true rfl) d9_31 (Or.inl (List.mem_of_getElem? (i := 0) rfl)) (fun T8 h8 S8 W8 A8 => ?_)
      have V9 : own_A Z h8 aB .byte [(.int (nar .byte (x1.toInt8.toInt32))), (.int (nar .byte (x2.toInt8.toInt32))), (.int (0 : Int32)), (.int (0 : Int32))] := A8
      show own_F _ p e below _ Z _ _ _ _ _ (T8.setTop (mkF m 32 #[.val (.ref aC), .val (.int 1), .val (.ref aB), .val (.int 1), .val (.int 4), .val (.int 1), .val (.int x2)] []))
      refine own_F.of (fun _ => XS.iinc S8.here S8.hx rfl (S8.dec d9_32) rfl (l' := #[.val (.ref aC), .val (.int 2), .val (.ref aB), .val (.int 1), .val (.int 4), .val (.int 1), .val (.int x2)]) rfl) ?_
      show own_F _ p e below _ Z _ _ _ _ _ (T8.setTop (mkF m 35 #[.val (.ref aC), .val (.int 2), .val (.ref aB), .val (.int 1), .val (.int 4), .val (.int 1), .val (.int x2)] []))
      refine own_F.of (fun _ => XS.iinc S8.here S8.hx rfl (S8.dec d9_35) rfl (l' := #[.val (.ref aC), .val (.int 2), .val (.ref aB), .val (.int 2), .val (.int 4), .val (.int 1), .val (.int x2)]) rfl) ?_
      show own_F _ p e below _ Z _ _ _ _ _ (T8.setTop (mkF m 38 #[.val (.ref aC), .val (.int 2), .val (.ref aB), .val (.int 2), .val (.int 4), .val (.int 1), .val (.int x2)] []))
      refine own_F.of (fun _ => XS.iinc S8.here S8.hx rfl (S8.dec d9_38) rfl (l' := #[.val (.ref aC), .val (.int 2), .val (.ref aB), .val (.int 2), .val (.int 4), .val (.int 2), .val (.int x2)]) rfl) ?_
      show own_F _ p e below _ Z _ _ _ _ _ (T8.setTop (mkF m 41 #[.val (.ref aC), .val (.int 2), .val (.ref aB), .val (.int 2), .val (.int 4), .val (.int 2), .val (.int x2)] []))
      refine own_F.of (fun _ => XS.goto S8.here S8.hx rfl (pc0 := 41) (pc' := 3) rfl (S8.dec d9_41) (by decide) (by decide)) ?_
      show own_F _ p e below _ Z _ _ _ _ _ (T8.setTop (mkF m 3 #[.val (.ref aC), .val (.int 2), .val (.ref aB), .val (.int 2), .val (.int 4), .val (.int 2), .val (.int x2)] []))
      refine own_F.of (fun _ => XS.iload S8.here S8.hx rfl (S8.dec d9_3) rfl) ?_
      refine own_F.of (fun _ => XS.iload S8.here S8.hx rfl (S8.dec d9_5) rfl) ?_
      show own_F _ p e below _ Z _ _ _ _ _ (T8.setTop (mkF m 7 #[.val (.ref aC), .val (.int 2), .val (.ref aB), .val (.int 2), .val (.int 4), .val (.int 2), .val (.int x2)] [(.int 4), (.int 2)]))
      refine own_icmp S8 44 d9_7 (by decide) (by decide) (fun (hc7_10 : ¬ ((2 : Int32) < (4 : Int32))) => False.elim (absurd hc7_10 (by decide))) (fun (hc7_10 : (2 : Int32) < (4 : Int32)) => ?_)
      show own_F _ p e below _ Z _ _ _ _ _ (T8.setTop (mkF m 10 #[.val (.ref aC), .val (.int 2), .val (.ref aB), .val (.int 2), .val (.int 4), .val (.int 2), .val (.int x2)] []))
      refine own_F.of (fun _ => XS.aloadN S8.here S8.hx rfl (S8.dec d9_10) rfl rfl) ?_
      refine own_F.of (fun _ => XS.iloadN S8.here S8.hx rfl (S8.dec d9_11) rfl) ?_
      show own_F _ p e below _ Z _ _ _ _ _ (T8.setTop (mkF m 12 #[.val (.ref aC), .val (.int 2), .val (.ref aB), .val (.int 2), .val (.int 4), .val (.int 2), .val (.int x2)] [(.int 2), (.ref aC)]))
      have fq11 := (fq6.other W8 nCB)
      refine own_cald S8 fq11 (by decide) rfl d9_12 ?_
      show own_F _ p e below _ Z _ _ _ _ _ (T8.setTop (mkF m 13 #[.val (.ref aC), .val (.int 2), .val (.ref aB), .val (.int 2), .val (.int 4), .val (.int 2), .val (.int x2)] [(.int x3)]))
      refine own_F.of (fun _ => XS.istore S8.here S8.hx rfl (S8.dec d9_13) rfl (l' := #[.val (.ref aC), .val (.int 2), .val (.ref aB), .val (.int 2), .val (.int 4), .val (.int 2), .val (.int x3)]) rfl) ?_
      refine own_F.of (fun _ => XS.iload S8.here S8.hx rfl (S8.dec d9_15) rfl) ?_
      refine own_F.of (fun _ => XS.sipush S8.here S8.hx rfl (S8.dec d9_17)) ?_
      show own_F _ p e below _ Z _ _ _ _ _ (T8.setTop (mkF m 20 #[.val (.ref aC), .val (.int 2), .val (.ref aB), .val (.int 2), .val (.int 4), .val (.int 2), .val (.int x3)] [(.int 255), (.int x3)]))
      refine own_icmp S8 26 d9_20 (by decide) (by decide) (fun (hc20_12 : ¬ ((255 : Int32) < x3)) => ?_) (fun (hc20_12 : (255 : Int32) < x3) => ?_)
      · show own_F _ p e below _ Z _ _ _ _ _ (T8.setTop (mkF m 26 #[.val (.ref aC), .val (.int 2), .val (.ref aB), .val (.int 2), .val (.int 4), .val (.int 2), .val (.int x3)] []))
        refine own_F.of (fun _ => XS.aloadN S8.here S8.hx rfl (S8.dec d9_26) rfl rfl) ?_
        refine own_F.of (fun _ => XS.iloadN S8.here S8.hx rfl (S8.dec d9_27) rfl) ?_
        refine own_F.of (fun _ => XS.iload S8.here S8.hx rfl (S8.dec d9_28) rfl) ?_
        show own_F _ p e below _ Z _ _ _ _ _ (T8.setTop (mkF m 30 #[.val (.ref aC), .val (.int 2), .val (.ref aB), .val (.int 2), .val (.int 4), .val (.int 2), .val (.int x3)] [(.int x3), (.int 2), (.ref aB)]))
        refine own_F.of (fun _ => XS.i2b S8.here S8.hx rfl (S8.dec d9_30) rfl) ?_
        show own_F _ p e below _ Z _ _ _ _ _ (T8.setTop (mkF m 31 #[.val (.ref aC), .val (.int 2), .val (.ref aB), .val (.int 2), .val (.int 4), .val (.int 2), .val (.int x3)] [(.int (x3.toInt8.toInt32)), (.int 2), (.ref aB)]))
        refine own_bst S8 V9 (by decide) (Nat.le_of_ble_eq_true rfl) d9_31 (Or.inl (List.mem_of_getElem? (i := 0) rfl)) (fun T13 h13 S13 W13 A13 => ?_)
        have V14 : own_A Z h13 aB .byte [(.int (nar .byte (x1.toInt8.toInt32))), (.int (nar .byte (x2.toInt8.toInt32))), (.int (nar .byte (x3.toInt8.toInt32))), (.int (0 : Int32))] := A13
        show own_F _ p e below _ Z _ _ _ _ _ (T13.setTop (mkF m 32 #[.val (.ref aC), .val (.int 2), .val (.ref aB), .val (.int 2), .val (.int 4), .val (.int 2), .val (.int x3)] []))
        refine own_F.of (fun _ => XS.iinc S13.here S13.hx rfl (S13.dec d9_32) rfl (l' := #[.val (.ref aC), .val (.int 3), .val (.ref aB), .val (.int 2), .val (.int 4), .val (.int 2), .val (.int x3)]) rfl) ?_
        show own_F _ p e below _ Z _ _ _ _ _ (T13.setTop (mkF m 35 #[.val (.ref aC), .val (.int 3), .val (.ref aB), .val (.int 2), .val (.int 4), .val (.int 2), .val (.int x3)] []))
        refine own_F.of (fun _ => XS.iinc S13.here S13.hx rfl (S13.dec d9_35) rfl (l' := #[.val (.ref aC), .val (.int 3), .val (.ref aB), .val (.int 3), .val (.int 4), .val (.int 2), .val (.int x3)]) rfl) ?_
        show own_F _ p e below _ Z _ _ _ _ _ (T13.setTop (mkF m 38 #[.val (.ref aC), .val (.int 3), .val (.ref aB), .val (.int 3), .val (.int 4), .val (.int 2), .val (.int x3)] []))
        refine own_F.of (fun _ => XS.iinc S13.here S13.hx rfl (S13.dec d9_38) rfl (l' := #[.val (.ref aC), .val (.int 3), .val (.ref aB), .val (.int 3), .val (.int 4), .val (.int 3), .val (.int x3)]) rfl) ?_
        show own_F _ p e below _ Z _ _ _ _ _ (T13.setTop (mkF m 41 #[.val (.ref aC), .val (.int 3), .val (.ref aB), .val (.int 3), .val (.int 4), .val (.int 3), .val (.int x3)] []))
        refine own_F.of (fun _ => XS.goto S13.here S13.hx rfl (pc0 := 41) (pc' := 3) rfl (S13.dec d9_41) (by decide) (by decide)) ?_
        show own_F _ p e below _ Z _ _ _ _ _ (T13.setTop (mkF m 3 #[.val (.ref aC), .val (.int 3), .val (.ref aB), .val (.int 3), .val (.int 4), .val (.int 3), .val (.int x3)] []))
        refine own_F.of (fun _ => XS.iload S13.here S13.hx rfl (S13.dec d9_3) rfl) ?_
        refine own_F.of (fun _ => XS.iload S13.here S13.hx rfl (S13.dec d9_5) rfl) ?_
        show own_F _ p e below _ Z _ _ _ _ _ (T13.setTop (mkF m 7 #[.val (.ref aC), .val (.int 3), .val (.ref aB), .val (.int 3), .val (.int 4), .val (.int 3), .val (.int x3)] [(.int 4), (.int 3)]))
        refine own_icmp S13 44 d9_7 (by decide) (by decide) (fun (hc7_15 : ¬ ((3 : Int32) < (4 : Int32))) => False.elim (absurd hc7_15 (by decide))) (fun (hc7_15 : (3 : Int32) < (4 : Int32)) => ?_)
        show own_F _ p e below _ Z _ _ _ _ _ (T13.setTop (mkF m 10 #[.val (.ref aC), .val (.int 3), .val (.ref aB), .val (.int 3), .val (.int 4), .val (.int 3), .val (.int x3)] []))
        refine own_F.of (fun _ => XS.aloadN S13.here S13.hx rfl (S13.dec d9_10) rfl rfl) ?_
        refine own_F.of (fun _ => XS.iloadN S13.here S13.hx rfl (S13.dec d9_11) rfl) ?_
        show own_F _ p e below _ Z _ _ _ _ _ (T13.setTop (mkF m 12 #[.val (.ref aC), .val (.int 3), .val (.ref aB), .val (.int 3), .val (.int 4), .val (.int 3), .val (.int x3)] [(.int 3), (.ref aC)]))
        have fq16 := (fq11.other W13 nCB)
        refine own_cald S13 fq16 (by decide) rfl d9_12 ?_
        show own_F _ p e below _ Z _ _ _ _ _ (T13.setTop (mkF m 13 #[.val (.ref aC), .val (.int 3), .val (.ref aB), .val (.int 3), .val (.int 4), .val (.int 3), .val (.int x3)] [(.int x4)]))
        refine own_F.of (fun _ => XS.istore S13.here S13.hx rfl (S13.dec d9_13) rfl (l' := #[.val (.ref aC), .val (.int 3), .val (.ref aB), .val (.int 3), .val (.int 4), .val (.int 3), .val (.int x4)]) rfl) ?_
        refine own_F.of (fun _ => XS.iload S13.here S13.hx rfl (S13.dec d9_15) rfl) ?_
        refine own_F.of (fun _ => XS.sipush S13.here S13.hx rfl (S13.dec d9_17)) ?_
        show own_F _ p e below _ Z _ _ _ _ _ (T13.setTop (mkF m 20 #[.val (.ref aC), .val (.int 3), .val (.ref aB), .val (.int 3), .val (.int 4), .val (.int 3), .val (.int x4)] [(.int 255), (.int x4)]))
        refine own_icmp S13 26 d9_20 (by decide) (by decide) (fun (hc20_17 : ¬ ((255 : Int32) < x4)) => ?_) (fun (hc20_17 : (255 : Int32) < x4) => ?_)
        · show own_F _ p e below _ Z _ _ _ _ _ (T13.setTop (mkF m 26 #[.val (.ref aC), .val (.int 3), .val (.ref aB), .val (.int 3), .val (.int 4), .val (.int 3), .val (.int x4)] []))
          refine own_F.of (fun _ => XS.aloadN S13.here S13.hx rfl (S13.dec d9_26) rfl rfl) ?_
          refine own_F.of (fun _ => XS.iloadN S13.here S13.hx rfl (S13.dec d9_27) rfl) ?_
          refine own_F.of (fun _ => XS.iload S13.here S13.hx rfl (S13.dec d9_28) rfl) ?_
          show own_F _ p e below _ Z _ _ _ _ _ (T13.setTop (mkF m 30 #[.val (.ref aC), .val (.int 3), .val (.ref aB), .val (.int 3), .val (.int 4), .val (.int 3), .val (.int x4)] [(.int x4), (.int 3), (.ref aB)]))
          refine own_F.of (fun _ => XS.i2b S13.here S13.hx rfl (S13.dec d9_30) rfl) ?_
          show own_F _ p e below _ Z _ _ _ _ _ (T13.setTop (mkF m 31 #[.val (.ref aC), .val (.int 3), .val (.ref aB), .val (.int 3), .val (.int 4), .val (.int 3), .val (.int x4)] [(.int (x4.toInt8.toInt32)), (.int 3), (.ref aB)]))
          refine own_bst S13 V14 (by decide) (Nat.le_of_ble_eq_true rfl) d9_31 (Or.inl (List.mem_of_getElem? (i := 0) rfl)) (fun T18 h18 S18 W18 A18 => ?_)
          have V19 : own_A Z h18 aB .byte [(.int (nar .byte (x1.toInt8.toInt32))), (.int (nar .byte (x2.toInt8.toInt32))), (.int (nar .byte (x3.toInt8.toInt32))), (.int (nar .byte (x4.toInt8.toInt32)))] := A18
          show own_F _ p e below _ Z _ _ _ _ _ (T18.setTop (mkF m 32 #[.val (.ref aC), .val (.int 3), .val (.ref aB), .val (.int 3), .val (.int 4), .val (.int 3), .val (.int x4)] []))
          refine own_F.of (fun _ => XS.iinc S18.here S18.hx rfl (S18.dec d9_32) rfl (l' := #[.val (.ref aC), .val (.int 4), .val (.ref aB), .val (.int 3), .val (.int 4), .val (.int 3), .val (.int x4)]) rfl) ?_
          show own_F _ p e below _ Z _ _ _ _ _ (T18.setTop (mkF m 35 #[.val (.ref aC), .val (.int 4), .val (.ref aB), .val (.int 3), .val (.int 4), .val (.int 3), .val (.int x4)] []))
          refine own_F.of (fun _ => XS.iinc S18.here S18.hx rfl (S18.dec d9_35) rfl (l' := #[.val (.ref aC), .val (.int 4), .val (.ref aB), .val (.int 4), .val (.int 4), .val (.int 3), .val (.int x4)]) rfl) ?_
          show own_F _ p e below _ Z _ _ _ _ _ (T18.setTop (mkF m 38 #[.val (.ref aC), .val (.int 4), .val (.ref aB), .val (.int 4), .val (.int 4), .val (.int 3), .val (.int x4)] []))
          refine own_F.of (fun _ => XS.iinc S18.here S18.hx rfl (S18.dec d9_38) rfl (l' := #[.val (.ref aC), .val (.int 4), .val (.ref aB), .val (.int 4), .val (.int 4), .val (.int 4), .val (.int x4)]) rfl) ?_
          show own_F _ p e below _ Z _ _ _ _ _ (T18.setTop (mkF m 41 #[.val (.ref aC), .val (.int 4), .val (.ref aB), .val (.int 4), .val (.int 4), .val (.int 4), .val (.int x4)] []))
          refine own_F.of (fun _ => XS.goto S18.here S18.hx rfl (pc0 := 41) (pc' := 3) rfl (S18.dec d9_41) (by decide) (by decide)) ?_
          show own_F _ p e below _ Z _ _ _ _ _ (T18.setTop (mkF m 3 #[.val (.ref aC), .val (.int 4), .val (.ref aB), .val (.int 4), .val (.int 4), .val (.int 4), .val (.int x4)] []))
          refine own_F.of (fun _ => XS.iload S18.here S18.hx rfl (S18.dec d9_3) rfl) ?_
          refine own_F.of (fun _ => XS.iload S18.here S18.hx rfl (S18.dec d9_5) rfl) ?_
          show own_F _ p e below _ Z _ _ _ _ _ (T18.setTop (mkF m 7 #[.val (.ref aC), .val (.int 4), .val (.ref aB), .val (.int 4), .val (.int 4), .val (.int 4), .val (.int x4)] [(.int 4), (.int 4)]))
          refine own_icmp S18 44 d9_7 (by decide) (by decide) (fun (hc7_20 : ¬ ((4 : Int32) < (4 : Int32))) => ?_) (fun (hc7_20 : (4 : Int32) < (4 : Int32)) => False.elim (absurd hc7_20 (by decide)))
          show own_F _ p e below _ Z _ _ _ _ _ (T18.setTop (mkF m 44 #[.val (.ref aC), .val (.int 4), .val (.ref aB), .val (.int 4), .val (.int 4), .val (.int 4), .val (.int x4)] []))
          refine own_F.of (fun _ => XS.iload S18.here S18.hx rfl (S18.dec d9_44) rfl) ?_
          show own_F _ p e below _ Z _ _ _ _ _ (T18.setTop (mkF m 46 #[.val (.ref aC), .val (.int 4), .val (.ref aB), .val (.int 4), .val (.int 4), .val (.int 4), .val (.int x4)] [(.int 4)]))
          refine own_retI S18 d9_46 (by decide) (by decide) ?_
          exact Or.inl ⟨rfl, V19, hc20_2, hc20_7, hc20_12, hc20_17⟩
        · show own_F _ p e below _ Z _ _ _ _ _ (T13.setTop (mkF m 23 #[.val (.ref aC), .val (.int 3), .val (.ref aB), .val (.int 3), .val (.int 4), .val (.int 3), .val (.int x4)] []))
          refine own_F.of (fun _ => XS.iload S13.here S13.hx rfl (S13.dec d9_23) rfl) ?_
          show own_F _ p e below _ Z _ _ _ _ _ (T13.setTop (mkF m 25 #[.val (.ref aC), .val (.int 3), .val (.ref aB), .val (.int 3), .val (.int 4), .val (.int 3), .val (.int x4)] [(.int 3)]))
          refine own_retI S13 d9_25 (by decide) (by decide) ?_
          exact Or.inr (Or.inr (Or.inr (Or.inr (⟨rfl, hc20_17⟩))))
      · show own_F _ p e below _ Z _ _ _ _ _ (T8.setTop (mkF m 23 #[.val (.ref aC), .val (.int 2), .val (.ref aB), .val (.int 2), .val (.int 4), .val (.int 2), .val (.int x3)] []))
        refine own_F.of (fun _ => XS.iload S8.here S8.hx rfl (S8.dec d9_23) rfl) ?_
        show own_F _ p e below _ Z _ _ _ _ _ (T8.setTop (mkF m 25 #[.val (.ref aC), .val (.int 2), .val (.ref aB), .val (.int 2), .val (.int 4), .val (.int 2), .val (.int x3)] [(.int 2)]))
        refine own_retI S8 d9_25 (by decide) (by decide) ?_
        exact Or.inr (Or.inr (Or.inr (Or.inl ⟨rfl, hc20_12⟩)))
    · show own_F _ p e below _ Z _ _ _ _ _ (T3.setTop (mkF m 23 #[.val (.ref aC), .val (.int 1), .val (.ref aB), .val (.int 1), .val (.int 4), .val (.int 1), .val (.int x2)] []))
      refine own_F.of (fun _ => XS.iload S3.here S3.hx rfl (S3.dec d9_23) rfl) ?_
      show own_F _ p e below _ Z _ _ _ _ _ (T3.setTop (mkF m 25 #[.val (.ref aC), .val (.int 1), .val (.ref aB), .val (.int 1), .val (.int 4), .val (.int 1), .val (.int x2)] [(.int 1)]))
      refine own_retI S3 d9_25 (by decide) (by decide) ?_
      exact Or.inr (Or.inr (Or.inl ⟨rfl, hc20_7⟩))
  · show own_F _ p e below _ Z _ _ _ _ _ (T0.setTop (mkF m 23 #[.val (.ref aC), .val (.int 0), .val (.ref aB), .val (.int 0), .val (.int 4), .val (.int 0), .val (.int x1)] []))
    refine own_F.of (fun _ => XS.iload S0.here S0.hx rfl (S0.dec d9_23) rfl) ?_
    show own_F _ p e below _ Z _ _ _ _ _ (T0.setTop (mkF m 25 #[.val (.ref aC), .val (.int 0), .val (.ref aB), .val (.int 0), .val (.int 4), .val (.int 0), .val (.int x1)] [(.int 0)]))
    refine own_retI S0 d9_25 (by decide) (by decide) ?_
    exact Or.inr (Or.inl ⟨rfl, hc20_2⟩)
set_option maxRecDepth 65536 in
set_option maxHeartbeats 40000000 in
theorem own_cmp4 (l : Launch) (Z : State) (a0 : Array Value) (hw : ∀ d ∈ tables_1, d.before a0 Z = true) (aC : Addr) (x1 x2 x3 x4 : Int32) (h0 : Heap) (hO : Ext Z.heap h0) (S_as : Sta Z Z.heap "java/lang/StringUTF16" "$assertionsDisabled" "Z" (.int 1)) (S_hi : Sta Z Z.heap "java/lang/StringUTF16" "HI_BYTE_SHIFT" "I" (.int 0)) (S_lo : Sta Z Z.heap "java/lang/StringUTF16" "LO_BYTE_SHIFT" "I" (.int 8)) (cx1 : own_isC x1) (cx2 : own_isC x2) (cx3 : own_isC x3) (cx4 : own_isC x4) (AC : own_A Z h0 aC .char [(.int x1), (.int x2), (.int x3), (.int x4)]) :
    own_C l Z (⟨"java/lang/StringUTF16", "compress", "([CII)[B"⟩ : MethodName) jdk_52_method_16_code 6 (some (.array .byte)) [] ({ frames := 3, cells := 2, slots := 12, locals := 40 } : Room) [] #[(.ref aC), (.int (0 : Int32)), (.int (4 : Int32))] h0 (fun v h => ∃ b, v = some (.ref b) ∧ ((own_A Z h b .byte [(.int (nar .byte (x1.toInt8.toInt32))), (.int (nar .byte (x2.toInt8.toInt32))), (.int (nar .byte (x3.toInt8.toInt32))), (.int (nar .byte (x4.toInt8.toInt32)))] ∧ ¬ 255 < x1 ∧ ¬ 255 < x2 ∧ ¬ 255 < x3 ∧ ¬ 255 < x4) ∨ own_A Z h b .byte [(.int (own_lo x1)), (.int (own_hi x1)), (.int (own_lo x2)), (.int (own_hi x2)), (.int (own_lo x3)), (.int (own_hi x3)), (.int (own_lo x4)), (.int (own_hi x4))])) := by
  refine own_C.of pn8 hO all0 ?_
  intro p e s m below meth c T0 S0
  refine own_F.cast (by first | (simp [entryFrame, mkF, argsToLocals, Value.category]; done) | rfl : entryFrame m #[(.ref aC), (.int (0 : Int32)), (.int (4 : Int32))] 6 = mkF m 0 #[.val (.ref aC), .val (.int (0 : Int32)), .val (.int (4 : Int32)), .unset, .unset, .unset] []) ?_
  show own_F _ p e below _ Z _ _ _ _ _ (T0.setTop (mkF m 0 #[.val (.ref aC), .val (.int 0), .val (.int 4), .unset, .unset, .unset] []))
  refine own_F.of (fun _ => XS.iloadN S0.here S0.hx rfl (S0.dec d8_0) rfl) ?_
  show own_F _ p e below _ Z _ _ _ _ _ (T0.setTop (mkF m 1 #[.val (.ref aC), .val (.int 0), .val (.int 4), .unset, .unset, .unset] [(.int 4)]))
  refine own_newP S0 (own_w hw 23 rfl) d8_1 (by decide) (cap := 4) (by decide) (by decide) (by decide) (by decide) (fun T1 h1 b1 g1 S1 E1 A1 => ?_)
  have V2 : own_A Z h1 b1 .byte [(.int (0 : Int32)), (.int (0 : Int32)), (.int (0 : Int32)), (.int (0 : Int32))] := A1
  show own_F _ p e below _ Z _ _ _ _ _ (T1.setTop (mkF m 3 #[.val (.ref aC), .val (.int 0), .val (.int 4), .unset, .unset, .unset] [(.ref b1)]))
  refine own_F.of (fun _ => XS.astoreN S1.here S1.hx rfl (S1.dec d8_3) rfl rfl (l' := #[.val (.ref aC), .val (.int 0), .val (.int 4), .val (.ref b1), .unset, .unset]) rfl) ?_
  refine own_F.of (fun _ => XS.aloadN S1.here S1.hx rfl (S1.dec d8_4) rfl rfl) ?_
  refine own_F.of (fun _ => XS.iloadN S1.here S1.hx rfl (S1.dec d8_5) rfl) ?_
  refine own_F.of (fun _ => XS.aloadN S1.here S1.hx rfl (S1.dec d8_6) rfl rfl) ?_
  refine own_F.of (fun _ => XS.iconst S1.here S1.hx rfl (S1.dec d8_7)) ?_
  refine own_F.of (fun _ => XS.iloadN S1.here S1.hx rfl (S1.dec d8_8) rfl) ?_
  show own_F _ p e below _ Z _ _ _ _ _ (T1.setTop (mkF m 9 #[.val (.ref aC), .val (.int 0), .val (.int 4), .val (.ref b1), .unset, .unset] [(.int 4), (.int 0), (.ref b1), (.int 0), (.ref aC)]))
  have fq3 := (AC.ext E1)
  refine own_callS S1 (y := (⟨"java/lang/StringUTF16", "compress", "([CI[BII)I"⟩ : MethodName)) (own_w hw 44 rfl) (own_w hw 45 rfl) (own_w hw 42 rfl) (own_w hw 46 rfl) (by decide) (argsL := [(.ref aC), (.int (0 : Int32)), (.ref b1), (.int (0 : Int32)), (.int (4 : Int32))]) (rest := []) (own_cmpI4 l Z a0 hw aC b1 x1 x2 x3 x4 h1 S1.old fq3 V2 (own_mayN S1 (Or.inr (by rw [g1]; exact S0.size))) (Nat.ne_of_lt (by rw [g1]; exact (AC).lt))) (allS (Or.inr (by rw [g1]; exact S0.size)) all0) (by decide +kernel : parseMethodDescriptor "([CI[BII)I" = some ⟨[(.array .char), .int, (.array .byte), .int, .int], some .int⟩) rfl rfl rfl d8_9 (by decide) (Nat.le_of_ble_eq_true rfl) (by decide) (by decide) (fun T4 h4 v4 S4 K4 q4 => ?_)
  obtain (⟨rfl, F4, hl4_1, hl4_2, hl4_3, hl4_4⟩ | ⟨rfl, hu4⟩ | ⟨rfl, hu4⟩ | ⟨rfl, hu4⟩ | ⟨rfl, hu4⟩) := q4
  · have V5 : own_A Z h4 b1 .byte [(.int (nar .byte (x1.toInt8.toInt32))), (.int (nar .byte (x2.toInt8.toInt32))), (.int (nar .byte (x3.toInt8.toInt32))), (.int (nar .byte (x4.toInt8.toInt32)))] := F4
    show own_F _ p e below _ Z _ _ _ _ _ (T4.setTop (mkF m 12 #[.val (.ref aC), .val (.int 0), .val (.int 4), .val (.ref b1), .unset, .unset] [(.int 4)]))
    refine own_F.of (fun _ => XS.istore S4.here S4.hx rfl (S4.dec d8_12) rfl (l' := #[.val (.ref aC), .val (.int 0), .val (.int 4), .val (.ref b1), .val (.int 4), .unset]) rfl) ?_
    refine own_F.of (fun _ => XS.iload S4.here S4.hx rfl (S4.dec d8_14) rfl) ?_
    refine own_F.of (fun _ => XS.iloadN S4.here S4.hx rfl (S4.dec d8_16) rfl) ?_
    show own_F _ p e below _ Z _ _ _ _ _ (T4.setTop (mkF m 17 #[.val (.ref aC), .val (.int 0), .val (.int 4), .val (.ref b1), .val (.int 4), .unset] [(.int 4), (.int 4)]))
    refine own_icmp S4 57 d8_17 (by decide) (by decide) (fun (hc17_6 : (4 : Int32) = (4 : Int32)) => ?_) (fun (hc17_6 : ¬ ((4 : Int32) = (4 : Int32))) => False.elim (absurd hc17_6 (by decide)))
    show own_F _ p e below _ Z _ _ _ _ _ (T4.setTop (mkF m 57 #[.val (.ref aC), .val (.int 0), .val (.int 4), .val (.ref b1), .val (.int 4), .unset] []))
    refine own_F.of (fun _ => XS.aloadN S4.here S4.hx rfl (S4.dec d8_57) rfl rfl) ?_
    show own_F _ p e below _ Z _ _ _ _ _ (T4.setTop (mkF m 58 #[.val (.ref aC), .val (.int 0), .val (.int 4), .val (.ref b1), .val (.int 4), .unset] [(.ref b1)]))
    refine own_retA S4 rfl rfl d8_58 (by decide) (by decide) ?_
    exact ⟨_, rfl, Or.inl ⟨V5, hl4_1, hl4_2, hl4_3, hl4_4⟩⟩
  · show own_F _ p e below _ Z _ _ _ _ _ (T4.setTop (mkF m 12 #[.val (.ref aC), .val (.int 0), .val (.int 4), .val (.ref b1), .unset, .unset] [(.int 0)]))
    refine own_F.of (fun _ => XS.istore S4.here S4.hx rfl (S4.dec d8_12) rfl (l' := #[.val (.ref aC), .val (.int 0), .val (.int 4), .val (.ref b1), .val (.int 0), .unset]) rfl) ?_
    refine own_F.of (fun _ => XS.iload S4.here S4.hx rfl (S4.dec d8_14) rfl) ?_
    refine own_F.of (fun _ => XS.iloadN S4.here S4.hx rfl (S4.dec d8_16) rfl) ?_
    show own_F _ p e below _ Z _ _ _ _ _ (T4.setTop (mkF m 17 #[.val (.ref aC), .val (.int 0), .val (.int 4), .val (.ref b1), .val (.int 0), .unset] [(.int 4), (.int 0)]))
    refine own_icmp S4 57 d8_17 (by decide) (by decide) (fun (hc17_7 : (0 : Int32) = (4 : Int32)) => False.elim (absurd hc17_7 (by decide))) (fun (hc17_7 : ¬ ((0 : Int32) = (4 : Int32))) => ?_)
    show own_F _ p e below _ Z _ _ _ _ _ (T4.setTop (mkF m 20 #[.val (.ref aC), .val (.int 0), .val (.int 4), .val (.ref b1), .val (.int 0), .unset] []))
    refine own_F.of (fun _ => XS.aloadN S4.here S4.hx rfl (S4.dec d8_20) rfl rfl) ?_
    refine own_F.of (fun _ => XS.iloadN S4.here S4.hx rfl (S4.dec d8_21) rfl) ?_
    refine own_F.of (fun _ => XS.iloadN S4.here S4.hx rfl (S4.dec d8_22) rfl) ?_
    show own_F _ p e below _ Z _ _ _ _ _ (T4.setTop (mkF m 23 #[.val (.ref aC), .val (.int 0), .val (.int 4), .val (.ref b1), .val (.int 0), .unset] [(.int 4), (.int 0), (.ref aC)]))
    have fq8 := (fq3.keep K4 (ninS (Nat.ne_of_lt (by rw [g1]; exact (AC).lt)) nin0))
    refine own_callS S4 (y := (⟨"java/lang/StringUTF16", "toBytes", "([CII)[B"⟩ : MethodName)) (own_w hw 91 rfl) (own_w hw 92 rfl) (own_w hw 42 rfl) (own_w hw 93 rfl) (by decide) (argsL := [(.ref aC), (.int (0 : Int32)), (.int (4 : Int32))]) (rest := []) (own_toB4 l Z a0 hw aC x1 x2 x3 x4 h4 S4.old S_as S_hi S_lo fq8) all0 (by decide +kernel : parseMethodDescriptor "([CII)[B" = some ⟨[(.array .char), .int, .int], some (.array .byte)⟩) rfl rfl rfl d8_23 (by decide) (Nat.le_of_ble_eq_true rfl) (by decide) (by decide) (fun T9 h9 v9 S9 K9 q9 => ?_)
    obtain ⟨b9, rfl, F9⟩ := q9
    have V10 : own_A Z h9 b9 .byte [(.int (own_lo x1)), (.int (own_hi x1)), (.int (own_lo x2)), (.int (own_hi x2)), (.int (own_lo x3)), (.int (own_hi x3)), (.int (own_lo x4)), (.int (own_hi x4))] := F9
    show own_F _ p e below _ Z _ _ _ _ _ (T9.setTop (mkF m 26 #[.val (.ref aC), .val (.int 0), .val (.int 4), .val (.ref b1), .val (.int 0), .unset] [(.ref b9)]))
    refine own_F.of (fun _ => XS.astore S9.here S9.hx rfl (S9.dec d8_26) rfl rfl (l' := #[.val (.ref aC), .val (.int 0), .val (.int 4), .val (.ref b1), .val (.int 0), .val (.ref b9)]) rfl) ?_
    refine own_F.of (fun _ => XS.aload S9.here S9.hx rfl (S9.dec d8_28) rfl rfl) ?_
    refine own_F.of (fun _ => XS.iload S9.here S9.hx rfl (S9.dec d8_30) rfl) ?_
    show own_F _ p e below _ Z _ _ _ _ _ (T9.setTop (mkF m 32 #[.val (.ref aC), .val (.int 0), .val (.int 4), .val (.ref b1), .val (.int 0), .val (.ref b9)] [(.int 0), (.ref b9)]))
    refine own_callS S9 (y := (⟨"java/lang/StringUTF16", "getChar", "([BI)C"⟩ : MethodName)) (own_w hw 107 rfl) (own_w hw 108 rfl) (own_w hw 42 rfl) (own_w hw 109 rfl) (by decide) (argsL := [(.ref b9), (.int (0 : Int32))]) (rest := []) (own_getC l Z a0 hw b9 [(.int (own_lo x1)), (.int (own_hi x1)), (.int (own_lo x2)), (.int (own_hi x2)), (.int (own_lo x3)), (.int (own_hi x3)), (.int (own_lo x4)), (.int (own_hi x4))] (0 : Int32) (0 : Int32) (1 : Int32) x1 h9 S9.old S_as S_hi S_lo (by decide) (by decide) (by decide) (by decide) rfl rfl cx1 V10) all0 (by decide +kernel : parseMethodDescriptor "([BI)C" = some ⟨[(.array .byte), .int], some .char⟩) rfl rfl rfl d8_32 (by decide) (Nat.le_of_ble_eq_true rfl) (by decide) (by decide) (fun T11 h11 v11 S11 K11 q11 => ?_)
    obtain ⟨rfl, rfl⟩ := q11
    show own_F _ p e below _ Z _ _ _ _ _ (T11.setTop (mkF m 35 #[.val (.ref aC), .val (.int 0), .val (.int 4), .val (.ref b1), .val (.int 0), .val (.ref b9)] [(.int x1)]))
    refine own_F.of (fun _ => XS.sipush S11.here S11.hx rfl (S11.dec d8_35)) ?_
    show own_F _ p e below _ Z _ _ _ _ _ (T11.setTop (mkF m 38 #[.val (.ref aC), .val (.int 0), .val (.int 4), .val (.ref b1), .val (.int 0), .val (.ref b9)] [(.int 255), (.int x1)]))
    refine own_icmp S11 54 d8_38 (by decide) (by decide) (fun (hc38_12 : (255 : Int32) < x1) => ?_) (fun (hc38_12 : ¬ ((255 : Int32) < x1)) => False.elim (hc38_12 hu4))
    show own_F _ p e below _ Z _ _ _ _ _ (T11.setTop (mkF m 54 #[.val (.ref aC), .val (.int 0), .val (.int 4), .val (.ref b1), .val (.int 0), .val (.ref b9)] []))
    refine own_F.of (fun _ => XS.aload S11.here S11.hx rfl (S11.dec d8_54) rfl rfl) ?_
    show own_F _ p e below _ Z _ _ _ _ _ (T11.setTop (mkF m 56 #[.val (.ref aC), .val (.int 0), .val (.int 4), .val (.ref b1), .val (.int 0), .val (.ref b9)] [(.ref b9)]))
    refine own_retA S11 rfl rfl d8_56 (by decide) (by decide) ?_
    exact ⟨_, rfl, Or.inr V10⟩
  · show own_F _ p e below _ Z _ _ _ _ _ (T4.setTop (mkF m 12 #[.val (.ref aC), .val (.int 0), .val (.int 4), .val (.ref b1), .unset, .unset] [(.int 1)]))
    refine own_F.of (fun _ => XS.istore S4.here S4.hx rfl (S4.dec d8_12) rfl (l' := #[.val (.ref aC), .val (.int 0), .val (.int 4), .val (.ref b1), .val (.int 1), .unset]) rfl) ?_
    refine own_F.of (fun _ => XS.iload S4.here S4.hx rfl (S4.dec d8_14) rfl) ?_
    refine own_F.of (fun _ => XS.iloadN S4.here S4.hx rfl (S4.dec d8_16) rfl) ?_
    show own_F _ p e below _ Z _ _ _ _ _ (T4.setTop (mkF m 17 #[.val (.ref aC), .val (.int 0), .val (.int 4), .val (.ref b1), .val (.int 1), .unset] [(.int 4), (.int 1)]))
    refine own_icmp S4 57 d8_17 (by decide) (by decide) (fun (hc17_13 : (1 : Int32) = (4 : Int32)) => False.elim (absurd hc17_13 (by decide))) (fun (hc17_13 : ¬ ((1 : Int32) = (4 : Int32))) => ?_)
    show own_F _ p e below _ Z _ _ _ _ _ (T4.setTop (mkF m 20 #[.val (.ref aC), .val (.int 0), .val (.int 4), .val (.ref b1), .val (.int 1), .unset] []))
    refine own_F.of (fun _ => XS.aloadN S4.here S4.hx rfl (S4.dec d8_20) rfl rfl) ?_
    refine own_F.of (fun _ => XS.iloadN S4.here S4.hx rfl (S4.dec d8_21) rfl) ?_
    refine own_F.of (fun _ => XS.iloadN S4.here S4.hx rfl (S4.dec d8_22) rfl) ?_
    show own_F _ p e below _ Z _ _ _ _ _ (T4.setTop (mkF m 23 #[.val (.ref aC), .val (.int 0), .val (.int 4), .val (.ref b1), .val (.int 1), .unset] [(.int 4), (.int 0), (.ref aC)]))
    have fq14 := (fq3.keep K4 (ninS (Nat.ne_of_lt (by rw [g1]; exact (AC).lt)) nin0))
    refine own_callS S4 (y := (⟨"java/lang/StringUTF16", "toBytes", "([CII)[B"⟩ : MethodName)) (own_w hw 91 rfl) (own_w hw 92 rfl) (own_w hw 42 rfl) (own_w hw 93 rfl) (by decide) (argsL := [(.ref aC), (.int (0 : Int32)), (.int (4 : Int32))]) (rest := []) (own_toB4 l Z a0 hw aC x1 x2 x3 x4 h4 S4.old S_as S_hi S_lo fq14) all0 (by decide +kernel : parseMethodDescriptor "([CII)[B" = some ⟨[(.array .char), .int, .int], some (.array .byte)⟩) rfl rfl rfl d8_23 (by decide) (Nat.le_of_ble_eq_true rfl) (by decide) (by decide) (fun T15 h15 v15 S15 K15 q15 => ?_)
    obtain ⟨b15, rfl, F15⟩ := q15
    have V16 : own_A Z h15 b15 .byte [(.int (own_lo x1)), (.int (own_hi x1)), (.int (own_lo x2)), (.int (own_hi x2)), (.int (own_lo x3)), (.int (own_hi x3)), (.int (own_lo x4)), (.int (own_hi x4))] := F15
    show own_F _ p e below _ Z _ _ _ _ _ (T15.setTop (mkF m 26 #[.val (.ref aC), .val (.int 0), .val (.int 4), .val (.ref b1), .val (.int 1), .unset] [(.ref b15)]))
    refine own_F.of (fun _ => XS.astore S15.here S15.hx rfl (S15.dec d8_26) rfl rfl (l' := #[.val (.ref aC), .val (.int 0), .val (.int 4), .val (.ref b1), .val (.int 1), .val (.ref b15)]) rfl) ?_
    refine own_F.of (fun _ => XS.aload S15.here S15.hx rfl (S15.dec d8_28) rfl rfl) ?_
    refine own_F.of (fun _ => XS.iload S15.here S15.hx rfl (S15.dec d8_30) rfl) ?_
    show own_F _ p e below _ Z _ _ _ _ _ (T15.setTop (mkF m 32 #[.val (.ref aC), .val (.int 0), .val (.int 4), .val (.ref b1), .val (.int 1), .val (.ref b15)] [(.int 1), (.ref b15)]))
    refine own_callS S15 (y := (⟨"java/lang/StringUTF16", "getChar", "([BI)C"⟩ : MethodName)) (own_w hw 107 rfl) (own_w hw 108 rfl) (own_w hw 42 rfl) (own_w hw 109 rfl) (by decide) (argsL := [(.ref b15), (.int (1 : Int32))]) (rest := []) (own_getC l Z a0 hw b15 [(.int (own_lo x1)), (.int (own_hi x1)), (.int (own_lo x2)), (.int (own_hi x2)), (.int (own_lo x3)), (.int (own_hi x3)), (.int (own_lo x4)), (.int (own_hi x4))] (1 : Int32) (2 : Int32) (3 : Int32) x2 h15 S15.old S_as S_hi S_lo (by decide) (by decide) (by decide) (by decide) rfl rfl cx2 V16) all0 (by decide +kernel : parseMethodDescriptor "([BI)C" = some ⟨[(.array .byte), .int], some .char⟩) rfl rfl rfl d8_32 (by decide) (Nat.le_of_ble_eq_true rfl) (by decide) (by decide) (fun T17 h17 v17 S17 K17 q17 => ?_)
    obtain ⟨rfl, rfl⟩ := q17
    show own_F _ p e below _ Z _ _ _ _ _ (T17.setTop (mkF m 35 #[.val (.ref aC), .val (.int 0), .val (.int 4), .val (.ref b1), .val (.int 1), .val (.ref b15)] [(.int x2)]))
    refine own_F.of (fun _ => XS.sipush S17.here S17.hx rfl (S17.dec d8_35)) ?_
    show own_F _ p e below _ Z _ _ _ _ _ (T17.setTop (mkF m 38 #[.val (.ref aC), .val (.int 0), .val (.int 4), .val (.ref b1), .val (.int 1), .val (.ref b15)] [(.int 255), (.int x2)]))
    refine own_icmp S17 54 d8_38 (by decide) (by decide) (fun (hc38_18 : (255 : Int32) < x2) => ?_) (fun (hc38_18 : ¬ ((255 : Int32) < x2)) => False.elim (hc38_18 hu4))
    show own_F _ p e below _ Z _ _ _ _ _ (T17.setTop (mkF m 54 #[.val (.ref aC), .val (.int 0), .val (.int 4), .val (.ref b1), .val (.int 1), .val (.ref b15)] []))
    refine own_F.of (fun _ => XS.aload S17.here S17.hx rfl (S17.dec d8_54) rfl rfl) ?_
    show own_F _ p e below _ Z _ _ _ _ _ (T17.setTop (mkF m 56 #[.val (.ref aC), .val (.int 0), .val (.int 4), .val (.ref b1), .val (.int 1), .val (.ref b15)] [(.ref b15)]))
    refine own_retA S17 rfl rfl d8_56 (by decide) (by decide) ?_
    exact ⟨_, rfl, Or.inr V16⟩
  · show own_F _ p e below _ Z _ _ _ _ _ (T4.setTop (mkF m 12 #[.val (.ref aC), .val (.int 0), .val (.int 4), .val (.ref b1), .unset, .unset] [(.int 2)]))
    refine own_F.of (fun _ => XS.istore S4.here S4.hx rfl (S4.dec d8_12) rfl (l' := #[.val (.ref aC), .val (.int 0), .val (.int 4), .val (.ref b1), .val (.int 2), .unset]) rfl) ?_
    refine own_F.of (fun _ => XS.iload S4.here S4.hx rfl (S4.dec d8_14) rfl) ?_
    refine own_F.of (fun _ => XS.iloadN S4.here S4.hx rfl (S4.dec d8_16) rfl) ?_
    show own_F _ p e below _ Z _ _ _ _ _ (T4.setTop (mkF m 17 #[.val (.ref aC), .val (.int 0), .val (.int 4), .val (.ref b1), .val (.int 2), .unset] [(.int 4), (.int 2)]))
    refine own_icmp S4 57 d8_17 (by decide) (by decide) (fun (hc17_19 : (2 : Int32) = (4 : Int32)) => False.elim (absurd hc17_19 (by decide))) (fun (hc17_19 : ¬ ((2 : Int32) = (4 : Int32))) => ?_)
    show own_F _ p e below _ Z _ _ _ _ _ (T4.setTop (mkF m 20 #[.val (.ref aC), .val (.int 0), .val (.int 4), .val (.ref b1), .val (.int 2), .unset] []))
    refine own_F.of (fun _ => XS.aloadN S4.here S4.hx rfl (S4.dec d8_20) rfl rfl) ?_
    refine own_F.of (fun _ => XS.iloadN S4.here S4.hx rfl (S4.dec d8_21) rfl) ?_
    refine own_F.of (fun _ => XS.iloadN S4.here S4.hx rfl (S4.dec d8_22) rfl) ?_
    show own_F _ p e below _ Z _ _ _ _ _ (T4.setTop (mkF m 23 #[.val (.ref aC), .val (.int 0), .val (.int 4), .val (.ref b1), .val (.int 2), .unset] [(.int 4), (.int 0), (.ref aC)]))
    have fq20 := (fq3.keep K4 (ninS (Nat.ne_of_lt (by rw [g1]; exact (AC).lt)) nin0))
    refine own_callS S4 (y := (⟨"java/lang/StringUTF16", "toBytes", "([CII)[B"⟩ : MethodName)) (own_w hw 91 rfl) (own_w hw 92 rfl) (own_w hw 42 rfl) (own_w hw 93 rfl) (by decide) (argsL := [(.ref aC), (.int (0 : Int32)), (.int (4 : Int32))]) (rest := []) (own_toB4 l Z a0 hw aC x1 x2 x3 x4 h4 S4.old S_as S_hi S_lo fq20) all0 (by decide +kernel : parseMethodDescriptor "([CII)[B" = some ⟨[(.array .char), .int, .int], some (.array .byte)⟩) rfl rfl rfl d8_23 (by decide) (Nat.le_of_ble_eq_true rfl) (by decide) (by decide) (fun T21 h21 v21 S21 K21 q21 => ?_)
    obtain ⟨b21, rfl, F21⟩ := q21
    have V22 : own_A Z h21 b21 .byte [(.int (own_lo x1)), (.int (own_hi x1)), (.int (own_lo x2)), (.int (own_hi x2)), (.int (own_lo x3)), (.int (own_hi x3)), (.int (own_lo x4)), (.int (own_hi x4))] := F21
    show own_F _ p e below _ Z _ _ _ _ _ (T21.setTop (mkF m 26 #[.val (.ref aC), .val (.int 0), .val (.int 4), .val (.ref b1), .val (.int 2), .unset] [(.ref b21)]))
    refine own_F.of (fun _ => XS.astore S21.here S21.hx rfl (S21.dec d8_26) rfl rfl (l' := #[.val (.ref aC), .val (.int 0), .val (.int 4), .val (.ref b1), .val (.int 2), .val (.ref b21)]) rfl) ?_
    refine own_F.of (fun _ => XS.aload S21.here S21.hx rfl (S21.dec d8_28) rfl rfl) ?_
    refine own_F.of (fun _ => XS.iload S21.here S21.hx rfl (S21.dec d8_30) rfl) ?_
    show own_F _ p e below _ Z _ _ _ _ _ (T21.setTop (mkF m 32 #[.val (.ref aC), .val (.int 0), .val (.int 4), .val (.ref b1), .val (.int 2), .val (.ref b21)] [(.int 2), (.ref b21)]))
    refine own_callS S21 (y := (⟨"java/lang/StringUTF16", "getChar", "([BI)C"⟩ : MethodName)) (own_w hw 107 rfl) (own_w hw 108 rfl) (own_w hw 42 rfl) (own_w hw 109 rfl) (by decide) (argsL := [(.ref b21), (.int (2 : Int32))]) (rest := []) (own_getC l Z a0 hw b21 [(.int (own_lo x1)), (.int (own_hi x1)), (.int (own_lo x2)), (.int (own_hi x2)), (.int (own_lo x3)), (.int (own_hi x3)), (.int (own_lo x4)), (.int (own_hi x4))] (2 : Int32) (4 : Int32) (5 : Int32) x3 h21 S21.old S_as S_hi S_lo (by decide) (by decide) (by decide) (by decide) rfl rfl cx3 V22) all0 (by decide +kernel : parseMethodDescriptor "([BI)C" = some ⟨[(.array .byte), .int], some .char⟩) rfl rfl rfl d8_32 (by decide) (Nat.le_of_ble_eq_true rfl) (by decide) (by decide) (fun T23 h23 v23 S23 K23 q23 => ?_)
    obtain ⟨rfl, rfl⟩ := q23
    show own_F _ p e below _ Z _ _ _ _ _ (T23.setTop (mkF m 35 #[.val (.ref aC), .val (.int 0), .val (.int 4), .val (.ref b1), .val (.int 2), .val (.ref b21)] [(.int x3)]))
    refine own_F.of (fun _ => XS.sipush S23.here S23.hx rfl (S23.dec d8_35)) ?_
    show own_F _ p e below _ Z _ _ _ _ _ (T23.setTop (mkF m 38 #[.val (.ref aC), .val (.int 0), .val (.int 4), .val (.ref b1), .val (.int 2), .val (.ref b21)] [(.int 255), (.int x3)]))
    refine own_icmp S23 54 d8_38 (by decide) (by decide) (fun (hc38_24 : (255 : Int32) < x3) => ?_) (fun (hc38_24 : ¬ ((255 : Int32) < x3)) => False.elim (hc38_24 hu4))
    show own_F _ p e below _ Z _ _ _ _ _ (T23.setTop (mkF m 54 #[.val (.ref aC), .val (.int 0), .val (.int 4), .val (.ref b1), .val (.int 2), .val (.ref b21)] []))
    refine own_F.of (fun _ => XS.aload S23.here S23.hx rfl (S23.dec d8_54) rfl rfl) ?_
    show own_F _ p e below _ Z _ _ _ _ _ (T23.setTop (mkF m 56 #[.val (.ref aC), .val (.int 0), .val (.int 4), .val (.ref b1), .val (.int 2), .val (.ref b21)] [(.ref b21)]))
    refine own_retA S23 rfl rfl d8_56 (by decide) (by decide) ?_
    exact ⟨_, rfl, Or.inr V22⟩
  · show own_F _ p e below _ Z _ _ _ _ _ (T4.setTop (mkF m 12 #[.val (.ref aC), .val (.int 0), .val (.int 4), .val (.ref b1), .unset, .unset] [(.int 3)]))
    refine own_F.of (fun _ => XS.istore S4.here S4.hx rfl (S4.dec d8_12) rfl (l' := #[.val (.ref aC), .val (.int 0), .val (.int 4), .val (.ref b1), .val (.int 3), .unset]) rfl) ?_
    refine own_F.of (fun _ => XS.iload S4.here S4.hx rfl (S4.dec d8_14) rfl) ?_
    refine own_F.of (fun _ => XS.iloadN S4.here S4.hx rfl (S4.dec d8_16) rfl) ?_
    show own_F _ p e below _ Z _ _ _ _ _ (T4.setTop (mkF m 17 #[.val (.ref aC), .val (.int 0), .val (.int 4), .val (.ref b1), .val (.int 3), .unset] [(.int 4), (.int 3)]))
    refine own_icmp S4 57 d8_17 (by decide) (by decide) (fun (hc17_25 : (3 : Int32) = (4 : Int32)) => False.elim (absurd hc17_25 (by decide))) (fun (hc17_25 : ¬ ((3 : Int32) = (4 : Int32))) => ?_)
    show own_F _ p e below _ Z _ _ _ _ _ (T4.setTop (mkF m 20 #[.val (.ref aC), .val (.int 0), .val (.int 4), .val (.ref b1), .val (.int 3), .unset] []))
    refine own_F.of (fun _ => XS.aloadN S4.here S4.hx rfl (S4.dec d8_20) rfl rfl) ?_
    refine own_F.of (fun _ => XS.iloadN S4.here S4.hx rfl (S4.dec d8_21) rfl) ?_
    refine own_F.of (fun _ => XS.iloadN S4.here S4.hx rfl (S4.dec d8_22) rfl) ?_
    show own_F _ p e below _ Z _ _ _ _ _ (T4.setTop (mkF m 23 #[.val (.ref aC), .val (.int 0), .val (.int 4), .val (.ref b1), .val (.int 3), .unset] [(.int 4), (.int 0), (.ref aC)]))
    have fq26 := (fq3.keep K4 (ninS (Nat.ne_of_lt (by rw [g1]; exact (AC).lt)) nin0))
    refine own_callS S4 (y := (⟨"java/lang/StringUTF16", "toBytes", "([CII)[B"⟩ : MethodName)) (own_w hw 91 rfl) (own_w hw 92 rfl) (own_w hw 42 rfl) (own_w hw 93 rfl) (by decide) (argsL := [(.ref aC), (.int (0 : Int32)), (.int (4 : Int32))]) (rest := []) (own_toB4 l Z a0 hw aC x1 x2 x3 x4 h4 S4.old S_as S_hi S_lo fq26) all0 (by decide +kernel : parseMethodDescriptor "([CII)[B" = some ⟨[(.array .char), .int, .int], some (.array .byte)⟩) rfl rfl rfl d8_23 (by decide) (Nat.le_of_ble_eq_true rfl) (by decide) (by decide) (fun T27 h27 v27 S27 K27 q27 => ?_)
    obtain ⟨b27, rfl, F27⟩ := q27
    have V28 : own_A Z h27 b27 .byte [(.int (own_lo x1)), (.int (own_hi x1)), (.int (own_lo x2)), (.int (own_hi x2)), (.int (own_lo x3)), (.int (own_hi x3)), (.int (own_lo x4)), (.int (own_hi x4))] := F27
    show own_F _ p e below _ Z _ _ _ _ _ (T27.setTop (mkF m 26 #[.val (.ref aC), .val (.int 0), .val (.int 4), .val (.ref b1), .val (.int 3), .unset] [(.ref b27)]))
    refine own_F.of (fun _ => XS.astore S27.here S27.hx rfl (S27.dec d8_26) rfl rfl (l' := #[.val (.ref aC), .val (.int 0), .val (.int 4), .val (.ref b1), .val (.int 3), .val (.ref b27)]) rfl) ?_
    refine own_F.of (fun _ => XS.aload S27.here S27.hx rfl (S27.dec d8_28) rfl rfl) ?_
    refine own_F.of (fun _ => XS.iload S27.here S27.hx rfl (S27.dec d8_30) rfl) ?_
    show own_F _ p e below _ Z _ _ _ _ _ (T27.setTop (mkF m 32 #[.val (.ref aC), .val (.int 0), .val (.int 4), .val (.ref b1), .val (.int 3), .val (.ref b27)] [(.int 3), (.ref b27)]))
    refine own_callS S27 (y := (⟨"java/lang/StringUTF16", "getChar", "([BI)C"⟩ : MethodName)) (own_w hw 107 rfl) (own_w hw 108 rfl) (own_w hw 42 rfl) (own_w hw 109 rfl) (by decide) (argsL := [(.ref b27), (.int (3 : Int32))]) (rest := []) (own_getC l Z a0 hw b27 [(.int (own_lo x1)), (.int (own_hi x1)), (.int (own_lo x2)), (.int (own_hi x2)), (.int (own_lo x3)), (.int (own_hi x3)), (.int (own_lo x4)), (.int (own_hi x4))] (3 : Int32) (6 : Int32) (7 : Int32) x4 h27 S27.old S_as S_hi S_lo (by decide) (by decide) (by decide) (by decide) rfl rfl cx4 V28) all0 (by decide +kernel : parseMethodDescriptor "([BI)C" = some ⟨[(.array .byte), .int], some .char⟩) rfl rfl rfl d8_32 (by decide) (Nat.le_of_ble_eq_true rfl) (by decide) (by decide) (fun T29 h29 v29 S29 K29 q29 => ?_)
    obtain ⟨rfl, rfl⟩ := q29
    show own_F _ p e below _ Z _ _ _ _ _ (T29.setTop (mkF m 35 #[.val (.ref aC), .val (.int 0), .val (.int 4), .val (.ref b1), .val (.int 3), .val (.ref b27)] [(.int x4)]))
    refine own_F.of (fun _ => XS.sipush S29.here S29.hx rfl (S29.dec d8_35)) ?_
    show own_F _ p e below _ Z _ _ _ _ _ (T29.setTop (mkF m 38 #[.val (.ref aC), .val (.int 0), .val (.int 4), .val (.ref b1), .val (.int 3), .val (.ref b27)] [(.int 255), (.int x4)]))
    refine own_icmp S29 54 d8_38 (by decide) (by decide) (fun (hc38_30 : (255 : Int32) < x4) => ?_) (fun (hc38_30 : ¬ ((255 : Int32) < x4)) => False.elim (hc38_30 hu4))
    show own_F _ p e below _ Z _ _ _ _ _ (T29.setTop (mkF m 54 #[.val (.ref aC), .val (.int 0), .val (.int 4), .val (.ref b1), .val (.int 3), .val (.ref b27)] []))
    refine own_F.of (fun _ => XS.aload S29.here S29.hx rfl (S29.dec d8_54) rfl rfl) ?_
    show own_F _ p e below _ Z _ _ _ _ _ (T29.setTop (mkF m 56 #[.val (.ref aC), .val (.int 0), .val (.int 4), .val (.ref b1), .val (.int 3), .val (.ref b27)] [(.ref b27)]))
    refine own_retA S29 rfl rfl d8_56 (by decide) (by decide) ?_
    exact ⟨_, rfl, Or.inr V28⟩
set_option maxRecDepth 65536 in
set_option maxHeartbeats 40000000 in
theorem own_cod4L (l : Launch) (Z : State) (a0 : Array Value) (hw : ∀ d ∈ tables_1, d.before a0 Z = true) (aB : Addr) (x1 x2 x3 x4 : Int32) (h0 : Heap) (hO : Ext Z.heap h0) (AB : own_A Z h0 aB .byte [(.int (nar .byte (x1.toInt8.toInt32))), (.int (nar .byte (x2.toInt8.toInt32))), (.int (nar .byte (x3.toInt8.toInt32))), (.int (nar .byte (x4.toInt8.toInt32)))]) :
    own_C l Z (⟨"java/lang/StringUTF16", "coderFromArrayLen", "([BI)B"⟩ : MethodName) jdk_52_method_15_code 2 (some .byte) [] ({ frames := 0, cells := 0, slots := 0, locals := 0 } : Room) [] #[(.ref aB), (.int (4 : Int32))] h0 (fun v h => v = some (.int (0 : Int32)) ∧ h0 = h) := by
  refine own_C.of pn10 hO all0 ?_
  intro p e s m below meth c T0 S0
  refine own_F.cast (by first | (simp [entryFrame, mkF, argsToLocals, Value.category]; done) | rfl : entryFrame m #[(.ref aB), (.int (4 : Int32))] 2 = mkF m 0 #[.val (.ref aB), .val (.int (4 : Int32))] []) ?_
  show own_F _ p e below _ Z _ _ _ _ _ (T0.setTop (mkF m 0 #[.val (.ref aB), .val (.int 4)] []))
  refine own_F.of (fun _ => XS.iloadN S0.here S0.hx rfl (S0.dec d10_0) rfl) ?_
  refine own_F.of (fun _ => XS.aloadN S0.here S0.hx rfl (S0.dec d10_1) rfl rfl) ?_
  show own_F _ p e below _ Z _ _ _ _ _ (T0.setTop (mkF m 2 #[.val (.ref aB), .val (.int 4)] [(.ref aB), (.int 4)]))
  refine own_len S0 AB d10_2 ?_
  show own_F _ p e below _ Z _ _ _ _ _ (T0.setTop (mkF m 3 #[.val (.ref aB), .val (.int 4)] [(.int 4), (.int 4)]))
  refine own_F.of (fun _ => XS.isub S0.here S0.hx rfl (S0.dec d10_3) rfl) ?_
  show own_F _ p e below _ Z _ _ _ _ _ (T0.setTop (mkF m 4 #[.val (.ref aB), .val (.int 4)] [(.int 0)]))
  refine own_F.of (fun _ => XS.bipush S0.here S0.hx rfl (S0.dec d10_4)) ?_
  show own_F _ p e below _ Z _ _ _ _ _ (T0.setTop (mkF m 6 #[.val (.ref aB), .val (.int 4)] [(.int 31), (.int 0)]))
  refine own_F.of (fun _ => XS.iushr S0.here S0.hx rfl (S0.dec d10_6) rfl) ?_
  show own_F _ p e below _ Z _ _ _ _ _ (T0.setTop (mkF m 7 #[.val (.ref aB), .val (.int 4)] [(.int 0)]))
  refine own_F.of (fun _ => XS.i2b S0.here S0.hx rfl (S0.dec d10_7) rfl) ?_
  show own_F _ p e below _ Z _ _ _ _ _ (T0.setTop (mkF m 8 #[.val (.ref aB), .val (.int 4)] [(.int 0)]))
  refine own_retZ S0 (by simp) d10_8 (by decide) (by decide) ?_
  exact ⟨rfl, rfl⟩
set_option maxRecDepth 65536 in
set_option maxHeartbeats 40000000 in
theorem own_cod4U (l : Launch) (Z : State) (a0 : Array Value) (hw : ∀ d ∈ tables_1, d.before a0 Z = true) (aB : Addr) (x1 x2 x3 x4 : Int32) (h0 : Heap) (hO : Ext Z.heap h0) (AB : own_A Z h0 aB .byte [(.int (own_lo x1)), (.int (own_hi x1)), (.int (own_lo x2)), (.int (own_hi x2)), (.int (own_lo x3)), (.int (own_hi x3)), (.int (own_lo x4)), (.int (own_hi x4))]) :
    own_C l Z (⟨"java/lang/StringUTF16", "coderFromArrayLen", "([BI)B"⟩ : MethodName) jdk_52_method_15_code 2 (some .byte) [] ({ frames := 0, cells := 0, slots := 0, locals := 0 } : Room) [] #[(.ref aB), (.int (4 : Int32))] h0 (fun v h => v = some (.int (1 : Int32)) ∧ h0 = h) := by
  refine own_C.of pn10 hO all0 ?_
  intro p e s m below meth c T0 S0
  refine own_F.cast (by first | (simp [entryFrame, mkF, argsToLocals, Value.category]; done) | rfl : entryFrame m #[(.ref aB), (.int (4 : Int32))] 2 = mkF m 0 #[.val (.ref aB), .val (.int (4 : Int32))] []) ?_
  show own_F _ p e below _ Z _ _ _ _ _ (T0.setTop (mkF m 0 #[.val (.ref aB), .val (.int 4)] []))
  refine own_F.of (fun _ => XS.iloadN S0.here S0.hx rfl (S0.dec d10_0) rfl) ?_
  refine own_F.of (fun _ => XS.aloadN S0.here S0.hx rfl (S0.dec d10_1) rfl rfl) ?_
  show own_F _ p e below _ Z _ _ _ _ _ (T0.setTop (mkF m 2 #[.val (.ref aB), .val (.int 4)] [(.ref aB), (.int 4)]))
  refine own_len S0 AB d10_2 ?_
  show own_F _ p e below _ Z _ _ _ _ _ (T0.setTop (mkF m 3 #[.val (.ref aB), .val (.int 4)] [(.int 8), (.int 4)]))
  refine own_F.of (fun _ => XS.isub S0.here S0.hx rfl (S0.dec d10_3) rfl) ?_
  show own_F _ p e below _ Z _ _ _ _ _ (T0.setTop (mkF m 4 #[.val (.ref aB), .val (.int 4)] [(.int (-4 : Int32))]))
  refine own_F.of (fun _ => XS.bipush S0.here S0.hx rfl (S0.dec d10_4)) ?_
  show own_F _ p e below _ Z _ _ _ _ _ (T0.setTop (mkF m 6 #[.val (.ref aB), .val (.int 4)] [(.int 31), (.int (-4 : Int32))]))
  refine own_F.of (fun _ => XS.iushr S0.here S0.hx rfl (S0.dec d10_6) rfl) ?_
  show own_F _ p e below _ Z _ _ _ _ _ (T0.setTop (mkF m 7 #[.val (.ref aB), .val (.int 4)] [(.int 1)]))
  refine own_F.of (fun _ => XS.i2b S0.here S0.hx rfl (S0.dec d10_7) rfl) ?_
  show own_F _ p e below _ Z _ _ _ _ _ (T0.setTop (mkF m 8 #[.val (.ref aB), .val (.int 4)] [(.int 1)]))
  refine own_retZ S0 (by simp) d10_8 (by decide) (by decide) ?_
  exact ⟨rfl, rfl⟩
set_option maxRecDepth 65536 in
set_option maxHeartbeats 40000000 in
theorem own_strV4 (l : Launch) (Z : State) (a0 : Array Value) (hw : ∀ d ∈ tables_1, d.before a0 Z = true) (a1 aC : Addr) (x1 x2 x3 x4 : Int32) (zc : Int32) (h0 : Heap) (hO : Ext Z.heap h0) (SZ : Sta Z Z.heap "java/lang/String" "COMPACT_STRINGS" "Z" (.int zc)) (hz : ¬ zc = 0) (S_as : Sta Z Z.heap "java/lang/StringUTF16" "$assertionsDisabled" "Z" (.int 1)) (S_hi : Sta Z Z.heap "java/lang/StringUTF16" "HI_BYTE_SHIFT" "I" (.int 0)) (S_lo : Sta Z Z.heap "java/lang/StringUTF16" "LO_BYTE_SHIFT" "I" (.int 8)) (cx1 : own_isC x1) (cx2 : own_isC x2) (cx3 : own_isC x3) (cx4 : own_isC x4) (ga : Z.heap.size ≤ a1) (E_a1 : Exa Z h0 a1 "java/lang/String") (F_value : Fld Z h0 a1 "java/lang/String" "value" "[B" .null) (F_coder : Fld Z h0 a1 "java/lang/String" "coder" "B" (.int 0)) (AC : own_A Z h0 aC .char [(.int x1), (.int x2), (.int x3), (.int x4)]) :
    own_C l Z (⟨"java/lang/String", "<init>", "([CIILjava/lang/Void;)V"⟩ : MethodName) jdk_42_method_149_code 6 none [] ({ frames := 4, cells := 2, slots := 12, locals := 57 } : Room) [a1] #[(.ref a1), (.ref aC), (.int (0 : Int32)), (.int (4 : Int32)), .null] h0 (fun v h => v = none ∧ ∃ b, Fld Z h a1 "java/lang/String" "value" "[B" (.ref b) ∧ (((Fld Z h a1 "java/lang/String" "coder" "B" (.int 0) ∧ own_A Z h b .byte [(.int (nar .byte (x1.toInt8.toInt32))), (.int (nar .byte (x2.toInt8.toInt32))), (.int (nar .byte (x3.toInt8.toInt32))), (.int (nar .byte (x4.toInt8.toInt32)))]) ∧ ¬ 255 < x1 ∧ ¬ 255 < x2 ∧ ¬ 255 < x3 ∧ ¬ 255 < x4) ∨ (Fld Z h a1 "java/lang/String" "coder" "B" (.int 1) ∧ own_A Z h b .byte [(.int (own_lo x1)), (.int (own_hi x1)), (.int (own_lo x2)), (.int (own_hi x2)), (.int (own_lo x3)), (.int (own_hi x3)), (.int (own_lo x4)), (.int (own_hi x4))]))) := by
  refine own_C.of pn4 hO (allS ga all0) ?_
  intro p e s m below meth c T0 S0
  refine own_F.cast (by first | (simp [entryFrame, mkF, argsToLocals, Value.category]; done) | rfl : entryFrame m #[(.ref a1), (.ref aC), (.int (0 : Int32)), (.int (4 : Int32)), .null] 6 = mkF m 0 #[.val (.ref a1), .val (.ref aC), .val (.int (0 : Int32)), .val (.int (4 : Int32)), .val .null, .unset] []) ?_
  show own_F _ p e below _ Z _ _ _ _ _ (T0.setTop (mkF m 0 #[.val (.ref a1), .val (.ref aC), .val (.int 0), .val (.int 4), .val .null, .unset] []))
  refine own_F.of (fun _ => XS.aloadN S0.here S0.hx rfl (S0.dec d4_0) rfl rfl) ?_
  show own_F _ p e below _ Z _ _ _ _ _ (T0.setTop (mkF m 1 #[.val (.ref a1), .val (.ref aC), .val (.int 0), .val (.int 4), .val .null, .unset] [(.ref a1)]))
  refine own_initO S0 (own_w hw 19 rfl) (own_w hw 20 rfl) (own_w hw 21 rfl) rfl d4_1 (by decide) (Nat.le_of_ble_eq_true rfl) (fun T1 S1 => ?_)
  show own_F _ p e below _ Z _ _ _ _ _ (T1.setTop (mkF m 4 #[.val (.ref a1), .val (.ref aC), .val (.int 0), .val (.int 4), .val .null, .unset] []))
  refine own_F.of (fun _ => XS.iloadN S1.here S1.hx rfl (S1.dec d4_4) rfl) ?_
  show own_F _ p e below _ Z _ _ _ _ _ (T1.setTop (mkF m 5 #[.val (.ref a1), .val (.ref aC), .val (.int 0), .val (.int 4), .val .null, .unset] [(.int 4)]))
  refine own_if S1 27 d4_5 (by decide) (by decide) (fun (hc5_2 : ¬ ((4 : Int32) = (0 : Int32))) => ?_) (fun (hc5_2 : (4 : Int32) = (0 : Int32)) => False.elim (absurd hc5_2 (by decide)))
  show own_F _ p e below _ Z _ _ _ _ _ (T1.setTop (mkF m 27 #[.val (.ref a1), .val (.ref aC), .val (.int 0), .val (.int 4), .val .null, .unset] []))
  refine own_getS S1 (host := "") (Or.inl (own_w hw 39 rfl)) Via.refl (SZ.ext S1.old) d4_27 (fun T3 S3 => ?_)
  show own_F _ p e below _ Z _ _ _ _ _ (T3.setTop (mkF m 30 #[.val (.ref a1), .val (.ref aC), .val (.int 0), .val (.int 4), .val .null, .unset] [(.int zc)]))
  refine own_if S3 58 d4_30 (by decide) (by decide) (fun (hc30_4 : zc = (0 : Int32)) => False.elim (hz hc30_4)) (fun (hc30_4 : ¬ (zc = (0 : Int32))) => ?_)
  show own_F _ p e below _ Z _ _ _ _ _ (T3.setTop (mkF m 33 #[.val (.ref a1), .val (.ref aC), .val (.int 0), .val (.int 4), .val .null, .unset] []))
  refine own_F.of (fun _ => XS.aloadN S3.here S3.hx rfl (S3.dec d4_33) rfl rfl) ?_
  refine own_F.of (fun _ => XS.iloadN S3.here S3.hx rfl (S3.dec d4_34) rfl) ?_
  refine own_F.of (fun _ => XS.iloadN S3.here S3.hx rfl (S3.dec d4_35) rfl) ?_
  show own_F _ p e below _ Z _ _ _ _ _ (T3.setTop (mkF m 36 #[.val (.ref a1), .val (.ref aC), .val (.int 0), .val (.int 4), .val .null, .unset] [(.int 4), (.int 0), (.ref aC)]))
  refine own_callS S3 (y := (⟨"java/lang/StringUTF16", "compress", "([CII)[B"⟩ : MethodName)) (own_w hw 40 rfl) (own_w hw 41 rfl) (own_w hw 42 rfl) (own_w hw 43 rfl) (by decide) (argsL := [(.ref aC), (.int (0 : Int32)), (.int (4 : Int32))]) (rest := []) (own_cmp4 l Z a0 hw aC x1 x2 x3 x4 h0 S3.old S_as S_hi S_lo cx1 cx2 cx3 cx4 AC) all0 (by decide +kernel : parseMethodDescriptor "([CII)[B" = some ⟨[(.array .char), .int, .int], some (.array .byte)⟩) rfl rfl rfl d4_36 (by decide) (Nat.le_of_ble_eq_true rfl) (by decide) (by decide) (fun T5 h5 v5 S5 K5 q5 => ?_)
  obtain ⟨b5, rfl, ⟨F5, hl5⟩ | F5⟩ := q5
  · have V6 : own_A Z h5 b5 .byte [(.int (nar .byte (x1.toInt8.toInt32))), (.int (nar .byte (x2.toInt8.toInt32))), (.int (nar .byte (x3.toInt8.toInt32))), (.int (nar .byte (x4.toInt8.toInt32)))] := F5
    have fq7 := (E_a1.keep K5)
    have nB5 := own_neA fq7 (own_w hw 9 rfl) F5
    show own_F _ p e below _ Z _ _ _ _ _ (T5.setTop (mkF m 39 #[.val (.ref a1), .val (.ref aC), .val (.int 0), .val (.int 4), .val .null, .unset] [(.ref b5)]))
    refine own_F.of (fun _ => XS.astore S5.here S5.hx rfl (S5.dec d4_39) rfl rfl (l' := #[.val (.ref a1), .val (.ref aC), .val (.int 0), .val (.int 4), .val .null, .val (.ref b5)]) rfl) ?_
    refine own_F.of (fun _ => XS.aloadN S5.here S5.hx rfl (S5.dec d4_41) rfl rfl) ?_
    refine own_F.of (fun _ => XS.aload S5.here S5.hx rfl (S5.dec d4_42) rfl rfl) ?_
    refine own_F.of (fun _ => XS.iloadN S5.here S5.hx rfl (S5.dec d4_44) rfl) ?_
    show own_F _ p e below _ Z _ _ _ _ _ (T5.setTop (mkF m 45 #[.val (.ref a1), .val (.ref aC), .val (.int 0), .val (.int 4), .val .null, .val (.ref b5)] [(.int 4), (.ref b5), (.ref a1)]))
    refine own_callS S5 (y := (⟨"java/lang/StringUTF16", "coderFromArrayLen", "([BI)B"⟩ : MethodName)) (own_w hw 47 rfl) (own_w hw 48 rfl) (own_w hw 42 rfl) (own_w hw 49 rfl) (by decide) (argsL := [(.ref b5), (.int (4 : Int32))]) (rest := [(.ref a1)]) (own_cod4L l Z a0 hw b5 x1 x2 x3 x4 h5 S5.old V6) all0 (by decide +kernel : parseMethodDescriptor "([BI)B" = some ⟨[(.array .byte), .int], some .byte⟩) rfl rfl rfl d4_45 (by decide) (Nat.le_of_ble_eq_true rfl) (by decide) (by decide) (fun T8 h8 v8 S8 K8 q8 => ?_)
    obtain ⟨rfl, rfl⟩ := q8
    show own_F _ p e below _ Z _ _ _ _ _ (T8.setTop (mkF m 48 #[.val (.ref a1), .val (.ref aC), .val (.int 0), .val (.int 4), .val .null, .val (.ref b5)] [(.int 0), (.ref a1)]))
    have fq9 := (F_coder.keep K5 nin0)
    refine own_putF S8 (host := "") (Or.inl (own_w hw 29 rfl)) Via.refl fq9 fq7 (Or.inr ⟨(own_w hw 25 rfl), rfl, rfl⟩) (own_w hw 9 rfl) (ty := .byte) (by decide) rfl rfl d4_48 (Or.inl (List.mem_of_getElem? (i := 0) rfl)) (fun T10 h10 S10 W10 => ?_)
    have Fw10 := fq9.same W10
    show own_F _ p e below _ Z _ _ _ _ _ (T10.setTop (mkF m 51 #[.val (.ref a1), .val (.ref aC), .val (.int 0), .val (.int 4), .val .null, .val (.ref b5)] []))
    refine own_F.of (fun _ => XS.aloadN S10.here S10.hx rfl (S10.dec d4_51) rfl rfl) ?_
    refine own_F.of (fun _ => XS.aload S10.here S10.hx rfl (S10.dec d4_52) rfl rfl) ?_
    show own_F _ p e below _ Z _ _ _ _ _ (T10.setTop (mkF m 54 #[.val (.ref a1), .val (.ref aC), .val (.int 0), .val (.int 4), .val .null, .val (.ref b5)] [(.ref b5), (.ref a1)]))
    have fq11 := ((F_value.keep K5 nin0).other W10 (Or.inr (slot_ne (C := "java/lang/String") (Or.inr (own_w hw 24 rfl)) (Or.inr (own_w hw 25 rfl)) (by decide) (t := (.array .byte)) (t' := .byte) (by decide) (by decide))))
    have fq12 := (fq7.wr W10)
    refine own_putF S10 (host := "") (Or.inl (own_w hw 28 rfl)) Via.refl fq11 fq12 (Or.inr ⟨(own_w hw 24 rfl), rfl, rfl⟩) (own_w hw 9 rfl) (ty := (.array .byte)) (by decide) rfl rfl d4_54 (Or.inl (List.mem_of_getElem? (i := 0) rfl)) (fun T13 h13 S13 W13 => ?_)
    have Fw13 := fq11.same W13
    show own_F _ p e below _ Z _ _ _ _ _ (T13.setTop (mkF m 57 #[.val (.ref a1), .val (.ref aC), .val (.int 0), .val (.int 4), .val .null, .val (.ref b5)] []))
    have fq14 := (Fw10.other W13 (Or.inr (slot_ne (C := "java/lang/String") (Or.inr (own_w hw 25 rfl)) (Or.inr (own_w hw 24 rfl)) (by decide) (t := .byte) (t' := (.array .byte)) (by decide) (by decide))))
    have fq15 := ((V6.other W10 (Ne.symm nB5)).other W13 (Ne.symm nB5))
    refine own_retV S13 d4_57 (by decide) (by decide) ?_
    exact ⟨rfl, _, Fw13, Or.inl ⟨⟨fq14, fq15⟩, hl5⟩⟩
  · have V16 : own_A Z h5 b5 .byte [(.int (own_lo x1)), (.int (own_hi x1)), (.int (own_lo x2)), (.int (own_hi x2)), (.int (own_lo x3)), (.int (own_hi x3)), (.int (own_lo x4)), (.int (own_hi x4))] := F5
    have fq17 := (E_a1.keep K5)
    have nB5 := own_neA fq17 (own_w hw 9 rfl) F5
    show own_F _ p e below _ Z _ _ _ _ _ (T5.setTop (mkF m 39 #[.val (.ref a1), .val (.ref aC), .val (.int 0), .val (.int 4), .val .null, .unset] [(.ref b5)]))
    refine own_F.of (fun _ => XS.astore S5.here S5.hx rfl (S5.dec d4_39) rfl rfl (l' := #[.val (.ref a1), .val (.ref aC), .val (.int 0), .val (.int 4), .val .null, .val (.ref b5)]) rfl) ?_
    refine own_F.of (fun _ => XS.aloadN S5.here S5.hx rfl (S5.dec d4_41) rfl rfl) ?_
    refine own_F.of (fun _ => XS.aload S5.here S5.hx rfl (S5.dec d4_42) rfl rfl) ?_
    refine own_F.of (fun _ => XS.iloadN S5.here S5.hx rfl (S5.dec d4_44) rfl) ?_
    show own_F _ p e below _ Z _ _ _ _ _ (T5.setTop (mkF m 45 #[.val (.ref a1), .val (.ref aC), .val (.int 0), .val (.int 4), .val .null, .val (.ref b5)] [(.int 4), (.ref b5), (.ref a1)]))
    refine own_callS S5 (y := (⟨"java/lang/StringUTF16", "coderFromArrayLen", "([BI)B"⟩ : MethodName)) (own_w hw 47 rfl) (own_w hw 48 rfl) (own_w hw 42 rfl) (own_w hw 49 rfl) (by decide) (argsL := [(.ref b5), (.int (4 : Int32))]) (rest := [(.ref a1)]) (own_cod4U l Z a0 hw b5 x1 x2 x3 x4 h5 S5.old V16) all0 (by decide +kernel : parseMethodDescriptor "([BI)B" = some ⟨[(.array .byte), .int], some .byte⟩) rfl rfl rfl d4_45 (by decide) (Nat.le_of_ble_eq_true rfl) (by decide) (by decide) (fun T18 h18 v18 S18 K18 q18 => ?_)
    obtain ⟨rfl, rfl⟩ := q18
    show own_F _ p e below _ Z _ _ _ _ _ (T18.setTop (mkF m 48 #[.val (.ref a1), .val (.ref aC), .val (.int 0), .val (.int 4), .val .null, .val (.ref b5)] [(.int 1), (.ref a1)]))
    have fq19 := (F_coder.keep K5 nin0)
    refine own_putF S18 (host := "") (Or.inl (own_w hw 29 rfl)) Via.refl fq19 fq17 (Or.inr ⟨(own_w hw 25 rfl), rfl, rfl⟩) (own_w hw 9 rfl) (ty := .byte) (by decide) rfl rfl d4_48 (Or.inl (List.mem_of_getElem? (i := 0) rfl)) (fun T20 h20 S20 W20 => ?_)
    have Fw20 := fq19.same W20
    show own_F _ p e below _ Z _ _ _ _ _ (T20.setTop (mkF m 51 #[.val (.ref a1), .val (.ref aC), .val (.int 0), .val (.int 4), .val .null, .val (.ref b5)] []))
    refine own_F.of (fun _ => XS.aloadN S20.here S20.hx rfl (S20.dec d4_51) rfl rfl) ?_
    refine own_F.of (fun _ => XS.aload S20.here S20.hx rfl (S20.dec d4_52) rfl rfl) ?_
    show own_F _ p e below _ Z _ _ _ _ _ (T20.setTop (mkF m 54 #[.val (.ref a1), .val (.ref aC), .val (.int 0), .val (.int 4), .val .null, .val (.ref b5)] [(.ref b5), (.ref a1)]))
    have fq21 := ((F_value.keep K5 nin0).other W20 (Or.inr (slot_ne (C := "java/lang/String") (Or.inr (own_w hw 24 rfl)) (Or.inr (own_w hw 25 rfl)) (by decide) (t := (.array .byte)) (t' := .byte) (by decide) (by decide))))
    have fq22 := (fq17.wr W20)
    refine own_putF S20 (host := "") (Or.inl (own_w hw 28 rfl)) Via.refl fq21 fq22 (Or.inr ⟨(own_w hw 24 rfl), rfl, rfl⟩) (own_w hw 9 rfl) (ty := (.array .byte)) (by decide) rfl rfl d4_54 (Or.inl (List.mem_of_getElem? (i := 0) rfl)) (fun T23 h23 S23 W23 => ?_)
    have Fw23 := fq21.same W23
    show own_F _ p e below _ Z _ _ _ _ _ (T23.setTop (mkF m 57 #[.val (.ref a1), .val (.ref aC), .val (.int 0), .val (.int 4), .val .null, .val (.ref b5)] []))
    have fq24 := (Fw20.other W23 (Or.inr (slot_ne (C := "java/lang/String") (Or.inr (own_w hw 25 rfl)) (Or.inr (own_w hw 24 rfl)) (by decide) (t := .byte) (t' := (.array .byte)) (by decide) (by decide))))
    have fq25 := ((V16.other W20 (Ne.symm nB5)).other W23 (Ne.symm nB5))
    refine own_retV S23 d4_57 (by decide) (by decide) ?_
    exact ⟨rfl, _, Fw23, Or.inr ⟨fq24, fq25⟩⟩
set_option maxRecDepth 65536 in
set_option maxHeartbeats 40000000 in
theorem own_strC4 (l : Launch) (Z : State) (a0 : Array Value) (hw : ∀ d ∈ tables_1, d.before a0 Z = true) (a1 aC : Addr) (x1 x2 x3 x4 : Int32) (zc : Int32) (h0 : Heap) (hO : Ext Z.heap h0) (SZ : Sta Z Z.heap "java/lang/String" "COMPACT_STRINGS" "Z" (.int zc)) (hz : ¬ zc = 0) (S_as : Sta Z Z.heap "java/lang/StringUTF16" "$assertionsDisabled" "Z" (.int 1)) (S_hi : Sta Z Z.heap "java/lang/StringUTF16" "HI_BYTE_SHIFT" "I" (.int 0)) (S_lo : Sta Z Z.heap "java/lang/StringUTF16" "LO_BYTE_SHIFT" "I" (.int 8)) (cx1 : own_isC x1) (cx2 : own_isC x2) (cx3 : own_isC x3) (cx4 : own_isC x4) (ga : Z.heap.size ≤ a1) (E_a1 : Exa Z h0 a1 "java/lang/String") (F_value : Fld Z h0 a1 "java/lang/String" "value" "[B" .null) (F_coder : Fld Z h0 a1 "java/lang/String" "coder" "B" (.int 0)) (AC : own_A Z h0 aC .char [(.int x1), (.int x2), (.int x3), (.int x4)]) :
    own_C l Z (⟨"java/lang/String", "<init>", "([C)V"⟩ : MethodName) jdk_42_method_3_code 2 none [] ({ frames := 5, cells := 2, slots := 12, locals := 74 } : Room) [a1] #[(.ref a1), (.ref aC)] h0 (fun v h => v = none ∧ ∃ b, Fld Z h a1 "java/lang/String" "value" "[B" (.ref b) ∧ (((Fld Z h a1 "java/lang/String" "coder" "B" (.int 0) ∧ own_A Z h b .byte [(.int (nar .byte (x1.toInt8.toInt32))), (.int (nar .byte (x2.toInt8.toInt32))), (.int (nar .byte (x3.toInt8.toInt32))), (.int (nar .byte (x4.toInt8.toInt32)))]) ∧ ¬ 255 < x1 ∧ ¬ 255 < x2 ∧ ¬ 255 < x3 ∧ ¬ 255 < x4) ∨ (Fld Z h a1 "java/lang/String" "coder" "B" (.int 1) ∧ own_A Z h b .byte [(.int (own_lo x1)), (.int (own_hi x1)), (.int (own_lo x2)), (.int (own_hi x2)), (.int (own_lo x3)), (.int (own_hi x3)), (.int (own_lo x4)), (.int (own_hi x4))]))) := by
  refine own_C.of pn3 hO (allS ga all0) ?_
  intro p e s m below meth c T0 S0
  refine own_F.cast (by first | (simp [entryFrame, mkF, argsToLocals, Value.category]; done) | rfl : entryFrame m #[(.ref a1), (.ref aC)] 2 = mkF m 0 #[.val (.ref a1), .val (.ref aC)] []) ?_
  show own_F _ p e below _ Z _ _ _ _ _ (T0.setTop (mkF m 0 #[.val (.ref a1), .val (.ref aC)] []))
  refine own_F.of (fun _ => XS.aloadN S0.here S0.hx rfl (S0.dec d3_0) rfl rfl) ?_
  refine own_F.of (fun _ => XS.aloadN S0.here S0.hx rfl (S0.dec d3_1) rfl rfl) ?_
  refine own_F.of (fun _ => XS.iconst S0.here S0.hx rfl (S0.dec d3_2)) ?_
  refine own_F.of (fun _ => XS.aloadN S0.here S0.hx rfl (S0.dec d3_3) rfl rfl) ?_
  show own_F _ p e below _ Z _ _ _ _ _ (T0.setTop (mkF m 4 #[.val (.ref a1), .val (.ref aC)] [(.ref aC), (.int 0), (.ref aC), (.ref a1)]))
  refine own_len S0 AC d3_4 ?_
  show own_F _ p e below _ Z _ _ _ _ _ (T0.setTop (mkF m 5 #[.val (.ref a1), .val (.ref aC)] [(.int 4), (.int 0), (.ref aC), (.ref a1)]))
  refine own_F.of (fun _ => XS.aconstNull S0.here S0.hx rfl (S0.dec d3_5)) ?_
  show own_F _ p e below _ Z _ _ _ _ _ (T0.setTop (mkF m 6 #[.val (.ref a1), .val (.ref aC)] [.null, (.int 4), (.int 0), (.ref aC), (.ref a1)]))
  refine own_callI S0 (y := (⟨"java/lang/String", "<init>", "([CIILjava/lang/Void;)V"⟩ : MethodName)) rfl (own_w hw 15 rfl) (own_w hw 16 rfl) (own_w hw 10 rfl) (own_w hw 18 rfl) (by decide) (argsL := [(.ref aC), (.int (0 : Int32)), (.int (4 : Int32)), .null]) (rest := []) (own_strV4 l Z a0 hw a1 aC x1 x2 x3 x4 zc h0 S0.old SZ hz S_as S_hi S_lo cx1 cx2 cx3 cx4 ga E_a1 F_value F_coder AC) (allS (Or.inl (List.mem_of_getElem? (i := 0) rfl)) all0) (by decide +kernel : parseMethodDescriptor "([CIILjava/lang/Void;)V" = some ⟨[(.array .char), .int, .int, (.object "java/lang/Void")], none⟩) rfl rfl rfl d3_6 (by decide) (Nat.le_of_ble_eq_true rfl) (by decide) (by decide) (fun T1 h1 v1 S1 K1 q1 => ?_)
  obtain ⟨rfl, F1⟩ := q1
  show own_F _ p e below _ Z _ _ _ _ _ (T1.setTop (mkF m 9 #[.val (.ref a1), .val (.ref aC)] []))
  refine own_retV S1 d3_9 (by decide) (by decide) ?_
  exact ⟨rfl, F1⟩
theorem own_wS {Z : State} (a0 : Array Value) (hw : ∀ d ∈ tables_1, d.before a0 Z = true) : ∀ a ∈ Bundle.stringAtoms, a.before a0 Z = true := fun d hd => by
  simp only [Bundle.stringAtoms, List.mem_cons, List.not_mem_nil, or_false] at hd
  rcases hd with rfl | rfl | rfl | rfl | rfl | rfl | rfl
  · exact (own_w hw 10 rfl)
  · exact (own_w hw 9 rfl)
  · exact (own_w hw 23 rfl)
  · exact (own_w hw 24 rfl)
  · exact (own_w hw 25 rfl)
  · exact (own_w hw 26 rfl)
  · exact (own_w hw 27 rfl)
theorem own_EW {Z : State} (a0 : Array Value) (hw : ∀ d ∈ tables_1, d.before a0 Z = true) : EW Z a0 [("java/lang/String", 7)] := EW.cons (own_w hw 22 rfl) (fun _ hc => by cases hc) EW.nil
set_option maxRecDepth 65536 in
set_option maxHeartbeats 40000000 in
theorem own_strV0 (l : Launch) (Z : State) (a0 : Array Value) (hw : ∀ d ∈ tables_1, d.before a0 Z = true) (a1 aC : Addr) (h0 : Heap) (hO : Ext Z.heap h0) (ga : Z.heap.size ≤ a1) (E_a1 : Exa Z h0 a1 "java/lang/String") (F_value : Fld Z h0 a1 "java/lang/String" "value" "[B" .null) (F_coder : Fld Z h0 a1 "java/lang/String" "coder" "B" (.int 0)) (AC : own_A Z h0 aC .char []) :
    own_CW l Z (⟨"java/lang/String", "<init>", "([CIILjava/lang/Void;)V"⟩ : MethodName) jdk_42_method_149_code 6 none [] ({ frames := 1, cells := 4, slots := 8, locals := 12 } : Room) [a1] #[(.ref a1), (.ref aC), (.int (0 : Int32)), (.int (0 : Int32)), .null] h0 (fun vm => CHv Z [("java/lang/String", 7)] vm h0) (fun v h => v = none ∧ ∃ b, Fld Z h a1 "java/lang/String" "value" "[B" (.ref b) ∧ Fld Z h a1 "java/lang/String" "coder" "B" (.int 0) ∧ own_A Z h b .byte []) := by
  refine own_CW.of pn4 hO (allS ga all0) ?_
  intro p e s m below meth c T0 HS S0
  refine own_F.cast (by first | (simp [entryFrame, mkF, argsToLocals, Value.category]; done) | rfl : entryFrame m #[(.ref a1), (.ref aC), (.int (0 : Int32)), (.int (0 : Int32)), .null] 6 = mkF m 0 #[.val (.ref a1), .val (.ref aC), .val (.int (0 : Int32)), .val (.int (0 : Int32)), .val .null, .unset] []) ?_
  show own_F _ p e below _ Z _ _ _ _ _ (T0.setTop (mkF m 0 #[.val (.ref a1), .val (.ref aC), .val (.int 0), .val (.int 0), .val .null, .unset] []))
  refine own_F.of (fun _ => XS.aloadN S0.here S0.hx rfl (S0.dec d4_0) rfl rfl) ?_
  show own_F _ p e below _ Z _ _ _ _ _ (T0.setTop (mkF m 1 #[.val (.ref a1), .val (.ref aC), .val (.int 0), .val (.int 0), .val .null, .unset] [(.ref a1)]))
  refine own_initO S0 (own_w hw 19 rfl) (own_w hw 20 rfl) (own_w hw 21 rfl) rfl d4_1 (by decide) (Nat.le_of_ble_eq_true rfl) (fun T1 S1 => ?_)
  show own_F _ p e below _ Z _ _ _ _ _ (T1.setTop (mkF m 4 #[.val (.ref a1), .val (.ref aC), .val (.int 0), .val (.int 0), .val .null, .unset] []))
  refine own_F.of (fun _ => XS.iloadN S1.here S1.hx rfl (S1.dec d4_4) rfl) ?_
  show own_F _ p e below _ Z _ _ _ _ _ (T1.setTop (mkF m 5 #[.val (.ref a1), .val (.ref aC), .val (.int 0), .val (.int 0), .val .null, .unset] [(.int 0)]))
  refine own_if S1 27 d4_5 (by decide) (by decide) (fun (hc5_2 : ¬ ((0 : Int32) = (0 : Int32))) => False.elim (absurd hc5_2 (by decide))) (fun (hc5_2 : (0 : Int32) = (0 : Int32)) => ?_)
  show own_F _ p e below _ Z _ _ _ _ _ (T1.setTop (mkF m 8 #[.val (.ref a1), .val (.ref aC), .val (.int 0), .val (.int 0), .val .null, .unset] []))
  refine own_F.of (fun _ => XS.aloadN S1.here S1.hx rfl (S1.dec d4_8) rfl rfl) ?_
  show own_F _ p e below _ Z _ _ _ _ _ (T1.setTop (mkF m 9 #[.val (.ref a1), .val (.ref aC), .val (.int 0), .val (.int 0), .val .null, .unset] [(.ref a1)]))
  refine own_ldcE S1 (own_w hw 22 rfl) (own_wS a0 hw) (own_EW a0 hw) (List.mem_singleton.mpr rfl) HS d4_9 (by decide) (by decide) (fun T3 h3 b3 d3 S3 E3 X3 P3 V3 A3 L3 => ?_)
  have V4 : own_A Z h3 d3 .byte [] := A3
  have fq5 := (E_a1.ext E3)
  have nB3 := own_neA fq5 (own_w hw 9 rfl) A3
  have fq6 := (F_value.ext E3)
  have nC3 := Fld.ne V3 fq6 (fun q => by cases q)
  show own_F _ p e below _ Z _ _ _ _ _ (T3.setTop (mkF m 11 #[.val (.ref a1), .val (.ref aC), .val (.int 0), .val (.int 0), .val .null, .unset] [(.ref b3), (.ref a1)]))
  refine own_getF S3 (host := "") (Or.inl (own_w hw 28 rfl)) Via.refl V3 d4_11 (fun T7 S7 => ?_)
  show own_F _ p e below _ Z _ _ _ _ _ (T7.setTop (mkF m 14 #[.val (.ref a1), .val (.ref aC), .val (.int 0), .val (.int 0), .val .null, .unset] [(.ref d3), (.ref a1)]))
  refine own_putF S7 (host := "") (Or.inl (own_w hw 28 rfl)) Via.refl fq6 fq5 (Or.inr ⟨(own_w hw 24 rfl), rfl, rfl⟩) (own_w hw 9 rfl) (ty := (.array .byte)) (by decide) rfl rfl d4_14 (Or.inl (List.mem_of_getElem? (i := 0) rfl)) (fun T8 h8 S8 W8 => ?_)
  have Fw8 := fq6.same W8
  show own_F _ p e below _ Z _ _ _ _ _ (T8.setTop (mkF m 17 #[.val (.ref a1), .val (.ref aC), .val (.int 0), .val (.int 0), .val .null, .unset] []))
  refine own_F.of (fun _ => XS.aloadN S8.here S8.hx rfl (S8.dec d4_17) rfl rfl) ?_
  show own_F _ p e below _ Z _ _ _ _ _ (T8.setTop (mkF m 18 #[.val (.ref a1), .val (.ref aC), .val (.int 0), .val (.int 0), .val .null, .unset] [(.ref a1)]))
  refine own_ldcA S8 (own_w hw 22 rfl) L3 d4_18 ?_
  show own_F _ p e below _ Z _ _ _ _ _ (T8.setTop (mkF m 20 #[.val (.ref a1), .val (.ref aC), .val (.int 0), .val (.int 0), .val .null, .unset] [(.ref b3), (.ref a1)]))
  have fq10 := (P3.other W8 (Or.inl nC3))
  refine own_getF S8 (host := "") (Or.inl (own_w hw 29 rfl)) Via.refl fq10 d4_20 (fun T11 S11 => ?_)
  show own_F _ p e below _ Z _ _ _ _ _ (T11.setTop (mkF m 23 #[.val (.ref a1), .val (.ref aC), .val (.int 0), .val (.int 0), .val .null, .unset] [(.int 0), (.ref a1)]))
  have fq12 := ((F_coder.ext E3).other W8 (Or.inr (slot_ne (C := "java/lang/String") (Or.inr (own_w hw 25 rfl)) (Or.inr (own_w hw 24 rfl)) (by decide) (t := .byte) (t' := (.array .byte)) (by decide) (by decide))))
  have fq13 := (fq5.wr W8)
  refine own_putF S11 (host := "") (Or.inl (own_w hw 29 rfl)) Via.refl fq12 fq13 (Or.inr ⟨(own_w hw 25 rfl), rfl, rfl⟩) (own_w hw 9 rfl) (ty := .byte) (by decide) rfl rfl d4_23 (Or.inl (List.mem_of_getElem? (i := 0) rfl)) (fun T14 h14 S14 W14 => ?_)
  have Fw14 := fq12.same W14
  show own_F _ p e below _ Z _ _ _ _ _ (T14.setTop (mkF m 26 #[.val (.ref a1), .val (.ref aC), .val (.int 0), .val (.int 0), .val .null, .unset] []))
  have fq15 := (Fw8.other W14 (Or.inr (slot_ne (C := "java/lang/String") (Or.inr (own_w hw 24 rfl)) (Or.inr (own_w hw 25 rfl)) (by decide) (t := (.array .byte)) (t' := .byte) (by decide) (by decide))))
  have fq16 := ((V4.other W8 (Ne.symm nB3)).other W14 (Ne.symm nB3))
  refine own_retV S14 d4_26 (by decide) (by decide) ?_
  exact ⟨rfl, _, fq15, Fw14, fq16⟩
set_option maxRecDepth 65536 in
set_option maxHeartbeats 40000000 in
theorem own_strC0 (l : Launch) (Z : State) (a0 : Array Value) (hw : ∀ d ∈ tables_1, d.before a0 Z = true) (a1 aC : Addr) (h0 : Heap) (hO : Ext Z.heap h0) (ga : Z.heap.size ≤ a1) (E_a1 : Exa Z h0 a1 "java/lang/String") (F_value : Fld Z h0 a1 "java/lang/String" "value" "[B" .null) (F_coder : Fld Z h0 a1 "java/lang/String" "coder" "B" (.int 0)) (AC : own_A Z h0 aC .char []) :
    own_CW l Z (⟨"java/lang/String", "<init>", "([C)V"⟩ : MethodName) jdk_42_method_3_code 2 none [] ({ frames := 2, cells := 4, slots := 8, locals := 29 } : Room) [a1] #[(.ref a1), (.ref aC)] h0 (fun vm => CHv Z [("java/lang/String", 7)] vm h0) (fun v h => v = none ∧ ∃ b, Fld Z h a1 "java/lang/String" "value" "[B" (.ref b) ∧ Fld Z h a1 "java/lang/String" "coder" "B" (.int 0) ∧ own_A Z h b .byte []) := by
  refine own_CW.of pn3 hO (allS ga all0) ?_
  intro p e s m below meth c T0 HS S0
  refine own_F.cast (by first | (simp [entryFrame, mkF, argsToLocals, Value.category]; done) | rfl : entryFrame m #[(.ref a1), (.ref aC)] 2 = mkF m 0 #[.val (.ref a1), .val (.ref aC)] []) ?_
  show own_F _ p e below _ Z _ _ _ _ _ (T0.setTop (mkF m 0 #[.val (.ref a1), .val (.ref aC)] []))
  refine own_F.of (fun _ => XS.aloadN S0.here S0.hx rfl (S0.dec d3_0) rfl rfl) ?_
  refine own_F.of (fun _ => XS.aloadN S0.here S0.hx rfl (S0.dec d3_1) rfl rfl) ?_
  refine own_F.of (fun _ => XS.iconst S0.here S0.hx rfl (S0.dec d3_2)) ?_
  refine own_F.of (fun _ => XS.aloadN S0.here S0.hx rfl (S0.dec d3_3) rfl rfl) ?_
  show own_F _ p e below _ Z _ _ _ _ _ (T0.setTop (mkF m 4 #[.val (.ref a1), .val (.ref aC)] [(.ref aC), (.int 0), (.ref aC), (.ref a1)]))
  refine own_len S0 AC d3_4 ?_
  show own_F _ p e below _ Z _ _ _ _ _ (T0.setTop (mkF m 5 #[.val (.ref a1), .val (.ref aC)] [(.int 0), (.int 0), (.ref aC), (.ref a1)]))
  refine own_F.of (fun _ => XS.aconstNull S0.here S0.hx rfl (S0.dec d3_5)) ?_
  show own_F _ p e below _ Z _ _ _ _ _ (T0.setTop (mkF m 6 #[.val (.ref a1), .val (.ref aC)] [.null, (.int 0), (.int 0), (.ref aC), (.ref a1)]))
  refine own_callIW S0 (HH := fun vm => CHv Z [("java/lang/String", 7)] vm h0) (fun _ q => own_CHw S0 (own_EW a0 hw) HS q) (y := (⟨"java/lang/String", "<init>", "([CIILjava/lang/Void;)V"⟩ : MethodName)) rfl (own_w hw 15 rfl) (own_w hw 16 rfl) (own_w hw 10 rfl) (own_w hw 18 rfl) (by decide) (argsL := [(.ref aC), (.int (0 : Int32)), (.int (0 : Int32)), .null]) (rest := []) (own_strV0 l Z a0 hw a1 aC h0 S0.old ga E_a1 F_value F_coder AC) (allS (Or.inl (List.mem_of_getElem? (i := 0) rfl)) all0) (by decide +kernel : parseMethodDescriptor "([CIILjava/lang/Void;)V" = some ⟨[(.array .char), .int, .int, (.object "java/lang/Void")], none⟩) rfl rfl rfl d3_6 (by decide) (Nat.le_of_ble_eq_true rfl) (by decide) (by decide) (fun T1 h1 v1 S1 K1 q1 => ?_)
  obtain ⟨rfl, F1⟩ := q1
  show own_F _ p e below _ Z _ _ _ _ _ (T1.setTop (mkF m 9 #[.val (.ref a1), .val (.ref aC)] []))
  refine own_retV S1 d3_9 (by decide) (by decide) ?_
  exact ⟨rfl, F1⟩
theorem d7_0 : decode jdk_42_method_55_code 0 = .ok (.aload_n 0, 1) := by decide +kernel
theorem d7_1 : decode jdk_42_method_55_code 1 = .ok (.getfield 9, 3) := by decide +kernel
theorem d7_4 : decode jdk_42_method_55_code 4 = .ok (.arraylength, 1) := by decide +kernel
theorem d7_5 : decode jdk_42_method_55_code 5 = .ok (.ifCond .ne 7, 3) := by decide +kernel
theorem d7_8 : decode jdk_42_method_55_code 8 = .ok (.iconst 1, 1) := by decide +kernel
theorem d7_9 : decode jdk_42_method_55_code 9 = .ok (.goto 4, 3) := by decide +kernel
theorem d7_12 : decode jdk_42_method_55_code 12 = .ok (.iconst 0, 1) := by decide +kernel
theorem d7_13 : decode jdk_42_method_55_code 13 = .ok (.ireturn, 1) := by decide +kernel
theorem pn7 : plainFor (⟨"java/lang/String", "isEmpty", "()Z"⟩ : MethodName) = true := plainFor_of_name (by first | (simp [plainName, overriddenIn]; done) | decide +kernel)
set_option maxRecDepth 65536 in
set_option maxHeartbeats 40000000 in
theorem own_empY (l : Launch) (Z : State) (a0 : Array Value) (hw : ∀ d ∈ tables_1, d.before a0 Z = true) (a1 aB : Addr) (vs : List Value) (h0 : Heap) (hO : Ext Z.heap h0) (hl : vs.length.toInt32 = 0) (E_a1 : Exa Z h0 a1 "java/lang/String") (F_v : Fld Z h0 a1 "java/lang/String" "value" "[B" (.ref aB)) (AB : own_A Z h0 aB .byte vs) :
    own_C l Z (⟨"java/lang/String", "isEmpty", "()Z"⟩ : MethodName) jdk_42_method_55_code 1 (some .boolean) [] ({ frames := 0, cells := 0, slots := 0, locals := 0 } : Room) [] #[(.ref a1)] h0 (fun v h => v = some (.int (1 : Int32)) ∧ h0 = h) := by
  refine own_C.of pn7 hO all0 ?_
  intro p e s m below meth c T0 S0
  refine own_F.cast (by first | (simp [entryFrame, mkF, argsToLocals, Value.category]; done) | rfl : entryFrame m #[(.ref a1)] 1 = mkF m 0 #[.val (.ref a1)] []) ?_
  show own_F _ p e below _ Z _ _ _ _ _ (T0.setTop (mkF m 0 #[.val (.ref a1)] []))
  refine own_F.of (fun _ => XS.aloadN S0.here S0.hx rfl (S0.dec d7_0) rfl rfl) ?_
  show own_F _ p e below _ Z _ _ _ _ _ (T0.setTop (mkF m 1 #[.val (.ref a1)] [(.ref a1)]))
  refine own_getF S0 (host := "") (Or.inl (own_w hw 28 rfl)) Via.refl F_v d7_1 (fun T1 S1 => ?_)
  show own_F _ p e below _ Z _ _ _ _ _ (T1.setTop (mkF m 4 #[.val (.ref a1)] [(.ref aB)]))
  refine own_len S1 AB d7_4 ?_
  show own_F _ p e below _ Z _ _ _ _ _ (T1.setTop (mkF m 5 #[.val (.ref a1)] [(.int vs.length.toInt32)]))
  refine own_if S1 12 d7_5 (by decide) (by decide) (fun (hc5_2 : ¬ (vs.length.toInt32 = (0 : Int32))) => False.elim (hc5_2 hl)) (fun (hc5_2 : vs.length.toInt32 = (0 : Int32)) => ?_)
  show own_F _ p e below _ Z _ _ _ _ _ (T1.setTop (mkF m 8 #[.val (.ref a1)] []))
  refine own_F.of (fun _ => XS.iconst S1.here S1.hx rfl (S1.dec d7_8)) ?_
  show own_F _ p e below _ Z _ _ _ _ _ (T1.setTop (mkF m 9 #[.val (.ref a1)] [(.int 1)]))
  refine own_F.of (fun _ => XS.goto S1.here S1.hx rfl (pc0 := 9) (pc' := 13) rfl (S1.dec d7_9) (by decide) (by decide)) ?_
  show own_F _ p e below _ Z _ _ _ _ _ (T1.setTop (mkF m 13 #[.val (.ref a1)] [(.int 1)]))
  refine own_retZ S1 (by simp) d7_13 (by decide) (by decide) ?_
  exact ⟨rfl, rfl⟩
set_option maxRecDepth 65536 in
set_option maxHeartbeats 40000000 in
theorem own_empN (l : Launch) (Z : State) (a0 : Array Value) (hw : ∀ d ∈ tables_1, d.before a0 Z = true) (a1 aB : Addr) (vs : List Value) (h0 : Heap) (hO : Ext Z.heap h0) (hl : ¬ vs.length.toInt32 = 0) (E_a1 : Exa Z h0 a1 "java/lang/String") (F_v : Fld Z h0 a1 "java/lang/String" "value" "[B" (.ref aB)) (AB : own_A Z h0 aB .byte vs) :
    own_C l Z (⟨"java/lang/String", "isEmpty", "()Z"⟩ : MethodName) jdk_42_method_55_code 1 (some .boolean) [] ({ frames := 0, cells := 0, slots := 0, locals := 0 } : Room) [] #[(.ref a1)] h0 (fun v h => v = some (.int (0 : Int32)) ∧ h0 = h) := by
  refine own_C.of pn7 hO all0 ?_
  intro p e s m below meth c T0 S0
  refine own_F.cast (by first | (simp [entryFrame, mkF, argsToLocals, Value.category]; done) | rfl : entryFrame m #[(.ref a1)] 1 = mkF m 0 #[.val (.ref a1)] []) ?_
  show own_F _ p e below _ Z _ _ _ _ _ (T0.setTop (mkF m 0 #[.val (.ref a1)] []))
  refine own_F.of (fun _ => XS.aloadN S0.here S0.hx rfl (S0.dec d7_0) rfl rfl) ?_
  show own_F _ p e below _ Z _ _ _ _ _ (T0.setTop (mkF m 1 #[.val (.ref a1)] [(.ref a1)]))
  refine own_getF S0 (host := "") (Or.inl (own_w hw 28 rfl)) Via.refl F_v d7_1 (fun T1 S1 => ?_)
  show own_F _ p e below _ Z _ _ _ _ _ (T1.setTop (mkF m 4 #[.val (.ref a1)] [(.ref aB)]))
  refine own_len S1 AB d7_4 ?_
  show own_F _ p e below _ Z _ _ _ _ _ (T1.setTop (mkF m 5 #[.val (.ref a1)] [(.int vs.length.toInt32)]))
  refine own_if S1 12 d7_5 (by decide) (by decide) (fun (hc5_2 : ¬ (vs.length.toInt32 = (0 : Int32))) => ?_) (fun (hc5_2 : vs.length.toInt32 = (0 : Int32)) => False.elim (hl hc5_2))
  show own_F _ p e below _ Z _ _ _ _ _ (T1.setTop (mkF m 12 #[.val (.ref a1)] []))
  refine own_F.of (fun _ => XS.iconst S1.here S1.hx rfl (S1.dec d7_12)) ?_
  show own_F _ p e below _ Z _ _ _ _ _ (T1.setTop (mkF m 13 #[.val (.ref a1)] [(.int 0)]))
  refine own_retZ S1 (by simp) d7_13 (by decide) (by decide) ?_
  exact ⟨rfl, rfl⟩
theorem d13_0 : decode jdk_42_method_152_code 0 = .ok (.getstatic 38, 3) := by decide +kernel
theorem d13_3 : decode jdk_42_method_152_code 3 = .ok (.ifCond .eq 10, 3) := by decide +kernel
theorem d13_6 : decode jdk_42_method_152_code 6 = .ok (.aload_n 0, 1) := by decide +kernel
theorem d13_7 : decode jdk_42_method_152_code 7 = .ok (.getfield 15, 3) := by decide +kernel
theorem d13_10 : decode jdk_42_method_152_code 10 = .ok (.goto 4, 3) := by decide +kernel
theorem d13_13 : decode jdk_42_method_152_code 13 = .ok (.iconst 1, 1) := by decide +kernel
theorem d13_14 : decode jdk_42_method_152_code 14 = .ok (.ireturn, 1) := by decide +kernel
theorem pn13 : plainFor (⟨"java/lang/String", "coder", "()B"⟩ : MethodName) = true := plainFor_of_name (by first | (simp [plainName, overriddenIn]; done) | decide +kernel)
set_option maxRecDepth 65536 in
set_option maxHeartbeats 40000000 in
theorem own_cdr0 (l : Launch) (Z : State) (a0 : Array Value) (hw : ∀ d ∈ tables_1, d.before a0 Z = true) (a1 : Addr) (zc : Int32) (h0 : Heap) (hO : Ext Z.heap h0) (SZ : Sta Z Z.heap "java/lang/String" "COMPACT_STRINGS" "Z" (.int zc)) (hz : ¬ zc = 0) (F_c : Fld Z h0 a1 "java/lang/String" "coder" "B" (.int 0)) :
    own_C l Z (⟨"java/lang/String", "coder", "()B"⟩ : MethodName) jdk_42_method_152_code 1 (some .byte) [] ({ frames := 0, cells := 0, slots := 0, locals := 0 } : Room) [] #[(.ref a1)] h0 (fun v h => v = some (.int (0 : Int32)) ∧ h0 = h) := by
  refine own_C.of pn13 hO all0 ?_
  intro p e s m below meth c T0 S0
  refine own_F.cast (by first | (simp [entryFrame, mkF, argsToLocals, Value.category]; done) | rfl : entryFrame m #[(.ref a1)] 1 = mkF m 0 #[.val (.ref a1)] []) ?_
  show own_F _ p e below _ Z _ _ _ _ _ (T0.setTop (mkF m 0 #[.val (.ref a1)] []))
  refine own_getS S0 (host := "") (Or.inl (own_w hw 39 rfl)) Via.refl (SZ.ext S0.old) d13_0 (fun T1 S1 => ?_)
  show own_F _ p e below _ Z _ _ _ _ _ (T1.setTop (mkF m 3 #[.val (.ref a1)] [(.int zc)]))
  refine own_if S1 13 d13_3 (by decide) (by decide) (fun (hc3_2 : zc = (0 : Int32)) => False.elim (hz hc3_2)) (fun (hc3_2 : ¬ (zc = (0 : Int32))) => ?_)
  show own_F _ p e below _ Z _ _ _ _ _ (T1.setTop (mkF m 6 #[.val (.ref a1)] []))
  refine own_F.of (fun _ => XS.aloadN S1.here S1.hx rfl (S1.dec d13_6) rfl rfl) ?_
  show own_F _ p e below _ Z _ _ _ _ _ (T1.setTop (mkF m 7 #[.val (.ref a1)] [(.ref a1)]))
  refine own_getF S1 (host := "") (Or.inl (own_w hw 29 rfl)) Via.refl F_c d13_7 (fun T3 S3 => ?_)
  show own_F _ p e below _ Z _ _ _ _ _ (T3.setTop (mkF m 10 #[.val (.ref a1)] [(.int 0)]))
  refine own_F.of (fun _ => XS.goto S3.here S3.hx rfl (pc0 := 10) (pc' := 14) rfl (S3.dec d13_10) (by decide) (by decide)) ?_
  show own_F _ p e below _ Z _ _ _ _ _ (T3.setTop (mkF m 14 #[.val (.ref a1)] [(.int 0)]))
  refine own_retZ S3 (by simp) d13_14 (by decide) (by decide) ?_
  exact ⟨rfl, rfl⟩
set_option maxRecDepth 65536 in
set_option maxHeartbeats 40000000 in
theorem own_cdr1 (l : Launch) (Z : State) (a0 : Array Value) (hw : ∀ d ∈ tables_1, d.before a0 Z = true) (a1 : Addr) (zc : Int32) (h0 : Heap) (hO : Ext Z.heap h0) (SZ : Sta Z Z.heap "java/lang/String" "COMPACT_STRINGS" "Z" (.int zc)) (hz : ¬ zc = 0) (F_c : Fld Z h0 a1 "java/lang/String" "coder" "B" (.int 1)) :
    own_C l Z (⟨"java/lang/String", "coder", "()B"⟩ : MethodName) jdk_42_method_152_code 1 (some .byte) [] ({ frames := 0, cells := 0, slots := 0, locals := 0 } : Room) [] #[(.ref a1)] h0 (fun v h => v = some (.int (1 : Int32)) ∧ h0 = h) := by
  refine own_C.of pn13 hO all0 ?_
  intro p e s m below meth c T0 S0
  refine own_F.cast (by first | (simp [entryFrame, mkF, argsToLocals, Value.category]; done) | rfl : entryFrame m #[(.ref a1)] 1 = mkF m 0 #[.val (.ref a1)] []) ?_
  show own_F _ p e below _ Z _ _ _ _ _ (T0.setTop (mkF m 0 #[.val (.ref a1)] []))
  refine own_getS S0 (host := "") (Or.inl (own_w hw 39 rfl)) Via.refl (SZ.ext S0.old) d13_0 (fun T1 S1 => ?_)
  show own_F _ p e below _ Z _ _ _ _ _ (T1.setTop (mkF m 3 #[.val (.ref a1)] [(.int zc)]))
  refine own_if S1 13 d13_3 (by decide) (by decide) (fun (hc3_2 : zc = (0 : Int32)) => False.elim (hz hc3_2)) (fun (hc3_2 : ¬ (zc = (0 : Int32))) => ?_)
  show own_F _ p e below _ Z _ _ _ _ _ (T1.setTop (mkF m 6 #[.val (.ref a1)] []))
  refine own_F.of (fun _ => XS.aloadN S1.here S1.hx rfl (S1.dec d13_6) rfl rfl) ?_
  show own_F _ p e below _ Z _ _ _ _ _ (T1.setTop (mkF m 7 #[.val (.ref a1)] [(.ref a1)]))
  refine own_getF S1 (host := "") (Or.inl (own_w hw 29 rfl)) Via.refl F_c d13_7 (fun T3 S3 => ?_)
  show own_F _ p e below _ Z _ _ _ _ _ (T3.setTop (mkF m 10 #[.val (.ref a1)] [(.int 1)]))
  refine own_F.of (fun _ => XS.goto S3.here S3.hx rfl (pc0 := 10) (pc' := 14) rfl (S3.dec d13_10) (by decide) (by decide)) ?_
  show own_F _ p e below _ Z _ _ _ _ _ (T3.setTop (mkF m 14 #[.val (.ref a1)] [(.int 1)]))
  refine own_retZ S3 (by simp) d13_14 (by decide) (by decide) ?_
  exact ⟨rfl, rfl⟩
theorem d15_0 : decode jdk_42_method_154_code 0 = .ok (.getstatic 38, 3) := by decide +kernel
theorem d15_3 : decode jdk_42_method_154_code 3 = .ok (.ifCond .eq 14, 3) := by decide +kernel
theorem d15_6 : decode jdk_42_method_154_code 6 = .ok (.aload_n 0, 1) := by decide +kernel
theorem d15_7 : decode jdk_42_method_154_code 7 = .ok (.getfield 15, 3) := by decide +kernel
theorem d15_10 : decode jdk_42_method_154_code 10 = .ok (.ifCond .ne 7, 3) := by decide +kernel
theorem d15_13 : decode jdk_42_method_154_code 13 = .ok (.iconst 1, 1) := by decide +kernel
theorem d15_14 : decode jdk_42_method_154_code 14 = .ok (.goto 4, 3) := by decide +kernel
theorem d15_17 : decode jdk_42_method_154_code 17 = .ok (.iconst 0, 1) := by decide +kernel
theorem d15_18 : decode jdk_42_method_154_code 18 = .ok (.ireturn, 1) := by decide +kernel
theorem pn15 : plainFor (⟨"java/lang/String", "isLatin1", "()Z"⟩ : MethodName) = true := plainFor_of_name (by first | (simp [plainName, overriddenIn]; done) | decide +kernel)
set_option maxRecDepth 65536 in
set_option maxHeartbeats 40000000 in
theorem own_isL0 (l : Launch) (Z : State) (a0 : Array Value) (hw : ∀ d ∈ tables_1, d.before a0 Z = true) (a1 : Addr) (zc : Int32) (h0 : Heap) (hO : Ext Z.heap h0) (SZ : Sta Z Z.heap "java/lang/String" "COMPACT_STRINGS" "Z" (.int zc)) (hz : ¬ zc = 0) (F_c : Fld Z h0 a1 "java/lang/String" "coder" "B" (.int 0)) :
    own_C l Z (⟨"java/lang/String", "isLatin1", "()Z"⟩ : MethodName) jdk_42_method_154_code 1 (some .boolean) [] ({ frames := 0, cells := 0, slots := 0, locals := 0 } : Room) [] #[(.ref a1)] h0 (fun v h => v = some (.int (1 : Int32)) ∧ h0 = h) := by
  refine own_C.of pn15 hO all0 ?_
  intro p e s m below meth c T0 S0
  refine own_F.cast (by first | (simp [entryFrame, mkF, argsToLocals, Value.category]; done) | rfl : entryFrame m #[(.ref a1)] 1 = mkF m 0 #[.val (.ref a1)] []) ?_
  show own_F _ p e below _ Z _ _ _ _ _ (T0.setTop (mkF m 0 #[.val (.ref a1)] []))
  refine own_getS S0 (host := "") (Or.inl (own_w hw 39 rfl)) Via.refl (SZ.ext S0.old) d15_0 (fun T1 S1 => ?_)
  show own_F _ p e below _ Z _ _ _ _ _ (T1.setTop (mkF m 3 #[.val (.ref a1)] [(.int zc)]))
  refine own_if S1 17 d15_3 (by decide) (by decide) (fun (hc3_2 : zc = (0 : Int32)) => False.elim (hz hc3_2)) (fun (hc3_2 : ¬ (zc = (0 : Int32))) => ?_)
  show own_F _ p e below _ Z _ _ _ _ _ (T1.setTop (mkF m 6 #[.val (.ref a1)] []))
  refine own_F.of (fun _ => XS.aloadN S1.here S1.hx rfl (S1.dec d15_6) rfl rfl) ?_
  show own_F _ p e below _ Z _ _ _ _ _ (T1.setTop (mkF m 7 #[.val (.ref a1)] [(.ref a1)]))
  refine own_getF S1 (host := "") (Or.inl (own_w hw 29 rfl)) Via.refl F_c d15_7 (fun T3 S3 => ?_)
  show own_F _ p e below _ Z _ _ _ _ _ (T3.setTop (mkF m 10 #[.val (.ref a1)] [(.int 0)]))
  refine own_if S3 17 d15_10 (by decide) (by decide) (fun (hc10_4 : ¬ ((0 : Int32) = (0 : Int32))) => False.elim (absurd hc10_4 (by decide))) (fun (hc10_4 : (0 : Int32) = (0 : Int32)) => ?_)
  show own_F _ p e below _ Z _ _ _ _ _ (T3.setTop (mkF m 13 #[.val (.ref a1)] []))
  refine own_F.of (fun _ => XS.iconst S3.here S3.hx rfl (S3.dec d15_13)) ?_
  show own_F _ p e below _ Z _ _ _ _ _ (T3.setTop (mkF m 14 #[.val (.ref a1)] [(.int 1)]))
  refine own_F.of (fun _ => XS.goto S3.here S3.hx rfl (pc0 := 14) (pc' := 18) rfl (S3.dec d15_14) (by decide) (by decide)) ?_
  show own_F _ p e below _ Z _ _ _ _ _ (T3.setTop (mkF m 18 #[.val (.ref a1)] [(.int 1)]))
  refine own_retZ S3 (by simp) d15_18 (by decide) (by decide) ?_
  exact ⟨rfl, rfl⟩
set_option maxRecDepth 65536 in
set_option maxHeartbeats 40000000 in
theorem own_isL1 (l : Launch) (Z : State) (a0 : Array Value) (hw : ∀ d ∈ tables_1, d.before a0 Z = true) (a1 : Addr) (zc : Int32) (h0 : Heap) (hO : Ext Z.heap h0) (SZ : Sta Z Z.heap "java/lang/String" "COMPACT_STRINGS" "Z" (.int zc)) (hz : ¬ zc = 0) (F_c : Fld Z h0 a1 "java/lang/String" "coder" "B" (.int 1)) :
    own_C l Z (⟨"java/lang/String", "isLatin1", "()Z"⟩ : MethodName) jdk_42_method_154_code 1 (some .boolean) [] ({ frames := 0, cells := 0, slots := 0, locals := 0 } : Room) [] #[(.ref a1)] h0 (fun v h => v = some (.int (0 : Int32)) ∧ h0 = h) := by
  refine own_C.of pn15 hO all0 ?_
  intro p e s m below meth c T0 S0
  refine own_F.cast (by first | (simp [entryFrame, mkF, argsToLocals, Value.category]; done) | rfl : entryFrame m #[(.ref a1)] 1 = mkF m 0 #[.val (.ref a1)] []) ?_
  show own_F _ p e below _ Z _ _ _ _ _ (T0.setTop (mkF m 0 #[.val (.ref a1)] []))
  refine own_getS S0 (host := "") (Or.inl (own_w hw 39 rfl)) Via.refl (SZ.ext S0.old) d15_0 (fun T1 S1 => ?_)
  show own_F _ p e below _ Z _ _ _ _ _ (T1.setTop (mkF m 3 #[.val (.ref a1)] [(.int zc)]))
  refine own_if S1 17 d15_3 (by decide) (by decide) (fun (hc3_2 : zc = (0 : Int32)) => False.elim (hz hc3_2)) (fun (hc3_2 : ¬ (zc = (0 : Int32))) => ?_)
  show own_F _ p e below _ Z _ _ _ _ _ (T1.setTop (mkF m 6 #[.val (.ref a1)] []))
  refine own_F.of (fun _ => XS.aloadN S1.here S1.hx rfl (S1.dec d15_6) rfl rfl) ?_
  show own_F _ p e below _ Z _ _ _ _ _ (T1.setTop (mkF m 7 #[.val (.ref a1)] [(.ref a1)]))
  refine own_getF S1 (host := "") (Or.inl (own_w hw 29 rfl)) Via.refl F_c d15_7 (fun T3 S3 => ?_)
  show own_F _ p e below _ Z _ _ _ _ _ (T3.setTop (mkF m 10 #[.val (.ref a1)] [(.int 1)]))
  refine own_if S3 17 d15_10 (by decide) (by decide) (fun (hc10_4 : ¬ ((1 : Int32) = (0 : Int32))) => ?_) (fun (hc10_4 : (1 : Int32) = (0 : Int32)) => False.elim (absurd hc10_4 (by decide)))
  show own_F _ p e below _ Z _ _ _ _ _ (T3.setTop (mkF m 17 #[.val (.ref a1)] []))
  refine own_F.of (fun _ => XS.iconst S3.here S3.hx rfl (S3.dec d15_17)) ?_
  show own_F _ p e below _ Z _ _ _ _ _ (T3.setTop (mkF m 18 #[.val (.ref a1)] [(.int 0)]))
  refine own_retZ S3 (by simp) d15_18 (by decide) (by decide) ?_
  exact ⟨rfl, rfl⟩
theorem d12_0 : decode jdk_42_method_54_code 0 = .ok (.aload_n 0, 1) := by decide +kernel
theorem d12_1 : decode jdk_42_method_54_code 1 = .ok (.getfield 9, 3) := by decide +kernel
theorem d12_4 : decode jdk_42_method_54_code 4 = .ok (.arraylength, 1) := by decide +kernel
theorem d12_5 : decode jdk_42_method_54_code 5 = .ok (.aload_n 0, 1) := by decide +kernel
theorem d12_6 : decode jdk_42_method_54_code 6 = .ok (.invokevirtual 335, 3) := by decide +kernel
theorem d12_9 : decode jdk_42_method_54_code 9 = .ok (.ishr, 1) := by decide +kernel
theorem d12_10 : decode jdk_42_method_54_code 10 = .ok (.ireturn, 1) := by decide +kernel
theorem pn12 : plainFor (⟨"java/lang/String", "length", "()I"⟩ : MethodName) = true := plainFor_of_name (by first | (simp [plainName, overriddenIn]; done) | decide +kernel)
set_option maxRecDepth 65536 in
set_option maxHeartbeats 40000000 in
theorem own_lngL (l : Launch) (Z : State) (a0 : Array Value) (hw : ∀ d ∈ tables_1, d.before a0 Z = true) (a1 aB : Addr) (vs : List Value) (nn : Int32) (zc : Int32) (h0 : Heap) (hO : Ext Z.heap h0) (SZ : Sta Z Z.heap "java/lang/String" "COMPACT_STRINGS" "Z" (.int zc)) (hz : ¬ zc = 0) (hn : (vs.length.toInt32 >>> ((0 : Int32) &&& 31)) = nn) (E_a1 : Exa Z h0 a1 "java/lang/String") (F_v : Fld Z h0 a1 "java/lang/String" "value" "[B" (.ref aB)) (F_c : Fld Z h0 a1 "java/lang/String" "coder" "B" (.int 0)) (AB : own_A Z h0 aB .byte vs) :
    own_C l Z (⟨"java/lang/String", "length", "()I"⟩ : MethodName) jdk_42_method_54_code 1 (some .int) [] ({ frames := 1, cells := 0, slots := 0, locals := 13 } : Room) [] #[(.ref a1)] h0 (fun v h => v = some (.int nn) ∧ h0 = h) := by
  refine own_C.of pn12 hO all0 ?_
  intro p e s m below meth c T0 S0
  refine own_F.cast (by first | (simp [entryFrame, mkF, argsToLocals, Value.category]; done) | rfl : entryFrame m #[(.ref a1)] 1 = mkF m 0 #[.val (.ref a1)] []) ?_
  subst hn
  show own_F _ p e below _ Z _ _ _ _ _ (T0.setTop (mkF m 0 #[.val (.ref a1)] []))
  refine own_F.of (fun _ => XS.aloadN S0.here S0.hx rfl (S0.dec d12_0) rfl rfl) ?_
  show own_F _ p e below _ Z _ _ _ _ _ (T0.setTop (mkF m 1 #[.val (.ref a1)] [(.ref a1)]))
  refine own_getF S0 (host := "") (Or.inl (own_w hw 28 rfl)) Via.refl F_v d12_1 (fun T1 S1 => ?_)
  show own_F _ p e below _ Z _ _ _ _ _ (T1.setTop (mkF m 4 #[.val (.ref a1)] [(.ref aB)]))
  refine own_len S1 AB d12_4 ?_
  show own_F _ p e below _ Z _ _ _ _ _ (T1.setTop (mkF m 5 #[.val (.ref a1)] [(.int vs.length.toInt32)]))
  refine own_F.of (fun _ => XS.aloadN S1.here S1.hx rfl (S1.dec d12_5) rfl rfl) ?_
  show own_F _ p e below _ Z _ _ _ _ _ (T1.setTop (mkF m 6 #[.val (.ref a1)] [(.ref a1), (.int vs.length.toInt32)]))
  refine own_callV S1 (y := (⟨"java/lang/String", "coder", "()B"⟩ : MethodName)) (y' := (⟨"java/lang/String", "coder", "()B"⟩ : MethodName)) (own_w hw 58 rfl) (own_w hw 59 rfl) (own_nf S1 (own_w hw 61 rfl)) (own_w hw 61 rfl) (own_w hw 60 rfl) (own_w hw 62 rfl) (own_w hw 10 rfl) (by decide) E_a1 (argsL := []) (rest := [(.int vs.length.toInt32)]) (own_cdr0 l Z a0 hw a1 zc h0 S1.old SZ hz F_c) all0 (by decide +kernel : parseMethodDescriptor "()B" = some ⟨[], some .byte⟩) rfl rfl rfl d12_6 (by decide) (Nat.le_of_ble_eq_true rfl) (by decide) (by decide) (fun T2 h2 v2 S2 K2 q2 => ?_)
  obtain ⟨rfl, rfl⟩ := q2
  show own_F _ p e below _ Z _ _ _ _ _ (T2.setTop (mkF m 9 #[.val (.ref a1)] [(.int 0), (.int vs.length.toInt32)]))
  refine own_F.of (fun _ => XS.ishr S2.here S2.hx rfl (S2.dec d12_9) rfl) ?_
  show own_F _ p e below _ Z _ _ _ _ _ (T2.setTop (mkF m 10 #[.val (.ref a1)] [(.int (vs.length.toInt32 >>> ((0 : Int32) &&& 31)))]))
  refine own_retI S2 d12_10 (by decide) (by decide) ?_
  exact ⟨rfl, rfl⟩
set_option maxRecDepth 65536 in
set_option maxHeartbeats 40000000 in
theorem own_lngU (l : Launch) (Z : State) (a0 : Array Value) (hw : ∀ d ∈ tables_1, d.before a0 Z = true) (a1 aB : Addr) (vs : List Value) (nn : Int32) (zc : Int32) (h0 : Heap) (hO : Ext Z.heap h0) (SZ : Sta Z Z.heap "java/lang/String" "COMPACT_STRINGS" "Z" (.int zc)) (hz : ¬ zc = 0) (hn : (vs.length.toInt32 >>> ((1 : Int32) &&& 31)) = nn) (E_a1 : Exa Z h0 a1 "java/lang/String") (F_v : Fld Z h0 a1 "java/lang/String" "value" "[B" (.ref aB)) (F_c : Fld Z h0 a1 "java/lang/String" "coder" "B" (.int 1)) (AB : own_A Z h0 aB .byte vs) :
    own_C l Z (⟨"java/lang/String", "length", "()I"⟩ : MethodName) jdk_42_method_54_code 1 (some .int) [] ({ frames := 1, cells := 0, slots := 0, locals := 13 } : Room) [] #[(.ref a1)] h0 (fun v h => v = some (.int nn) ∧ h0 = h) := by
  refine own_C.of pn12 hO all0 ?_
  intro p e s m below meth c T0 S0
  refine own_F.cast (by first | (simp [entryFrame, mkF, argsToLocals, Value.category]; done) | rfl : entryFrame m #[(.ref a1)] 1 = mkF m 0 #[.val (.ref a1)] []) ?_
  subst hn
  show own_F _ p e below _ Z _ _ _ _ _ (T0.setTop (mkF m 0 #[.val (.ref a1)] []))
  refine own_F.of (fun _ => XS.aloadN S0.here S0.hx rfl (S0.dec d12_0) rfl rfl) ?_
  show own_F _ p e below _ Z _ _ _ _ _ (T0.setTop (mkF m 1 #[.val (.ref a1)] [(.ref a1)]))
  refine own_getF S0 (host := "") (Or.inl (own_w hw 28 rfl)) Via.refl F_v d12_1 (fun T1 S1 => ?_)
  show own_F _ p e below _ Z _ _ _ _ _ (T1.setTop (mkF m 4 #[.val (.ref a1)] [(.ref aB)]))
  refine own_len S1 AB d12_4 ?_
  show own_F _ p e below _ Z _ _ _ _ _ (T1.setTop (mkF m 5 #[.val (.ref a1)] [(.int vs.length.toInt32)]))
  refine own_F.of (fun _ => XS.aloadN S1.here S1.hx rfl (S1.dec d12_5) rfl rfl) ?_
  show own_F _ p e below _ Z _ _ _ _ _ (T1.setTop (mkF m 6 #[.val (.ref a1)] [(.ref a1), (.int vs.length.toInt32)]))
  refine own_callV S1 (y := (⟨"java/lang/String", "coder", "()B"⟩ : MethodName)) (y' := (⟨"java/lang/String", "coder", "()B"⟩ : MethodName)) (own_w hw 58 rfl) (own_w hw 59 rfl) (own_nf S1 (own_w hw 61 rfl)) (own_w hw 61 rfl) (own_w hw 60 rfl) (own_w hw 62 rfl) (own_w hw 10 rfl) (by decide) E_a1 (argsL := []) (rest := [(.int vs.length.toInt32)]) (own_cdr1 l Z a0 hw a1 zc h0 S1.old SZ hz F_c) all0 (by decide +kernel : parseMethodDescriptor "()B" = some ⟨[], some .byte⟩) rfl rfl rfl d12_6 (by decide) (Nat.le_of_ble_eq_true rfl) (by decide) (by decide) (fun T2 h2 v2 S2 K2 q2 => ?_)
  obtain ⟨rfl, rfl⟩ := q2
  show own_F _ p e below _ Z _ _ _ _ _ (T2.setTop (mkF m 9 #[.val (.ref a1)] [(.int 1), (.int vs.length.toInt32)]))
  refine own_F.of (fun _ => XS.ishr S2.here S2.hx rfl (S2.dec d12_9) rfl) ?_
  show own_F _ p e below _ Z _ _ _ _ _ (T2.setTop (mkF m 10 #[.val (.ref a1)] [(.int (vs.length.toInt32 >>> ((1 : Int32) &&& 31)))]))
  refine own_retI S2 d12_10 (by decide) (by decide) ?_
  exact ⟨rfl, rfl⟩
theorem d18_0 : decode jdk_41_method_11_code 0 = .ok (.iload_n 0, 1) := by decide +kernel
theorem d18_1 : decode jdk_41_method_11_code 1 = .ok (.ifCond .lt 8, 3) := by decide +kernel
theorem d18_4 : decode jdk_41_method_11_code 4 = .ok (.iload_n 0, 1) := by decide +kernel
theorem d18_5 : decode jdk_41_method_11_code 5 = .ok (.iload_n 1, 1) := by decide +kernel
theorem d18_6 : decode jdk_41_method_11_code 6 = .ok (.if_icmp .lt 10, 3) := by decide +kernel
theorem d18_9 : decode jdk_41_method_11_code 9 = .ok (.aload_n 2, 1) := by decide +kernel
theorem d18_10 : decode jdk_41_method_11_code 10 = .ok (.iload_n 0, 1) := by decide +kernel
theorem d18_11 : decode jdk_41_method_11_code 11 = .ok (.iload_n 1, 1) := by decide +kernel
theorem d18_12 : decode jdk_41_method_11_code 12 = .ok (.invokestatic 95, 3) := by decide +kernel
theorem d18_15 : decode jdk_41_method_11_code 15 = .ok (.athrow, 1) := by decide +kernel
theorem d18_16 : decode jdk_41_method_11_code 16 = .ok (.iload_n 0, 1) := by decide +kernel
theorem d18_17 : decode jdk_41_method_11_code 17 = .ok (.ireturn, 1) := by decide +kernel
theorem pn18 : plainFor (⟨"jdk/internal/util/Preconditions", "checkIndex", "(IILjava/util/function/BiFunction;)I"⟩ : MethodName) = true := plainFor_of_name (by first | (simp [plainName, overriddenIn]; done) | decide +kernel)
set_option maxRecDepth 65536 in
set_option maxHeartbeats 40000000 in
theorem own_ckP (l : Launch) (Z : State) (a0 : Array Value) (hw : ∀ d ∈ tables_1, d.before a0 Z = true) (i nn : Int32) (vF : Value) (h0 : Heap) (hO : Ext Z.heap h0) (hvF : vF.isRef = true) (SF : Sta Z Z.heap "jdk/internal/util/Preconditions" "SIOOBE_FORMATTER" "Ljava/util/function/BiFunction;" vF) (g : ¬ i < 0) (hi : i < nn) :
    own_C l Z (⟨"jdk/internal/util/Preconditions", "checkIndex", "(IILjava/util/function/BiFunction;)I"⟩ : MethodName) jdk_41_method_11_code 3 (some .int) [] ({ frames := 0, cells := 0, slots := 0, locals := 0 } : Room) [] #[(.int i), (.int nn), vF] h0 (fun v h => v = some (.int i) ∧ h0 = h) := by
  refine own_C.of pn18 hO all0 ?_
  intro p e s m below meth c T0 S0
  refine own_F.cast (by rcases XT.refc hvF with rfl | ⟨_, rfl⟩ <;> first | (simp [entryFrame, mkF, argsToLocals, Value.category]; done) | rfl : entryFrame m #[(.int i), (.int nn), vF] 3 = mkF m 0 #[.val (.int i), .val (.int nn), .val vF] []) ?_
  show own_F _ p e below _ Z _ _ _ _ _ (T0.setTop (mkF m 0 #[.val (.int i), .val (.int nn), .val vF] []))
  refine own_F.of (fun _ => XS.iloadN S0.here S0.hx rfl (S0.dec d18_0) rfl) ?_
  show own_F _ p e below _ Z _ _ _ _ _ (T0.setTop (mkF m 1 #[.val (.int i), .val (.int nn), .val vF] [(.int i)]))
  refine own_if S0 9 d18_1 (by decide) (by decide) (fun (hc1_1 : i < (0 : Int32)) => False.elim (g hc1_1)) (fun (hc1_1 : ¬ (i < (0 : Int32))) => ?_)
  show own_F _ p e below _ Z _ _ _ _ _ (T0.setTop (mkF m 4 #[.val (.int i), .val (.int nn), .val vF] []))
  refine own_F.of (fun _ => XS.iloadN S0.here S0.hx rfl (S0.dec d18_4) rfl) ?_
  refine own_F.of (fun _ => XS.iloadN S0.here S0.hx rfl (S0.dec d18_5) rfl) ?_
  show own_F _ p e below _ Z _ _ _ _ _ (T0.setTop (mkF m 6 #[.val (.int i), .val (.int nn), .val vF] [(.int nn), (.int i)]))
  refine own_icmp S0 16 d18_6 (by decide) (by decide) (fun (hc6_2 : i < nn) => ?_) (fun (hc6_2 : ¬ (i < nn)) => False.elim (hc6_2 hi))
  show own_F _ p e below _ Z _ _ _ _ _ (T0.setTop (mkF m 16 #[.val (.int i), .val (.int nn), .val vF] []))
  refine own_F.of (fun _ => XS.iloadN S0.here S0.hx rfl (S0.dec d18_16) rfl) ?_
  show own_F _ p e below _ Z _ _ _ _ _ (T0.setTop (mkF m 17 #[.val (.int i), .val (.int nn), .val vF] [(.int i)]))
  refine own_retI S0 d18_17 (by decide) (by decide) ?_
  exact ⟨rfl, rfl⟩
theorem d17_0 : decode jdk_42_method_155_code 0 = .ok (.iload_n 0, 1) := by decide +kernel
theorem d17_1 : decode jdk_42_method_155_code 1 = .ok (.iload_n 1, 1) := by decide +kernel
theorem d17_2 : decode jdk_42_method_155_code 2 = .ok (.getstatic 1053, 3) := by decide +kernel
theorem d17_5 : decode jdk_42_method_155_code 5 = .ok (.invokestatic 1059, 3) := by decide +kernel
theorem d17_8 : decode jdk_42_method_155_code 8 = .ok (.pop, 1) := by decide +kernel
theorem d17_9 : decode jdk_42_method_155_code 9 = .ok (.return_, 1) := by decide +kernel
theorem pn17 : plainFor (⟨"java/lang/String", "checkIndex", "(II)V"⟩ : MethodName) = true := plainFor_of_name (by first | (simp [plainName, overriddenIn]; done) | decide +kernel)
set_option maxRecDepth 65536 in
set_option maxHeartbeats 40000000 in
theorem own_ckI (l : Launch) (Z : State) (a0 : Array Value) (hw : ∀ d ∈ tables_1, d.before a0 Z = true) (i nn : Int32) (vF : Value) (h0 : Heap) (hO : Ext Z.heap h0) (hvF : vF.isRef = true) (SF : Sta Z Z.heap "jdk/internal/util/Preconditions" "SIOOBE_FORMATTER" "Ljava/util/function/BiFunction;" vF) (g : ¬ i < 0) (hi : i < nn) :
    own_C l Z (⟨"java/lang/String", "checkIndex", "(II)V"⟩ : MethodName) jdk_42_method_155_code 2 none [] ({ frames := 1, cells := 0, slots := 0, locals := 14 } : Room) [] #[(.int i), (.int nn)] h0 (fun v h => v = none ∧ h0 = h) := by
  refine own_C.of pn17 hO all0 ?_
  intro p e s m below meth c T0 S0
  refine own_F.cast (by first | (simp [entryFrame, mkF, argsToLocals, Value.category]; done) | rfl : entryFrame m #[(.int i), (.int nn)] 2 = mkF m 0 #[.val (.int i), .val (.int nn)] []) ?_
  show own_F _ p e below _ Z _ _ _ _ _ (T0.setTop (mkF m 0 #[.val (.int i), .val (.int nn)] []))
  refine own_F.of (fun _ => XS.iloadN S0.here S0.hx rfl (S0.dec d17_0) rfl) ?_
  refine own_F.of (fun _ => XS.iloadN S0.here S0.hx rfl (S0.dec d17_1) rfl) ?_
  show own_F _ p e below _ Z _ _ _ _ _ (T0.setTop (mkF m 2 #[.val (.int i), .val (.int nn)] [(.int nn), (.int i)]))
  refine own_getS S0 (host := "") (Or.inl (own_w hw 80 rfl)) Via.refl (SF.ext S0.old) d17_2 (fun T1 S1 => ?_)
  show own_F _ p e below _ Z _ _ _ _ _ (T1.setTop (mkF m 5 #[.val (.int i), .val (.int nn)] [vF, (.int nn), (.int i)]))
  refine own_callS S1 (y := (⟨"jdk/internal/util/Preconditions", "checkIndex", "(IILjava/util/function/BiFunction;)I"⟩ : MethodName)) (own_w hw 82 rfl) (own_w hw 83 rfl) (own_w hw 81 rfl) (own_w hw 84 rfl) (by decide) (argsL := [(.int i), (.int nn), vF]) (rest := []) (own_ckP l Z a0 hw i nn vF h0 S1.old hvF SF g hi) all0 (by decide +kernel : parseMethodDescriptor "(IILjava/util/function/BiFunction;)I" = some ⟨[.int, .int, (.object "java/util/function/BiFunction")], some .int⟩) rfl rfl rfl d17_5 (by decide) (Nat.le_of_ble_eq_true rfl) (by decide) (by decide) (fun T2 h2 v2 S2 K2 q2 => ?_)
  obtain ⟨rfl, rfl⟩ := q2
  show own_F _ p e below _ Z _ _ _ _ _ (T2.setTop (mkF m 8 #[.val (.int i), .val (.int nn)] [(.int i)]))
  refine own_F.of (fun _ => XS.pop S2.here S2.hx rfl (S2.dec d17_8) rfl rfl) ?_
  show own_F _ p e below _ Z _ _ _ _ _ (T2.setTop (mkF m 9 #[.val (.int i), .val (.int nn)] []))
  refine own_retV S2 d17_9 (by decide) (by decide) ?_
  exact ⟨rfl, rfl⟩
theorem d27_0 : decode jdk_52_method_6_code 0 = .ok (.aload_n 0, 1) := by decide +kernel
theorem d27_1 : decode jdk_52_method_6_code 1 = .ok (.arraylength, 1) := by decide +kernel
theorem d27_2 : decode jdk_52_method_6_code 2 = .ok (.iconst 1, 1) := by decide +kernel
theorem d27_3 : decode jdk_52_method_6_code 3 = .ok (.ishr, 1) := by decide +kernel
theorem d27_4 : decode jdk_52_method_6_code 4 = .ok (.ireturn, 1) := by decide +kernel
theorem pn27 : plainFor (⟨"java/lang/StringUTF16", "length", "([B)I"⟩ : MethodName) = true := plainFor_of_name (by first | (simp [plainName, overriddenIn]; done) | decide +kernel)
set_option maxRecDepth 65536 in
set_option maxHeartbeats 40000000 in
theorem own_lnU (l : Launch) (Z : State) (a0 : Array Value) (hw : ∀ d ∈ tables_1, d.before a0 Z = true) (aB : Addr) (vs : List Value) (nn : Int32) (h0 : Heap) (hO : Ext Z.heap h0) (hn : (vs.length.toInt32 >>> ((1 : Int32) &&& 31)) = nn) (AB : own_A Z h0 aB .byte vs) :
    own_C l Z (⟨"java/lang/StringUTF16", "length", "([B)I"⟩ : MethodName) jdk_52_method_6_code 1 (some .int) [] ({ frames := 0, cells := 0, slots := 0, locals := 0 } : Room) [] #[(.ref aB)] h0 (fun v h => v = some (.int nn) ∧ h0 = h) := by
  refine own_C.of pn27 hO all0 ?_
  intro p e s m below meth c T0 S0
  refine own_F.cast (by first | (simp [entryFrame, mkF, argsToLocals, Value.category]; done) | rfl : entryFrame m #[(.ref aB)] 1 = mkF m 0 #[.val (.ref aB)] []) ?_
  subst hn
  show own_F _ p e below _ Z _ _ _ _ _ (T0.setTop (mkF m 0 #[.val (.ref aB)] []))
  refine own_F.of (fun _ => XS.aloadN S0.here S0.hx rfl (S0.dec d27_0) rfl rfl) ?_
  show own_F _ p e below _ Z _ _ _ _ _ (T0.setTop (mkF m 1 #[.val (.ref aB)] [(.ref aB)]))
  refine own_len S0 AB d27_1 ?_
  show own_F _ p e below _ Z _ _ _ _ _ (T0.setTop (mkF m 2 #[.val (.ref aB)] [(.int vs.length.toInt32)]))
  refine own_F.of (fun _ => XS.iconst S0.here S0.hx rfl (S0.dec d27_2)) ?_
  show own_F _ p e below _ Z _ _ _ _ _ (T0.setTop (mkF m 3 #[.val (.ref aB)] [(.int 1), (.int vs.length.toInt32)]))
  refine own_F.of (fun _ => XS.ishr S0.here S0.hx rfl (S0.dec d27_3) rfl) ?_
  show own_F _ p e below _ Z _ _ _ _ _ (T0.setTop (mkF m 4 #[.val (.ref aB)] [(.int (vs.length.toInt32 >>> ((1 : Int32) &&& 31)))]))
  refine own_retI S0 d27_4 (by decide) (by decide) ?_
  exact ⟨rfl, rfl⟩
theorem d16_0 : decode jdk_43_method_2_code 0 = .ok (.iload_n 1, 1) := by decide +kernel
theorem d16_1 : decode jdk_43_method_2_code 1 = .ok (.aload_n 0, 1) := by decide +kernel
theorem d16_2 : decode jdk_43_method_2_code 2 = .ok (.arraylength, 1) := by decide +kernel
theorem d16_3 : decode jdk_43_method_2_code 3 = .ok (.invokestatic 9, 3) := by decide +kernel
theorem d16_6 : decode jdk_43_method_2_code 6 = .ok (.aload_n 0, 1) := by decide +kernel
theorem d16_7 : decode jdk_43_method_2_code 7 = .ok (.iload_n 1, 1) := by decide +kernel
theorem d16_8 : decode jdk_43_method_2_code 8 = .ok (.baload, 1) := by decide +kernel
theorem d16_9 : decode jdk_43_method_2_code 9 = .ok (.sipush 255, 3) := by decide +kernel
theorem d16_12 : decode jdk_43_method_2_code 12 = .ok (.iand, 1) := by decide +kernel
theorem d16_13 : decode jdk_43_method_2_code 13 = .ok (.i2c, 1) := by decide +kernel
theorem d16_14 : decode jdk_43_method_2_code 14 = .ok (.ireturn, 1) := by decide +kernel
theorem pn16 : plainFor (⟨"java/lang/StringLatin1", "charAt", "([BI)C"⟩ : MethodName) = true := plainFor_of_name (by first | (simp [plainName, overriddenIn]; done) | decide +kernel)
set_option maxRecDepth 65536 in
set_option maxHeartbeats 40000000 in
theorem own_chL (l : Launch) (Z : State) (a0 : Array Value) (hw : ∀ d ∈ tables_1, d.before a0 Z = true) (aB : Addr) (vs : List Value) (nn i x : Int32) (vF : Value) (h0 : Heap) (hO : Ext Z.heap h0) (hvF : vF.isRef = true) (SF : Sta Z Z.heap "jdk/internal/util/Preconditions" "SIOOBE_FORMATTER" "Ljava/util/function/BiFunction;" vF) (hl : vs.length.toInt32 = nn) (g : ¬ i < 0) (hi : i < nn) (v0 : vs[i.toNatClampNeg]? = some (.int (nar .byte (x.toInt8.toInt32)))) (cx : own_isC x) (hp : ¬ 255 < x) (AB : own_A Z h0 aB .byte vs) :
    own_C l Z (⟨"java/lang/StringLatin1", "charAt", "([BI)C"⟩ : MethodName) jdk_43_method_2_code 2 (some .char) [] ({ frames := 2, cells := 0, slots := 0, locals := 27 } : Room) [] #[(.ref aB), (.int i)] h0 (fun v h => v = some (.int x) ∧ h0 = h) := by
  refine own_C.of pn16 hO all0 ?_
  intro p e s m below meth c T0 S0
  refine own_F.cast (by first | (simp [entryFrame, mkF, argsToLocals, Value.category]; done) | rfl : entryFrame m #[(.ref aB), (.int i)] 2 = mkF m 0 #[.val (.ref aB), .val (.int i)] []) ?_
  subst hl
  show own_F _ p e below _ Z _ _ _ _ _ (T0.setTop (mkF m 0 #[.val (.ref aB), .val (.int i)] []))
  refine own_F.of (fun _ => XS.iloadN S0.here S0.hx rfl (S0.dec d16_0) rfl) ?_
  refine own_F.of (fun _ => XS.aloadN S0.here S0.hx rfl (S0.dec d16_1) rfl rfl) ?_
  show own_F _ p e below _ Z _ _ _ _ _ (T0.setTop (mkF m 2 #[.val (.ref aB), .val (.int i)] [(.ref aB), (.int i)]))
  refine own_len S0 AB d16_2 ?_
  show own_F _ p e below _ Z _ _ _ _ _ (T0.setTop (mkF m 3 #[.val (.ref aB), .val (.int i)] [(.int vs.length.toInt32), (.int i)]))
  refine own_callS S0 (y := (⟨"java/lang/String", "checkIndex", "(II)V"⟩ : MethodName)) (own_w hw 77 rfl) (own_w hw 78 rfl) (own_w hw 10 rfl) (own_w hw 79 rfl) (by decide) (argsL := [(.int i), (.int vs.length.toInt32)]) (rest := []) (own_ckI l Z a0 hw i _ vF h0 S0.old hvF SF g hi) all0 (by decide +kernel : parseMethodDescriptor "(II)V" = some ⟨[.int, .int], none⟩) rfl rfl rfl d16_3 (by decide) (Nat.le_of_ble_eq_true rfl) (by decide) (by decide) (fun T1 h1 v1 S1 K1 q1 => ?_)
  obtain ⟨rfl, rfl⟩ := q1
  show own_F _ p e below _ Z _ _ _ _ _ (T1.setTop (mkF m 6 #[.val (.ref aB), .val (.int i)] []))
  refine own_F.of (fun _ => XS.aloadN S1.here S1.hx rfl (S1.dec d16_6) rfl rfl) ?_
  refine own_F.of (fun _ => XS.iloadN S1.here S1.hx rfl (S1.dec d16_7) rfl) ?_
  show own_F _ p e below _ Z _ _ _ _ _ (T1.setTop (mkF m 8 #[.val (.ref aB), .val (.int i)] [(.int i), (.ref aB)]))
  refine own_bald S1 AB g v0 d16_8 ?_
  show own_F _ p e below _ Z _ _ _ _ _ (T1.setTop (mkF m 9 #[.val (.ref aB), .val (.int i)] [(.int (nar .byte (x.toInt8.toInt32)))]))
  refine own_F.of (fun _ => XS.sipush S1.here S1.hx rfl (S1.dec d16_9)) ?_
  show own_F _ p e below _ Z _ _ _ _ _ (T1.setTop (mkF m 12 #[.val (.ref aB), .val (.int i)] [(.int 255), (.int (nar .byte (x.toInt8.toInt32)))]))
  refine own_F.of (fun _ => XS.iand S1.here S1.hx rfl (S1.dec d16_12) rfl) ?_
  show own_F _ p e below _ Z _ _ _ _ _ (T1.setTop (mkF m 13 #[.val (.ref aB), .val (.int i)] [(.int ((nar .byte (x.toInt8.toInt32)) &&& (255 : Int32)))]))
  refine own_F.of (fun _ => XS.i2c S1.here S1.hx rfl (S1.dec d16_13) rfl) ?_
  show own_F _ p e below _ Z _ _ _ _ _ (T1.setTop (mkF m 14 #[.val (.ref aB), .val (.int i)] [(.int (((nar .byte (x.toInt8.toInt32)) &&& (255 : Int32)).toUInt32.toUInt16.toUInt32.toInt32))]))
  refine own_retZ S1 (by simp) d16_14 (by decide) (by decide) ?_
  rw [own_glueL cx hp, own_narC cx]; exact ⟨rfl, rfl⟩
theorem d26_0 : decode jdk_52_method_91_code 0 = .ok (.iload_n 0, 1) := by decide +kernel
theorem d26_1 : decode jdk_52_method_91_code 1 = .ok (.aload_n 1, 1) := by decide +kernel
theorem d26_2 : decode jdk_52_method_91_code 2 = .ok (.invokestatic 48, 3) := by decide +kernel
theorem d26_5 : decode jdk_52_method_91_code 5 = .ok (.invokestatic 414, 3) := by decide +kernel
theorem d26_8 : decode jdk_52_method_91_code 8 = .ok (.return_, 1) := by decide +kernel
theorem pn26 : plainFor (⟨"java/lang/StringUTF16", "checkIndex", "(I[B)V"⟩ : MethodName) = true := plainFor_of_name (by first | (simp [plainName, overriddenIn]; done) | decide +kernel)
set_option maxRecDepth 65536 in
set_option maxHeartbeats 40000000 in
theorem own_ckU (l : Launch) (Z : State) (a0 : Array Value) (hw : ∀ d ∈ tables_1, d.before a0 Z = true) (aB : Addr) (vs : List Value) (nn i : Int32) (vF : Value) (h0 : Heap) (hO : Ext Z.heap h0) (hvF : vF.isRef = true) (SF : Sta Z Z.heap "jdk/internal/util/Preconditions" "SIOOBE_FORMATTER" "Ljava/util/function/BiFunction;" vF) (hn : (vs.length.toInt32 >>> ((1 : Int32) &&& 31)) = nn) (g : ¬ i < 0) (hi : i < nn) (AB : own_A Z h0 aB .byte vs) :
    own_C l Z (⟨"java/lang/StringUTF16", "checkIndex", "(I[B)V"⟩ : MethodName) jdk_52_method_91_code 2 none [] ({ frames := 2, cells := 0, slots := 0, locals := 27 } : Room) [] #[(.int i), (.ref aB)] h0 (fun v h => v = none ∧ h0 = h) := by
  refine own_C.of pn26 hO all0 ?_
  intro p e s m below meth c T0 S0
  refine own_F.cast (by first | (simp [entryFrame, mkF, argsToLocals, Value.category]; done) | rfl : entryFrame m #[(.int i), (.ref aB)] 2 = mkF m 0 #[.val (.int i), .val (.ref aB)] []) ?_
  show own_F _ p e below _ Z _ _ _ _ _ (T0.setTop (mkF m 0 #[.val (.int i), .val (.ref aB)] []))
  refine own_F.of (fun _ => XS.iloadN S0.here S0.hx rfl (S0.dec d26_0) rfl) ?_
  refine own_F.of (fun _ => XS.aloadN S0.here S0.hx rfl (S0.dec d26_1) rfl rfl) ?_
  show own_F _ p e below _ Z _ _ _ _ _ (T0.setTop (mkF m 2 #[.val (.int i), .val (.ref aB)] [(.ref aB), (.int i)]))
  refine own_callS S0 (y := (⟨"java/lang/StringUTF16", "length", "([B)I"⟩ : MethodName)) (own_w hw 116 rfl) (own_w hw 117 rfl) (own_w hw 42 rfl) (own_w hw 118 rfl) (by decide) (argsL := [(.ref aB)]) (rest := [(.int i)]) (own_lnU l Z a0 hw aB vs nn h0 S0.old hn AB) all0 (by decide +kernel : parseMethodDescriptor "([B)I" = some ⟨[(.array .byte)], some .int⟩) rfl rfl rfl d26_2 (by decide) (Nat.le_of_ble_eq_true rfl) (by decide) (by decide) (fun T1 h1 v1 S1 K1 q1 => ?_)
  obtain ⟨rfl, rfl⟩ := q1
  show own_F _ p e below _ Z _ _ _ _ _ (T1.setTop (mkF m 5 #[.val (.int i), .val (.ref aB)] [(.int nn), (.int i)]))
  refine own_callS S1 (y := (⟨"java/lang/String", "checkIndex", "(II)V"⟩ : MethodName)) (own_w hw 119 rfl) (own_w hw 78 rfl) (own_w hw 10 rfl) (own_w hw 79 rfl) (by decide) (argsL := [(.int i), (.int nn)]) (rest := []) (own_ckI l Z a0 hw i nn vF h0 S1.old hvF SF g hi) all0 (by decide +kernel : parseMethodDescriptor "(II)V" = some ⟨[.int, .int], none⟩) rfl rfl rfl d26_5 (by decide) (Nat.le_of_ble_eq_true rfl) (by decide) (by decide) (fun T2 h2 v2 S2 K2 q2 => ?_)
  obtain ⟨rfl, rfl⟩ := q2
  show own_F _ p e below _ Z _ _ _ _ _ (T2.setTop (mkF m 8 #[.val (.int i), .val (.ref aB)] []))
  refine own_retV S2 d26_8 (by decide) (by decide) ?_
  exact ⟨rfl, rfl⟩
theorem d25_0 : decode jdk_52_method_83_code 0 = .ok (.iload_n 1, 1) := by decide +kernel
theorem d25_1 : decode jdk_52_method_83_code 1 = .ok (.aload_n 0, 1) := by decide +kernel
theorem d25_2 : decode jdk_52_method_83_code 2 = .ok (.invokestatic 67, 3) := by decide +kernel
theorem d25_5 : decode jdk_52_method_83_code 5 = .ok (.aload_n 0, 1) := by decide +kernel
theorem d25_6 : decode jdk_52_method_83_code 6 = .ok (.iload_n 1, 1) := by decide +kernel
theorem d25_7 : decode jdk_52_method_83_code 7 = .ok (.invokestatic 71, 3) := by decide +kernel
theorem d25_10 : decode jdk_52_method_83_code 10 = .ok (.ireturn, 1) := by decide +kernel
theorem pn25 : plainFor (⟨"java/lang/StringUTF16", "charAt", "([BI)C"⟩ : MethodName) = true := plainFor_of_name (by first | (simp [plainName, overriddenIn]; done) | decide +kernel)
set_option maxRecDepth 65536 in
set_option maxHeartbeats 40000000 in
theorem own_chU (l : Launch) (Z : State) (a0 : Array Value) (hw : ∀ d ∈ tables_1, d.before a0 Z = true) (aB : Addr) (vs : List Value) (nn i j0 j1 x : Int32) (vF : Value) (h0 : Heap) (hO : Ext Z.heap h0) (hvF : vF.isRef = true) (SF : Sta Z Z.heap "jdk/internal/util/Preconditions" "SIOOBE_FORMATTER" "Ljava/util/function/BiFunction;" vF) (S_as : Sta Z Z.heap "java/lang/StringUTF16" "$assertionsDisabled" "Z" (.int 1)) (S_hi : Sta Z Z.heap "java/lang/StringUTF16" "HI_BYTE_SHIFT" "I" (.int 0)) (S_lo : Sta Z Z.heap "java/lang/StringUTF16" "LO_BYTE_SHIFT" "I" (.int 8)) (hn : (vs.length.toInt32 >>> ((1 : Int32) &&& 31)) = nn) (g : ¬ i < 0) (hi : i < nn) (e0 : (i <<< ((1 : Int32) &&& 31)) = j0) (e1 : (j0 + (1 : Int32)) = j1) (g0 : ¬ j0 < 0) (g1 : ¬ j1 < 0) (v0 : vs[j0.toNatClampNeg]? = some (.int (own_lo x))) (v1 : vs[j1.toNatClampNeg]? = some (.int (own_hi x))) (cx : own_isC x) (AB : own_A Z h0 aB .byte vs) :
    own_C l Z (⟨"java/lang/StringUTF16", "charAt", "([BI)C"⟩ : MethodName) jdk_52_method_83_code 2 (some .char) [] ({ frames := 3, cells := 0, slots := 0, locals := 40 } : Room) [] #[(.ref aB), (.int i)] h0 (fun v h => v = some (.int x) ∧ h0 = h) := by
  refine own_C.of pn25 hO all0 ?_
  intro p e s m below meth c T0 S0
  refine own_F.cast (by first | (simp [entryFrame, mkF, argsToLocals, Value.category]; done) | rfl : entryFrame m #[(.ref aB), (.int i)] 2 = mkF m 0 #[.val (.ref aB), .val (.int i)] []) ?_
  show own_F _ p e below _ Z _ _ _ _ _ (T0.setTop (mkF m 0 #[.val (.ref aB), .val (.int i)] []))
  refine own_F.of (fun _ => XS.iloadN S0.here S0.hx rfl (S0.dec d25_0) rfl) ?_
  refine own_F.of (fun _ => XS.aloadN S0.here S0.hx rfl (S0.dec d25_1) rfl rfl) ?_
  show own_F _ p e below _ Z _ _ _ _ _ (T0.setTop (mkF m 2 #[.val (.ref aB), .val (.int i)] [(.ref aB), (.int i)]))
  refine own_callS S0 (y := (⟨"java/lang/StringUTF16", "checkIndex", "(I[B)V"⟩ : MethodName)) (own_w hw 113 rfl) (own_w hw 114 rfl) (own_w hw 42 rfl) (own_w hw 115 rfl) (by decide) (argsL := [(.int i), (.ref aB)]) (rest := []) (own_ckU l Z a0 hw aB vs nn i vF h0 S0.old hvF SF hn g hi AB) all0 (by decide +kernel : parseMethodDescriptor "(I[B)V" = some ⟨[.int, (.array .byte)], none⟩) rfl rfl rfl d25_2 (by decide) (Nat.le_of_ble_eq_true rfl) (by decide) (by decide) (fun T1 h1 v1 S1 K1 q1 => ?_)
  obtain ⟨rfl, rfl⟩ := q1
  show own_F _ p e below _ Z _ _ _ _ _ (T1.setTop (mkF m 5 #[.val (.ref aB), .val (.int i)] []))
  refine own_F.of (fun _ => XS.aloadN S1.here S1.hx rfl (S1.dec d25_5) rfl rfl) ?_
  refine own_F.of (fun _ => XS.iloadN S1.here S1.hx rfl (S1.dec d25_6) rfl) ?_
  show own_F _ p e below _ Z _ _ _ _ _ (T1.setTop (mkF m 7 #[.val (.ref aB), .val (.int i)] [(.int i), (.ref aB)]))
  refine own_callS S1 (y := (⟨"java/lang/StringUTF16", "getChar", "([BI)C"⟩ : MethodName)) (own_w hw 107 rfl) (own_w hw 108 rfl) (own_w hw 42 rfl) (own_w hw 109 rfl) (by decide) (argsL := [(.ref aB), (.int i)]) (rest := []) (own_getC l Z a0 hw aB vs i j0 j1 x h0 S1.old S_as S_hi S_lo e0 e1 g0 g1 v0 v1 cx AB) all0 (by decide +kernel : parseMethodDescriptor "([BI)C" = some ⟨[(.array .byte), .int], some .char⟩) rfl rfl rfl d25_7 (by decide) (Nat.le_of_ble_eq_true rfl) (by decide) (by decide) (fun T2 h2 v2 S2 K2 q2 => ?_)
  obtain ⟨rfl, rfl⟩ := q2
  show own_F _ p e below _ Z _ _ _ _ _ (T2.setTop (mkF m 10 #[.val (.ref aB), .val (.int i)] [(.int x)]))
  refine own_retZ S2 (by simp) d25_10 (by decide) (by decide) ?_
  rw [own_narC cx]; exact ⟨rfl, rfl⟩
theorem d14_0 : decode jdk_42_method_56_code 0 = .ok (.aload_n 0, 1) := by decide +kernel
theorem d14_1 : decode jdk_42_method_56_code 1 = .ok (.invokevirtual 492, 3) := by decide +kernel
theorem d14_4 : decode jdk_42_method_56_code 4 = .ok (.ifCond .eq 12, 3) := by decide +kernel
theorem d14_7 : decode jdk_42_method_56_code 7 = .ok (.aload_n 0, 1) := by decide +kernel
theorem d14_8 : decode jdk_42_method_56_code 8 = .ok (.getfield 9, 3) := by decide +kernel
theorem d14_11 : decode jdk_42_method_56_code 11 = .ok (.iload_n 1, 1) := by decide +kernel
theorem d14_12 : decode jdk_42_method_56_code 12 = .ok (.invokestatic 495, 3) := by decide +kernel
theorem d14_15 : decode jdk_42_method_56_code 15 = .ok (.ireturn, 1) := by decide +kernel
theorem d14_16 : decode jdk_42_method_56_code 16 = .ok (.aload_n 0, 1) := by decide +kernel
theorem d14_17 : decode jdk_42_method_56_code 17 = .ok (.getfield 9, 3) := by decide +kernel
theorem d14_20 : decode jdk_42_method_56_code 20 = .ok (.iload_n 1, 1) := by decide +kernel
theorem d14_21 : decode jdk_42_method_56_code 21 = .ok (.invokestatic 498, 3) := by decide +kernel
theorem d14_24 : decode jdk_42_method_56_code 24 = .ok (.ireturn, 1) := by decide +kernel
theorem pn14 : plainFor (⟨"java/lang/String", "charAt", "(I)C"⟩ : MethodName) = true := plainFor_of_name (by first | (simp [plainName, overriddenIn]; done) | decide +kernel)
set_option maxRecDepth 65536 in
set_option maxHeartbeats 40000000 in
theorem own_catL (l : Launch) (Z : State) (a0 : Array Value) (hw : ∀ d ∈ tables_1, d.before a0 Z = true) (a1 : Addr) (aB : Addr) (vs : List Value) (nn i x : Int32) (zc : Int32) (vF : Value) (h0 : Heap) (hO : Ext Z.heap h0) (SZ : Sta Z Z.heap "java/lang/String" "COMPACT_STRINGS" "Z" (.int zc)) (hz : ¬ zc = 0) (S_as : Sta Z Z.heap "java/lang/StringUTF16" "$assertionsDisabled" "Z" (.int 1)) (S_hi : Sta Z Z.heap "java/lang/StringUTF16" "HI_BYTE_SHIFT" "I" (.int 0)) (S_lo : Sta Z Z.heap "java/lang/StringUTF16" "LO_BYTE_SHIFT" "I" (.int 8)) (hvF : vF.isRef = true) (SF : Sta Z Z.heap "jdk/internal/util/Preconditions" "SIOOBE_FORMATTER" "Ljava/util/function/BiFunction;" vF) (hl : vs.length.toInt32 = nn) (g : ¬ i < 0) (hi : i < nn) (v0 : vs[i.toNatClampNeg]? = some (.int (nar .byte (x.toInt8.toInt32)))) (cx : own_isC x) (hp : ¬ 255 < x) (E_a1 : Exa Z h0 a1 "java/lang/String") (F_v : Fld Z h0 a1 "java/lang/String" "value" "[B" (.ref aB)) (F_c : Fld Z h0 a1 "java/lang/String" "coder" "B" (.int 0)) (AB : own_A Z h0 aB .byte vs) :
    own_C l Z (⟨"java/lang/String", "charAt", "(I)C"⟩ : MethodName) jdk_42_method_56_code 2 (some .char) [] ({ frames := 3, cells := 0, slots := 0, locals := 40 } : Room) [] #[(.ref a1), (.int i)] h0 (fun v h => v = some (.int x) ∧ h0 = h) := by
  refine own_C.of pn14 hO all0 ?_
  intro p e s m below meth c T0 S0
  refine own_F.cast (by first | (simp [entryFrame, mkF, argsToLocals, Value.category]; done) | rfl : entryFrame m #[(.ref a1), (.int i)] 2 = mkF m 0 #[.val (.ref a1), .val (.int i)] []) ?_
  show own_F _ p e below _ Z _ _ _ _ _ (T0.setTop (mkF m 0 #[.val (.ref a1), .val (.int i)] []))
  refine own_F.of (fun _ => XS.aloadN S0.here S0.hx rfl (S0.dec d14_0) rfl rfl) ?_
  show own_F _ p e below _ Z _ _ _ _ _ (T0.setTop (mkF m 1 #[.val (.ref a1), .val (.int i)] [(.ref a1)]))
  refine own_callV S0 (y := (⟨"java/lang/String", "isLatin1", "()Z"⟩ : MethodName)) (y' := (⟨"java/lang/String", "isLatin1", "()Z"⟩ : MethodName)) (own_w hw 68 rfl) (own_w hw 69 rfl) (own_nf S0 (own_w hw 71 rfl)) (own_w hw 71 rfl) (own_w hw 70 rfl) (own_w hw 72 rfl) (own_w hw 10 rfl) (by decide) E_a1 (argsL := []) (rest := []) (own_isL0 l Z a0 hw a1 zc h0 S0.old SZ hz F_c) all0 (by decide +kernel : parseMethodDescriptor "()Z" = some ⟨[], some .boolean⟩) rfl rfl rfl d14_1 (by decide) (Nat.le_of_ble_eq_true rfl) (by decide) (by decide) (fun T1 h1 v1 S1 K1 q1 => ?_)
  obtain ⟨rfl, rfl⟩ := q1
  show own_F _ p e below _ Z _ _ _ _ _ (T1.setTop (mkF m 4 #[.val (.ref a1), .val (.int i)] [(.int 1)]))
  refine own_if S1 16 d14_4 (by decide) (by decide) (fun (hc4_2 : (1 : Int32) = (0 : Int32)) => False.elim (absurd hc4_2 (by decide))) (fun (hc4_2 : ¬ ((1 : Int32) = (0 : Int32))) => ?_)
  show own_F _ p e below _ Z _ _ _ _ _ (T1.setTop (mkF m 7 #[.val (.ref a1), .val (.int i)] []))
  refine own_F.of (fun _ => XS.aloadN S1.here S1.hx rfl (S1.dec d14_7) rfl rfl) ?_
  show own_F _ p e below _ Z _ _ _ _ _ (T1.setTop (mkF m 8 #[.val (.ref a1), .val (.int i)] [(.ref a1)]))
  refine own_getF S1 (host := "") (Or.inl (own_w hw 28 rfl)) Via.refl F_v d14_8 (fun T3 S3 => ?_)
  show own_F _ p e below _ Z _ _ _ _ _ (T3.setTop (mkF m 11 #[.val (.ref a1), .val (.int i)] [(.ref aB)]))
  refine own_F.of (fun _ => XS.iloadN S3.here S3.hx rfl (S3.dec d14_11) rfl) ?_
  show own_F _ p e below _ Z _ _ _ _ _ (T3.setTop (mkF m 12 #[.val (.ref a1), .val (.int i)] [(.int i), (.ref aB)]))
  refine own_callS S3 (y := (⟨"java/lang/StringLatin1", "charAt", "([BI)C"⟩ : MethodName)) (own_w hw 73 rfl) (own_w hw 74 rfl) (own_w hw 75 rfl) (own_w hw 76 rfl) (by decide) (argsL := [(.ref aB), (.int i)]) (rest := []) (own_chL l Z a0 hw aB vs nn i x vF h0 S3.old hvF SF hl g hi v0 cx hp AB) all0 (by decide +kernel : parseMethodDescriptor "([BI)C" = some ⟨[(.array .byte), .int], some .char⟩) rfl rfl rfl d14_12 (by decide) (Nat.le_of_ble_eq_true rfl) (by decide) (by decide) (fun T4 h4 v4 S4 K4 q4 => ?_)
  obtain ⟨rfl, rfl⟩ := q4
  show own_F _ p e below _ Z _ _ _ _ _ (T4.setTop (mkF m 15 #[.val (.ref a1), .val (.int i)] [(.int x)]))
  refine own_retZ S4 (by simp) d14_15 (by decide) (by decide) ?_
  rw [own_narC cx]; exact ⟨rfl, rfl⟩
set_option maxRecDepth 65536 in
set_option maxHeartbeats 40000000 in
theorem own_catU (l : Launch) (Z : State) (a0 : Array Value) (hw : ∀ d ∈ tables_1, d.before a0 Z = true) (a1 : Addr) (aB : Addr) (vs : List Value) (nn i j0 j1 x : Int32) (zc : Int32) (vF : Value) (h0 : Heap) (hO : Ext Z.heap h0) (SZ : Sta Z Z.heap "java/lang/String" "COMPACT_STRINGS" "Z" (.int zc)) (hz : ¬ zc = 0) (S_as : Sta Z Z.heap "java/lang/StringUTF16" "$assertionsDisabled" "Z" (.int 1)) (S_hi : Sta Z Z.heap "java/lang/StringUTF16" "HI_BYTE_SHIFT" "I" (.int 0)) (S_lo : Sta Z Z.heap "java/lang/StringUTF16" "LO_BYTE_SHIFT" "I" (.int 8)) (hvF : vF.isRef = true) (SF : Sta Z Z.heap "jdk/internal/util/Preconditions" "SIOOBE_FORMATTER" "Ljava/util/function/BiFunction;" vF) (hn : (vs.length.toInt32 >>> ((1 : Int32) &&& 31)) = nn) (g : ¬ i < 0) (hi : i < nn) (e0 : (i <<< ((1 : Int32) &&& 31)) = j0) (e1 : (j0 + (1 : Int32)) = j1) (g0 : ¬ j0 < 0) (g1 : ¬ j1 < 0) (v0 : vs[j0.toNatClampNeg]? = some (.int (own_lo x))) (v1 : vs[j1.toNatClampNeg]? = some (.int (own_hi x))) (cx : own_isC x) (E_a1 : Exa Z h0 a1 "java/lang/String") (F_v : Fld Z h0 a1 "java/lang/String" "value" "[B" (.ref aB)) (F_c : Fld Z h0 a1 "java/lang/String" "coder" "B" (.int 1)) (AB : own_A Z h0 aB .byte vs) :
    own_C l Z (⟨"java/lang/String", "charAt", "(I)C"⟩ : MethodName) jdk_42_method_56_code 2 (some .char) [] ({ frames := 4, cells := 0, slots := 0, locals := 53 } : Room) [] #[(.ref a1), (.int i)] h0 (fun v h => v = some (.int x) ∧ h0 = h) := by
  refine own_C.of pn14 hO all0 ?_
  intro p e s m below meth c T0 S0
  refine own_F.cast (by first | (simp [entryFrame, mkF, argsToLocals, Value.category]; done) | rfl : entryFrame m #[(.ref a1), (.int i)] 2 = mkF m 0 #[.val (.ref a1), .val (.int i)] []) ?_
  show own_F _ p e below _ Z _ _ _ _ _ (T0.setTop (mkF m 0 #[.val (.ref a1), .val (.int i)] []))
  refine own_F.of (fun _ => XS.aloadN S0.here S0.hx rfl (S0.dec d14_0) rfl rfl) ?_
  show own_F _ p e below _ Z _ _ _ _ _ (T0.setTop (mkF m 1 #[.val (.ref a1), .val (.int i)] [(.ref a1)]))
  refine own_callV S0 (y := (⟨"java/lang/String", "isLatin1", "()Z"⟩ : MethodName)) (y' := (⟨"java/lang/String", "isLatin1", "()Z"⟩ : MethodName)) (own_w hw 68 rfl) (own_w hw 69 rfl) (own_nf S0 (own_w hw 71 rfl)) (own_w hw 71 rfl) (own_w hw 70 rfl) (own_w hw 72 rfl) (own_w hw 10 rfl) (by decide) E_a1 (argsL := []) (rest := []) (own_isL1 l Z a0 hw a1 zc h0 S0.old SZ hz F_c) all0 (by decide +kernel : parseMethodDescriptor "()Z" = some ⟨[], some .boolean⟩) rfl rfl rfl d14_1 (by decide) (Nat.le_of_ble_eq_true rfl) (by decide) (by decide) (fun T1 h1 v1 S1 K1 q1 => ?_)
  obtain ⟨rfl, rfl⟩ := q1
  show own_F _ p e below _ Z _ _ _ _ _ (T1.setTop (mkF m 4 #[.val (.ref a1), .val (.int i)] [(.int 0)]))
  refine own_if S1 16 d14_4 (by decide) (by decide) (fun (hc4_2 : (0 : Int32) = (0 : Int32)) => ?_) (fun (hc4_2 : ¬ ((0 : Int32) = (0 : Int32))) => False.elim (absurd hc4_2 (by decide)))
  show own_F _ p e below _ Z _ _ _ _ _ (T1.setTop (mkF m 16 #[.val (.ref a1), .val (.int i)] []))
  refine own_F.of (fun _ => XS.aloadN S1.here S1.hx rfl (S1.dec d14_16) rfl rfl) ?_
  show own_F _ p e below _ Z _ _ _ _ _ (T1.setTop (mkF m 17 #[.val (.ref a1), .val (.int i)] [(.ref a1)]))
  refine own_getF S1 (host := "") (Or.inl (own_w hw 28 rfl)) Via.refl F_v d14_17 (fun T3 S3 => ?_)
  show own_F _ p e below _ Z _ _ _ _ _ (T3.setTop (mkF m 20 #[.val (.ref a1), .val (.int i)] [(.ref aB)]))
  refine own_F.of (fun _ => XS.iloadN S3.here S3.hx rfl (S3.dec d14_20) rfl) ?_
  show own_F _ p e below _ Z _ _ _ _ _ (T3.setTop (mkF m 21 #[.val (.ref a1), .val (.int i)] [(.int i), (.ref aB)]))
  refine own_callS S3 (y := (⟨"java/lang/StringUTF16", "charAt", "([BI)C"⟩ : MethodName)) (own_w hw 110 rfl) (own_w hw 111 rfl) (own_w hw 42 rfl) (own_w hw 112 rfl) (by decide) (argsL := [(.ref aB), (.int i)]) (rest := []) (own_chU l Z a0 hw aB vs nn i j0 j1 x vF h0 S3.old hvF SF S_as S_hi S_lo hn g hi e0 e1 g0 g1 v0 v1 cx AB) all0 (by decide +kernel : parseMethodDescriptor "([BI)C" = some ⟨[(.array .byte), .int], some .char⟩) rfl rfl rfl d14_21 (by decide) (Nat.le_of_ble_eq_true rfl) (by decide) (by decide) (fun T4 h4 v4 S4 K4 q4 => ?_)
  obtain ⟨rfl, rfl⟩ := q4
  show own_F _ p e below _ Z _ _ _ _ _ (T4.setTop (mkF m 24 #[.val (.ref a1), .val (.int i)] [(.int x)]))
  refine own_retZ S4 (by simp) d14_24 (by decide) (by decide) ?_
  rw [own_narC cx]; exact ⟨rfl, rfl⟩
theorem d6_0 : decode prog_16_method_2_code 0 = .ok (.aload_n 0, 1) := by decide +kernel
theorem d6_1 : decode prog_16_method_2_code 1 = .ok (.invokevirtual 7, 3) := by decide +kernel
theorem d6_4 : decode prog_16_method_2_code 4 = .ok (.ifCond .eq 5, 3) := by decide +kernel
theorem d6_7 : decode prog_16_method_2_code 7 = .ok (.iconst 0, 1) := by decide +kernel
theorem d6_8 : decode prog_16_method_2_code 8 = .ok (.ireturn, 1) := by decide +kernel
theorem d6_9 : decode prog_16_method_2_code 9 = .ok (.iconst 0, 1) := by decide +kernel
theorem d6_10 : decode prog_16_method_2_code 10 = .ok (.istore_n 1, 1) := by decide +kernel
theorem d6_11 : decode prog_16_method_2_code 11 = .ok (.iload_n 1, 1) := by decide +kernel
theorem d6_12 : decode prog_16_method_2_code 12 = .ok (.aload_n 0, 1) := by decide +kernel
theorem d6_13 : decode prog_16_method_2_code 13 = .ok (.invokevirtual 13, 3) := by decide +kernel
theorem d6_16 : decode prog_16_method_2_code 16 = .ok (.if_icmp .ge 22, 3) := by decide +kernel
theorem d6_19 : decode prog_16_method_2_code 19 = .ok (.aload_n 0, 1) := by decide +kernel
theorem d6_20 : decode prog_16_method_2_code 20 = .ok (.iload_n 1, 1) := by decide +kernel
theorem d6_21 : decode prog_16_method_2_code 21 = .ok (.invokevirtual 17, 3) := by decide +kernel
theorem d6_24 : decode prog_16_method_2_code 24 = .ok (.invokestatic 21, 3) := by decide +kernel
theorem d6_27 : decode prog_16_method_2_code 27 = .ok (.ifCond .ne 5, 3) := by decide +kernel
theorem d6_30 : decode prog_16_method_2_code 30 = .ok (.iconst 0, 1) := by decide +kernel
theorem d6_31 : decode prog_16_method_2_code 31 = .ok (.ireturn, 1) := by decide +kernel
theorem d6_32 : decode prog_16_method_2_code 32 = .ok (.iinc 1 1, 3) := by decide +kernel
theorem d6_35 : decode prog_16_method_2_code 35 = .ok (.goto (-24), 3) := by decide +kernel
theorem d6_38 : decode prog_16_method_2_code 38 = .ok (.iconst 1, 1) := by decide +kernel
theorem d6_39 : decode prog_16_method_2_code 39 = .ok (.ireturn, 1) := by decide +kernel
theorem pn6 : plainFor (⟨"com/example/libidem/libidem/protocol/Token", "isValid", "(Ljava/lang/String;)Z"⟩ : MethodName) = true := plainFor_of_name (by first | (simp [plainName, overriddenIn]; done) | decide +kernel)
set_option maxRecDepth 65536 in
set_option maxHeartbeats 40000000 in
theorem own_valL0 (l : Launch) (Z : State) (a0 : Array Value) (hw : ∀ d ∈ tables_1, d.before a0 Z = true) (a1 aB : Addr)  (zc : Int32) (vF : Value) (aT : Addr) (h0 : Heap) (hO : Ext Z.heap h0) (SZ : Sta Z Z.heap "java/lang/String" "COMPACT_STRINGS" "Z" (.int zc)) (hz : ¬ zc = 0) (S_as : Sta Z Z.heap "java/lang/StringUTF16" "$assertionsDisabled" "Z" (.int 1)) (S_hi : Sta Z Z.heap "java/lang/StringUTF16" "HI_BYTE_SHIFT" "I" (.int 0)) (S_lo : Sta Z Z.heap "java/lang/StringUTF16" "LO_BYTE_SHIFT" "I" (.int 8)) (hvF : vF.isRef = true) (SF : Sta Z Z.heap "jdk/internal/util/Preconditions" "SIOOBE_FORMATTER" "Ljava/util/function/BiFunction;" vF) (ST : Sta Z Z.heap "com/example/libidem/libidem/protocol/Token" "TCHAR" "[Z" (.ref aT)) (AT : own_A Z Z.heap aT .boolean own_tab)   (E_a1 : Exa Z h0 a1 "java/lang/String") (F_v : Fld Z h0 a1 "java/lang/String" "value" "[B" (.ref aB)) (F_c : Fld Z h0 a1 "java/lang/String" "coder" "B" (.int 0)) (AB : own_A Z h0 aB .byte []) :
    own_C l Z (⟨"com/example/libidem/libidem/protocol/Token", "isValid", "(Ljava/lang/String;)Z"⟩ : MethodName) prog_16_method_2_code 2 (some .boolean) [] ({ frames := 1, cells := 0, slots := 0, locals := 12 } : Room) [] #[(.ref a1)] h0 (fun v h => v = some (.int (0 : Int32)) ∧ h0 = h) := by
  refine own_C.of pn6 hO all0 ?_
  intro p e s m below meth c T0 S0
  refine own_F.cast (by first | (simp [entryFrame, mkF, argsToLocals, Value.category]; done) | rfl : entryFrame m #[(.ref a1)] 2 = mkF m 0 #[.val (.ref a1), .unset] []) ?_
  show own_F _ p e below _ Z _ _ _ _ _ (T0.setTop (mkF m 0 #[.val (.ref a1), .unset] []))
  refine own_F.of (fun _ => XS.aloadN S0.here S0.hx rfl (S0.dec d6_0) rfl rfl) ?_
  show own_F _ p e below _ Z _ _ _ _ _ (T0.setTop (mkF m 1 #[.val (.ref a1), .unset] [(.ref a1)]))
  refine own_callV S0 (y := (⟨"java/lang/String", "isEmpty", "()Z"⟩ : MethodName)) (y' := (⟨"java/lang/String", "isEmpty", "()Z"⟩ : MethodName)) (own_w hw 34 rfl) (own_w hw 35 rfl) (own_nf S0 (own_w hw 37 rfl)) (own_w hw 37 rfl) (own_w hw 36 rfl) (own_w hw 38 rfl) (own_w hw 10 rfl) (by decide) E_a1 (argsL := []) (rest := []) (own_empY l Z a0 hw a1 aB [] h0 S0.old rfl E_a1 F_v AB) all0 (by decide +kernel : parseMethodDescriptor "()Z" = some ⟨[], some .boolean⟩) rfl rfl rfl d6_1 (by decide) (Nat.le_of_ble_eq_true rfl) (by decide) (by decide) (fun T1 h1 v1 S1 K1 q1 => ?_)
  obtain ⟨rfl, rfl⟩ := q1
  show own_F _ p e below _ Z _ _ _ _ _ (T1.setTop (mkF m 4 #[.val (.ref a1), .unset] [(.int 1)]))
  refine own_if S1 9 d6_4 (by decide) (by decide) (fun (hc4_2 : (1 : Int32) = (0 : Int32)) => False.elim (absurd hc4_2 (by decide))) (fun (hc4_2 : ¬ ((1 : Int32) = (0 : Int32))) => ?_)
  show own_F _ p e below _ Z _ _ _ _ _ (T1.setTop (mkF m 7 #[.val (.ref a1), .unset] []))
  refine own_F.of (fun _ => XS.iconst S1.here S1.hx rfl (S1.dec d6_7)) ?_
  show own_F _ p e below _ Z _ _ _ _ _ (T1.setTop (mkF m 8 #[.val (.ref a1), .unset] [(.int 0)]))
  refine own_retZ S1 (by simp) d6_8 (by decide) (by decide) ?_
  exact ⟨rfl, rfl⟩
set_option maxRecDepth 65536 in
set_option maxHeartbeats 40000000 in
theorem own_valL1 (l : Launch) (Z : State) (a0 : Array Value) (hw : ∀ d ∈ tables_1, d.before a0 Z = true) (a1 aB : Addr) (x1 : Int32) (zc : Int32) (vF : Value) (aT : Addr) (h0 : Heap) (hO : Ext Z.heap h0) (SZ : Sta Z Z.heap "java/lang/String" "COMPACT_STRINGS" "Z" (.int zc)) (hz : ¬ zc = 0) (S_as : Sta Z Z.heap "java/lang/StringUTF16" "$assertionsDisabled" "Z" (.int 1)) (S_hi : Sta Z Z.heap "java/lang/StringUTF16" "HI_BYTE_SHIFT" "I" (.int 0)) (S_lo : Sta Z Z.heap "java/lang/StringUTF16" "LO_BYTE_SHIFT" "I" (.int 8)) (hvF : vF.isRef = true) (SF : Sta Z Z.heap "jdk/internal/util/Preconditions" "SIOOBE_FORMATTER" "Ljava/util/function/BiFunction;" vF) (ST : Sta Z Z.heap "com/example/libidem/libidem/protocol/Token" "TCHAR" "[Z" (.ref aT)) (AT : own_A Z Z.heap aT .boolean own_tab) (cx1 : own_isC x1) (hp1 : ¬ 255 < x1) (E_a1 : Exa Z h0 a1 "java/lang/String") (F_v : Fld Z h0 a1 "java/lang/String" "value" "[B" (.ref aB)) (F_c : Fld Z h0 a1 "java/lang/String" "coder" "B" (.int 0)) (AB : own_A Z h0 aB .byte [(.int (nar .byte (x1.toInt8.toInt32)))]) :
    own_C l Z (⟨"com/example/libidem/libidem/protocol/Token", "isValid", "(Ljava/lang/String;)Z"⟩ : MethodName) prog_16_method_2_code 2 (some .boolean) [] ({ frames := 5, cells := 0, slots := 0, locals := 66 } : Room) [] #[(.ref a1)] h0 (fun v h => v = some (.int (own_al [x1])) ∧ h0 = h) := by
  refine own_C.of pn6 hO all0 ?_
  intro p e s m below meth c T0 S0
  refine own_F.cast (by first | (simp [entryFrame, mkF, argsToLocals, Value.category]; done) | rfl : entryFrame m #[(.ref a1)] 2 = mkF m 0 #[.val (.ref a1), .unset] []) ?_
  show own_F _ p e below _ Z _ _ _ _ _ (T0.setTop (mkF m 0 #[.val (.ref a1), .unset] []))
  refine own_F.of (fun _ => XS.aloadN S0.here S0.hx rfl (S0.dec d6_0) rfl rfl) ?_
  show own_F _ p e below _ Z _ _ _ _ _ (T0.setTop (mkF m 1 #[.val (.ref a1), .unset] [(.ref a1)]))
  refine own_callV S0 (y := (⟨"java/lang/String", "isEmpty", "()Z"⟩ : MethodName)) (y' := (⟨"java/lang/String", "isEmpty", "()Z"⟩ : MethodName)) (own_w hw 34 rfl) (own_w hw 35 rfl) (own_nf S0 (own_w hw 37 rfl)) (own_w hw 37 rfl) (own_w hw 36 rfl) (own_w hw 38 rfl) (own_w hw 10 rfl) (by decide) E_a1 (argsL := []) (rest := []) (own_empN l Z a0 hw a1 aB [(.int (nar .byte (x1.toInt8.toInt32)))] h0 S0.old (by show ¬ (1 : Nat).toInt32 = 0; decide) E_a1 F_v AB) all0 (by decide +kernel : parseMethodDescriptor "()Z" = some ⟨[], some .boolean⟩) rfl rfl rfl d6_1 (by decide) (Nat.le_of_ble_eq_true rfl) (by decide) (by decide) (fun T1 h1 v1 S1 K1 q1 => ?_)
  obtain ⟨rfl, rfl⟩ := q1
  show own_F _ p e below _ Z _ _ _ _ _ (T1.setTop (mkF m 4 #[.val (.ref a1), .unset] [(.int 0)]))
  refine own_if S1 9 d6_4 (by decide) (by decide) (fun (hc4_2 : (0 : Int32) = (0 : Int32)) => ?_) (fun (hc4_2 : ¬ ((0 : Int32) = (0 : Int32))) => False.elim (absurd hc4_2 (by decide)))
  show own_F _ p e below _ Z _ _ _ _ _ (T1.setTop (mkF m 9 #[.val (.ref a1), .unset] []))
  refine own_F.of (fun _ => XS.iconst S1.here S1.hx rfl (S1.dec d6_9)) ?_
  show own_F _ p e below _ Z _ _ _ _ _ (T1.setTop (mkF m 10 #[.val (.ref a1), .unset] [(.int 0)]))
  refine own_F.of (fun _ => XS.istoreN S1.here S1.hx rfl (S1.dec d6_10) rfl (l' := #[.val (.ref a1), .val (.int 0)]) rfl) ?_
  refine own_F.of (fun _ => XS.iloadN S1.here S1.hx rfl (S1.dec d6_11) rfl) ?_
  refine own_F.of (fun _ => XS.aloadN S1.here S1.hx rfl (S1.dec d6_12) rfl rfl) ?_
  show own_F _ p e below _ Z _ _ _ _ _ (T1.setTop (mkF m 13 #[.val (.ref a1), .val (.int 0)] [(.ref a1), (.int 0)]))
  refine own_callV S1 (y := (⟨"java/lang/String", "length", "()I"⟩ : MethodName)) (y' := (⟨"java/lang/String", "length", "()I"⟩ : MethodName)) (own_w hw 53 rfl) (own_w hw 54 rfl) (own_nf S1 (own_w hw 56 rfl)) (own_w hw 56 rfl) (own_w hw 55 rfl) (own_w hw 57 rfl) (own_w hw 10 rfl) (by decide) E_a1 (argsL := []) (rest := [(.int (0 : Int32))]) (own_lngL l Z a0 hw a1 aB [(.int (nar .byte (x1.toInt8.toInt32)))] (1 : Int32) zc h0 S1.old SZ hz (by show (1 : Nat).toInt32 >>> ((0 : Int32) &&& 31) = (1 : Int32); decide) E_a1 F_v F_c AB) all0 (by decide +kernel : parseMethodDescriptor "()I" = some ⟨[], some .int⟩) rfl rfl rfl d6_13 (by decide) (Nat.le_of_ble_eq_true rfl) (by decide) (by decide) (fun T3 h3 v3 S3 K3 q3 => ?_)
  obtain ⟨rfl, rfl⟩ := q3
  show own_F _ p e below _ Z _ _ _ _ _ (T3.setTop (mkF m 16 #[.val (.ref a1), .val (.int 0)] [(.int 1), (.int 0)]))
  refine own_icmp S3 38 d6_16 (by decide) (by decide) (fun (hc16_4 : ¬ ((0 : Int32) < (1 : Int32))) => False.elim (absurd hc16_4 (by decide))) (fun (hc16_4 : (0 : Int32) < (1 : Int32)) => ?_)
  show own_F _ p e below _ Z _ _ _ _ _ (T3.setTop (mkF m 19 #[.val (.ref a1), .val (.int 0)] []))
  refine own_F.of (fun _ => XS.aloadN S3.here S3.hx rfl (S3.dec d6_19) rfl rfl) ?_
  refine own_F.of (fun _ => XS.iloadN S3.here S3.hx rfl (S3.dec d6_20) rfl) ?_
  show own_F _ p e below _ Z _ _ _ _ _ (T3.setTop (mkF m 21 #[.val (.ref a1), .val (.int 0)] [(.int 0), (.ref a1)]))
  refine own_callV S3 (y := (⟨"java/lang/String", "charAt", "(I)C"⟩ : MethodName)) (y' := (⟨"java/lang/String", "charAt", "(I)C"⟩ : MethodName)) (own_w hw 63 rfl) (own_w hw 64 rfl) (own_nf S3 (own_w hw 66 rfl)) (own_w hw 66 rfl) (own_w hw 65 rfl) (own_w hw 67 rfl) (own_w hw 10 rfl) (by decide) E_a1 (argsL := [(.int (0 : Int32))]) (rest := []) (own_catL l Z a0 hw a1 aB [(.int (nar .byte (x1.toInt8.toInt32)))] (1 : Int32) (0 : Int32) x1 zc vF h0 S3.old SZ hz S_as S_hi S_lo hvF SF rfl (by decide) (by decide) rfl cx1 hp1 E_a1 F_v F_c AB) all0 (by decide +kernel : parseMethodDescriptor "(I)C" = some ⟨[.int], some .char⟩) rfl rfl rfl d6_21 (by decide) (Nat.le_of_ble_eq_true rfl) (by decide) (by decide) (fun T5 h5 v5 S5 K5 q5 => ?_)
  obtain ⟨rfl, rfl⟩ := q5
  show own_F _ p e below _ Z _ _ _ _ _ (T5.setTop (mkF m 24 #[.val (.ref a1), .val (.int 0)] [(.int x1)]))
  refine own_callS S5 (y := (⟨"com/example/libidem/libidem/protocol/Token", "isTchar", "(C)Z"⟩ : MethodName)) (own_w hw 85 rfl) (own_w hw 86 rfl) (own_w hw 32 rfl) (own_w hw 87 rfl) (by decide) (argsL := [(.int x1)]) (rest := []) (own_isTchar l Z a0 hw x1 aT h0 S5.old ST AT cx1.1) all0 (by decide +kernel : parseMethodDescriptor "(C)Z" = some ⟨[.char], some .boolean⟩) rfl rfl rfl d6_24 (by decide) (Nat.le_of_ble_eq_true rfl) (by decide) (by decide) (fun T6 h6 v6 S6 K6 q6 => ?_)
  obtain ⟨rfl, rfl⟩ := q6
  show own_F _ p e below _ Z _ _ _ _ _ (T6.setTop (mkF m 27 #[.val (.ref a1), .val (.int 0)] [(.int (own_tc x1))]))
  refine own_if S6 32 d6_27 (by decide) (by decide) (fun (hc27_7 : ¬ ((own_tc x1) = (0 : Int32))) => ?_) (fun (hc27_7 : (own_tc x1) = (0 : Int32)) => ?_)
  · show own_F _ p e below _ Z _ _ _ _ _ (T6.setTop (mkF m 32 #[.val (.ref a1), .val (.int 0)] []))
    refine own_F.of (fun _ => XS.iinc S6.here S6.hx rfl (S6.dec d6_32) rfl (l' := #[.val (.ref a1), .val (.int 1)]) rfl) ?_
    show own_F _ p e below _ Z _ _ _ _ _ (T6.setTop (mkF m 35 #[.val (.ref a1), .val (.int 1)] []))
    refine own_F.of (fun _ => XS.goto S6.here S6.hx rfl (pc0 := 35) (pc' := 11) rfl (S6.dec d6_35) (by decide) (by decide)) ?_
    show own_F _ p e below _ Z _ _ _ _ _ (T6.setTop (mkF m 11 #[.val (.ref a1), .val (.int 1)] []))
    refine own_F.of (fun _ => XS.iloadN S6.here S6.hx rfl (S6.dec d6_11) rfl) ?_
    refine own_F.of (fun _ => XS.aloadN S6.here S6.hx rfl (S6.dec d6_12) rfl rfl) ?_
    show own_F _ p e below _ Z _ _ _ _ _ (T6.setTop (mkF m 13 #[.val (.ref a1), .val (.int 1)] [(.ref a1), (.int 1)]))
    refine own_callV S6 (y := (⟨"java/lang/String", "length", "()I"⟩ : MethodName)) (y' := (⟨"java/lang/String", "length", "()I"⟩ : MethodName)) (own_w hw 53 rfl) (own_w hw 54 rfl) (own_nf S6 (own_w hw 56 rfl)) (own_w hw 56 rfl) (own_w hw 55 rfl) (own_w hw 57 rfl) (own_w hw 10 rfl) (by decide) E_a1 (argsL := []) (rest := [(.int (1 : Int32))]) (own_lngL l Z a0 hw a1 aB [(.int (nar .byte (x1.toInt8.toInt32)))] (1 : Int32) zc h0 S6.old SZ hz (by show (1 : Nat).toInt32 >>> ((0 : Int32) &&& 31) = (1 : Int32); decide) E_a1 F_v F_c AB) all0 (by decide +kernel : parseMethodDescriptor "()I" = some ⟨[], some .int⟩) rfl rfl rfl d6_13 (by decide) (Nat.le_of_ble_eq_true rfl) (by decide) (by decide) (fun T8 h8 v8 S8 K8 q8 => ?_)
    obtain ⟨rfl, rfl⟩ := q8
    show own_F _ p e below _ Z _ _ _ _ _ (T8.setTop (mkF m 16 #[.val (.ref a1), .val (.int 1)] [(.int 1), (.int 1)]))
    refine own_icmp S8 38 d6_16 (by decide) (by decide) (fun (hc16_9 : ¬ ((1 : Int32) < (1 : Int32))) => ?_) (fun (hc16_9 : (1 : Int32) < (1 : Int32)) => False.elim (absurd hc16_9 (by decide)))
    show own_F _ p e below _ Z _ _ _ _ _ (T8.setTop (mkF m 38 #[.val (.ref a1), .val (.int 1)] []))
    refine own_F.of (fun _ => XS.iconst S8.here S8.hx rfl (S8.dec d6_38)) ?_
    show own_F _ p e below _ Z _ _ _ _ _ (T8.setTop (mkF m 39 #[.val (.ref a1), .val (.int 1)] [(.int 1)]))
    refine own_retZ S8 (by simp) d6_39 (by decide) (by decide) ?_
    have hh : own_al [x1] = (1 : Int32) := by simp [own_al, hc27_7]
    rw [hh]; exact ⟨rfl, rfl⟩
  · show own_F _ p e below _ Z _ _ _ _ _ (T6.setTop (mkF m 30 #[.val (.ref a1), .val (.int 0)] []))
    refine own_F.of (fun _ => XS.iconst S6.here S6.hx rfl (S6.dec d6_30)) ?_
    show own_F _ p e below _ Z _ _ _ _ _ (T6.setTop (mkF m 31 #[.val (.ref a1), .val (.int 0)] [(.int 0)]))
    refine own_retZ S6 (by simp) d6_31 (by decide) (by decide) ?_
    have hh : own_al [x1] = (0 : Int32) := by simp [own_al, hc27_7]
    rw [hh]; exact ⟨rfl, rfl⟩
set_option maxRecDepth 65536 in
set_option maxHeartbeats 40000000 in
theorem own_valU1 (l : Launch) (Z : State) (a0 : Array Value) (hw : ∀ d ∈ tables_1, d.before a0 Z = true) (a1 aB : Addr) (x1 : Int32) (zc : Int32) (vF : Value) (aT : Addr) (h0 : Heap) (hO : Ext Z.heap h0) (SZ : Sta Z Z.heap "java/lang/String" "COMPACT_STRINGS" "Z" (.int zc)) (hz : ¬ zc = 0) (S_as : Sta Z Z.heap "java/lang/StringUTF16" "$assertionsDisabled" "Z" (.int 1)) (S_hi : Sta Z Z.heap "java/lang/StringUTF16" "HI_BYTE_SHIFT" "I" (.int 0)) (S_lo : Sta Z Z.heap "java/lang/StringUTF16" "LO_BYTE_SHIFT" "I" (.int 8)) (hvF : vF.isRef = true) (SF : Sta Z Z.heap "jdk/internal/util/Preconditions" "SIOOBE_FORMATTER" "Ljava/util/function/BiFunction;" vF) (ST : Sta Z Z.heap "com/example/libidem/libidem/protocol/Token" "TCHAR" "[Z" (.ref aT)) (AT : own_A Z Z.heap aT .boolean own_tab) (cx1 : own_isC x1)  (E_a1 : Exa Z h0 a1 "java/lang/String") (F_v : Fld Z h0 a1 "java/lang/String" "value" "[B" (.ref aB)) (F_c : Fld Z h0 a1 "java/lang/String" "coder" "B" (.int 1)) (AB : own_A Z h0 aB .byte [(.int (own_lo x1)), (.int (own_hi x1))]) :
    own_C l Z (⟨"com/example/libidem/libidem/protocol/Token", "isValid", "(Ljava/lang/String;)Z"⟩ : MethodName) prog_16_method_2_code 2 (some .boolean) [] ({ frames := 5, cells := 0, slots := 0, locals := 66 } : Room) [] #[(.ref a1)] h0 (fun v h => v = some (.int (own_al [x1])) ∧ h0 = h) := by
  refine own_C.of pn6 hO all0 ?_
  intro p e s m below meth c T0 S0
  refine own_F.cast (by first | (simp [entryFrame, mkF, argsToLocals, Value.category]; done) | rfl : entryFrame m #[(.ref a1)] 2 = mkF m 0 #[.val (.ref a1), .unset] []) ?_
  show own_F _ p e below _ Z _ _ _ _ _ (T0.setTop (mkF m 0 #[.val (.ref a1), .unset] []))
  refine own_F.of (fun _ => XS.aloadN S0.here S0.hx rfl (S0.dec d6_0) rfl rfl) ?_
  show own_F _ p e below _ Z _ _ _ _ _ (T0.setTop (mkF m 1 #[.val (.ref a1), .unset] [(.ref a1)]))
  refine own_callV S0 (y := (⟨"java/lang/String", "isEmpty", "()Z"⟩ : MethodName)) (y' := (⟨"java/lang/String", "isEmpty", "()Z"⟩ : MethodName)) (own_w hw 34 rfl) (own_w hw 35 rfl) (own_nf S0 (own_w hw 37 rfl)) (own_w hw 37 rfl) (own_w hw 36 rfl) (own_w hw 38 rfl) (own_w hw 10 rfl) (by decide) E_a1 (argsL := []) (rest := []) (own_empN l Z a0 hw a1 aB [(.int (own_lo x1)), (.int (own_hi x1))] h0 S0.old (by show ¬ (2 : Nat).toInt32 = 0; decide) E_a1 F_v AB) all0 (by decide +kernel : parseMethodDescriptor "()Z" = some ⟨[], some .boolean⟩) rfl rfl rfl d6_1 (by decide) (Nat.le_of_ble_eq_true rfl) (by decide) (by decide) (fun T1 h1 v1 S1 K1 q1 => ?_)
  obtain ⟨rfl, rfl⟩ := q1
  show own_F _ p e below _ Z _ _ _ _ _ (T1.setTop (mkF m 4 #[.val (.ref a1), .unset] [(.int 0)]))
  refine own_if S1 9 d6_4 (by decide) (by decide) (fun (hc4_2 : (0 : Int32) = (0 : Int32)) => ?_) (fun (hc4_2 : ¬ ((0 : Int32) = (0 : Int32))) => False.elim (absurd hc4_2 (by decide)))
  show own_F _ p e below _ Z _ _ _ _ _ (T1.setTop (mkF m 9 #[.val (.ref a1), .unset] []))
  refine own_F.of (fun _ => XS.iconst S1.here S1.hx rfl (S1.dec d6_9)) ?_
  show own_F _ p e below _ Z _ _ _ _ _ (T1.setTop (mkF m 10 #[.val (.ref a1), .unset] [(.int 0)]))
  refine own_F.of (fun _ => XS.istoreN S1.here S1.hx rfl (S1.dec d6_10) rfl (l' := #[.val (.ref a1), .val (.int 0)]) rfl) ?_
  refine own_F.of (fun _ => XS.iloadN S1.here S1.hx rfl (S1.dec d6_11) rfl) ?_
  refine own_F.of (fun _ => XS.aloadN S1.here S1.hx rfl (S1.dec d6_12) rfl rfl) ?_
  show own_F _ p e below _ Z _ _ _ _ _ (T1.setTop (mkF m 13 #[.val (.ref a1), .val (.int 0)] [(.ref a1), (.int 0)]))
  refine own_callV S1 (y := (⟨"java/lang/String", "length", "()I"⟩ : MethodName)) (y' := (⟨"java/lang/String", "length", "()I"⟩ : MethodName)) (own_w hw 53 rfl) (own_w hw 54 rfl) (own_nf S1 (own_w hw 56 rfl)) (own_w hw 56 rfl) (own_w hw 55 rfl) (own_w hw 57 rfl) (own_w hw 10 rfl) (by decide) E_a1 (argsL := []) (rest := [(.int (0 : Int32))]) (own_lngU l Z a0 hw a1 aB [(.int (own_lo x1)), (.int (own_hi x1))] (1 : Int32) zc h0 S1.old SZ hz (by show (2 : Nat).toInt32 >>> ((1 : Int32) &&& 31) = (1 : Int32); decide) E_a1 F_v F_c AB) all0 (by decide +kernel : parseMethodDescriptor "()I" = some ⟨[], some .int⟩) rfl rfl rfl d6_13 (by decide) (Nat.le_of_ble_eq_true rfl) (by decide) (by decide) (fun T3 h3 v3 S3 K3 q3 => ?_)
  obtain ⟨rfl, rfl⟩ := q3
  show own_F _ p e below _ Z _ _ _ _ _ (T3.setTop (mkF m 16 #[.val (.ref a1), .val (.int 0)] [(.int 1), (.int 0)]))
  refine own_icmp S3 38 d6_16 (by decide) (by decide) (fun (hc16_4 : ¬ ((0 : Int32) < (1 : Int32))) => False.elim (absurd hc16_4 (by decide))) (fun (hc16_4 : (0 : Int32) < (1 : Int32)) => ?_)
  show own_F _ p e below _ Z _ _ _ _ _ (T3.setTop (mkF m 19 #[.val (.ref a1), .val (.int 0)] []))
  refine own_F.of (fun _ => XS.aloadN S3.here S3.hx rfl (S3.dec d6_19) rfl rfl) ?_
  refine own_F.of (fun _ => XS.iloadN S3.here S3.hx rfl (S3.dec d6_20) rfl) ?_
  show own_F _ p e below _ Z _ _ _ _ _ (T3.setTop (mkF m 21 #[.val (.ref a1), .val (.int 0)] [(.int 0), (.ref a1)]))
  refine own_callV S3 (y := (⟨"java/lang/String", "charAt", "(I)C"⟩ : MethodName)) (y' := (⟨"java/lang/String", "charAt", "(I)C"⟩ : MethodName)) (own_w hw 63 rfl) (own_w hw 64 rfl) (own_nf S3 (own_w hw 66 rfl)) (own_w hw 66 rfl) (own_w hw 65 rfl) (own_w hw 67 rfl) (own_w hw 10 rfl) (by decide) E_a1 (argsL := [(.int (0 : Int32))]) (rest := []) (own_catU l Z a0 hw a1 aB [(.int (own_lo x1)), (.int (own_hi x1))] (1 : Int32) (0 : Int32) (0 : Int32) (1 : Int32) x1 zc vF h0 S3.old SZ hz S_as S_hi S_lo hvF SF (by show (2 : Nat).toInt32 >>> ((1 : Int32) &&& 31) = (1 : Int32); decide) (by decide) (by decide) (by decide) (by decide) (by decide) (by decide) rfl rfl cx1 E_a1 F_v F_c AB) all0 (by decide +kernel : parseMethodDescriptor "(I)C" = some ⟨[.int], some .char⟩) rfl rfl rfl d6_21 (by decide) (Nat.le_of_ble_eq_true rfl) (by decide) (by decide) (fun T5 h5 v5 S5 K5 q5 => ?_)
  obtain ⟨rfl, rfl⟩ := q5
  show own_F _ p e below _ Z _ _ _ _ _ (T5.setTop (mkF m 24 #[.val (.ref a1), .val (.int 0)] [(.int x1)]))
  refine own_callS S5 (y := (⟨"com/example/libidem/libidem/protocol/Token", "isTchar", "(C)Z"⟩ : MethodName)) (own_w hw 85 rfl) (own_w hw 86 rfl) (own_w hw 32 rfl) (own_w hw 87 rfl) (by decide) (argsL := [(.int x1)]) (rest := []) (own_isTchar l Z a0 hw x1 aT h0 S5.old ST AT cx1.1) all0 (by decide +kernel : parseMethodDescriptor "(C)Z" = some ⟨[.char], some .boolean⟩) rfl rfl rfl d6_24 (by decide) (Nat.le_of_ble_eq_true rfl) (by decide) (by decide) (fun T6 h6 v6 S6 K6 q6 => ?_)
  obtain ⟨rfl, rfl⟩ := q6
  show own_F _ p e below _ Z _ _ _ _ _ (T6.setTop (mkF m 27 #[.val (.ref a1), .val (.int 0)] [(.int (own_tc x1))]))
  refine own_if S6 32 d6_27 (by decide) (by decide) (fun (hc27_7 : ¬ ((own_tc x1) = (0 : Int32))) => ?_) (fun (hc27_7 : (own_tc x1) = (0 : Int32)) => ?_)
  · show own_F _ p e below _ Z _ _ _ _ _ (T6.setTop (mkF m 32 #[.val (.ref a1), .val (.int 0)] []))
    refine own_F.of (fun _ => XS.iinc S6.here S6.hx rfl (S6.dec d6_32) rfl (l' := #[.val (.ref a1), .val (.int 1)]) rfl) ?_
    show own_F _ p e below _ Z _ _ _ _ _ (T6.setTop (mkF m 35 #[.val (.ref a1), .val (.int 1)] []))
    refine own_F.of (fun _ => XS.goto S6.here S6.hx rfl (pc0 := 35) (pc' := 11) rfl (S6.dec d6_35) (by decide) (by decide)) ?_
    show own_F _ p e below _ Z _ _ _ _ _ (T6.setTop (mkF m 11 #[.val (.ref a1), .val (.int 1)] []))
    refine own_F.of (fun _ => XS.iloadN S6.here S6.hx rfl (S6.dec d6_11) rfl) ?_
    refine own_F.of (fun _ => XS.aloadN S6.here S6.hx rfl (S6.dec d6_12) rfl rfl) ?_
    show own_F _ p e below _ Z _ _ _ _ _ (T6.setTop (mkF m 13 #[.val (.ref a1), .val (.int 1)] [(.ref a1), (.int 1)]))
    refine own_callV S6 (y := (⟨"java/lang/String", "length", "()I"⟩ : MethodName)) (y' := (⟨"java/lang/String", "length", "()I"⟩ : MethodName)) (own_w hw 53 rfl) (own_w hw 54 rfl) (own_nf S6 (own_w hw 56 rfl)) (own_w hw 56 rfl) (own_w hw 55 rfl) (own_w hw 57 rfl) (own_w hw 10 rfl) (by decide) E_a1 (argsL := []) (rest := [(.int (1 : Int32))]) (own_lngU l Z a0 hw a1 aB [(.int (own_lo x1)), (.int (own_hi x1))] (1 : Int32) zc h0 S6.old SZ hz (by show (2 : Nat).toInt32 >>> ((1 : Int32) &&& 31) = (1 : Int32); decide) E_a1 F_v F_c AB) all0 (by decide +kernel : parseMethodDescriptor "()I" = some ⟨[], some .int⟩) rfl rfl rfl d6_13 (by decide) (Nat.le_of_ble_eq_true rfl) (by decide) (by decide) (fun T8 h8 v8 S8 K8 q8 => ?_)
    obtain ⟨rfl, rfl⟩ := q8
    show own_F _ p e below _ Z _ _ _ _ _ (T8.setTop (mkF m 16 #[.val (.ref a1), .val (.int 1)] [(.int 1), (.int 1)]))
    refine own_icmp S8 38 d6_16 (by decide) (by decide) (fun (hc16_9 : ¬ ((1 : Int32) < (1 : Int32))) => ?_) (fun (hc16_9 : (1 : Int32) < (1 : Int32)) => False.elim (absurd hc16_9 (by decide)))
    show own_F _ p e below _ Z _ _ _ _ _ (T8.setTop (mkF m 38 #[.val (.ref a1), .val (.int 1)] []))
    refine own_F.of (fun _ => XS.iconst S8.here S8.hx rfl (S8.dec d6_38)) ?_
    show own_F _ p e below _ Z _ _ _ _ _ (T8.setTop (mkF m 39 #[.val (.ref a1), .val (.int 1)] [(.int 1)]))
    refine own_retZ S8 (by simp) d6_39 (by decide) (by decide) ?_
    have hh : own_al [x1] = (1 : Int32) := by simp [own_al, hc27_7]
    rw [hh]; exact ⟨rfl, rfl⟩
  · show own_F _ p e below _ Z _ _ _ _ _ (T6.setTop (mkF m 30 #[.val (.ref a1), .val (.int 0)] []))
    refine own_F.of (fun _ => XS.iconst S6.here S6.hx rfl (S6.dec d6_30)) ?_
    show own_F _ p e below _ Z _ _ _ _ _ (T6.setTop (mkF m 31 #[.val (.ref a1), .val (.int 0)] [(.int 0)]))
    refine own_retZ S6 (by simp) d6_31 (by decide) (by decide) ?_
    have hh : own_al [x1] = (0 : Int32) := by simp [own_al, hc27_7]
    rw [hh]; exact ⟨rfl, rfl⟩
set_option maxRecDepth 65536 in
set_option maxHeartbeats 40000000 in
theorem own_val1 (l : Launch) (Z : State) (a0 : Array Value) (hw : ∀ d ∈ tables_1, d.before a0 Z = true) (a1 : Addr) (x1 : Int32) (zc : Int32) (vF : Value) (aT : Addr) (h0 : Heap) (hO : Ext Z.heap h0) (SZ : Sta Z Z.heap "java/lang/String" "COMPACT_STRINGS" "Z" (.int zc)) (hz : ¬ zc = 0) (S_as : Sta Z Z.heap "java/lang/StringUTF16" "$assertionsDisabled" "Z" (.int 1)) (S_hi : Sta Z Z.heap "java/lang/StringUTF16" "HI_BYTE_SHIFT" "I" (.int 0)) (S_lo : Sta Z Z.heap "java/lang/StringUTF16" "LO_BYTE_SHIFT" "I" (.int 8)) (hvF : vF.isRef = true) (SF : Sta Z Z.heap "jdk/internal/util/Preconditions" "SIOOBE_FORMATTER" "Ljava/util/function/BiFunction;" vF) (ST : Sta Z Z.heap "com/example/libidem/libidem/protocol/Token" "TCHAR" "[Z" (.ref aT)) (AT : own_A Z Z.heap aT .boolean own_tab) (cx1 : own_isC x1) (E_a1 : Exa Z h0 a1 "java/lang/String") (SX : ∃ d, Fld Z h0 a1 "java/lang/String" "value" "[B" (.ref d) ∧ (((Fld Z h0 a1 "java/lang/String" "coder" "B" (.int 0) ∧ own_A Z h0 d .byte [(.int (nar .byte (x1.toInt8.toInt32)))]) ∧ ¬ 255 < x1) ∨ (Fld Z h0 a1 "java/lang/String" "coder" "B" (.int 1) ∧ own_A Z h0 d .byte [(.int (own_lo x1)), (.int (own_hi x1))]))) :
    own_C l Z (⟨"com/example/libidem/libidem/protocol/Token", "isValid", "(Ljava/lang/String;)Z"⟩ : MethodName) prog_16_method_2_code 2 (some .boolean) [] ({ frames := 5, cells := 0, slots := 0, locals := 66 } : Room) [] #[(.ref a1)] h0 (fun v h => v = some (.int (own_al [x1])) ∧ h0 = h) := by
  obtain ⟨aB, Fv, ⟨⟨Fc, A⟩, q1⟩ | ⟨Fc, A⟩⟩ := SX
  · exact own_valL1 l Z a0 hw a1 aB x1 zc vF aT h0 hO SZ hz S_as S_hi S_lo hvF SF ST AT cx1 q1 E_a1 Fv Fc A
  · exact own_valU1 l Z a0 hw a1 aB x1 zc vF aT h0 hO SZ hz S_as S_hi S_lo hvF SF ST AT cx1 E_a1 Fv Fc A
set_option maxRecDepth 65536 in
set_option maxHeartbeats 40000000 in
theorem own_valL2 (l : Launch) (Z : State) (a0 : Array Value) (hw : ∀ d ∈ tables_1, d.before a0 Z = true) (a1 aB : Addr) (x1 x2 : Int32) (zc : Int32) (vF : Value) (aT : Addr) (h0 : Heap) (hO : Ext Z.heap h0) (SZ : Sta Z Z.heap "java/lang/String" "COMPACT_STRINGS" "Z" (.int zc)) (hz : ¬ zc = 0) (S_as : Sta Z Z.heap "java/lang/StringUTF16" "$assertionsDisabled" "Z" (.int 1)) (S_hi : Sta Z Z.heap "java/lang/StringUTF16" "HI_BYTE_SHIFT" "I" (.int 0)) (S_lo : Sta Z Z.heap "java/lang/StringUTF16" "LO_BYTE_SHIFT" "I" (.int 8)) (hvF : vF.isRef = true) (SF : Sta Z Z.heap "jdk/internal/util/Preconditions" "SIOOBE_FORMATTER" "Ljava/util/function/BiFunction;" vF) (ST : Sta Z Z.heap "com/example/libidem/libidem/protocol/Token" "TCHAR" "[Z" (.ref aT)) (AT : own_A Z Z.heap aT .boolean own_tab) (cx1 : own_isC x1) (cx2 : own_isC x2) (hp1 : ¬ 255 < x1) (hp2 : ¬ 255 < x2) (E_a1 : Exa Z h0 a1 "java/lang/String") (F_v : Fld Z h0 a1 "java/lang/String" "value" "[B" (.ref aB)) (F_c : Fld Z h0 a1 "java/lang/String" "coder" "B" (.int 0)) (AB : own_A Z h0 aB .byte [(.int (nar .byte (x1.toInt8.toInt32))), (.int (nar .byte (x2.toInt8.toInt32)))]) :
    own_C l Z (⟨"com/example/libidem/libidem/protocol/Token", "isValid", "(Ljava/lang/String;)Z"⟩ : MethodName) prog_16_method_2_code 2 (some .boolean) [] ({ frames := 5, cells := 0, slots := 0, locals := 66 } : Room) [] #[(.ref a1)] h0 (fun v h => v = some (.int (own_al [x1, x2])) ∧ h0 = h) := by
  refine own_C.of pn6 hO all0 ?_
  intro p e s m below meth c T0 S0
  refine own_F.cast (by first | (simp [entryFrame, mkF, argsToLocals, Value.category]; done) | rfl : entryFrame m #[(.ref a1)] 2 = mkF m 0 #[.val (.ref a1), .unset] []) ?_
  show own_F _ p e below _ Z _ _ _ _ _ (T0.setTop (mkF m 0 #[.val (.ref a1), .unset] []))
  refine own_F.of (fun _ => XS.aloadN S0.here S0.hx rfl (S0.dec d6_0) rfl rfl) ?_
  show own_F _ p e below _ Z _ _ _ _ _ (T0.setTop (mkF m 1 #[.val (.ref a1), .unset] [(.ref a1)]))
  refine own_callV S0 (y := (⟨"java/lang/String", "isEmpty", "()Z"⟩ : MethodName)) (y' := (⟨"java/lang/String", "isEmpty", "()Z"⟩ : MethodName)) (own_w hw 34 rfl) (own_w hw 35 rfl) (own_nf S0 (own_w hw 37 rfl)) (own_w hw 37 rfl) (own_w hw 36 rfl) (own_w hw 38 rfl) (own_w hw 10 rfl) (by decide) E_a1 (argsL := []) (rest := []) (own_empN l Z a0 hw a1 aB [(.int (nar .byte (x1.toInt8.toInt32))), (.int (nar .byte (x2.toInt8.toInt32)))] h0 S0.old (by show ¬ (2 : Nat).toInt32 = 0; decide) E_a1 F_v AB) all0 (by decide +kernel : parseMethodDescriptor "()Z" = some ⟨[], some .boolean⟩) rfl rfl rfl d6_1 (by decide) (Nat.le_of_ble_eq_true rfl) (by decide) (by decide) (fun T1 h1 v1 S1 K1 q1 => ?_)
  obtain ⟨rfl, rfl⟩ := q1
  show own_F _ p e below _ Z _ _ _ _ _ (T1.setTop (mkF m 4 #[.val (.ref a1), .unset] [(.int 0)]))
  refine own_if S1 9 d6_4 (by decide) (by decide) (fun (hc4_2 : (0 : Int32) = (0 : Int32)) => ?_) (fun (hc4_2 : ¬ ((0 : Int32) = (0 : Int32))) => False.elim (absurd hc4_2 (by decide)))
  show own_F _ p e below _ Z _ _ _ _ _ (T1.setTop (mkF m 9 #[.val (.ref a1), .unset] []))
  refine own_F.of (fun _ => XS.iconst S1.here S1.hx rfl (S1.dec d6_9)) ?_
  show own_F _ p e below _ Z _ _ _ _ _ (T1.setTop (mkF m 10 #[.val (.ref a1), .unset] [(.int 0)]))
  refine own_F.of (fun _ => XS.istoreN S1.here S1.hx rfl (S1.dec d6_10) rfl (l' := #[.val (.ref a1), .val (.int 0)]) rfl) ?_
  refine own_F.of (fun _ => XS.iloadN S1.here S1.hx rfl (S1.dec d6_11) rfl) ?_
  refine own_F.of (fun _ => XS.aloadN S1.here S1.hx rfl (S1.dec d6_12) rfl rfl) ?_
  show own_F _ p e below _ Z _ _ _ _ _ (T1.setTop (mkF m 13 #[.val (.ref a1), .val (.int 0)] [(.ref a1), (.int 0)]))
  refine own_callV S1 (y := (⟨"java/lang/String", "length", "()I"⟩ : MethodName)) (y' := (⟨"java/lang/String", "length", "()I"⟩ : MethodName)) (own_w hw 53 rfl) (own_w hw 54 rfl) (own_nf S1 (own_w hw 56 rfl)) (own_w hw 56 rfl) (own_w hw 55 rfl) (own_w hw 57 rfl) (own_w hw 10 rfl) (by decide) E_a1 (argsL := []) (rest := [(.int (0 : Int32))]) (own_lngL l Z a0 hw a1 aB [(.int (nar .byte (x1.toInt8.toInt32))), (.int (nar .byte (x2.toInt8.toInt32)))] (2 : Int32) zc h0 S1.old SZ hz (by show (2 : Nat).toInt32 >>> ((0 : Int32) &&& 31) = (2 : Int32); decide) E_a1 F_v F_c AB) all0 (by decide +kernel : parseMethodDescriptor "()I" = some ⟨[], some .int⟩) rfl rfl rfl d6_13 (by decide) (Nat.le_of_ble_eq_true rfl) (by decide) (by decide) (fun T3 h3 v3 S3 K3 q3 => ?_)
  obtain ⟨rfl, rfl⟩ := q3
  show own_F _ p e below _ Z _ _ _ _ _ (T3.setTop (mkF m 16 #[.val (.ref a1), .val (.int 0)] [(.int 2), (.int 0)]))
  refine own_icmp S3 38 d6_16 (by decide) (by decide) (fun (hc16_4 : ¬ ((0 : Int32) < (2 : Int32))) => False.elim (absurd hc16_4 (by decide))) (fun (hc16_4 : (0 : Int32) < (2 : Int32)) => ?_)
  show own_F _ p e below _ Z _ _ _ _ _ (T3.setTop (mkF m 19 #[.val (.ref a1), .val (.int 0)] []))
  refine own_F.of (fun _ => XS.aloadN S3.here S3.hx rfl (S3.dec d6_19) rfl rfl) ?_
  refine own_F.of (fun _ => XS.iloadN S3.here S3.hx rfl (S3.dec d6_20) rfl) ?_
  show own_F _ p e below _ Z _ _ _ _ _ (T3.setTop (mkF m 21 #[.val (.ref a1), .val (.int 0)] [(.int 0), (.ref a1)]))
  refine own_callV S3 (y := (⟨"java/lang/String", "charAt", "(I)C"⟩ : MethodName)) (y' := (⟨"java/lang/String", "charAt", "(I)C"⟩ : MethodName)) (own_w hw 63 rfl) (own_w hw 64 rfl) (own_nf S3 (own_w hw 66 rfl)) (own_w hw 66 rfl) (own_w hw 65 rfl) (own_w hw 67 rfl) (own_w hw 10 rfl) (by decide) E_a1 (argsL := [(.int (0 : Int32))]) (rest := []) (own_catL l Z a0 hw a1 aB [(.int (nar .byte (x1.toInt8.toInt32))), (.int (nar .byte (x2.toInt8.toInt32)))] (2 : Int32) (0 : Int32) x1 zc vF h0 S3.old SZ hz S_as S_hi S_lo hvF SF rfl (by decide) (by decide) rfl cx1 hp1 E_a1 F_v F_c AB) all0 (by decide +kernel : parseMethodDescriptor "(I)C" = some ⟨[.int], some .char⟩) rfl rfl rfl d6_21 (by decide) (Nat.le_of_ble_eq_true rfl) (by decide) (by decide) (fun T5 h5 v5 S5 K5 q5 => ?_)
  obtain ⟨rfl, rfl⟩ := q5
  show own_F _ p e below _ Z _ _ _ _ _ (T5.setTop (mkF m 24 #[.val (.ref a1), .val (.int 0)] [(.int x1)]))
  refine own_callS S5 (y := (⟨"com/example/libidem/libidem/protocol/Token", "isTchar", "(C)Z"⟩ : MethodName)) (own_w hw 85 rfl) (own_w hw 86 rfl) (own_w hw 32 rfl) (own_w hw 87 rfl) (by decide) (argsL := [(.int x1)]) (rest := []) (own_isTchar l Z a0 hw x1 aT h0 S5.old ST AT cx1.1) all0 (by decide +kernel : parseMethodDescriptor "(C)Z" = some ⟨[.char], some .boolean⟩) rfl rfl rfl d6_24 (by decide) (Nat.le_of_ble_eq_true rfl) (by decide) (by decide) (fun T6 h6 v6 S6 K6 q6 => ?_)
  obtain ⟨rfl, rfl⟩ := q6
  show own_F _ p e below _ Z _ _ _ _ _ (T6.setTop (mkF m 27 #[.val (.ref a1), .val (.int 0)] [(.int (own_tc x1))]))
  refine own_if S6 32 d6_27 (by decide) (by decide) (fun (hc27_7 : ¬ ((own_tc x1) = (0 : Int32))) => ?_) (fun (hc27_7 : (own_tc x1) = (0 : Int32)) => ?_)
  · show own_F _ p e below _ Z _ _ _ _ _ (T6.setTop (mkF m 32 #[.val (.ref a1), .val (.int 0)] []))
    refine own_F.of (fun _ => XS.iinc S6.here S6.hx rfl (S6.dec d6_32) rfl (l' := #[.val (.ref a1), .val (.int 1)]) rfl) ?_
    show own_F _ p e below _ Z _ _ _ _ _ (T6.setTop (mkF m 35 #[.val (.ref a1), .val (.int 1)] []))
    refine own_F.of (fun _ => XS.goto S6.here S6.hx rfl (pc0 := 35) (pc' := 11) rfl (S6.dec d6_35) (by decide) (by decide)) ?_
    show own_F _ p e below _ Z _ _ _ _ _ (T6.setTop (mkF m 11 #[.val (.ref a1), .val (.int 1)] []))
    refine own_F.of (fun _ => XS.iloadN S6.here S6.hx rfl (S6.dec d6_11) rfl) ?_
    refine own_F.of (fun _ => XS.aloadN S6.here S6.hx rfl (S6.dec d6_12) rfl rfl) ?_
    show own_F _ p e below _ Z _ _ _ _ _ (T6.setTop (mkF m 13 #[.val (.ref a1), .val (.int 1)] [(.ref a1), (.int 1)]))
    refine own_callV S6 (y := (⟨"java/lang/String", "length", "()I"⟩ : MethodName)) (y' := (⟨"java/lang/String", "length", "()I"⟩ : MethodName)) (own_w hw 53 rfl) (own_w hw 54 rfl) (own_nf S6 (own_w hw 56 rfl)) (own_w hw 56 rfl) (own_w hw 55 rfl) (own_w hw 57 rfl) (own_w hw 10 rfl) (by decide) E_a1 (argsL := []) (rest := [(.int (1 : Int32))]) (own_lngL l Z a0 hw a1 aB [(.int (nar .byte (x1.toInt8.toInt32))), (.int (nar .byte (x2.toInt8.toInt32)))] (2 : Int32) zc h0 S6.old SZ hz (by show (2 : Nat).toInt32 >>> ((0 : Int32) &&& 31) = (2 : Int32); decide) E_a1 F_v F_c AB) all0 (by decide +kernel : parseMethodDescriptor "()I" = some ⟨[], some .int⟩) rfl rfl rfl d6_13 (by decide) (Nat.le_of_ble_eq_true rfl) (by decide) (by decide) (fun T8 h8 v8 S8 K8 q8 => ?_)
    obtain ⟨rfl, rfl⟩ := q8
    show own_F _ p e below _ Z _ _ _ _ _ (T8.setTop (mkF m 16 #[.val (.ref a1), .val (.int 1)] [(.int 2), (.int 1)]))
    refine own_icmp S8 38 d6_16 (by decide) (by decide) (fun (hc16_9 : ¬ ((1 : Int32) < (2 : Int32))) => False.elim (absurd hc16_9 (by decide))) (fun (hc16_9 : (1 : Int32) < (2 : Int32)) => ?_)
    show own_F _ p e below _ Z _ _ _ _ _ (T8.setTop (mkF m 19 #[.val (.ref a1), .val (.int 1)] []))
    refine own_F.of (fun _ => XS.aloadN S8.here S8.hx rfl (S8.dec d6_19) rfl rfl) ?_
    refine own_F.of (fun _ => XS.iloadN S8.here S8.hx rfl (S8.dec d6_20) rfl) ?_
    show own_F _ p e below _ Z _ _ _ _ _ (T8.setTop (mkF m 21 #[.val (.ref a1), .val (.int 1)] [(.int 1), (.ref a1)]))
    refine own_callV S8 (y := (⟨"java/lang/String", "charAt", "(I)C"⟩ : MethodName)) (y' := (⟨"java/lang/String", "charAt", "(I)C"⟩ : MethodName)) (own_w hw 63 rfl) (own_w hw 64 rfl) (own_nf S8 (own_w hw 66 rfl)) (own_w hw 66 rfl) (own_w hw 65 rfl) (own_w hw 67 rfl) (own_w hw 10 rfl) (by decide) E_a1 (argsL := [(.int (1 : Int32))]) (rest := []) (own_catL l Z a0 hw a1 aB [(.int (nar .byte (x1.toInt8.toInt32))), (.int (nar .byte (x2.toInt8.toInt32)))] (2 : Int32) (1 : Int32) x2 zc vF h0 S8.old SZ hz S_as S_hi S_lo hvF SF rfl (by decide) (by decide) rfl cx2 hp2 E_a1 F_v F_c AB) all0 (by decide +kernel : parseMethodDescriptor "(I)C" = some ⟨[.int], some .char⟩) rfl rfl rfl d6_21 (by decide) (Nat.le_of_ble_eq_true rfl) (by decide) (by decide) (fun T10 h10 v10 S10 K10 q10 => ?_)
    obtain ⟨rfl, rfl⟩ := q10
    show own_F _ p e below _ Z _ _ _ _ _ (T10.setTop (mkF m 24 #[.val (.ref a1), .val (.int 1)] [(.int x2)]))
    refine own_callS S10 (y := (⟨"com/example/libidem/libidem/protocol/Token", "isTchar", "(C)Z"⟩ : MethodName)) (own_w hw 85 rfl) (own_w hw 86 rfl) (own_w hw 32 rfl) (own_w hw 87 rfl) (by decide) (argsL := [(.int x2)]) (rest := []) (own_isTchar l Z a0 hw x2 aT h0 S10.old ST AT cx2.1) all0 (by decide +kernel : parseMethodDescriptor "(C)Z" = some ⟨[.char], some .boolean⟩) rfl rfl rfl d6_24 (by decide) (Nat.le_of_ble_eq_true rfl) (by decide) (by decide) (fun T11 h11 v11 S11 K11 q11 => ?_)
    obtain ⟨rfl, rfl⟩ := q11
    show own_F _ p e below _ Z _ _ _ _ _ (T11.setTop (mkF m 27 #[.val (.ref a1), .val (.int 1)] [(.int (own_tc x2))]))
    refine own_if S11 32 d6_27 (by decide) (by decide) (fun (hc27_12 : ¬ ((own_tc x2) = (0 : Int32))) => ?_) (fun (hc27_12 : (own_tc x2) = (0 : Int32)) => ?_)
    · show own_F _ p e below _ Z _ _ _ _ _ (T11.setTop (mkF m 32 #[.val (.ref a1), .val (.int 1)] []))
      refine own_F.of (fun _ => XS.iinc S11.here S11.hx rfl (S11.dec d6_32) rfl (l' := #[.val (.ref a1), .val (.int 2)]) rfl) ?_
      show own_F _ p e below _ Z _ _ _ _ _ (T11.setTop (mkF m 35 #[.val (.ref a1), .val (.int 2)] []))
      refine own_F.of (fun _ => XS.goto S11.here S11.hx rfl (pc0 := 35) (pc' := 11) rfl (S11.dec d6_35) (by decide) (by decide)) ?_
      show own_F _ p e below _ Z _ _ _ _ _ (T11.setTop (mkF m 11 #[.val (.ref a1), .val (.int 2)] []))
      refine own_F.of (fun _ => XS.iloadN S11.here S11.hx rfl (S11.dec d6_11) rfl) ?_
      refine own_F.of (fun _ => XS.aloadN S11.here S11.hx rfl (S11.dec d6_12) rfl rfl) ?_
      show own_F _ p e below _ Z _ _ _ _ _ (T11.setTop (mkF m 13 #[.val (.ref a1), .val (.int 2)] [(.ref a1), (.int 2)]))
      refine own_callV S11 (y := (⟨"java/lang/String", "length", "()I"⟩ : MethodName)) (y' := (⟨"java/lang/String", "length", "()I"⟩ : MethodName)) (own_w hw 53 rfl) (own_w hw 54 rfl) (own_nf S11 (own_w hw 56 rfl)) (own_w hw 56 rfl) (own_w hw 55 rfl) (own_w hw 57 rfl) (own_w hw 10 rfl) (by decide) E_a1 (argsL := []) (rest := [(.int (2 : Int32))]) (own_lngL l Z a0 hw a1 aB [(.int (nar .byte (x1.toInt8.toInt32))), (.int (nar .byte (x2.toInt8.toInt32)))] (2 : Int32) zc h0 S11.old SZ hz (by show (2 : Nat).toInt32 >>> ((0 : Int32) &&& 31) = (2 : Int32); decide) E_a1 F_v F_c AB) all0 (by decide +kernel : parseMethodDescriptor "()I" = some ⟨[], some .int⟩) rfl rfl rfl d6_13 (by decide) (Nat.le_of_ble_eq_true rfl) (by decide) (by decide) (fun T13 h13 v13 S13 K13 q13 => ?_)
      obtain ⟨rfl, rfl⟩ := q13
      show own_F _ p e below _ Z _ _ _ _ _ (T13.setTop (mkF m 16 #[.val (.ref a1), .val (.int 2)] [(.int 2), (.int 2)]))
      refine own_icmp S13 38 d6_16 (by decide) (by decide) (fun (hc16_14 : ¬ ((2 : Int32) < (2 : Int32))) => ?_) (fun (hc16_14 : (2 : Int32) < (2 : Int32)) => False.elim (absurd hc16_14 (by decide)))
      show own_F _ p e below _ Z _ _ _ _ _ (T13.setTop (mkF m 38 #[.val (.ref a1), .val (.int 2)] []))
      refine own_F.of (fun _ => XS.iconst S13.here S13.hx rfl (S13.dec d6_38)) ?_
      show own_F _ p e below _ Z _ _ _ _ _ (T13.setTop (mkF m 39 #[.val (.ref a1), .val (.int 2)] [(.int 1)]))
      refine own_retZ S13 (by simp) d6_39 (by decide) (by decide) ?_
      have hh : own_al [x1, x2] = (1 : Int32) := by simp [own_al, hc27_7, hc27_12]
      rw [hh]; exact ⟨rfl, rfl⟩
    · show own_F _ p e below _ Z _ _ _ _ _ (T11.setTop (mkF m 30 #[.val (.ref a1), .val (.int 1)] []))
      refine own_F.of (fun _ => XS.iconst S11.here S11.hx rfl (S11.dec d6_30)) ?_
      show own_F _ p e below _ Z _ _ _ _ _ (T11.setTop (mkF m 31 #[.val (.ref a1), .val (.int 1)] [(.int 0)]))
      refine own_retZ S11 (by simp) d6_31 (by decide) (by decide) ?_
      have hh : own_al [x1, x2] = (0 : Int32) := by simp [own_al, hc27_7, hc27_12]
      rw [hh]; exact ⟨rfl, rfl⟩
  · show own_F _ p e below _ Z _ _ _ _ _ (T6.setTop (mkF m 30 #[.val (.ref a1), .val (.int 0)] []))
    refine own_F.of (fun _ => XS.iconst S6.here S6.hx rfl (S6.dec d6_30)) ?_
    show own_F _ p e below _ Z _ _ _ _ _ (T6.setTop (mkF m 31 #[.val (.ref a1), .val (.int 0)] [(.int 0)]))
    refine own_retZ S6 (by simp) d6_31 (by decide) (by decide) ?_
    have hh : own_al [x1, x2] = (0 : Int32) := by simp [own_al, hc27_7]
    rw [hh]; exact ⟨rfl, rfl⟩
set_option maxRecDepth 65536 in
set_option maxHeartbeats 40000000 in
theorem own_valU2 (l : Launch) (Z : State) (a0 : Array Value) (hw : ∀ d ∈ tables_1, d.before a0 Z = true) (a1 aB : Addr) (x1 x2 : Int32) (zc : Int32) (vF : Value) (aT : Addr) (h0 : Heap) (hO : Ext Z.heap h0) (SZ : Sta Z Z.heap "java/lang/String" "COMPACT_STRINGS" "Z" (.int zc)) (hz : ¬ zc = 0) (S_as : Sta Z Z.heap "java/lang/StringUTF16" "$assertionsDisabled" "Z" (.int 1)) (S_hi : Sta Z Z.heap "java/lang/StringUTF16" "HI_BYTE_SHIFT" "I" (.int 0)) (S_lo : Sta Z Z.heap "java/lang/StringUTF16" "LO_BYTE_SHIFT" "I" (.int 8)) (hvF : vF.isRef = true) (SF : Sta Z Z.heap "jdk/internal/util/Preconditions" "SIOOBE_FORMATTER" "Ljava/util/function/BiFunction;" vF) (ST : Sta Z Z.heap "com/example/libidem/libidem/protocol/Token" "TCHAR" "[Z" (.ref aT)) (AT : own_A Z Z.heap aT .boolean own_tab) (cx1 : own_isC x1) (cx2 : own_isC x2)  (E_a1 : Exa Z h0 a1 "java/lang/String") (F_v : Fld Z h0 a1 "java/lang/String" "value" "[B" (.ref aB)) (F_c : Fld Z h0 a1 "java/lang/String" "coder" "B" (.int 1)) (AB : own_A Z h0 aB .byte [(.int (own_lo x1)), (.int (own_hi x1)), (.int (own_lo x2)), (.int (own_hi x2))]) :
    own_C l Z (⟨"com/example/libidem/libidem/protocol/Token", "isValid", "(Ljava/lang/String;)Z"⟩ : MethodName) prog_16_method_2_code 2 (some .boolean) [] ({ frames := 5, cells := 0, slots := 0, locals := 66 } : Room) [] #[(.ref a1)] h0 (fun v h => v = some (.int (own_al [x1, x2])) ∧ h0 = h) := by
  refine own_C.of pn6 hO all0 ?_
  intro p e s m below meth c T0 S0
  refine own_F.cast (by first | (simp [entryFrame, mkF, argsToLocals, Value.category]; done) | rfl : entryFrame m #[(.ref a1)] 2 = mkF m 0 #[.val (.ref a1), .unset] []) ?_
  show own_F _ p e below _ Z _ _ _ _ _ (T0.setTop (mkF m 0 #[.val (.ref a1), .unset] []))
  refine own_F.of (fun _ => XS.aloadN S0.here S0.hx rfl (S0.dec d6_0) rfl rfl) ?_
  show own_F _ p e below _ Z _ _ _ _ _ (T0.setTop (mkF m 1 #[.val (.ref a1), .unset] [(.ref a1)]))
  refine own_callV S0 (y := (⟨"java/lang/String", "isEmpty", "()Z"⟩ : MethodName)) (y' := (⟨"java/lang/String", "isEmpty", "()Z"⟩ : MethodName)) (own_w hw 34 rfl) (own_w hw 35 rfl) (own_nf S0 (own_w hw 37 rfl)) (own_w hw 37 rfl) (own_w hw 36 rfl) (own_w hw 38 rfl) (own_w hw 10 rfl) (by decide) E_a1 (argsL := []) (rest := []) (own_empN l Z a0 hw a1 aB [(.int (own_lo x1)), (.int (own_hi x1)), (.int (own_lo x2)), (.int (own_hi x2))] h0 S0.old (by show ¬ (4 : Nat).toInt32 = 0; decide) E_a1 F_v AB) all0 (by decide +kernel : parseMethodDescriptor "()Z" = some ⟨[], some .boolean⟩) rfl rfl rfl d6_1 (by decide) (Nat.le_of_ble_eq_true rfl) (by decide) (by decide) (fun T1 h1 v1 S1 K1 q1 => ?_)
  obtain ⟨rfl, rfl⟩ := q1
  show own_F _ p e below _ Z _ _ _ _ _ (T1.setTop (mkF m 4 #[.val (.ref a1), .unset] [(.int 0)]))
  refine own_if S1 9 d6_4 (by decide) (by decide) (fun (hc4_2 : (0 : Int32) = (0 : Int32)) => ?_) (fun (hc4_2 : ¬ ((0 : Int32) = (0 : Int32))) => False.elim (absurd hc4_2 (by decide)))
  show own_F _ p e below _ Z _ _ _ _ _ (T1.setTop (mkF m 9 #[.val (.ref a1), .unset] []))
  refine own_F.of (fun _ => XS.iconst S1.here S1.hx rfl (S1.dec d6_9)) ?_
  show own_F _ p e below _ Z _ _ _ _ _ (T1.setTop (mkF m 10 #[.val (.ref a1), .unset] [(.int 0)]))
  refine own_F.of (fun _ => XS.istoreN S1.here S1.hx rfl (S1.dec d6_10) rfl (l' := #[.val (.ref a1), .val (.int 0)]) rfl) ?_
  refine own_F.of (fun _ => XS.iloadN S1.here S1.hx rfl (S1.dec d6_11) rfl) ?_
  refine own_F.of (fun _ => XS.aloadN S1.here S1.hx rfl (S1.dec d6_12) rfl rfl) ?_
  show own_F _ p e below _ Z _ _ _ _ _ (T1.setTop (mkF m 13 #[.val (.ref a1), .val (.int 0)] [(.ref a1), (.int 0)]))
  refine own_callV S1 (y := (⟨"java/lang/String", "length", "()I"⟩ : MethodName)) (y' := (⟨"java/lang/String", "length", "()I"⟩ : MethodName)) (own_w hw 53 rfl) (own_w hw 54 rfl) (own_nf S1 (own_w hw 56 rfl)) (own_w hw 56 rfl) (own_w hw 55 rfl) (own_w hw 57 rfl) (own_w hw 10 rfl) (by decide) E_a1 (argsL := []) (rest := [(.int (0 : Int32))]) (own_lngU l Z a0 hw a1 aB [(.int (own_lo x1)), (.int (own_hi x1)), (.int (own_lo x2)), (.int (own_hi x2))] (2 : Int32) zc h0 S1.old SZ hz (by show (4 : Nat).toInt32 >>> ((1 : Int32) &&& 31) = (2 : Int32); decide) E_a1 F_v F_c AB) all0 (by decide +kernel : parseMethodDescriptor "()I" = some ⟨[], some .int⟩) rfl rfl rfl d6_13 (by decide) (Nat.le_of_ble_eq_true rfl) (by decide) (by decide) (fun T3 h3 v3 S3 K3 q3 => ?_)
  obtain ⟨rfl, rfl⟩ := q3
  show own_F _ p e below _ Z _ _ _ _ _ (T3.setTop (mkF m 16 #[.val (.ref a1), .val (.int 0)] [(.int 2), (.int 0)]))
  refine own_icmp S3 38 d6_16 (by decide) (by decide) (fun (hc16_4 : ¬ ((0 : Int32) < (2 : Int32))) => False.elim (absurd hc16_4 (by decide))) (fun (hc16_4 : (0 : Int32) < (2 : Int32)) => ?_)
  show own_F _ p e below _ Z _ _ _ _ _ (T3.setTop (mkF m 19 #[.val (.ref a1), .val (.int 0)] []))
  refine own_F.of (fun _ => XS.aloadN S3.here S3.hx rfl (S3.dec d6_19) rfl rfl) ?_
  refine own_F.of (fun _ => XS.iloadN S3.here S3.hx rfl (S3.dec d6_20) rfl) ?_
  show own_F _ p e below _ Z _ _ _ _ _ (T3.setTop (mkF m 21 #[.val (.ref a1), .val (.int 0)] [(.int 0), (.ref a1)]))
  refine own_callV S3 (y := (⟨"java/lang/String", "charAt", "(I)C"⟩ : MethodName)) (y' := (⟨"java/lang/String", "charAt", "(I)C"⟩ : MethodName)) (own_w hw 63 rfl) (own_w hw 64 rfl) (own_nf S3 (own_w hw 66 rfl)) (own_w hw 66 rfl) (own_w hw 65 rfl) (own_w hw 67 rfl) (own_w hw 10 rfl) (by decide) E_a1 (argsL := [(.int (0 : Int32))]) (rest := []) (own_catU l Z a0 hw a1 aB [(.int (own_lo x1)), (.int (own_hi x1)), (.int (own_lo x2)), (.int (own_hi x2))] (2 : Int32) (0 : Int32) (0 : Int32) (1 : Int32) x1 zc vF h0 S3.old SZ hz S_as S_hi S_lo hvF SF (by show (4 : Nat).toInt32 >>> ((1 : Int32) &&& 31) = (2 : Int32); decide) (by decide) (by decide) (by decide) (by decide) (by decide) (by decide) rfl rfl cx1 E_a1 F_v F_c AB) all0 (by decide +kernel : parseMethodDescriptor "(I)C" = some ⟨[.int], some .char⟩) rfl rfl rfl d6_21 (by decide) (Nat.le_of_ble_eq_true rfl) (by decide) (by decide) (fun T5 h5 v5 S5 K5 q5 => ?_)
  obtain ⟨rfl, rfl⟩ := q5
  show own_F _ p e below _ Z _ _ _ _ _ (T5.setTop (mkF m 24 #[.val (.ref a1), .val (.int 0)] [(.int x1)]))
  refine own_callS S5 (y := (⟨"com/example/libidem/libidem/protocol/Token", "isTchar", "(C)Z"⟩ : MethodName)) (own_w hw 85 rfl) (own_w hw 86 rfl) (own_w hw 32 rfl) (own_w hw 87 rfl) (by decide) (argsL := [(.int x1)]) (rest := []) (own_isTchar l Z a0 hw x1 aT h0 S5.old ST AT cx1.1) all0 (by decide +kernel : parseMethodDescriptor "(C)Z" = some ⟨[.char], some .boolean⟩) rfl rfl rfl d6_24 (by decide) (Nat.le_of_ble_eq_true rfl) (by decide) (by decide) (fun T6 h6 v6 S6 K6 q6 => ?_)
  obtain ⟨rfl, rfl⟩ := q6
  show own_F _ p e below _ Z _ _ _ _ _ (T6.setTop (mkF m 27 #[.val (.ref a1), .val (.int 0)] [(.int (own_tc x1))]))
  refine own_if S6 32 d6_27 (by decide) (by decide) (fun (hc27_7 : ¬ ((own_tc x1) = (0 : Int32))) => ?_) (fun (hc27_7 : (own_tc x1) = (0 : Int32)) => ?_)
  · show own_F _ p e below _ Z _ _ _ _ _ (T6.setTop (mkF m 32 #[.val (.ref a1), .val (.int 0)] []))
    refine own_F.of (fun _ => XS.iinc S6.here S6.hx rfl (S6.dec d6_32) rfl (l' := #[.val (.ref a1), .val (.int 1)]) rfl) ?_
    show own_F _ p e below _ Z _ _ _ _ _ (T6.setTop (mkF m 35 #[.val (.ref a1), .val (.int 1)] []))
    refine own_F.of (fun _ => XS.goto S6.here S6.hx rfl (pc0 := 35) (pc' := 11) rfl (S6.dec d6_35) (by decide) (by decide)) ?_
    show own_F _ p e below _ Z _ _ _ _ _ (T6.setTop (mkF m 11 #[.val (.ref a1), .val (.int 1)] []))
    refine own_F.of (fun _ => XS.iloadN S6.here S6.hx rfl (S6.dec d6_11) rfl) ?_
    refine own_F.of (fun _ => XS.aloadN S6.here S6.hx rfl (S6.dec d6_12) rfl rfl) ?_
    show own_F _ p e below _ Z _ _ _ _ _ (T6.setTop (mkF m 13 #[.val (.ref a1), .val (.int 1)] [(.ref a1), (.int 1)]))
    refine own_callV S6 (y := (⟨"java/lang/String", "length", "()I"⟩ : MethodName)) (y' := (⟨"java/lang/String", "length", "()I"⟩ : MethodName)) (own_w hw 53 rfl) (own_w hw 54 rfl) (own_nf S6 (own_w hw 56 rfl)) (own_w hw 56 rfl) (own_w hw 55 rfl) (own_w hw 57 rfl) (own_w hw 10 rfl) (by decide) E_a1 (argsL := []) (rest := [(.int (1 : Int32))]) (own_lngU l Z a0 hw a1 aB [(.int (own_lo x1)), (.int (own_hi x1)), (.int (own_lo x2)), (.int (own_hi x2))] (2 : Int32) zc h0 S6.old SZ hz (by show (4 : Nat).toInt32 >>> ((1 : Int32) &&& 31) = (2 : Int32); decide) E_a1 F_v F_c AB) all0 (by decide +kernel : parseMethodDescriptor "()I" = some ⟨[], some .int⟩) rfl rfl rfl d6_13 (by decide) (Nat.le_of_ble_eq_true rfl) (by decide) (by decide) (fun T8 h8 v8 S8 K8 q8 => ?_)
    obtain ⟨rfl, rfl⟩ := q8
    show own_F _ p e below _ Z _ _ _ _ _ (T8.setTop (mkF m 16 #[.val (.ref a1), .val (.int 1)] [(.int 2), (.int 1)]))
    refine own_icmp S8 38 d6_16 (by decide) (by decide) (fun (hc16_9 : ¬ ((1 : Int32) < (2 : Int32))) => False.elim (absurd hc16_9 (by decide))) (fun (hc16_9 : (1 : Int32) < (2 : Int32)) => ?_)
    show own_F _ p e below _ Z _ _ _ _ _ (T8.setTop (mkF m 19 #[.val (.ref a1), .val (.int 1)] []))
    refine own_F.of (fun _ => XS.aloadN S8.here S8.hx rfl (S8.dec d6_19) rfl rfl) ?_
    refine own_F.of (fun _ => XS.iloadN S8.here S8.hx rfl (S8.dec d6_20) rfl) ?_
    show own_F _ p e below _ Z _ _ _ _ _ (T8.setTop (mkF m 21 #[.val (.ref a1), .val (.int 1)] [(.int 1), (.ref a1)]))
    refine own_callV S8 (y := (⟨"java/lang/String", "charAt", "(I)C"⟩ : MethodName)) (y' := (⟨"java/lang/String", "charAt", "(I)C"⟩ : MethodName)) (own_w hw 63 rfl) (own_w hw 64 rfl) (own_nf S8 (own_w hw 66 rfl)) (own_w hw 66 rfl) (own_w hw 65 rfl) (own_w hw 67 rfl) (own_w hw 10 rfl) (by decide) E_a1 (argsL := [(.int (1 : Int32))]) (rest := []) (own_catU l Z a0 hw a1 aB [(.int (own_lo x1)), (.int (own_hi x1)), (.int (own_lo x2)), (.int (own_hi x2))] (2 : Int32) (1 : Int32) (2 : Int32) (3 : Int32) x2 zc vF h0 S8.old SZ hz S_as S_hi S_lo hvF SF (by show (4 : Nat).toInt32 >>> ((1 : Int32) &&& 31) = (2 : Int32); decide) (by decide) (by decide) (by decide) (by decide) (by decide) (by decide) rfl rfl cx2 E_a1 F_v F_c AB) all0 (by decide +kernel : parseMethodDescriptor "(I)C" = some ⟨[.int], some .char⟩) rfl rfl rfl d6_21 (by decide) (Nat.le_of_ble_eq_true rfl) (by decide) (by decide) (fun T10 h10 v10 S10 K10 q10 => ?_)
    obtain ⟨rfl, rfl⟩ := q10
    show own_F _ p e below _ Z _ _ _ _ _ (T10.setTop (mkF m 24 #[.val (.ref a1), .val (.int 1)] [(.int x2)]))
    refine own_callS S10 (y := (⟨"com/example/libidem/libidem/protocol/Token", "isTchar", "(C)Z"⟩ : MethodName)) (own_w hw 85 rfl) (own_w hw 86 rfl) (own_w hw 32 rfl) (own_w hw 87 rfl) (by decide) (argsL := [(.int x2)]) (rest := []) (own_isTchar l Z a0 hw x2 aT h0 S10.old ST AT cx2.1) all0 (by decide +kernel : parseMethodDescriptor "(C)Z" = some ⟨[.char], some .boolean⟩) rfl rfl rfl d6_24 (by decide) (Nat.le_of_ble_eq_true rfl) (by decide) (by decide) (fun T11 h11 v11 S11 K11 q11 => ?_)
    obtain ⟨rfl, rfl⟩ := q11
    show own_F _ p e below _ Z _ _ _ _ _ (T11.setTop (mkF m 27 #[.val (.ref a1), .val (.int 1)] [(.int (own_tc x2))]))
    refine own_if S11 32 d6_27 (by decide) (by decide) (fun (hc27_12 : ¬ ((own_tc x2) = (0 : Int32))) => ?_) (fun (hc27_12 : (own_tc x2) = (0 : Int32)) => ?_)
    · show own_F _ p e below _ Z _ _ _ _ _ (T11.setTop (mkF m 32 #[.val (.ref a1), .val (.int 1)] []))
      refine own_F.of (fun _ => XS.iinc S11.here S11.hx rfl (S11.dec d6_32) rfl (l' := #[.val (.ref a1), .val (.int 2)]) rfl) ?_
      show own_F _ p e below _ Z _ _ _ _ _ (T11.setTop (mkF m 35 #[.val (.ref a1), .val (.int 2)] []))
      refine own_F.of (fun _ => XS.goto S11.here S11.hx rfl (pc0 := 35) (pc' := 11) rfl (S11.dec d6_35) (by decide) (by decide)) ?_
      show own_F _ p e below _ Z _ _ _ _ _ (T11.setTop (mkF m 11 #[.val (.ref a1), .val (.int 2)] []))
      refine own_F.of (fun _ => XS.iloadN S11.here S11.hx rfl (S11.dec d6_11) rfl) ?_
      refine own_F.of (fun _ => XS.aloadN S11.here S11.hx rfl (S11.dec d6_12) rfl rfl) ?_
      show own_F _ p e below _ Z _ _ _ _ _ (T11.setTop (mkF m 13 #[.val (.ref a1), .val (.int 2)] [(.ref a1), (.int 2)]))
      refine own_callV S11 (y := (⟨"java/lang/String", "length", "()I"⟩ : MethodName)) (y' := (⟨"java/lang/String", "length", "()I"⟩ : MethodName)) (own_w hw 53 rfl) (own_w hw 54 rfl) (own_nf S11 (own_w hw 56 rfl)) (own_w hw 56 rfl) (own_w hw 55 rfl) (own_w hw 57 rfl) (own_w hw 10 rfl) (by decide) E_a1 (argsL := []) (rest := [(.int (2 : Int32))]) (own_lngU l Z a0 hw a1 aB [(.int (own_lo x1)), (.int (own_hi x1)), (.int (own_lo x2)), (.int (own_hi x2))] (2 : Int32) zc h0 S11.old SZ hz (by show (4 : Nat).toInt32 >>> ((1 : Int32) &&& 31) = (2 : Int32); decide) E_a1 F_v F_c AB) all0 (by decide +kernel : parseMethodDescriptor "()I" = some ⟨[], some .int⟩) rfl rfl rfl d6_13 (by decide) (Nat.le_of_ble_eq_true rfl) (by decide) (by decide) (fun T13 h13 v13 S13 K13 q13 => ?_)
      obtain ⟨rfl, rfl⟩ := q13
      show own_F _ p e below _ Z _ _ _ _ _ (T13.setTop (mkF m 16 #[.val (.ref a1), .val (.int 2)] [(.int 2), (.int 2)]))
      refine own_icmp S13 38 d6_16 (by decide) (by decide) (fun (hc16_14 : ¬ ((2 : Int32) < (2 : Int32))) => ?_) (fun (hc16_14 : (2 : Int32) < (2 : Int32)) => False.elim (absurd hc16_14 (by decide)))
      show own_F _ p e below _ Z _ _ _ _ _ (T13.setTop (mkF m 38 #[.val (.ref a1), .val (.int 2)] []))
      refine own_F.of (fun _ => XS.iconst S13.here S13.hx rfl (S13.dec d6_38)) ?_
      show own_F _ p e below _ Z _ _ _ _ _ (T13.setTop (mkF m 39 #[.val (.ref a1), .val (.int 2)] [(.int 1)]))
      refine own_retZ S13 (by simp) d6_39 (by decide) (by decide) ?_
      have hh : own_al [x1, x2] = (1 : Int32) := by simp [own_al, hc27_7, hc27_12]
      rw [hh]; exact ⟨rfl, rfl⟩
    · show own_F _ p e below _ Z _ _ _ _ _ (T11.setTop (mkF m 30 #[.val (.ref a1), .val (.int 1)] []))
      refine own_F.of (fun _ => XS.iconst S11.here S11.hx rfl (S11.dec d6_30)) ?_
      show own_F _ p e below _ Z _ _ _ _ _ (T11.setTop (mkF m 31 #[.val (.ref a1), .val (.int 1)] [(.int 0)]))
      refine own_retZ S11 (by simp) d6_31 (by decide) (by decide) ?_
      have hh : own_al [x1, x2] = (0 : Int32) := by simp [own_al, hc27_7, hc27_12]
      rw [hh]; exact ⟨rfl, rfl⟩
  · show own_F _ p e below _ Z _ _ _ _ _ (T6.setTop (mkF m 30 #[.val (.ref a1), .val (.int 0)] []))
    refine own_F.of (fun _ => XS.iconst S6.here S6.hx rfl (S6.dec d6_30)) ?_
    show own_F _ p e below _ Z _ _ _ _ _ (T6.setTop (mkF m 31 #[.val (.ref a1), .val (.int 0)] [(.int 0)]))
    refine own_retZ S6 (by simp) d6_31 (by decide) (by decide) ?_
    have hh : own_al [x1, x2] = (0 : Int32) := by simp [own_al, hc27_7]
    rw [hh]; exact ⟨rfl, rfl⟩
set_option maxRecDepth 65536 in
set_option maxHeartbeats 40000000 in
theorem own_val2 (l : Launch) (Z : State) (a0 : Array Value) (hw : ∀ d ∈ tables_1, d.before a0 Z = true) (a1 : Addr) (x1 x2 : Int32) (zc : Int32) (vF : Value) (aT : Addr) (h0 : Heap) (hO : Ext Z.heap h0) (SZ : Sta Z Z.heap "java/lang/String" "COMPACT_STRINGS" "Z" (.int zc)) (hz : ¬ zc = 0) (S_as : Sta Z Z.heap "java/lang/StringUTF16" "$assertionsDisabled" "Z" (.int 1)) (S_hi : Sta Z Z.heap "java/lang/StringUTF16" "HI_BYTE_SHIFT" "I" (.int 0)) (S_lo : Sta Z Z.heap "java/lang/StringUTF16" "LO_BYTE_SHIFT" "I" (.int 8)) (hvF : vF.isRef = true) (SF : Sta Z Z.heap "jdk/internal/util/Preconditions" "SIOOBE_FORMATTER" "Ljava/util/function/BiFunction;" vF) (ST : Sta Z Z.heap "com/example/libidem/libidem/protocol/Token" "TCHAR" "[Z" (.ref aT)) (AT : own_A Z Z.heap aT .boolean own_tab) (cx1 : own_isC x1) (cx2 : own_isC x2) (E_a1 : Exa Z h0 a1 "java/lang/String") (SX : ∃ d, Fld Z h0 a1 "java/lang/String" "value" "[B" (.ref d) ∧ (((Fld Z h0 a1 "java/lang/String" "coder" "B" (.int 0) ∧ own_A Z h0 d .byte [(.int (nar .byte (x1.toInt8.toInt32))), (.int (nar .byte (x2.toInt8.toInt32)))]) ∧ ¬ 255 < x1 ∧ ¬ 255 < x2) ∨ (Fld Z h0 a1 "java/lang/String" "coder" "B" (.int 1) ∧ own_A Z h0 d .byte [(.int (own_lo x1)), (.int (own_hi x1)), (.int (own_lo x2)), (.int (own_hi x2))]))) :
    own_C l Z (⟨"com/example/libidem/libidem/protocol/Token", "isValid", "(Ljava/lang/String;)Z"⟩ : MethodName) prog_16_method_2_code 2 (some .boolean) [] ({ frames := 5, cells := 0, slots := 0, locals := 66 } : Room) [] #[(.ref a1)] h0 (fun v h => v = some (.int (own_al [x1, x2])) ∧ h0 = h) := by
  obtain ⟨aB, Fv, ⟨⟨Fc, A⟩, q1, q2⟩ | ⟨Fc, A⟩⟩ := SX
  · exact own_valL2 l Z a0 hw a1 aB x1 x2 zc vF aT h0 hO SZ hz S_as S_hi S_lo hvF SF ST AT cx1 cx2 q1 q2 E_a1 Fv Fc A
  · exact own_valU2 l Z a0 hw a1 aB x1 x2 zc vF aT h0 hO SZ hz S_as S_hi S_lo hvF SF ST AT cx1 cx2 E_a1 Fv Fc A
set_option maxRecDepth 65536 in
set_option maxHeartbeats 40000000 in
theorem own_valL3 (l : Launch) (Z : State) (a0 : Array Value) (hw : ∀ d ∈ tables_1, d.before a0 Z = true) (a1 aB : Addr) (x1 x2 x3 : Int32) (zc : Int32) (vF : Value) (aT : Addr) (h0 : Heap) (hO : Ext Z.heap h0) (SZ : Sta Z Z.heap "java/lang/String" "COMPACT_STRINGS" "Z" (.int zc)) (hz : ¬ zc = 0) (S_as : Sta Z Z.heap "java/lang/StringUTF16" "$assertionsDisabled" "Z" (.int 1)) (S_hi : Sta Z Z.heap "java/lang/StringUTF16" "HI_BYTE_SHIFT" "I" (.int 0)) (S_lo : Sta Z Z.heap "java/lang/StringUTF16" "LO_BYTE_SHIFT" "I" (.int 8)) (hvF : vF.isRef = true) (SF : Sta Z Z.heap "jdk/internal/util/Preconditions" "SIOOBE_FORMATTER" "Ljava/util/function/BiFunction;" vF) (ST : Sta Z Z.heap "com/example/libidem/libidem/protocol/Token" "TCHAR" "[Z" (.ref aT)) (AT : own_A Z Z.heap aT .boolean own_tab) (cx1 : own_isC x1) (cx2 : own_isC x2) (cx3 : own_isC x3) (hp1 : ¬ 255 < x1) (hp2 : ¬ 255 < x2) (hp3 : ¬ 255 < x3) (E_a1 : Exa Z h0 a1 "java/lang/String") (F_v : Fld Z h0 a1 "java/lang/String" "value" "[B" (.ref aB)) (F_c : Fld Z h0 a1 "java/lang/String" "coder" "B" (.int 0)) (AB : own_A Z h0 aB .byte [(.int (nar .byte (x1.toInt8.toInt32))), (.int (nar .byte (x2.toInt8.toInt32))), (.int (nar .byte (x3.toInt8.toInt32)))]) :
    own_C l Z (⟨"com/example/libidem/libidem/protocol/Token", "isValid", "(Ljava/lang/String;)Z"⟩ : MethodName) prog_16_method_2_code 2 (some .boolean) [] ({ frames := 5, cells := 0, slots := 0, locals := 66 } : Room) [] #[(.ref a1)] h0 (fun v h => v = some (.int (own_al [x1, x2, x3])) ∧ h0 = h) := by
  refine own_C.of pn6 hO all0 ?_
  intro p e s m below meth c T0 S0
  refine own_F.cast (by first | (simp [entryFrame, mkF, argsToLocals, Value.category]; done) | rfl : entryFrame m #[(.ref a1)] 2 = mkF m 0 #[.val (.ref a1), .unset] []) ?_
  show own_F _ p e below _ Z _ _ _ _ _ (T0.setTop (mkF m 0 #[.val (.ref a1), .unset] []))
  refine own_F.of (fun _ => XS.aloadN S0.here S0.hx rfl (S0.dec d6_0) rfl rfl) ?_
  show own_F _ p e below _ Z _ _ _ _ _ (T0.setTop (mkF m 1 #[.val (.ref a1), .unset] [(.ref a1)]))
  refine own_callV S0 (y := (⟨"java/lang/String", "isEmpty", "()Z"⟩ : MethodName)) (y' := (⟨"java/lang/String", "isEmpty", "()Z"⟩ : MethodName)) (own_w hw 34 rfl) (own_w hw 35 rfl) (own_nf S0 (own_w hw 37 rfl)) (own_w hw 37 rfl) (own_w hw 36 rfl) (own_w hw 38 rfl) (own_w hw 10 rfl) (by decide) E_a1 (argsL := []) (rest := []) (own_empN l Z a0 hw a1 aB [(.int (nar .byte (x1.toInt8.toInt32))), (.int (nar .byte (x2.toInt8.toInt32))), (.int (nar .byte (x3.toInt8.toInt32)))] h0 S0.old (by show ¬ (3 : Nat).toInt32 = 0; decide) E_a1 F_v AB) all0 (by decide +kernel : parseMethodDescriptor "()Z" = some ⟨[], some .boolean⟩) rfl rfl rfl d6_1 (by decide) (Nat.le_of_ble_eq_true rfl) (by decide) (by decide) (fun T1 h1 v1 S1 K1 q1 => ?_)
  obtain ⟨rfl, rfl⟩ := q1
  show own_F _ p e below _ Z _ _ _ _ _ (T1.setTop (mkF m 4 #[.val (.ref a1), .unset] [(.int 0)]))
  refine own_if S1 9 d6_4 (by decide) (by decide) (fun (hc4_2 : (0 : Int32) = (0 : Int32)) => ?_) (fun (hc4_2 : ¬ ((0 : Int32) = (0 : Int32))) => False.elim (absurd hc4_2 (by decide)))
  show own_F _ p e below _ Z _ _ _ _ _ (T1.setTop (mkF m 9 #[.val (.ref a1), .unset] []))
  refine own_F.of (fun _ => XS.iconst S1.here S1.hx rfl (S1.dec d6_9)) ?_
  show own_F _ p e below _ Z _ _ _ _ _ (T1.setTop (mkF m 10 #[.val (.ref a1), .unset] [(.int 0)]))
  refine own_F.of (fun _ => XS.istoreN S1.here S1.hx rfl (S1.dec d6_10) rfl (l' := #[.val (.ref a1), .val (.int 0)]) rfl) ?_
  refine own_F.of (fun _ => XS.iloadN S1.here S1.hx rfl (S1.dec d6_11) rfl) ?_
  refine own_F.of (fun _ => XS.aloadN S1.here S1.hx rfl (S1.dec d6_12) rfl rfl) ?_
  show own_F _ p e below _ Z _ _ _ _ _ (T1.setTop (mkF m 13 #[.val (.ref a1), .val (.int 0)] [(.ref a1), (.int 0)]))
  refine own_callV S1 (y := (⟨"java/lang/String", "length", "()I"⟩ : MethodName)) (y' := (⟨"java/lang/String", "length", "()I"⟩ : MethodName)) (own_w hw 53 rfl) (own_w hw 54 rfl) (own_nf S1 (own_w hw 56 rfl)) (own_w hw 56 rfl) (own_w hw 55 rfl) (own_w hw 57 rfl) (own_w hw 10 rfl) (by decide) E_a1 (argsL := []) (rest := [(.int (0 : Int32))]) (own_lngL l Z a0 hw a1 aB [(.int (nar .byte (x1.toInt8.toInt32))), (.int (nar .byte (x2.toInt8.toInt32))), (.int (nar .byte (x3.toInt8.toInt32)))] (3 : Int32) zc h0 S1.old SZ hz (by show (3 : Nat).toInt32 >>> ((0 : Int32) &&& 31) = (3 : Int32); decide) E_a1 F_v F_c AB) all0 (by decide +kernel : parseMethodDescriptor "()I" = some ⟨[], some .int⟩) rfl rfl rfl d6_13 (by decide) (Nat.le_of_ble_eq_true rfl) (by decide) (by decide) (fun T3 h3 v3 S3 K3 q3 => ?_)
  obtain ⟨rfl, rfl⟩ := q3
  show own_F _ p e below _ Z _ _ _ _ _ (T3.setTop (mkF m 16 #[.val (.ref a1), .val (.int 0)] [(.int 3), (.int 0)]))
  refine own_icmp S3 38 d6_16 (by decide) (by decide) (fun (hc16_4 : ¬ ((0 : Int32) < (3 : Int32))) => False.elim (absurd hc16_4 (by decide))) (fun (hc16_4 : (0 : Int32) < (3 : Int32)) => ?_)
  show own_F _ p e below _ Z _ _ _ _ _ (T3.setTop (mkF m 19 #[.val (.ref a1), .val (.int 0)] []))
  refine own_F.of (fun _ => XS.aloadN S3.here S3.hx rfl (S3.dec d6_19) rfl rfl) ?_
  refine own_F.of (fun _ => XS.iloadN S3.here S3.hx rfl (S3.dec d6_20) rfl) ?_
  show own_F _ p e below _ Z _ _ _ _ _ (T3.setTop (mkF m 21 #[.val (.ref a1), .val (.int 0)] [(.int 0), (.ref a1)]))
  refine own_callV S3 (y := (⟨"java/lang/String", "charAt", "(I)C"⟩ : MethodName)) (y' := (⟨"java/lang/String", "charAt", "(I)C"⟩ : MethodName)) (own_w hw 63 rfl) (own_w hw 64 rfl) (own_nf S3 (own_w hw 66 rfl)) (own_w hw 66 rfl) (own_w hw 65 rfl) (own_w hw 67 rfl) (own_w hw 10 rfl) (by decide) E_a1 (argsL := [(.int (0 : Int32))]) (rest := []) (own_catL l Z a0 hw a1 aB [(.int (nar .byte (x1.toInt8.toInt32))), (.int (nar .byte (x2.toInt8.toInt32))), (.int (nar .byte (x3.toInt8.toInt32)))] (3 : Int32) (0 : Int32) x1 zc vF h0 S3.old SZ hz S_as S_hi S_lo hvF SF rfl (by decide) (by decide) rfl cx1 hp1 E_a1 F_v F_c AB) all0 (by decide +kernel : parseMethodDescriptor "(I)C" = some ⟨[.int], some .char⟩) rfl rfl rfl d6_21 (by decide) (Nat.le_of_ble_eq_true rfl) (by decide) (by decide) (fun T5 h5 v5 S5 K5 q5 => ?_)
  obtain ⟨rfl, rfl⟩ := q5
  show own_F _ p e below _ Z _ _ _ _ _ (T5.setTop (mkF m 24 #[.val (.ref a1), .val (.int 0)] [(.int x1)]))
  refine own_callS S5 (y := (⟨"com/example/libidem/libidem/protocol/Token", "isTchar", "(C)Z"⟩ : MethodName)) (own_w hw 85 rfl) (own_w hw 86 rfl) (own_w hw 32 rfl) (own_w hw 87 rfl) (by decide) (argsL := [(.int x1)]) (rest := []) (own_isTchar l Z a0 hw x1 aT h0 S5.old ST AT cx1.1) all0 (by decide +kernel : parseMethodDescriptor "(C)Z" = some ⟨[.char], some .boolean⟩) rfl rfl rfl d6_24 (by decide) (Nat.le_of_ble_eq_true rfl) (by decide) (by decide) (fun T6 h6 v6 S6 K6 q6 => ?_)
  obtain ⟨rfl, rfl⟩ := q6
  show own_F _ p e below _ Z _ _ _ _ _ (T6.setTop (mkF m 27 #[.val (.ref a1), .val (.int 0)] [(.int (own_tc x1))]))
  refine own_if S6 32 d6_27 (by decide) (by decide) (fun (hc27_7 : ¬ ((own_tc x1) = (0 : Int32))) => ?_) (fun (hc27_7 : (own_tc x1) = (0 : Int32)) => ?_)
  · show own_F _ p e below _ Z _ _ _ _ _ (T6.setTop (mkF m 32 #[.val (.ref a1), .val (.int 0)] []))
    refine own_F.of (fun _ => XS.iinc S6.here S6.hx rfl (S6.dec d6_32) rfl (l' := #[.val (.ref a1), .val (.int 1)]) rfl) ?_
    show own_F _ p e below _ Z _ _ _ _ _ (T6.setTop (mkF m 35 #[.val (.ref a1), .val (.int 1)] []))
    refine own_F.of (fun _ => XS.goto S6.here S6.hx rfl (pc0 := 35) (pc' := 11) rfl (S6.dec d6_35) (by decide) (by decide)) ?_
    show own_F _ p e below _ Z _ _ _ _ _ (T6.setTop (mkF m 11 #[.val (.ref a1), .val (.int 1)] []))
    refine own_F.of (fun _ => XS.iloadN S6.here S6.hx rfl (S6.dec d6_11) rfl) ?_
    refine own_F.of (fun _ => XS.aloadN S6.here S6.hx rfl (S6.dec d6_12) rfl rfl) ?_
    show own_F _ p e below _ Z _ _ _ _ _ (T6.setTop (mkF m 13 #[.val (.ref a1), .val (.int 1)] [(.ref a1), (.int 1)]))
    refine own_callV S6 (y := (⟨"java/lang/String", "length", "()I"⟩ : MethodName)) (y' := (⟨"java/lang/String", "length", "()I"⟩ : MethodName)) (own_w hw 53 rfl) (own_w hw 54 rfl) (own_nf S6 (own_w hw 56 rfl)) (own_w hw 56 rfl) (own_w hw 55 rfl) (own_w hw 57 rfl) (own_w hw 10 rfl) (by decide) E_a1 (argsL := []) (rest := [(.int (1 : Int32))]) (own_lngL l Z a0 hw a1 aB [(.int (nar .byte (x1.toInt8.toInt32))), (.int (nar .byte (x2.toInt8.toInt32))), (.int (nar .byte (x3.toInt8.toInt32)))] (3 : Int32) zc h0 S6.old SZ hz (by show (3 : Nat).toInt32 >>> ((0 : Int32) &&& 31) = (3 : Int32); decide) E_a1 F_v F_c AB) all0 (by decide +kernel : parseMethodDescriptor "()I" = some ⟨[], some .int⟩) rfl rfl rfl d6_13 (by decide) (Nat.le_of_ble_eq_true rfl) (by decide) (by decide) (fun T8 h8 v8 S8 K8 q8 => ?_)
    obtain ⟨rfl, rfl⟩ := q8
    show own_F _ p e below _ Z _ _ _ _ _ (T8.setTop (mkF m 16 #[.val (.ref a1), .val (.int 1)] [(.int 3), (.int 1)]))
    refine own_icmp S8 38 d6_16 (by decide) (by decide) (fun (hc16_9 : ¬ ((1 : Int32) < (3 : Int32))) => False.elim (absurd hc16_9 (by decide))) (fun (hc16_9 : (1 : Int32) < (3 : Int32)) => ?_)
    show own_F _ p e below _ Z _ _ _ _ _ (T8.setTop (mkF m 19 #[.val (.ref a1), .val (.int 1)] []))
    refine own_F.of (fun _ => XS.aloadN S8.here S8.hx rfl (S8.dec d6_19) rfl rfl) ?_
    refine own_F.of (fun _ => XS.iloadN S8.here S8.hx rfl (S8.dec d6_20) rfl) ?_
    show own_F _ p e below _ Z _ _ _ _ _ (T8.setTop (mkF m 21 #[.val (.ref a1), .val (.int 1)] [(.int 1), (.ref a1)]))
    refine own_callV S8 (y := (⟨"java/lang/String", "charAt", "(I)C"⟩ : MethodName)) (y' := (⟨"java/lang/String", "charAt", "(I)C"⟩ : MethodName)) (own_w hw 63 rfl) (own_w hw 64 rfl) (own_nf S8 (own_w hw 66 rfl)) (own_w hw 66 rfl) (own_w hw 65 rfl) (own_w hw 67 rfl) (own_w hw 10 rfl) (by decide) E_a1 (argsL := [(.int (1 : Int32))]) (rest := []) (own_catL l Z a0 hw a1 aB [(.int (nar .byte (x1.toInt8.toInt32))), (.int (nar .byte (x2.toInt8.toInt32))), (.int (nar .byte (x3.toInt8.toInt32)))] (3 : Int32) (1 : Int32) x2 zc vF h0 S8.old SZ hz S_as S_hi S_lo hvF SF rfl (by decide) (by decide) rfl cx2 hp2 E_a1 F_v F_c AB) all0 (by decide +kernel : parseMethodDescriptor "(I)C" = some ⟨[.int], some .char⟩) rfl rfl rfl d6_21 (by decide) (Nat.le_of_ble_eq_true rfl) (by decide) (by decide) (fun T10 h10 v10 S10 K10 q10 => ?_)
    obtain ⟨rfl, rfl⟩ := q10
    show own_F _ p e below _ Z _ _ _ _ _ (T10.setTop (mkF m 24 #[.val (.ref a1), .val (.int 1)] [(.int x2)]))
    refine own_callS S10 (y := (⟨"com/example/libidem/libidem/protocol/Token", "isTchar", "(C)Z"⟩ : MethodName)) (own_w hw 85 rfl) (own_w hw 86 rfl) (own_w hw 32 rfl) (own_w hw 87 rfl) (by decide) (argsL := [(.int x2)]) (rest := []) (own_isTchar l Z a0 hw x2 aT h0 S10.old ST AT cx2.1) all0 (by decide +kernel : parseMethodDescriptor "(C)Z" = some ⟨[.char], some .boolean⟩) rfl rfl rfl d6_24 (by decide) (Nat.le_of_ble_eq_true rfl) (by decide) (by decide) (fun T11 h11 v11 S11 K11 q11 => ?_)
    obtain ⟨rfl, rfl⟩ := q11
    show own_F _ p e below _ Z _ _ _ _ _ (T11.setTop (mkF m 27 #[.val (.ref a1), .val (.int 1)] [(.int (own_tc x2))]))
    refine own_if S11 32 d6_27 (by decide) (by decide) (fun (hc27_12 : ¬ ((own_tc x2) = (0 : Int32))) => ?_) (fun (hc27_12 : (own_tc x2) = (0 : Int32)) => ?_)
    · show own_F _ p e below _ Z _ _ _ _ _ (T11.setTop (mkF m 32 #[.val (.ref a1), .val (.int 1)] []))
      refine own_F.of (fun _ => XS.iinc S11.here S11.hx rfl (S11.dec d6_32) rfl (l' := #[.val (.ref a1), .val (.int 2)]) rfl) ?_
      show own_F _ p e below _ Z _ _ _ _ _ (T11.setTop (mkF m 35 #[.val (.ref a1), .val (.int 2)] []))
      refine own_F.of (fun _ => XS.goto S11.here S11.hx rfl (pc0 := 35) (pc' := 11) rfl (S11.dec d6_35) (by decide) (by decide)) ?_
      show own_F _ p e below _ Z _ _ _ _ _ (T11.setTop (mkF m 11 #[.val (.ref a1), .val (.int 2)] []))
      refine own_F.of (fun _ => XS.iloadN S11.here S11.hx rfl (S11.dec d6_11) rfl) ?_
      refine own_F.of (fun _ => XS.aloadN S11.here S11.hx rfl (S11.dec d6_12) rfl rfl) ?_
      show own_F _ p e below _ Z _ _ _ _ _ (T11.setTop (mkF m 13 #[.val (.ref a1), .val (.int 2)] [(.ref a1), (.int 2)]))
      refine own_callV S11 (y := (⟨"java/lang/String", "length", "()I"⟩ : MethodName)) (y' := (⟨"java/lang/String", "length", "()I"⟩ : MethodName)) (own_w hw 53 rfl) (own_w hw 54 rfl) (own_nf S11 (own_w hw 56 rfl)) (own_w hw 56 rfl) (own_w hw 55 rfl) (own_w hw 57 rfl) (own_w hw 10 rfl) (by decide) E_a1 (argsL := []) (rest := [(.int (2 : Int32))]) (own_lngL l Z a0 hw a1 aB [(.int (nar .byte (x1.toInt8.toInt32))), (.int (nar .byte (x2.toInt8.toInt32))), (.int (nar .byte (x3.toInt8.toInt32)))] (3 : Int32) zc h0 S11.old SZ hz (by show (3 : Nat).toInt32 >>> ((0 : Int32) &&& 31) = (3 : Int32); decide) E_a1 F_v F_c AB) all0 (by decide +kernel : parseMethodDescriptor "()I" = some ⟨[], some .int⟩) rfl rfl rfl d6_13 (by decide) (Nat.le_of_ble_eq_true rfl) (by decide) (by decide) (fun T13 h13 v13 S13 K13 q13 => ?_)
      obtain ⟨rfl, rfl⟩ := q13
      show own_F _ p e below _ Z _ _ _ _ _ (T13.setTop (mkF m 16 #[.val (.ref a1), .val (.int 2)] [(.int 3), (.int 2)]))
      refine own_icmp S13 38 d6_16 (by decide) (by decide) (fun (hc16_14 : ¬ ((2 : Int32) < (3 : Int32))) => False.elim (absurd hc16_14 (by decide))) (fun (hc16_14 : (2 : Int32) < (3 : Int32)) => ?_)
      show own_F _ p e below _ Z _ _ _ _ _ (T13.setTop (mkF m 19 #[.val (.ref a1), .val (.int 2)] []))
      refine own_F.of (fun _ => XS.aloadN S13.here S13.hx rfl (S13.dec d6_19) rfl rfl) ?_
      refine own_F.of (fun _ => XS.iloadN S13.here S13.hx rfl (S13.dec d6_20) rfl) ?_
      show own_F _ p e below _ Z _ _ _ _ _ (T13.setTop (mkF m 21 #[.val (.ref a1), .val (.int 2)] [(.int 2), (.ref a1)]))
      refine own_callV S13 (y := (⟨"java/lang/String", "charAt", "(I)C"⟩ : MethodName)) (y' := (⟨"java/lang/String", "charAt", "(I)C"⟩ : MethodName)) (own_w hw 63 rfl) (own_w hw 64 rfl) (own_nf S13 (own_w hw 66 rfl)) (own_w hw 66 rfl) (own_w hw 65 rfl) (own_w hw 67 rfl) (own_w hw 10 rfl) (by decide) E_a1 (argsL := [(.int (2 : Int32))]) (rest := []) (own_catL l Z a0 hw a1 aB [(.int (nar .byte (x1.toInt8.toInt32))), (.int (nar .byte (x2.toInt8.toInt32))), (.int (nar .byte (x3.toInt8.toInt32)))] (3 : Int32) (2 : Int32) x3 zc vF h0 S13.old SZ hz S_as S_hi S_lo hvF SF rfl (by decide) (by decide) rfl cx3 hp3 E_a1 F_v F_c AB) all0 (by decide +kernel : parseMethodDescriptor "(I)C" = some ⟨[.int], some .char⟩) rfl rfl rfl d6_21 (by decide) (Nat.le_of_ble_eq_true rfl) (by decide) (by decide) (fun T15 h15 v15 S15 K15 q15 => ?_)
      obtain ⟨rfl, rfl⟩ := q15
      show own_F _ p e below _ Z _ _ _ _ _ (T15.setTop (mkF m 24 #[.val (.ref a1), .val (.int 2)] [(.int x3)]))
      refine own_callS S15 (y := (⟨"com/example/libidem/libidem/protocol/Token", "isTchar", "(C)Z"⟩ : MethodName)) (own_w hw 85 rfl) (own_w hw 86 rfl) (own_w hw 32 rfl) (own_w hw 87 rfl) (by decide) (argsL := [(.int x3)]) (rest := []) (own_isTchar l Z a0 hw x3 aT h0 S15.old ST AT cx3.1) all0 (by decide +kernel : parseMethodDescriptor "(C)Z" = some ⟨[.char], some .boolean⟩) rfl rfl rfl d6_24 (by decide) (Nat.le_of_ble_eq_true rfl) (by decide) (by decide) (fun T16 h16 v16 S16 K16 q16 => ?_)
      obtain ⟨rfl, rfl⟩ := q16
      show own_F _ p e below _ Z _ _ _ _ _ (T16.setTop (mkF m 27 #[.val (.ref a1), .val (.int 2)] [(.int (own_tc x3))]))
      refine own_if S16 32 d6_27 (by decide) (by decide) (fun (hc27_17 : ¬ ((own_tc x3) = (0 : Int32))) => ?_) (fun (hc27_17 : (own_tc x3) = (0 : Int32)) => ?_)
      · show own_F _ p e below _ Z _ _ _ _ _ (T16.setTop (mkF m 32 #[.val (.ref a1), .val (.int 2)] []))
        refine own_F.of (fun _ => XS.iinc S16.here S16.hx rfl (S16.dec d6_32) rfl (l' := #[.val (.ref a1), .val (.int 3)]) rfl) ?_
        show own_F _ p e below _ Z _ _ _ _ _ (T16.setTop (mkF m 35 #[.val (.ref a1), .val (.int 3)] []))
        refine own_F.of (fun _ => XS.goto S16.here S16.hx rfl (pc0 := 35) (pc' := 11) rfl (S16.dec d6_35) (by decide) (by decide)) ?_
        show own_F _ p e below _ Z _ _ _ _ _ (T16.setTop (mkF m 11 #[.val (.ref a1), .val (.int 3)] []))
        refine own_F.of (fun _ => XS.iloadN S16.here S16.hx rfl (S16.dec d6_11) rfl) ?_
        refine own_F.of (fun _ => XS.aloadN S16.here S16.hx rfl (S16.dec d6_12) rfl rfl) ?_
        show own_F _ p e below _ Z _ _ _ _ _ (T16.setTop (mkF m 13 #[.val (.ref a1), .val (.int 3)] [(.ref a1), (.int 3)]))
        refine own_callV S16 (y := (⟨"java/lang/String", "length", "()I"⟩ : MethodName)) (y' := (⟨"java/lang/String", "length", "()I"⟩ : MethodName)) (own_w hw 53 rfl) (own_w hw 54 rfl) (own_nf S16 (own_w hw 56 rfl)) (own_w hw 56 rfl) (own_w hw 55 rfl) (own_w hw 57 rfl) (own_w hw 10 rfl) (by decide) E_a1 (argsL := []) (rest := [(.int (3 : Int32))]) (own_lngL l Z a0 hw a1 aB [(.int (nar .byte (x1.toInt8.toInt32))), (.int (nar .byte (x2.toInt8.toInt32))), (.int (nar .byte (x3.toInt8.toInt32)))] (3 : Int32) zc h0 S16.old SZ hz (by show (3 : Nat).toInt32 >>> ((0 : Int32) &&& 31) = (3 : Int32); decide) E_a1 F_v F_c AB) all0 (by decide +kernel : parseMethodDescriptor "()I" = some ⟨[], some .int⟩) rfl rfl rfl d6_13 (by decide) (Nat.le_of_ble_eq_true rfl) (by decide) (by decide) (fun T18 h18 v18 S18 K18 q18 => ?_)
        obtain ⟨rfl, rfl⟩ := q18
        show own_F _ p e below _ Z _ _ _ _ _ (T18.setTop (mkF m 16 #[.val (.ref a1), .val (.int 3)] [(.int 3), (.int 3)]))
        refine own_icmp S18 38 d6_16 (by decide) (by decide) (fun (hc16_19 : ¬ ((3 : Int32) < (3 : Int32))) => ?_) (fun (hc16_19 : (3 : Int32) < (3 : Int32)) => False.elim (absurd hc16_19 (by decide)))
        show own_F _ p e below _ Z _ _ _ _ _ (T18.setTop (mkF m 38 #[.val (.ref a1), .val (.int 3)] []))
        refine own_F.of (fun _ => XS.iconst S18.here S18.hx rfl (S18.dec d6_38)) ?_
        show own_F _ p e below _ Z _ _ _ _ _ (T18.setTop (mkF m 39 #[.val (.ref a1), .val (.int 3)] [(.int 1)]))
        refine own_retZ S18 (by simp) d6_39 (by decide) (by decide) ?_
        have hh : own_al [x1, x2, x3] = (1 : Int32) := by simp [own_al, hc27_7, hc27_12, hc27_17]
        rw [hh]; exact ⟨rfl, rfl⟩
      · show own_F _ p e below _ Z _ _ _ _ _ (T16.setTop (mkF m 30 #[.val (.ref a1), .val (.int 2)] []))
        refine own_F.of (fun _ => XS.iconst S16.here S16.hx rfl (S16.dec d6_30)) ?_
        show own_F _ p e below _ Z _ _ _ _ _ (T16.setTop (mkF m 31 #[.val (.ref a1), .val (.int 2)] [(.int 0)]))
        refine own_retZ S16 (by simp) d6_31 (by decide) (by decide) ?_
        have hh : own_al [x1, x2, x3] = (0 : Int32) := by simp [own_al, hc27_7, hc27_12, hc27_17]
        rw [hh]; exact ⟨rfl, rfl⟩
    · show own_F _ p e below _ Z _ _ _ _ _ (T11.setTop (mkF m 30 #[.val (.ref a1), .val (.int 1)] []))
      refine own_F.of (fun _ => XS.iconst S11.here S11.hx rfl (S11.dec d6_30)) ?_
      show own_F _ p e below _ Z _ _ _ _ _ (T11.setTop (mkF m 31 #[.val (.ref a1), .val (.int 1)] [(.int 0)]))
      refine own_retZ S11 (by simp) d6_31 (by decide) (by decide) ?_
      have hh : own_al [x1, x2, x3] = (0 : Int32) := by simp [own_al, hc27_7, hc27_12]
      rw [hh]; exact ⟨rfl, rfl⟩
  · show own_F _ p e below _ Z _ _ _ _ _ (T6.setTop (mkF m 30 #[.val (.ref a1), .val (.int 0)] []))
    refine own_F.of (fun _ => XS.iconst S6.here S6.hx rfl (S6.dec d6_30)) ?_
    show own_F _ p e below _ Z _ _ _ _ _ (T6.setTop (mkF m 31 #[.val (.ref a1), .val (.int 0)] [(.int 0)]))
    refine own_retZ S6 (by simp) d6_31 (by decide) (by decide) ?_
    have hh : own_al [x1, x2, x3] = (0 : Int32) := by simp [own_al, hc27_7]
    rw [hh]; exact ⟨rfl, rfl⟩
set_option maxRecDepth 65536 in
set_option maxHeartbeats 40000000 in
theorem own_valU3 (l : Launch) (Z : State) (a0 : Array Value) (hw : ∀ d ∈ tables_1, d.before a0 Z = true) (a1 aB : Addr) (x1 x2 x3 : Int32) (zc : Int32) (vF : Value) (aT : Addr) (h0 : Heap) (hO : Ext Z.heap h0) (SZ : Sta Z Z.heap "java/lang/String" "COMPACT_STRINGS" "Z" (.int zc)) (hz : ¬ zc = 0) (S_as : Sta Z Z.heap "java/lang/StringUTF16" "$assertionsDisabled" "Z" (.int 1)) (S_hi : Sta Z Z.heap "java/lang/StringUTF16" "HI_BYTE_SHIFT" "I" (.int 0)) (S_lo : Sta Z Z.heap "java/lang/StringUTF16" "LO_BYTE_SHIFT" "I" (.int 8)) (hvF : vF.isRef = true) (SF : Sta Z Z.heap "jdk/internal/util/Preconditions" "SIOOBE_FORMATTER" "Ljava/util/function/BiFunction;" vF) (ST : Sta Z Z.heap "com/example/libidem/libidem/protocol/Token" "TCHAR" "[Z" (.ref aT)) (AT : own_A Z Z.heap aT .boolean own_tab) (cx1 : own_isC x1) (cx2 : own_isC x2) (cx3 : own_isC x3)  (E_a1 : Exa Z h0 a1 "java/lang/String") (F_v : Fld Z h0 a1 "java/lang/String" "value" "[B" (.ref aB)) (F_c : Fld Z h0 a1 "java/lang/String" "coder" "B" (.int 1)) (AB : own_A Z h0 aB .byte [(.int (own_lo x1)), (.int (own_hi x1)), (.int (own_lo x2)), (.int (own_hi x2)), (.int (own_lo x3)), (.int (own_hi x3))]) :
    own_C l Z (⟨"com/example/libidem/libidem/protocol/Token", "isValid", "(Ljava/lang/String;)Z"⟩ : MethodName) prog_16_method_2_code 2 (some .boolean) [] ({ frames := 5, cells := 0, slots := 0, locals := 66 } : Room) [] #[(.ref a1)] h0 (fun v h => v = some (.int (own_al [x1, x2, x3])) ∧ h0 = h) := by
  refine own_C.of pn6 hO all0 ?_
  intro p e s m below meth c T0 S0
  refine own_F.cast (by first | (simp [entryFrame, mkF, argsToLocals, Value.category]; done) | rfl : entryFrame m #[(.ref a1)] 2 = mkF m 0 #[.val (.ref a1), .unset] []) ?_
  show own_F _ p e below _ Z _ _ _ _ _ (T0.setTop (mkF m 0 #[.val (.ref a1), .unset] []))
  refine own_F.of (fun _ => XS.aloadN S0.here S0.hx rfl (S0.dec d6_0) rfl rfl) ?_
  show own_F _ p e below _ Z _ _ _ _ _ (T0.setTop (mkF m 1 #[.val (.ref a1), .unset] [(.ref a1)]))
  refine own_callV S0 (y := (⟨"java/lang/String", "isEmpty", "()Z"⟩ : MethodName)) (y' := (⟨"java/lang/String", "isEmpty", "()Z"⟩ : MethodName)) (own_w hw 34 rfl) (own_w hw 35 rfl) (own_nf S0 (own_w hw 37 rfl)) (own_w hw 37 rfl) (own_w hw 36 rfl) (own_w hw 38 rfl) (own_w hw 10 rfl) (by decide) E_a1 (argsL := []) (rest := []) (own_empN l Z a0 hw a1 aB [(.int (own_lo x1)), (.int (own_hi x1)), (.int (own_lo x2)), (.int (own_hi x2)), (.int (own_lo x3)), (.int (own_hi x3))] h0 S0.old (by show ¬ (6 : Nat).toInt32 = 0; decide) E_a1 F_v AB) all0 (by decide +kernel : parseMethodDescriptor "()Z" = some ⟨[], some .boolean⟩) rfl rfl rfl d6_1 (by decide) (Nat.le_of_ble_eq_true rfl) (by decide) (by decide) (fun T1 h1 v1 S1 K1 q1 => ?_)
  obtain ⟨rfl, rfl⟩ := q1
  show own_F _ p e below _ Z _ _ _ _ _ (T1.setTop (mkF m 4 #[.val (.ref a1), .unset] [(.int 0)]))
  refine own_if S1 9 d6_4 (by decide) (by decide) (fun (hc4_2 : (0 : Int32) = (0 : Int32)) => ?_) (fun (hc4_2 : ¬ ((0 : Int32) = (0 : Int32))) => False.elim (absurd hc4_2 (by decide)))
  show own_F _ p e below _ Z _ _ _ _ _ (T1.setTop (mkF m 9 #[.val (.ref a1), .unset] []))
  refine own_F.of (fun _ => XS.iconst S1.here S1.hx rfl (S1.dec d6_9)) ?_
  show own_F _ p e below _ Z _ _ _ _ _ (T1.setTop (mkF m 10 #[.val (.ref a1), .unset] [(.int 0)]))
  refine own_F.of (fun _ => XS.istoreN S1.here S1.hx rfl (S1.dec d6_10) rfl (l' := #[.val (.ref a1), .val (.int 0)]) rfl) ?_
  refine own_F.of (fun _ => XS.iloadN S1.here S1.hx rfl (S1.dec d6_11) rfl) ?_
  refine own_F.of (fun _ => XS.aloadN S1.here S1.hx rfl (S1.dec d6_12) rfl rfl) ?_
  show own_F _ p e below _ Z _ _ _ _ _ (T1.setTop (mkF m 13 #[.val (.ref a1), .val (.int 0)] [(.ref a1), (.int 0)]))
  refine own_callV S1 (y := (⟨"java/lang/String", "length", "()I"⟩ : MethodName)) (y' := (⟨"java/lang/String", "length", "()I"⟩ : MethodName)) (own_w hw 53 rfl) (own_w hw 54 rfl) (own_nf S1 (own_w hw 56 rfl)) (own_w hw 56 rfl) (own_w hw 55 rfl) (own_w hw 57 rfl) (own_w hw 10 rfl) (by decide) E_a1 (argsL := []) (rest := [(.int (0 : Int32))]) (own_lngU l Z a0 hw a1 aB [(.int (own_lo x1)), (.int (own_hi x1)), (.int (own_lo x2)), (.int (own_hi x2)), (.int (own_lo x3)), (.int (own_hi x3))] (3 : Int32) zc h0 S1.old SZ hz (by show (6 : Nat).toInt32 >>> ((1 : Int32) &&& 31) = (3 : Int32); decide) E_a1 F_v F_c AB) all0 (by decide +kernel : parseMethodDescriptor "()I" = some ⟨[], some .int⟩) rfl rfl rfl d6_13 (by decide) (Nat.le_of_ble_eq_true rfl) (by decide) (by decide) (fun T3 h3 v3 S3 K3 q3 => ?_)
  obtain ⟨rfl, rfl⟩ := q3
  show own_F _ p e below _ Z _ _ _ _ _ (T3.setTop (mkF m 16 #[.val (.ref a1), .val (.int 0)] [(.int 3), (.int 0)]))
  refine own_icmp S3 38 d6_16 (by decide) (by decide) (fun (hc16_4 : ¬ ((0 : Int32) < (3 : Int32))) => False.elim (absurd hc16_4 (by decide))) (fun (hc16_4 : (0 : Int32) < (3 : Int32)) => ?_)
  show own_F _ p e below _ Z _ _ _ _ _ (T3.setTop (mkF m 19 #[.val (.ref a1), .val (.int 0)] []))
  refine own_F.of (fun _ => XS.aloadN S3.here S3.hx rfl (S3.dec d6_19) rfl rfl) ?_
  refine own_F.of (fun _ => XS.iloadN S3.here S3.hx rfl (S3.dec d6_20) rfl) ?_
  show own_F _ p e below _ Z _ _ _ _ _ (T3.setTop (mkF m 21 #[.val (.ref a1), .val (.int 0)] [(.int 0), (.ref a1)]))
  refine own_callV S3 (y := (⟨"java/lang/String", "charAt", "(I)C"⟩ : MethodName)) (y' := (⟨"java/lang/String", "charAt", "(I)C"⟩ : MethodName)) (own_w hw 63 rfl) (own_w hw 64 rfl) (own_nf S3 (own_w hw 66 rfl)) (own_w hw 66 rfl) (own_w hw 65 rfl) (own_w hw 67 rfl) (own_w hw 10 rfl) (by decide) E_a1 (argsL := [(.int (0 : Int32))]) (rest := []) (own_catU l Z a0 hw a1 aB [(.int (own_lo x1)), (.int (own_hi x1)), (.int (own_lo x2)), (.int (own_hi x2)), (.int (own_lo x3)), (.int (own_hi x3))] (3 : Int32) (0 : Int32) (0 : Int32) (1 : Int32) x1 zc vF h0 S3.old SZ hz S_as S_hi S_lo hvF SF (by show (6 : Nat).toInt32 >>> ((1 : Int32) &&& 31) = (3 : Int32); decide) (by decide) (by decide) (by decide) (by decide) (by decide) (by decide) rfl rfl cx1 E_a1 F_v F_c AB) all0 (by decide +kernel : parseMethodDescriptor "(I)C" = some ⟨[.int], some .char⟩) rfl rfl rfl d6_21 (by decide) (Nat.le_of_ble_eq_true rfl) (by decide) (by decide) (fun T5 h5 v5 S5 K5 q5 => ?_)
  obtain ⟨rfl, rfl⟩ := q5
  show own_F _ p e below _ Z _ _ _ _ _ (T5.setTop (mkF m 24 #[.val (.ref a1), .val (.int 0)] [(.int x1)]))
  refine own_callS S5 (y := (⟨"com/example/libidem/libidem/protocol/Token", "isTchar", "(C)Z"⟩ : MethodName)) (own_w hw 85 rfl) (own_w hw 86 rfl) (own_w hw 32 rfl) (own_w hw 87 rfl) (by decide) (argsL := [(.int x1)]) (rest := []) (own_isTchar l Z a0 hw x1 aT h0 S5.old ST AT cx1.1) all0 (by decide +kernel : parseMethodDescriptor "(C)Z" = some ⟨[.char], some .boolean⟩) rfl rfl rfl d6_24 (by decide) (Nat.le_of_ble_eq_true rfl) (by decide) (by decide) (fun T6 h6 v6 S6 K6 q6 => ?_)
  obtain ⟨rfl, rfl⟩ := q6
  show own_F _ p e below _ Z _ _ _ _ _ (T6.setTop (mkF m 27 #[.val (.ref a1), .val (.int 0)] [(.int (own_tc x1))]))
  refine own_if S6 32 d6_27 (by decide) (by decide) (fun (hc27_7 : ¬ ((own_tc x1) = (0 : Int32))) => ?_) (fun (hc27_7 : (own_tc x1) = (0 : Int32)) => ?_)
  · show own_F _ p e below _ Z _ _ _ _ _ (T6.setTop (mkF m 32 #[.val (.ref a1), .val (.int 0)] []))
    refine own_F.of (fun _ => XS.iinc S6.here S6.hx rfl (S6.dec d6_32) rfl (l' := #[.val (.ref a1), .val (.int 1)]) rfl) ?_
    show own_F _ p e below _ Z _ _ _ _ _ (T6.setTop (mkF m 35 #[.val (.ref a1), .val (.int 1)] []))
    refine own_F.of (fun _ => XS.goto S6.here S6.hx rfl (pc0 := 35) (pc' := 11) rfl (S6.dec d6_35) (by decide) (by decide)) ?_
    show own_F _ p e below _ Z _ _ _ _ _ (T6.setTop (mkF m 11 #[.val (.ref a1), .val (.int 1)] []))
    refine own_F.of (fun _ => XS.iloadN S6.here S6.hx rfl (S6.dec d6_11) rfl) ?_
    refine own_F.of (fun _ => XS.aloadN S6.here S6.hx rfl (S6.dec d6_12) rfl rfl) ?_
    show own_F _ p e below _ Z _ _ _ _ _ (T6.setTop (mkF m 13 #[.val (.ref a1), .val (.int 1)] [(.ref a1), (.int 1)]))
    refine own_callV S6 (y := (⟨"java/lang/String", "length", "()I"⟩ : MethodName)) (y' := (⟨"java/lang/String", "length", "()I"⟩ : MethodName)) (own_w hw 53 rfl) (own_w hw 54 rfl) (own_nf S6 (own_w hw 56 rfl)) (own_w hw 56 rfl) (own_w hw 55 rfl) (own_w hw 57 rfl) (own_w hw 10 rfl) (by decide) E_a1 (argsL := []) (rest := [(.int (1 : Int32))]) (own_lngU l Z a0 hw a1 aB [(.int (own_lo x1)), (.int (own_hi x1)), (.int (own_lo x2)), (.int (own_hi x2)), (.int (own_lo x3)), (.int (own_hi x3))] (3 : Int32) zc h0 S6.old SZ hz (by show (6 : Nat).toInt32 >>> ((1 : Int32) &&& 31) = (3 : Int32); decide) E_a1 F_v F_c AB) all0 (by decide +kernel : parseMethodDescriptor "()I" = some ⟨[], some .int⟩) rfl rfl rfl d6_13 (by decide) (Nat.le_of_ble_eq_true rfl) (by decide) (by decide) (fun T8 h8 v8 S8 K8 q8 => ?_)
    obtain ⟨rfl, rfl⟩ := q8
    show own_F _ p e below _ Z _ _ _ _ _ (T8.setTop (mkF m 16 #[.val (.ref a1), .val (.int 1)] [(.int 3), (.int 1)]))
    refine own_icmp S8 38 d6_16 (by decide) (by decide) (fun (hc16_9 : ¬ ((1 : Int32) < (3 : Int32))) => False.elim (absurd hc16_9 (by decide))) (fun (hc16_9 : (1 : Int32) < (3 : Int32)) => ?_)
    show own_F _ p e below _ Z _ _ _ _ _ (T8.setTop (mkF m 19 #[.val (.ref a1), .val (.int 1)] []))
    refine own_F.of (fun _ => XS.aloadN S8.here S8.hx rfl (S8.dec d6_19) rfl rfl) ?_
    refine own_F.of (fun _ => XS.iloadN S8.here S8.hx rfl (S8.dec d6_20) rfl) ?_
    show own_F _ p e below _ Z _ _ _ _ _ (T8.setTop (mkF m 21 #[.val (.ref a1), .val (.int 1)] [(.int 1), (.ref a1)]))
    refine own_callV S8 (y := (⟨"java/lang/String", "charAt", "(I)C"⟩ : MethodName)) (y' := (⟨"java/lang/String", "charAt", "(I)C"⟩ : MethodName)) (own_w hw 63 rfl) (own_w hw 64 rfl) (own_nf S8 (own_w hw 66 rfl)) (own_w hw 66 rfl) (own_w hw 65 rfl) (own_w hw 67 rfl) (own_w hw 10 rfl) (by decide) E_a1 (argsL := [(.int (1 : Int32))]) (rest := []) (own_catU l Z a0 hw a1 aB [(.int (own_lo x1)), (.int (own_hi x1)), (.int (own_lo x2)), (.int (own_hi x2)), (.int (own_lo x3)), (.int (own_hi x3))] (3 : Int32) (1 : Int32) (2 : Int32) (3 : Int32) x2 zc vF h0 S8.old SZ hz S_as S_hi S_lo hvF SF (by show (6 : Nat).toInt32 >>> ((1 : Int32) &&& 31) = (3 : Int32); decide) (by decide) (by decide) (by decide) (by decide) (by decide) (by decide) rfl rfl cx2 E_a1 F_v F_c AB) all0 (by decide +kernel : parseMethodDescriptor "(I)C" = some ⟨[.int], some .char⟩) rfl rfl rfl d6_21 (by decide) (Nat.le_of_ble_eq_true rfl) (by decide) (by decide) (fun T10 h10 v10 S10 K10 q10 => ?_)
    obtain ⟨rfl, rfl⟩ := q10
    show own_F _ p e below _ Z _ _ _ _ _ (T10.setTop (mkF m 24 #[.val (.ref a1), .val (.int 1)] [(.int x2)]))
    refine own_callS S10 (y := (⟨"com/example/libidem/libidem/protocol/Token", "isTchar", "(C)Z"⟩ : MethodName)) (own_w hw 85 rfl) (own_w hw 86 rfl) (own_w hw 32 rfl) (own_w hw 87 rfl) (by decide) (argsL := [(.int x2)]) (rest := []) (own_isTchar l Z a0 hw x2 aT h0 S10.old ST AT cx2.1) all0 (by decide +kernel : parseMethodDescriptor "(C)Z" = some ⟨[.char], some .boolean⟩) rfl rfl rfl d6_24 (by decide) (Nat.le_of_ble_eq_true rfl) (by decide) (by decide) (fun T11 h11 v11 S11 K11 q11 => ?_)
    obtain ⟨rfl, rfl⟩ := q11
    show own_F _ p e below _ Z _ _ _ _ _ (T11.setTop (mkF m 27 #[.val (.ref a1), .val (.int 1)] [(.int (own_tc x2))]))
    refine own_if S11 32 d6_27 (by decide) (by decide) (fun (hc27_12 : ¬ ((own_tc x2) = (0 : Int32))) => ?_) (fun (hc27_12 : (own_tc x2) = (0 : Int32)) => ?_)
    · show own_F _ p e below _ Z _ _ _ _ _ (T11.setTop (mkF m 32 #[.val (.ref a1), .val (.int 1)] []))
      refine own_F.of (fun _ => XS.iinc S11.here S11.hx rfl (S11.dec d6_32) rfl (l' := #[.val (.ref a1), .val (.int 2)]) rfl) ?_
      show own_F _ p e below _ Z _ _ _ _ _ (T11.setTop (mkF m 35 #[.val (.ref a1), .val (.int 2)] []))
      refine own_F.of (fun _ => XS.goto S11.here S11.hx rfl (pc0 := 35) (pc' := 11) rfl (S11.dec d6_35) (by decide) (by decide)) ?_
      show own_F _ p e below _ Z _ _ _ _ _ (T11.setTop (mkF m 11 #[.val (.ref a1), .val (.int 2)] []))
      refine own_F.of (fun _ => XS.iloadN S11.here S11.hx rfl (S11.dec d6_11) rfl) ?_
      refine own_F.of (fun _ => XS.aloadN S11.here S11.hx rfl (S11.dec d6_12) rfl rfl) ?_
      show own_F _ p e below _ Z _ _ _ _ _ (T11.setTop (mkF m 13 #[.val (.ref a1), .val (.int 2)] [(.ref a1), (.int 2)]))
      refine own_callV S11 (y := (⟨"java/lang/String", "length", "()I"⟩ : MethodName)) (y' := (⟨"java/lang/String", "length", "()I"⟩ : MethodName)) (own_w hw 53 rfl) (own_w hw 54 rfl) (own_nf S11 (own_w hw 56 rfl)) (own_w hw 56 rfl) (own_w hw 55 rfl) (own_w hw 57 rfl) (own_w hw 10 rfl) (by decide) E_a1 (argsL := []) (rest := [(.int (2 : Int32))]) (own_lngU l Z a0 hw a1 aB [(.int (own_lo x1)), (.int (own_hi x1)), (.int (own_lo x2)), (.int (own_hi x2)), (.int (own_lo x3)), (.int (own_hi x3))] (3 : Int32) zc h0 S11.old SZ hz (by show (6 : Nat).toInt32 >>> ((1 : Int32) &&& 31) = (3 : Int32); decide) E_a1 F_v F_c AB) all0 (by decide +kernel : parseMethodDescriptor "()I" = some ⟨[], some .int⟩) rfl rfl rfl d6_13 (by decide) (Nat.le_of_ble_eq_true rfl) (by decide) (by decide) (fun T13 h13 v13 S13 K13 q13 => ?_)
      obtain ⟨rfl, rfl⟩ := q13
      show own_F _ p e below _ Z _ _ _ _ _ (T13.setTop (mkF m 16 #[.val (.ref a1), .val (.int 2)] [(.int 3), (.int 2)]))
      refine own_icmp S13 38 d6_16 (by decide) (by decide) (fun (hc16_14 : ¬ ((2 : Int32) < (3 : Int32))) => False.elim (absurd hc16_14 (by decide))) (fun (hc16_14 : (2 : Int32) < (3 : Int32)) => ?_)
      show own_F _ p e below _ Z _ _ _ _ _ (T13.setTop (mkF m 19 #[.val (.ref a1), .val (.int 2)] []))
      refine own_F.of (fun _ => XS.aloadN S13.here S13.hx rfl (S13.dec d6_19) rfl rfl) ?_
      refine own_F.of (fun _ => XS.iloadN S13.here S13.hx rfl (S13.dec d6_20) rfl) ?_
      show own_F _ p e below _ Z _ _ _ _ _ (T13.setTop (mkF m 21 #[.val (.ref a1), .val (.int 2)] [(.int 2), (.ref a1)]))
      refine own_callV S13 (y := (⟨"java/lang/String", "charAt", "(I)C"⟩ : MethodName)) (y' := (⟨"java/lang/String", "charAt", "(I)C"⟩ : MethodName)) (own_w hw 63 rfl) (own_w hw 64 rfl) (own_nf S13 (own_w hw 66 rfl)) (own_w hw 66 rfl) (own_w hw 65 rfl) (own_w hw 67 rfl) (own_w hw 10 rfl) (by decide) E_a1 (argsL := [(.int (2 : Int32))]) (rest := []) (own_catU l Z a0 hw a1 aB [(.int (own_lo x1)), (.int (own_hi x1)), (.int (own_lo x2)), (.int (own_hi x2)), (.int (own_lo x3)), (.int (own_hi x3))] (3 : Int32) (2 : Int32) (4 : Int32) (5 : Int32) x3 zc vF h0 S13.old SZ hz S_as S_hi S_lo hvF SF (by show (6 : Nat).toInt32 >>> ((1 : Int32) &&& 31) = (3 : Int32); decide) (by decide) (by decide) (by decide) (by decide) (by decide) (by decide) rfl rfl cx3 E_a1 F_v F_c AB) all0 (by decide +kernel : parseMethodDescriptor "(I)C" = some ⟨[.int], some .char⟩) rfl rfl rfl d6_21 (by decide) (Nat.le_of_ble_eq_true rfl) (by decide) (by decide) (fun T15 h15 v15 S15 K15 q15 => ?_)
      obtain ⟨rfl, rfl⟩ := q15
      show own_F _ p e below _ Z _ _ _ _ _ (T15.setTop (mkF m 24 #[.val (.ref a1), .val (.int 2)] [(.int x3)]))
      refine own_callS S15 (y := (⟨"com/example/libidem/libidem/protocol/Token", "isTchar", "(C)Z"⟩ : MethodName)) (own_w hw 85 rfl) (own_w hw 86 rfl) (own_w hw 32 rfl) (own_w hw 87 rfl) (by decide) (argsL := [(.int x3)]) (rest := []) (own_isTchar l Z a0 hw x3 aT h0 S15.old ST AT cx3.1) all0 (by decide +kernel : parseMethodDescriptor "(C)Z" = some ⟨[.char], some .boolean⟩) rfl rfl rfl d6_24 (by decide) (Nat.le_of_ble_eq_true rfl) (by decide) (by decide) (fun T16 h16 v16 S16 K16 q16 => ?_)
      obtain ⟨rfl, rfl⟩ := q16
      show own_F _ p e below _ Z _ _ _ _ _ (T16.setTop (mkF m 27 #[.val (.ref a1), .val (.int 2)] [(.int (own_tc x3))]))
      refine own_if S16 32 d6_27 (by decide) (by decide) (fun (hc27_17 : ¬ ((own_tc x3) = (0 : Int32))) => ?_) (fun (hc27_17 : (own_tc x3) = (0 : Int32)) => ?_)
      · show own_F _ p e below _ Z _ _ _ _ _ (T16.setTop (mkF m 32 #[.val (.ref a1), .val (.int 2)] []))
        refine own_F.of (fun _ => XS.iinc S16.here S16.hx rfl (S16.dec d6_32) rfl (l' := #[.val (.ref a1), .val (.int 3)]) rfl) ?_
        show own_F _ p e below _ Z _ _ _ _ _ (T16.setTop (mkF m 35 #[.val (.ref a1), .val (.int 3)] []))
        refine own_F.of (fun _ => XS.goto S16.here S16.hx rfl (pc0 := 35) (pc' := 11) rfl (S16.dec d6_35) (by decide) (by decide)) ?_
        show own_F _ p e below _ Z _ _ _ _ _ (T16.setTop (mkF m 11 #[.val (.ref a1), .val (.int 3)] []))
        refine own_F.of (fun _ => XS.iloadN S16.here S16.hx rfl (S16.dec d6_11) rfl) ?_
        refine own_F.of (fun _ => XS.aloadN S16.here S16.hx rfl (S16.dec d6_12) rfl rfl) ?_
        show own_F _ p e below _ Z _ _ _ _ _ (T16.setTop (mkF m 13 #[.val (.ref a1), .val (.int 3)] [(.ref a1), (.int 3)]))
        refine own_callV S16 (y := (⟨"java/lang/String", "length", "()I"⟩ : MethodName)) (y' := (⟨"java/lang/String", "length", "()I"⟩ : MethodName)) (own_w hw 53 rfl) (own_w hw 54 rfl) (own_nf S16 (own_w hw 56 rfl)) (own_w hw 56 rfl) (own_w hw 55 rfl) (own_w hw 57 rfl) (own_w hw 10 rfl) (by decide) E_a1 (argsL := []) (rest := [(.int (3 : Int32))]) (own_lngU l Z a0 hw a1 aB [(.int (own_lo x1)), (.int (own_hi x1)), (.int (own_lo x2)), (.int (own_hi x2)), (.int (own_lo x3)), (.int (own_hi x3))] (3 : Int32) zc h0 S16.old SZ hz (by show (6 : Nat).toInt32 >>> ((1 : Int32) &&& 31) = (3 : Int32); decide) E_a1 F_v F_c AB) all0 (by decide +kernel : parseMethodDescriptor "()I" = some ⟨[], some .int⟩) rfl rfl rfl d6_13 (by decide) (Nat.le_of_ble_eq_true rfl) (by decide) (by decide) (fun T18 h18 v18 S18 K18 q18 => ?_)
        obtain ⟨rfl, rfl⟩ := q18
        show own_F _ p e below _ Z _ _ _ _ _ (T18.setTop (mkF m 16 #[.val (.ref a1), .val (.int 3)] [(.int 3), (.int 3)]))
        refine own_icmp S18 38 d6_16 (by decide) (by decide) (fun (hc16_19 : ¬ ((3 : Int32) < (3 : Int32))) => ?_) (fun (hc16_19 : (3 : Int32) < (3 : Int32)) => False.elim (absurd hc16_19 (by decide)))
        show own_F _ p e below _ Z _ _ _ _ _ (T18.setTop (mkF m 38 #[.val (.ref a1), .val (.int 3)] []))
        refine own_F.of (fun _ => XS.iconst S18.here S18.hx rfl (S18.dec d6_38)) ?_
        show own_F _ p e below _ Z _ _ _ _ _ (T18.setTop (mkF m 39 #[.val (.ref a1), .val (.int 3)] [(.int 1)]))
        refine own_retZ S18 (by simp) d6_39 (by decide) (by decide) ?_
        have hh : own_al [x1, x2, x3] = (1 : Int32) := by simp [own_al, hc27_7, hc27_12, hc27_17]
        rw [hh]; exact ⟨rfl, rfl⟩
      · show own_F _ p e below _ Z _ _ _ _ _ (T16.setTop (mkF m 30 #[.val (.ref a1), .val (.int 2)] []))
        refine own_F.of (fun _ => XS.iconst S16.here S16.hx rfl (S16.dec d6_30)) ?_
        show own_F _ p e below _ Z _ _ _ _ _ (T16.setTop (mkF m 31 #[.val (.ref a1), .val (.int 2)] [(.int 0)]))
        refine own_retZ S16 (by simp) d6_31 (by decide) (by decide) ?_
        have hh : own_al [x1, x2, x3] = (0 : Int32) := by simp [own_al, hc27_7, hc27_12, hc27_17]
        rw [hh]; exact ⟨rfl, rfl⟩
    · show own_F _ p e below _ Z _ _ _ _ _ (T11.setTop (mkF m 30 #[.val (.ref a1), .val (.int 1)] []))
      refine own_F.of (fun _ => XS.iconst S11.here S11.hx rfl (S11.dec d6_30)) ?_
      show own_F _ p e below _ Z _ _ _ _ _ (T11.setTop (mkF m 31 #[.val (.ref a1), .val (.int 1)] [(.int 0)]))
      refine own_retZ S11 (by simp) d6_31 (by decide) (by decide) ?_
      have hh : own_al [x1, x2, x3] = (0 : Int32) := by simp [own_al, hc27_7, hc27_12]
      rw [hh]; exact ⟨rfl, rfl⟩
  · show own_F _ p e below _ Z _ _ _ _ _ (T6.setTop (mkF m 30 #[.val (.ref a1), .val (.int 0)] []))
    refine own_F.of (fun _ => XS.iconst S6.here S6.hx rfl (S6.dec d6_30)) ?_
    show own_F _ p e below _ Z _ _ _ _ _ (T6.setTop (mkF m 31 #[.val (.ref a1), .val (.int 0)] [(.int 0)]))
    refine own_retZ S6 (by simp) d6_31 (by decide) (by decide) ?_
    have hh : own_al [x1, x2, x3] = (0 : Int32) := by simp [own_al, hc27_7]
    rw [hh]; exact ⟨rfl, rfl⟩
set_option maxRecDepth 65536 in
set_option maxHeartbeats 40000000 in
theorem own_val3 (l : Launch) (Z : State) (a0 : Array Value) (hw : ∀ d ∈ tables_1, d.before a0 Z = true) (a1 : Addr) (x1 x2 x3 : Int32) (zc : Int32) (vF : Value) (aT : Addr) (h0 : Heap) (hO : Ext Z.heap h0) (SZ : Sta Z Z.heap "java/lang/String" "COMPACT_STRINGS" "Z" (.int zc)) (hz : ¬ zc = 0) (S_as : Sta Z Z.heap "java/lang/StringUTF16" "$assertionsDisabled" "Z" (.int 1)) (S_hi : Sta Z Z.heap "java/lang/StringUTF16" "HI_BYTE_SHIFT" "I" (.int 0)) (S_lo : Sta Z Z.heap "java/lang/StringUTF16" "LO_BYTE_SHIFT" "I" (.int 8)) (hvF : vF.isRef = true) (SF : Sta Z Z.heap "jdk/internal/util/Preconditions" "SIOOBE_FORMATTER" "Ljava/util/function/BiFunction;" vF) (ST : Sta Z Z.heap "com/example/libidem/libidem/protocol/Token" "TCHAR" "[Z" (.ref aT)) (AT : own_A Z Z.heap aT .boolean own_tab) (cx1 : own_isC x1) (cx2 : own_isC x2) (cx3 : own_isC x3) (E_a1 : Exa Z h0 a1 "java/lang/String") (SX : ∃ d, Fld Z h0 a1 "java/lang/String" "value" "[B" (.ref d) ∧ (((Fld Z h0 a1 "java/lang/String" "coder" "B" (.int 0) ∧ own_A Z h0 d .byte [(.int (nar .byte (x1.toInt8.toInt32))), (.int (nar .byte (x2.toInt8.toInt32))), (.int (nar .byte (x3.toInt8.toInt32)))]) ∧ ¬ 255 < x1 ∧ ¬ 255 < x2 ∧ ¬ 255 < x3) ∨ (Fld Z h0 a1 "java/lang/String" "coder" "B" (.int 1) ∧ own_A Z h0 d .byte [(.int (own_lo x1)), (.int (own_hi x1)), (.int (own_lo x2)), (.int (own_hi x2)), (.int (own_lo x3)), (.int (own_hi x3))]))) :
    own_C l Z (⟨"com/example/libidem/libidem/protocol/Token", "isValid", "(Ljava/lang/String;)Z"⟩ : MethodName) prog_16_method_2_code 2 (some .boolean) [] ({ frames := 5, cells := 0, slots := 0, locals := 66 } : Room) [] #[(.ref a1)] h0 (fun v h => v = some (.int (own_al [x1, x2, x3])) ∧ h0 = h) := by
  obtain ⟨aB, Fv, ⟨⟨Fc, A⟩, q1, q2, q3⟩ | ⟨Fc, A⟩⟩ := SX
  · exact own_valL3 l Z a0 hw a1 aB x1 x2 x3 zc vF aT h0 hO SZ hz S_as S_hi S_lo hvF SF ST AT cx1 cx2 cx3 q1 q2 q3 E_a1 Fv Fc A
  · exact own_valU3 l Z a0 hw a1 aB x1 x2 x3 zc vF aT h0 hO SZ hz S_as S_hi S_lo hvF SF ST AT cx1 cx2 cx3 E_a1 Fv Fc A
set_option maxRecDepth 65536 in
set_option maxHeartbeats 40000000 in
theorem own_valL4 (l : Launch) (Z : State) (a0 : Array Value) (hw : ∀ d ∈ tables_1, d.before a0 Z = true) (a1 aB : Addr) (x1 x2 x3 x4 : Int32) (zc : Int32) (vF : Value) (aT : Addr) (h0 : Heap) (hO : Ext Z.heap h0) (SZ : Sta Z Z.heap "java/lang/String" "COMPACT_STRINGS" "Z" (.int zc)) (hz : ¬ zc = 0) (S_as : Sta Z Z.heap "java/lang/StringUTF16" "$assertionsDisabled" "Z" (.int 1)) (S_hi : Sta Z Z.heap "java/lang/StringUTF16" "HI_BYTE_SHIFT" "I" (.int 0)) (S_lo : Sta Z Z.heap "java/lang/StringUTF16" "LO_BYTE_SHIFT" "I" (.int 8)) (hvF : vF.isRef = true) (SF : Sta Z Z.heap "jdk/internal/util/Preconditions" "SIOOBE_FORMATTER" "Ljava/util/function/BiFunction;" vF) (ST : Sta Z Z.heap "com/example/libidem/libidem/protocol/Token" "TCHAR" "[Z" (.ref aT)) (AT : own_A Z Z.heap aT .boolean own_tab) (cx1 : own_isC x1) (cx2 : own_isC x2) (cx3 : own_isC x3) (cx4 : own_isC x4) (hp1 : ¬ 255 < x1) (hp2 : ¬ 255 < x2) (hp3 : ¬ 255 < x3) (hp4 : ¬ 255 < x4) (E_a1 : Exa Z h0 a1 "java/lang/String") (F_v : Fld Z h0 a1 "java/lang/String" "value" "[B" (.ref aB)) (F_c : Fld Z h0 a1 "java/lang/String" "coder" "B" (.int 0)) (AB : own_A Z h0 aB .byte [(.int (nar .byte (x1.toInt8.toInt32))), (.int (nar .byte (x2.toInt8.toInt32))), (.int (nar .byte (x3.toInt8.toInt32))), (.int (nar .byte (x4.toInt8.toInt32)))]) :
    own_C l Z (⟨"com/example/libidem/libidem/protocol/Token", "isValid", "(Ljava/lang/String;)Z"⟩ : MethodName) prog_16_method_2_code 2 (some .boolean) [] ({ frames := 5, cells := 0, slots := 0, locals := 66 } : Room) [] #[(.ref a1)] h0 (fun v h => v = some (.int (own_al [x1, x2, x3, x4])) ∧ h0 = h) := by
  refine own_C.of pn6 hO all0 ?_
  intro p e s m below meth c T0 S0
  refine own_F.cast (by first | (simp [entryFrame, mkF, argsToLocals, Value.category]; done) | rfl : entryFrame m #[(.ref a1)] 2 = mkF m 0 #[.val (.ref a1), .unset] []) ?_
  show own_F _ p e below _ Z _ _ _ _ _ (T0.setTop (mkF m 0 #[.val (.ref a1), .unset] []))
  refine own_F.of (fun _ => XS.aloadN S0.here S0.hx rfl (S0.dec d6_0) rfl rfl) ?_
  show own_F _ p e below _ Z _ _ _ _ _ (T0.setTop (mkF m 1 #[.val (.ref a1), .unset] [(.ref a1)]))
  refine own_callV S0 (y := (⟨"java/lang/String", "isEmpty", "()Z"⟩ : MethodName)) (y' := (⟨"java/lang/String", "isEmpty", "()Z"⟩ : MethodName)) (own_w hw 34 rfl) (own_w hw 35 rfl) (own_nf S0 (own_w hw 37 rfl)) (own_w hw 37 rfl) (own_w hw 36 rfl) (own_w hw 38 rfl) (own_w hw 10 rfl) (by decide) E_a1 (argsL := []) (rest := []) (own_empN l Z a0 hw a1 aB [(.int (nar .byte (x1.toInt8.toInt32))), (.int (nar .byte (x2.toInt8.toInt32))), (.int (nar .byte (x3.toInt8.toInt32))), (.int (nar .byte (x4.toInt8.toInt32)))] h0 S0.old (by show ¬ (4 : Nat).toInt32 = 0; decide) E_a1 F_v AB) all0 (by decide +kernel : parseMethodDescriptor "()Z" = some ⟨[], some .boolean⟩) rfl rfl rfl d6_1 (by decide) (Nat.le_of_ble_eq_true rfl) (by decide) (by decide) (fun T1 h1 v1 S1 K1 q1 => ?_)
  obtain ⟨rfl, rfl⟩ := q1
  show own_F _ p e below _ Z _ _ _ _ _ (T1.setTop (mkF m 4 #[.val (.ref a1), .unset] [(.int 0)]))
  refine own_if S1 9 d6_4 (by decide) (by decide) (fun (hc4_2 : (0 : Int32) = (0 : Int32)) => ?_) (fun (hc4_2 : ¬ ((0 : Int32) = (0 : Int32))) => False.elim (absurd hc4_2 (by decide)))
  show own_F _ p e below _ Z _ _ _ _ _ (T1.setTop (mkF m 9 #[.val (.ref a1), .unset] []))
  refine own_F.of (fun _ => XS.iconst S1.here S1.hx rfl (S1.dec d6_9)) ?_
  show own_F _ p e below _ Z _ _ _ _ _ (T1.setTop (mkF m 10 #[.val (.ref a1), .unset] [(.int 0)]))
  refine own_F.of (fun _ => XS.istoreN S1.here S1.hx rfl (S1.dec d6_10) rfl (l' := #[.val (.ref a1), .val (.int 0)]) rfl) ?_
  refine own_F.of (fun _ => XS.iloadN S1.here S1.hx rfl (S1.dec d6_11) rfl) ?_
  refine own_F.of (fun _ => XS.aloadN S1.here S1.hx rfl (S1.dec d6_12) rfl rfl) ?_
  show own_F _ p e below _ Z _ _ _ _ _ (T1.setTop (mkF m 13 #[.val (.ref a1), .val (.int 0)] [(.ref a1), (.int 0)]))
  refine own_callV S1 (y := (⟨"java/lang/String", "length", "()I"⟩ : MethodName)) (y' := (⟨"java/lang/String", "length", "()I"⟩ : MethodName)) (own_w hw 53 rfl) (own_w hw 54 rfl) (own_nf S1 (own_w hw 56 rfl)) (own_w hw 56 rfl) (own_w hw 55 rfl) (own_w hw 57 rfl) (own_w hw 10 rfl) (by decide) E_a1 (argsL := []) (rest := [(.int (0 : Int32))]) (own_lngL l Z a0 hw a1 aB [(.int (nar .byte (x1.toInt8.toInt32))), (.int (nar .byte (x2.toInt8.toInt32))), (.int (nar .byte (x3.toInt8.toInt32))), (.int (nar .byte (x4.toInt8.toInt32)))] (4 : Int32) zc h0 S1.old SZ hz (by show (4 : Nat).toInt32 >>> ((0 : Int32) &&& 31) = (4 : Int32); decide) E_a1 F_v F_c AB) all0 (by decide +kernel : parseMethodDescriptor "()I" = some ⟨[], some .int⟩) rfl rfl rfl d6_13 (by decide) (Nat.le_of_ble_eq_true rfl) (by decide) (by decide) (fun T3 h3 v3 S3 K3 q3 => ?_)
  obtain ⟨rfl, rfl⟩ := q3
  show own_F _ p e below _ Z _ _ _ _ _ (T3.setTop (mkF m 16 #[.val (.ref a1), .val (.int 0)] [(.int 4), (.int 0)]))
  refine own_icmp S3 38 d6_16 (by decide) (by decide) (fun (hc16_4 : ¬ ((0 : Int32) < (4 : Int32))) => False.elim (absurd hc16_4 (by decide))) (fun (hc16_4 : (0 : Int32) < (4 : Int32)) => ?_)
  show own_F _ p e below _ Z _ _ _ _ _ (T3.setTop (mkF m 19 #[.val (.ref a1), .val (.int 0)] []))
  refine own_F.of (fun _ => XS.aloadN S3.here S3.hx rfl (S3.dec d6_19) rfl rfl) ?_
  refine own_F.of (fun _ => XS.iloadN S3.here S3.hx rfl (S3.dec d6_20) rfl) ?_
  show own_F _ p e below _ Z _ _ _ _ _ (T3.setTop (mkF m 21 #[.val (.ref a1), .val (.int 0)] [(.int 0), (.ref a1)]))
  refine own_callV S3 (y := (⟨"java/lang/String", "charAt", "(I)C"⟩ : MethodName)) (y' := (⟨"java/lang/String", "charAt", "(I)C"⟩ : MethodName)) (own_w hw 63 rfl) (own_w hw 64 rfl) (own_nf S3 (own_w hw 66 rfl)) (own_w hw 66 rfl) (own_w hw 65 rfl) (own_w hw 67 rfl) (own_w hw 10 rfl) (by decide) E_a1 (argsL := [(.int (0 : Int32))]) (rest := []) (own_catL l Z a0 hw a1 aB [(.int (nar .byte (x1.toInt8.toInt32))), (.int (nar .byte (x2.toInt8.toInt32))), (.int (nar .byte (x3.toInt8.toInt32))), (.int (nar .byte (x4.toInt8.toInt32)))] (4 : Int32) (0 : Int32) x1 zc vF h0 S3.old SZ hz S_as S_hi S_lo hvF SF rfl (by decide) (by decide) rfl cx1 hp1 E_a1 F_v F_c AB) all0 (by decide +kernel : parseMethodDescriptor "(I)C" = some ⟨[.int], some .char⟩) rfl rfl rfl d6_21 (by decide) (Nat.le_of_ble_eq_true rfl) (by decide) (by decide) (fun T5 h5 v5 S5 K5 q5 => ?_)
  obtain ⟨rfl, rfl⟩ := q5
  show own_F _ p e below _ Z _ _ _ _ _ (T5.setTop (mkF m 24 #[.val (.ref a1), .val (.int 0)] [(.int x1)]))
  refine own_callS S5 (y := (⟨"com/example/libidem/libidem/protocol/Token", "isTchar", "(C)Z"⟩ : MethodName)) (own_w hw 85 rfl) (own_w hw 86 rfl) (own_w hw 32 rfl) (own_w hw 87 rfl) (by decide) (argsL := [(.int x1)]) (rest := []) (own_isTchar l Z a0 hw x1 aT h0 S5.old ST AT cx1.1) all0 (by decide +kernel : parseMethodDescriptor "(C)Z" = some ⟨[.char], some .boolean⟩) rfl rfl rfl d6_24 (by decide) (Nat.le_of_ble_eq_true rfl) (by decide) (by decide) (fun T6 h6 v6 S6 K6 q6 => ?_)
  obtain ⟨rfl, rfl⟩ := q6
  show own_F _ p e below _ Z _ _ _ _ _ (T6.setTop (mkF m 27 #[.val (.ref a1), .val (.int 0)] [(.int (own_tc x1))]))
  refine own_if S6 32 d6_27 (by decide) (by decide) (fun (hc27_7 : ¬ ((own_tc x1) = (0 : Int32))) => ?_) (fun (hc27_7 : (own_tc x1) = (0 : Int32)) => ?_)
  · show own_F _ p e below _ Z _ _ _ _ _ (T6.setTop (mkF m 32 #[.val (.ref a1), .val (.int 0)] []))
    refine own_F.of (fun _ => XS.iinc S6.here S6.hx rfl (S6.dec d6_32) rfl (l' := #[.val (.ref a1), .val (.int 1)]) rfl) ?_
    show own_F _ p e below _ Z _ _ _ _ _ (T6.setTop (mkF m 35 #[.val (.ref a1), .val (.int 1)] []))
    refine own_F.of (fun _ => XS.goto S6.here S6.hx rfl (pc0 := 35) (pc' := 11) rfl (S6.dec d6_35) (by decide) (by decide)) ?_
    show own_F _ p e below _ Z _ _ _ _ _ (T6.setTop (mkF m 11 #[.val (.ref a1), .val (.int 1)] []))
    refine own_F.of (fun _ => XS.iloadN S6.here S6.hx rfl (S6.dec d6_11) rfl) ?_
    refine own_F.of (fun _ => XS.aloadN S6.here S6.hx rfl (S6.dec d6_12) rfl rfl) ?_
    show own_F _ p e below _ Z _ _ _ _ _ (T6.setTop (mkF m 13 #[.val (.ref a1), .val (.int 1)] [(.ref a1), (.int 1)]))
    refine own_callV S6 (y := (⟨"java/lang/String", "length", "()I"⟩ : MethodName)) (y' := (⟨"java/lang/String", "length", "()I"⟩ : MethodName)) (own_w hw 53 rfl) (own_w hw 54 rfl) (own_nf S6 (own_w hw 56 rfl)) (own_w hw 56 rfl) (own_w hw 55 rfl) (own_w hw 57 rfl) (own_w hw 10 rfl) (by decide) E_a1 (argsL := []) (rest := [(.int (1 : Int32))]) (own_lngL l Z a0 hw a1 aB [(.int (nar .byte (x1.toInt8.toInt32))), (.int (nar .byte (x2.toInt8.toInt32))), (.int (nar .byte (x3.toInt8.toInt32))), (.int (nar .byte (x4.toInt8.toInt32)))] (4 : Int32) zc h0 S6.old SZ hz (by show (4 : Nat).toInt32 >>> ((0 : Int32) &&& 31) = (4 : Int32); decide) E_a1 F_v F_c AB) all0 (by decide +kernel : parseMethodDescriptor "()I" = some ⟨[], some .int⟩) rfl rfl rfl d6_13 (by decide) (Nat.le_of_ble_eq_true rfl) (by decide) (by decide) (fun T8 h8 v8 S8 K8 q8 => ?_)
    obtain ⟨rfl, rfl⟩ := q8
    show own_F _ p e below _ Z _ _ _ _ _ (T8.setTop (mkF m 16 #[.val (.ref a1), .val (.int 1)] [(.int 4), (.int 1)]))
    refine own_icmp S8 38 d6_16 (by decide) (by decide) (fun (hc16_9 : ¬ ((1 : Int32) < (4 : Int32))) => False.elim (absurd hc16_9 (by decide))) (fun (hc16_9 : (1 : Int32) < (4 : Int32)) => ?_)
    show own_F _ p e below _ Z _ _ _ _ _ (T8.setTop (mkF m 19 #[.val (.ref a1), .val (.int 1)] []))
    refine own_F.of (fun _ => XS.aloadN S8.here S8.hx rfl (S8.dec d6_19) rfl rfl) ?_
    refine own_F.of (fun _ => XS.iloadN S8.here S8.hx rfl (S8.dec d6_20) rfl) ?_
    show own_F _ p e below _ Z _ _ _ _ _ (T8.setTop (mkF m 21 #[.val (.ref a1), .val (.int 1)] [(.int 1), (.ref a1)]))
    refine own_callV S8 (y := (⟨"java/lang/String", "charAt", "(I)C"⟩ : MethodName)) (y' := (⟨"java/lang/String", "charAt", "(I)C"⟩ : MethodName)) (own_w hw 63 rfl) (own_w hw 64 rfl) (own_nf S8 (own_w hw 66 rfl)) (own_w hw 66 rfl) (own_w hw 65 rfl) (own_w hw 67 rfl) (own_w hw 10 rfl) (by decide) E_a1 (argsL := [(.int (1 : Int32))]) (rest := []) (own_catL l Z a0 hw a1 aB [(.int (nar .byte (x1.toInt8.toInt32))), (.int (nar .byte (x2.toInt8.toInt32))), (.int (nar .byte (x3.toInt8.toInt32))), (.int (nar .byte (x4.toInt8.toInt32)))] (4 : Int32) (1 : Int32) x2 zc vF h0 S8.old SZ hz S_as S_hi S_lo hvF SF rfl (by decide) (by decide) rfl cx2 hp2 E_a1 F_v F_c AB) all0 (by decide +kernel : parseMethodDescriptor "(I)C" = some ⟨[.int], some .char⟩) rfl rfl rfl d6_21 (by decide) (Nat.le_of_ble_eq_true rfl) (by decide) (by decide) (fun T10 h10 v10 S10 K10 q10 => ?_)
    obtain ⟨rfl, rfl⟩ := q10
    show own_F _ p e below _ Z _ _ _ _ _ (T10.setTop (mkF m 24 #[.val (.ref a1), .val (.int 1)] [(.int x2)]))
    refine own_callS S10 (y := (⟨"com/example/libidem/libidem/protocol/Token", "isTchar", "(C)Z"⟩ : MethodName)) (own_w hw 85 rfl) (own_w hw 86 rfl) (own_w hw 32 rfl) (own_w hw 87 rfl) (by decide) (argsL := [(.int x2)]) (rest := []) (own_isTchar l Z a0 hw x2 aT h0 S10.old ST AT cx2.1) all0 (by decide +kernel : parseMethodDescriptor "(C)Z" = some ⟨[.char], some .boolean⟩) rfl rfl rfl d6_24 (by decide) (Nat.le_of_ble_eq_true rfl) (by decide) (by decide) (fun T11 h11 v11 S11 K11 q11 => ?_)
    obtain ⟨rfl, rfl⟩ := q11
    show own_F _ p e below _ Z _ _ _ _ _ (T11.setTop (mkF m 27 #[.val (.ref a1), .val (.int 1)] [(.int (own_tc x2))]))
    refine own_if S11 32 d6_27 (by decide) (by decide) (fun (hc27_12 : ¬ ((own_tc x2) = (0 : Int32))) => ?_) (fun (hc27_12 : (own_tc x2) = (0 : Int32)) => ?_)
    · show own_F _ p e below _ Z _ _ _ _ _ (T11.setTop (mkF m 32 #[.val (.ref a1), .val (.int 1)] []))
      refine own_F.of (fun _ => XS.iinc S11.here S11.hx rfl (S11.dec d6_32) rfl (l' := #[.val (.ref a1), .val (.int 2)]) rfl) ?_
      show own_F _ p e below _ Z _ _ _ _ _ (T11.setTop (mkF m 35 #[.val (.ref a1), .val (.int 2)] []))
      refine own_F.of (fun _ => XS.goto S11.here S11.hx rfl (pc0 := 35) (pc' := 11) rfl (S11.dec d6_35) (by decide) (by decide)) ?_
      show own_F _ p e below _ Z _ _ _ _ _ (T11.setTop (mkF m 11 #[.val (.ref a1), .val (.int 2)] []))
      refine own_F.of (fun _ => XS.iloadN S11.here S11.hx rfl (S11.dec d6_11) rfl) ?_
      refine own_F.of (fun _ => XS.aloadN S11.here S11.hx rfl (S11.dec d6_12) rfl rfl) ?_
      show own_F _ p e below _ Z _ _ _ _ _ (T11.setTop (mkF m 13 #[.val (.ref a1), .val (.int 2)] [(.ref a1), (.int 2)]))
      refine own_callV S11 (y := (⟨"java/lang/String", "length", "()I"⟩ : MethodName)) (y' := (⟨"java/lang/String", "length", "()I"⟩ : MethodName)) (own_w hw 53 rfl) (own_w hw 54 rfl) (own_nf S11 (own_w hw 56 rfl)) (own_w hw 56 rfl) (own_w hw 55 rfl) (own_w hw 57 rfl) (own_w hw 10 rfl) (by decide) E_a1 (argsL := []) (rest := [(.int (2 : Int32))]) (own_lngL l Z a0 hw a1 aB [(.int (nar .byte (x1.toInt8.toInt32))), (.int (nar .byte (x2.toInt8.toInt32))), (.int (nar .byte (x3.toInt8.toInt32))), (.int (nar .byte (x4.toInt8.toInt32)))] (4 : Int32) zc h0 S11.old SZ hz (by show (4 : Nat).toInt32 >>> ((0 : Int32) &&& 31) = (4 : Int32); decide) E_a1 F_v F_c AB) all0 (by decide +kernel : parseMethodDescriptor "()I" = some ⟨[], some .int⟩) rfl rfl rfl d6_13 (by decide) (Nat.le_of_ble_eq_true rfl) (by decide) (by decide) (fun T13 h13 v13 S13 K13 q13 => ?_)
      obtain ⟨rfl, rfl⟩ := q13
      show own_F _ p e below _ Z _ _ _ _ _ (T13.setTop (mkF m 16 #[.val (.ref a1), .val (.int 2)] [(.int 4), (.int 2)]))
      refine own_icmp S13 38 d6_16 (by decide) (by decide) (fun (hc16_14 : ¬ ((2 : Int32) < (4 : Int32))) => False.elim (absurd hc16_14 (by decide))) (fun (hc16_14 : (2 : Int32) < (4 : Int32)) => ?_)
      show own_F _ p e below _ Z _ _ _ _ _ (T13.setTop (mkF m 19 #[.val (.ref a1), .val (.int 2)] []))
      refine own_F.of (fun _ => XS.aloadN S13.here S13.hx rfl (S13.dec d6_19) rfl rfl) ?_
      refine own_F.of (fun _ => XS.iloadN S13.here S13.hx rfl (S13.dec d6_20) rfl) ?_
      show own_F _ p e below _ Z _ _ _ _ _ (T13.setTop (mkF m 21 #[.val (.ref a1), .val (.int 2)] [(.int 2), (.ref a1)]))
      refine own_callV S13 (y := (⟨"java/lang/String", "charAt", "(I)C"⟩ : MethodName)) (y' := (⟨"java/lang/String", "charAt", "(I)C"⟩ : MethodName)) (own_w hw 63 rfl) (own_w hw 64 rfl) (own_nf S13 (own_w hw 66 rfl)) (own_w hw 66 rfl) (own_w hw 65 rfl) (own_w hw 67 rfl) (own_w hw 10 rfl) (by decide) E_a1 (argsL := [(.int (2 : Int32))]) (rest := []) (own_catL l Z a0 hw a1 aB [(.int (nar .byte (x1.toInt8.toInt32))), (.int (nar .byte (x2.toInt8.toInt32))), (.int (nar .byte (x3.toInt8.toInt32))), (.int (nar .byte (x4.toInt8.toInt32)))] (4 : Int32) (2 : Int32) x3 zc vF h0 S13.old SZ hz S_as S_hi S_lo hvF SF rfl (by decide) (by decide) rfl cx3 hp3 E_a1 F_v F_c AB) all0 (by decide +kernel : parseMethodDescriptor "(I)C" = some ⟨[.int], some .char⟩) rfl rfl rfl d6_21 (by decide) (Nat.le_of_ble_eq_true rfl) (by decide) (by decide) (fun T15 h15 v15 S15 K15 q15 => ?_)
      obtain ⟨rfl, rfl⟩ := q15
      show own_F _ p e below _ Z _ _ _ _ _ (T15.setTop (mkF m 24 #[.val (.ref a1), .val (.int 2)] [(.int x3)]))
      refine own_callS S15 (y := (⟨"com/example/libidem/libidem/protocol/Token", "isTchar", "(C)Z"⟩ : MethodName)) (own_w hw 85 rfl) (own_w hw 86 rfl) (own_w hw 32 rfl) (own_w hw 87 rfl) (by decide) (argsL := [(.int x3)]) (rest := []) (own_isTchar l Z a0 hw x3 aT h0 S15.old ST AT cx3.1) all0 (by decide +kernel : parseMethodDescriptor "(C)Z" = some ⟨[.char], some .boolean⟩) rfl rfl rfl d6_24 (by decide) (Nat.le_of_ble_eq_true rfl) (by decide) (by decide) (fun T16 h16 v16 S16 K16 q16 => ?_)
      obtain ⟨rfl, rfl⟩ := q16
      show own_F _ p e below _ Z _ _ _ _ _ (T16.setTop (mkF m 27 #[.val (.ref a1), .val (.int 2)] [(.int (own_tc x3))]))
      refine own_if S16 32 d6_27 (by decide) (by decide) (fun (hc27_17 : ¬ ((own_tc x3) = (0 : Int32))) => ?_) (fun (hc27_17 : (own_tc x3) = (0 : Int32)) => ?_)
      · show own_F _ p e below _ Z _ _ _ _ _ (T16.setTop (mkF m 32 #[.val (.ref a1), .val (.int 2)] []))
        refine own_F.of (fun _ => XS.iinc S16.here S16.hx rfl (S16.dec d6_32) rfl (l' := #[.val (.ref a1), .val (.int 3)]) rfl) ?_
        show own_F _ p e below _ Z _ _ _ _ _ (T16.setTop (mkF m 35 #[.val (.ref a1), .val (.int 3)] []))
        refine own_F.of (fun _ => XS.goto S16.here S16.hx rfl (pc0 := 35) (pc' := 11) rfl (S16.dec d6_35) (by decide) (by decide)) ?_
        show own_F _ p e below _ Z _ _ _ _ _ (T16.setTop (mkF m 11 #[.val (.ref a1), .val (.int 3)] []))
        refine own_F.of (fun _ => XS.iloadN S16.here S16.hx rfl (S16.dec d6_11) rfl) ?_
        refine own_F.of (fun _ => XS.aloadN S16.here S16.hx rfl (S16.dec d6_12) rfl rfl) ?_
        show own_F _ p e below _ Z _ _ _ _ _ (T16.setTop (mkF m 13 #[.val (.ref a1), .val (.int 3)] [(.ref a1), (.int 3)]))
        refine own_callV S16 (y := (⟨"java/lang/String", "length", "()I"⟩ : MethodName)) (y' := (⟨"java/lang/String", "length", "()I"⟩ : MethodName)) (own_w hw 53 rfl) (own_w hw 54 rfl) (own_nf S16 (own_w hw 56 rfl)) (own_w hw 56 rfl) (own_w hw 55 rfl) (own_w hw 57 rfl) (own_w hw 10 rfl) (by decide) E_a1 (argsL := []) (rest := [(.int (3 : Int32))]) (own_lngL l Z a0 hw a1 aB [(.int (nar .byte (x1.toInt8.toInt32))), (.int (nar .byte (x2.toInt8.toInt32))), (.int (nar .byte (x3.toInt8.toInt32))), (.int (nar .byte (x4.toInt8.toInt32)))] (4 : Int32) zc h0 S16.old SZ hz (by show (4 : Nat).toInt32 >>> ((0 : Int32) &&& 31) = (4 : Int32); decide) E_a1 F_v F_c AB) all0 (by decide +kernel : parseMethodDescriptor "()I" = some ⟨[], some .int⟩) rfl rfl rfl d6_13 (by decide) (Nat.le_of_ble_eq_true rfl) (by decide) (by decide) (fun T18 h18 v18 S18 K18 q18 => ?_)
        obtain ⟨rfl, rfl⟩ := q18
        show own_F _ p e below _ Z _ _ _ _ _ (T18.setTop (mkF m 16 #[.val (.ref a1), .val (.int 3)] [(.int 4), (.int 3)]))
        refine own_icmp S18 38 d6_16 (by decide) (by decide) (fun (hc16_19 : ¬ ((3 : Int32) < (4 : Int32))) => False.elim (absurd hc16_19 (by decide))) (fun (hc16_19 : (3 : Int32) < (4 : Int32)) => ?_)
        show own_F _ p e below _ Z _ _ _ _ _ (T18.setTop (mkF m 19 #[.val (.ref a1), .val (.int 3)] []))
        refine own_F.of (fun _ => XS.aloadN S18.here S18.hx rfl (S18.dec d6_19) rfl rfl) ?_
        refine own_F.of (fun _ => XS.iloadN S18.here S18.hx rfl (S18.dec d6_20) rfl) ?_
        show own_F _ p e below _ Z _ _ _ _ _ (T18.setTop (mkF m 21 #[.val (.ref a1), .val (.int 3)] [(.int 3), (.ref a1)]))
        refine own_callV S18 (y := (⟨"java/lang/String", "charAt", "(I)C"⟩ : MethodName)) (y' := (⟨"java/lang/String", "charAt", "(I)C"⟩ : MethodName)) (own_w hw 63 rfl) (own_w hw 64 rfl) (own_nf S18 (own_w hw 66 rfl)) (own_w hw 66 rfl) (own_w hw 65 rfl) (own_w hw 67 rfl) (own_w hw 10 rfl) (by decide) E_a1 (argsL := [(.int (3 : Int32))]) (rest := []) (own_catL l Z a0 hw a1 aB [(.int (nar .byte (x1.toInt8.toInt32))), (.int (nar .byte (x2.toInt8.toInt32))), (.int (nar .byte (x3.toInt8.toInt32))), (.int (nar .byte (x4.toInt8.toInt32)))] (4 : Int32) (3 : Int32) x4 zc vF h0 S18.old SZ hz S_as S_hi S_lo hvF SF rfl (by decide) (by decide) rfl cx4 hp4 E_a1 F_v F_c AB) all0 (by decide +kernel : parseMethodDescriptor "(I)C" = some ⟨[.int], some .char⟩) rfl rfl rfl d6_21 (by decide) (Nat.le_of_ble_eq_true rfl) (by decide) (by decide) (fun T20 h20 v20 S20 K20 q20 => ?_)
        obtain ⟨rfl, rfl⟩ := q20
        show own_F _ p e below _ Z _ _ _ _ _ (T20.setTop (mkF m 24 #[.val (.ref a1), .val (.int 3)] [(.int x4)]))
        refine own_callS S20 (y := (⟨"com/example/libidem/libidem/protocol/Token", "isTchar", "(C)Z"⟩ : MethodName)) (own_w hw 85 rfl) (own_w hw 86 rfl) (own_w hw 32 rfl) (own_w hw 87 rfl) (by decide) (argsL := [(.int x4)]) (rest := []) (own_isTchar l Z a0 hw x4 aT h0 S20.old ST AT cx4.1) all0 (by decide +kernel : parseMethodDescriptor "(C)Z" = some ⟨[.char], some .boolean⟩) rfl rfl rfl d6_24 (by decide) (Nat.le_of_ble_eq_true rfl) (by decide) (by decide) (fun T21 h21 v21 S21 K21 q21 => ?_)
        obtain ⟨rfl, rfl⟩ := q21
        show own_F _ p e below _ Z _ _ _ _ _ (T21.setTop (mkF m 27 #[.val (.ref a1), .val (.int 3)] [(.int (own_tc x4))]))
        refine own_if S21 32 d6_27 (by decide) (by decide) (fun (hc27_22 : ¬ ((own_tc x4) = (0 : Int32))) => ?_) (fun (hc27_22 : (own_tc x4) = (0 : Int32)) => ?_)
        · show own_F _ p e below _ Z _ _ _ _ _ (T21.setTop (mkF m 32 #[.val (.ref a1), .val (.int 3)] []))
          refine own_F.of (fun _ => XS.iinc S21.here S21.hx rfl (S21.dec d6_32) rfl (l' := #[.val (.ref a1), .val (.int 4)]) rfl) ?_
          show own_F _ p e below _ Z _ _ _ _ _ (T21.setTop (mkF m 35 #[.val (.ref a1), .val (.int 4)] []))
          refine own_F.of (fun _ => XS.goto S21.here S21.hx rfl (pc0 := 35) (pc' := 11) rfl (S21.dec d6_35) (by decide) (by decide)) ?_
          show own_F _ p e below _ Z _ _ _ _ _ (T21.setTop (mkF m 11 #[.val (.ref a1), .val (.int 4)] []))
          refine own_F.of (fun _ => XS.iloadN S21.here S21.hx rfl (S21.dec d6_11) rfl) ?_
          refine own_F.of (fun _ => XS.aloadN S21.here S21.hx rfl (S21.dec d6_12) rfl rfl) ?_
          show own_F _ p e below _ Z _ _ _ _ _ (T21.setTop (mkF m 13 #[.val (.ref a1), .val (.int 4)] [(.ref a1), (.int 4)]))
          refine own_callV S21 (y := (⟨"java/lang/String", "length", "()I"⟩ : MethodName)) (y' := (⟨"java/lang/String", "length", "()I"⟩ : MethodName)) (own_w hw 53 rfl) (own_w hw 54 rfl) (own_nf S21 (own_w hw 56 rfl)) (own_w hw 56 rfl) (own_w hw 55 rfl) (own_w hw 57 rfl) (own_w hw 10 rfl) (by decide) E_a1 (argsL := []) (rest := [(.int (4 : Int32))]) (own_lngL l Z a0 hw a1 aB [(.int (nar .byte (x1.toInt8.toInt32))), (.int (nar .byte (x2.toInt8.toInt32))), (.int (nar .byte (x3.toInt8.toInt32))), (.int (nar .byte (x4.toInt8.toInt32)))] (4 : Int32) zc h0 S21.old SZ hz (by show (4 : Nat).toInt32 >>> ((0 : Int32) &&& 31) = (4 : Int32); decide) E_a1 F_v F_c AB) all0 (by decide +kernel : parseMethodDescriptor "()I" = some ⟨[], some .int⟩) rfl rfl rfl d6_13 (by decide) (Nat.le_of_ble_eq_true rfl) (by decide) (by decide) (fun T23 h23 v23 S23 K23 q23 => ?_)
          obtain ⟨rfl, rfl⟩ := q23
          show own_F _ p e below _ Z _ _ _ _ _ (T23.setTop (mkF m 16 #[.val (.ref a1), .val (.int 4)] [(.int 4), (.int 4)]))
          refine own_icmp S23 38 d6_16 (by decide) (by decide) (fun (hc16_24 : ¬ ((4 : Int32) < (4 : Int32))) => ?_) (fun (hc16_24 : (4 : Int32) < (4 : Int32)) => False.elim (absurd hc16_24 (by decide)))
          show own_F _ p e below _ Z _ _ _ _ _ (T23.setTop (mkF m 38 #[.val (.ref a1), .val (.int 4)] []))
          refine own_F.of (fun _ => XS.iconst S23.here S23.hx rfl (S23.dec d6_38)) ?_
          show own_F _ p e below _ Z _ _ _ _ _ (T23.setTop (mkF m 39 #[.val (.ref a1), .val (.int 4)] [(.int 1)]))
          refine own_retZ S23 (by simp) d6_39 (by decide) (by decide) ?_
          have hh : own_al [x1, x2, x3, x4] = (1 : Int32) := by simp [own_al, hc27_7, hc27_12, hc27_17, hc27_22]
          rw [hh]; exact ⟨rfl, rfl⟩
        · show own_F _ p e below _ Z _ _ _ _ _ (T21.setTop (mkF m 30 #[.val (.ref a1), .val (.int 3)] []))
          refine own_F.of (fun _ => XS.iconst S21.here S21.hx rfl (S21.dec d6_30)) ?_
          show own_F _ p e below _ Z _ _ _ _ _ (T21.setTop (mkF m 31 #[.val (.ref a1), .val (.int 3)] [(.int 0)]))
          refine own_retZ S21 (by simp) d6_31 (by decide) (by decide) ?_
          have hh : own_al [x1, x2, x3, x4] = (0 : Int32) := by simp [own_al, hc27_7, hc27_12, hc27_17, hc27_22]
          rw [hh]; exact ⟨rfl, rfl⟩
      · show own_F _ p e below _ Z _ _ _ _ _ (T16.setTop (mkF m 30 #[.val (.ref a1), .val (.int 2)] []))
        refine own_F.of (fun _ => XS.iconst S16.here S16.hx rfl (S16.dec d6_30)) ?_
        show own_F _ p e below _ Z _ _ _ _ _ (T16.setTop (mkF m 31 #[.val (.ref a1), .val (.int 2)] [(.int 0)]))
        refine own_retZ S16 (by simp) d6_31 (by decide) (by decide) ?_
        have hh : own_al [x1, x2, x3, x4] = (0 : Int32) := by simp [own_al, hc27_7, hc27_12, hc27_17]
        rw [hh]; exact ⟨rfl, rfl⟩
    · show own_F _ p e below _ Z _ _ _ _ _ (T11.setTop (mkF m 30 #[.val (.ref a1), .val (.int 1)] []))
      refine own_F.of (fun _ => XS.iconst S11.here S11.hx rfl (S11.dec d6_30)) ?_
      show own_F _ p e below _ Z _ _ _ _ _ (T11.setTop (mkF m 31 #[.val (.ref a1), .val (.int 1)] [(.int 0)]))
      refine own_retZ S11 (by simp) d6_31 (by decide) (by decide) ?_
      have hh : own_al [x1, x2, x3, x4] = (0 : Int32) := by simp [own_al, hc27_7, hc27_12]
      rw [hh]; exact ⟨rfl, rfl⟩
  · show own_F _ p e below _ Z _ _ _ _ _ (T6.setTop (mkF m 30 #[.val (.ref a1), .val (.int 0)] []))
    refine own_F.of (fun _ => XS.iconst S6.here S6.hx rfl (S6.dec d6_30)) ?_
    show own_F _ p e below _ Z _ _ _ _ _ (T6.setTop (mkF m 31 #[.val (.ref a1), .val (.int 0)] [(.int 0)]))
    refine own_retZ S6 (by simp) d6_31 (by decide) (by decide) ?_
    have hh : own_al [x1, x2, x3, x4] = (0 : Int32) := by simp [own_al, hc27_7]
    rw [hh]; exact ⟨rfl, rfl⟩
set_option maxRecDepth 65536 in
set_option maxHeartbeats 40000000 in
theorem own_valU4 (l : Launch) (Z : State) (a0 : Array Value) (hw : ∀ d ∈ tables_1, d.before a0 Z = true) (a1 aB : Addr) (x1 x2 x3 x4 : Int32) (zc : Int32) (vF : Value) (aT : Addr) (h0 : Heap) (hO : Ext Z.heap h0) (SZ : Sta Z Z.heap "java/lang/String" "COMPACT_STRINGS" "Z" (.int zc)) (hz : ¬ zc = 0) (S_as : Sta Z Z.heap "java/lang/StringUTF16" "$assertionsDisabled" "Z" (.int 1)) (S_hi : Sta Z Z.heap "java/lang/StringUTF16" "HI_BYTE_SHIFT" "I" (.int 0)) (S_lo : Sta Z Z.heap "java/lang/StringUTF16" "LO_BYTE_SHIFT" "I" (.int 8)) (hvF : vF.isRef = true) (SF : Sta Z Z.heap "jdk/internal/util/Preconditions" "SIOOBE_FORMATTER" "Ljava/util/function/BiFunction;" vF) (ST : Sta Z Z.heap "com/example/libidem/libidem/protocol/Token" "TCHAR" "[Z" (.ref aT)) (AT : own_A Z Z.heap aT .boolean own_tab) (cx1 : own_isC x1) (cx2 : own_isC x2) (cx3 : own_isC x3) (cx4 : own_isC x4)  (E_a1 : Exa Z h0 a1 "java/lang/String") (F_v : Fld Z h0 a1 "java/lang/String" "value" "[B" (.ref aB)) (F_c : Fld Z h0 a1 "java/lang/String" "coder" "B" (.int 1)) (AB : own_A Z h0 aB .byte [(.int (own_lo x1)), (.int (own_hi x1)), (.int (own_lo x2)), (.int (own_hi x2)), (.int (own_lo x3)), (.int (own_hi x3)), (.int (own_lo x4)), (.int (own_hi x4))]) :
    own_C l Z (⟨"com/example/libidem/libidem/protocol/Token", "isValid", "(Ljava/lang/String;)Z"⟩ : MethodName) prog_16_method_2_code 2 (some .boolean) [] ({ frames := 5, cells := 0, slots := 0, locals := 66 } : Room) [] #[(.ref a1)] h0 (fun v h => v = some (.int (own_al [x1, x2, x3, x4])) ∧ h0 = h) := by
  refine own_C.of pn6 hO all0 ?_
  intro p e s m below meth c T0 S0
  refine own_F.cast (by first | (simp [entryFrame, mkF, argsToLocals, Value.category]; done) | rfl : entryFrame m #[(.ref a1)] 2 = mkF m 0 #[.val (.ref a1), .unset] []) ?_
  show own_F _ p e below _ Z _ _ _ _ _ (T0.setTop (mkF m 0 #[.val (.ref a1), .unset] []))
  refine own_F.of (fun _ => XS.aloadN S0.here S0.hx rfl (S0.dec d6_0) rfl rfl) ?_
  show own_F _ p e below _ Z _ _ _ _ _ (T0.setTop (mkF m 1 #[.val (.ref a1), .unset] [(.ref a1)]))
  refine own_callV S0 (y := (⟨"java/lang/String", "isEmpty", "()Z"⟩ : MethodName)) (y' := (⟨"java/lang/String", "isEmpty", "()Z"⟩ : MethodName)) (own_w hw 34 rfl) (own_w hw 35 rfl) (own_nf S0 (own_w hw 37 rfl)) (own_w hw 37 rfl) (own_w hw 36 rfl) (own_w hw 38 rfl) (own_w hw 10 rfl) (by decide) E_a1 (argsL := []) (rest := []) (own_empN l Z a0 hw a1 aB [(.int (own_lo x1)), (.int (own_hi x1)), (.int (own_lo x2)), (.int (own_hi x2)), (.int (own_lo x3)), (.int (own_hi x3)), (.int (own_lo x4)), (.int (own_hi x4))] h0 S0.old (by show ¬ (8 : Nat).toInt32 = 0; decide) E_a1 F_v AB) all0 (by decide +kernel : parseMethodDescriptor "()Z" = some ⟨[], some .boolean⟩) rfl rfl rfl d6_1 (by decide) (Nat.le_of_ble_eq_true rfl) (by decide) (by decide) (fun T1 h1 v1 S1 K1 q1 => ?_)
  obtain ⟨rfl, rfl⟩ := q1
  show own_F _ p e below _ Z _ _ _ _ _ (T1.setTop (mkF m 4 #[.val (.ref a1), .unset] [(.int 0)]))
  refine own_if S1 9 d6_4 (by decide) (by decide) (fun (hc4_2 : (0 : Int32) = (0 : Int32)) => ?_) (fun (hc4_2 : ¬ ((0 : Int32) = (0 : Int32))) => False.elim (absurd hc4_2 (by decide)))
  show own_F _ p e below _ Z _ _ _ _ _ (T1.setTop (mkF m 9 #[.val (.ref a1), .unset] []))
  refine own_F.of (fun _ => XS.iconst S1.here S1.hx rfl (S1.dec d6_9)) ?_
  show own_F _ p e below _ Z _ _ _ _ _ (T1.setTop (mkF m 10 #[.val (.ref a1), .unset] [(.int 0)]))
  refine own_F.of (fun _ => XS.istoreN S1.here S1.hx rfl (S1.dec d6_10) rfl (l' := #[.val (.ref a1), .val (.int 0)]) rfl) ?_
  refine own_F.of (fun _ => XS.iloadN S1.here S1.hx rfl (S1.dec d6_11) rfl) ?_
  refine own_F.of (fun _ => XS.aloadN S1.here S1.hx rfl (S1.dec d6_12) rfl rfl) ?_
  show own_F _ p e below _ Z _ _ _ _ _ (T1.setTop (mkF m 13 #[.val (.ref a1), .val (.int 0)] [(.ref a1), (.int 0)]))
  refine own_callV S1 (y := (⟨"java/lang/String", "length", "()I"⟩ : MethodName)) (y' := (⟨"java/lang/String", "length", "()I"⟩ : MethodName)) (own_w hw 53 rfl) (own_w hw 54 rfl) (own_nf S1 (own_w hw 56 rfl)) (own_w hw 56 rfl) (own_w hw 55 rfl) (own_w hw 57 rfl) (own_w hw 10 rfl) (by decide) E_a1 (argsL := []) (rest := [(.int (0 : Int32))]) (own_lngU l Z a0 hw a1 aB [(.int (own_lo x1)), (.int (own_hi x1)), (.int (own_lo x2)), (.int (own_hi x2)), (.int (own_lo x3)), (.int (own_hi x3)), (.int (own_lo x4)), (.int (own_hi x4))] (4 : Int32) zc h0 S1.old SZ hz (by show (8 : Nat).toInt32 >>> ((1 : Int32) &&& 31) = (4 : Int32); decide) E_a1 F_v F_c AB) all0 (by decide +kernel : parseMethodDescriptor "()I" = some ⟨[], some .int⟩) rfl rfl rfl d6_13 (by decide) (Nat.le_of_ble_eq_true rfl) (by decide) (by decide) (fun T3 h3 v3 S3 K3 q3 => ?_)
  obtain ⟨rfl, rfl⟩ := q3
  show own_F _ p e below _ Z _ _ _ _ _ (T3.setTop (mkF m 16 #[.val (.ref a1), .val (.int 0)] [(.int 4), (.int 0)]))
  refine own_icmp S3 38 d6_16 (by decide) (by decide) (fun (hc16_4 : ¬ ((0 : Int32) < (4 : Int32))) => False.elim (absurd hc16_4 (by decide))) (fun (hc16_4 : (0 : Int32) < (4 : Int32)) => ?_)
  show own_F _ p e below _ Z _ _ _ _ _ (T3.setTop (mkF m 19 #[.val (.ref a1), .val (.int 0)] []))
  refine own_F.of (fun _ => XS.aloadN S3.here S3.hx rfl (S3.dec d6_19) rfl rfl) ?_
  refine own_F.of (fun _ => XS.iloadN S3.here S3.hx rfl (S3.dec d6_20) rfl) ?_
  show own_F _ p e below _ Z _ _ _ _ _ (T3.setTop (mkF m 21 #[.val (.ref a1), .val (.int 0)] [(.int 0), (.ref a1)]))
  refine own_callV S3 (y := (⟨"java/lang/String", "charAt", "(I)C"⟩ : MethodName)) (y' := (⟨"java/lang/String", "charAt", "(I)C"⟩ : MethodName)) (own_w hw 63 rfl) (own_w hw 64 rfl) (own_nf S3 (own_w hw 66 rfl)) (own_w hw 66 rfl) (own_w hw 65 rfl) (own_w hw 67 rfl) (own_w hw 10 rfl) (by decide) E_a1 (argsL := [(.int (0 : Int32))]) (rest := []) (own_catU l Z a0 hw a1 aB [(.int (own_lo x1)), (.int (own_hi x1)), (.int (own_lo x2)), (.int (own_hi x2)), (.int (own_lo x3)), (.int (own_hi x3)), (.int (own_lo x4)), (.int (own_hi x4))] (4 : Int32) (0 : Int32) (0 : Int32) (1 : Int32) x1 zc vF h0 S3.old SZ hz S_as S_hi S_lo hvF SF (by show (8 : Nat).toInt32 >>> ((1 : Int32) &&& 31) = (4 : Int32); decide) (by decide) (by decide) (by decide) (by decide) (by decide) (by decide) rfl rfl cx1 E_a1 F_v F_c AB) all0 (by decide +kernel : parseMethodDescriptor "(I)C" = some ⟨[.int], some .char⟩) rfl rfl rfl d6_21 (by decide) (Nat.le_of_ble_eq_true rfl) (by decide) (by decide) (fun T5 h5 v5 S5 K5 q5 => ?_)
  obtain ⟨rfl, rfl⟩ := q5
  show own_F _ p e below _ Z _ _ _ _ _ (T5.setTop (mkF m 24 #[.val (.ref a1), .val (.int 0)] [(.int x1)]))
  refine own_callS S5 (y := (⟨"com/example/libidem/libidem/protocol/Token", "isTchar", "(C)Z"⟩ : MethodName)) (own_w hw 85 rfl) (own_w hw 86 rfl) (own_w hw 32 rfl) (own_w hw 87 rfl) (by decide) (argsL := [(.int x1)]) (rest := []) (own_isTchar l Z a0 hw x1 aT h0 S5.old ST AT cx1.1) all0 (by decide +kernel : parseMethodDescriptor "(C)Z" = some ⟨[.char], some .boolean⟩) rfl rfl rfl d6_24 (by decide) (Nat.le_of_ble_eq_true rfl) (by decide) (by decide) (fun T6 h6 v6 S6 K6 q6 => ?_)
  obtain ⟨rfl, rfl⟩ := q6
  show own_F _ p e below _ Z _ _ _ _ _ (T6.setTop (mkF m 27 #[.val (.ref a1), .val (.int 0)] [(.int (own_tc x1))]))
  refine own_if S6 32 d6_27 (by decide) (by decide) (fun (hc27_7 : ¬ ((own_tc x1) = (0 : Int32))) => ?_) (fun (hc27_7 : (own_tc x1) = (0 : Int32)) => ?_)
  · show own_F _ p e below _ Z _ _ _ _ _ (T6.setTop (mkF m 32 #[.val (.ref a1), .val (.int 0)] []))
    refine own_F.of (fun _ => XS.iinc S6.here S6.hx rfl (S6.dec d6_32) rfl (l' := #[.val (.ref a1), .val (.int 1)]) rfl) ?_
    show own_F _ p e below _ Z _ _ _ _ _ (T6.setTop (mkF m 35 #[.val (.ref a1), .val (.int 1)] []))
    refine own_F.of (fun _ => XS.goto S6.here S6.hx rfl (pc0 := 35) (pc' := 11) rfl (S6.dec d6_35) (by decide) (by decide)) ?_
    show own_F _ p e below _ Z _ _ _ _ _ (T6.setTop (mkF m 11 #[.val (.ref a1), .val (.int 1)] []))
    refine own_F.of (fun _ => XS.iloadN S6.here S6.hx rfl (S6.dec d6_11) rfl) ?_
    refine own_F.of (fun _ => XS.aloadN S6.here S6.hx rfl (S6.dec d6_12) rfl rfl) ?_
    show own_F _ p e below _ Z _ _ _ _ _ (T6.setTop (mkF m 13 #[.val (.ref a1), .val (.int 1)] [(.ref a1), (.int 1)]))
    refine own_callV S6 (y := (⟨"java/lang/String", "length", "()I"⟩ : MethodName)) (y' := (⟨"java/lang/String", "length", "()I"⟩ : MethodName)) (own_w hw 53 rfl) (own_w hw 54 rfl) (own_nf S6 (own_w hw 56 rfl)) (own_w hw 56 rfl) (own_w hw 55 rfl) (own_w hw 57 rfl) (own_w hw 10 rfl) (by decide) E_a1 (argsL := []) (rest := [(.int (1 : Int32))]) (own_lngU l Z a0 hw a1 aB [(.int (own_lo x1)), (.int (own_hi x1)), (.int (own_lo x2)), (.int (own_hi x2)), (.int (own_lo x3)), (.int (own_hi x3)), (.int (own_lo x4)), (.int (own_hi x4))] (4 : Int32) zc h0 S6.old SZ hz (by show (8 : Nat).toInt32 >>> ((1 : Int32) &&& 31) = (4 : Int32); decide) E_a1 F_v F_c AB) all0 (by decide +kernel : parseMethodDescriptor "()I" = some ⟨[], some .int⟩) rfl rfl rfl d6_13 (by decide) (Nat.le_of_ble_eq_true rfl) (by decide) (by decide) (fun T8 h8 v8 S8 K8 q8 => ?_)
    obtain ⟨rfl, rfl⟩ := q8
    show own_F _ p e below _ Z _ _ _ _ _ (T8.setTop (mkF m 16 #[.val (.ref a1), .val (.int 1)] [(.int 4), (.int 1)]))
    refine own_icmp S8 38 d6_16 (by decide) (by decide) (fun (hc16_9 : ¬ ((1 : Int32) < (4 : Int32))) => False.elim (absurd hc16_9 (by decide))) (fun (hc16_9 : (1 : Int32) < (4 : Int32)) => ?_)
    show own_F _ p e below _ Z _ _ _ _ _ (T8.setTop (mkF m 19 #[.val (.ref a1), .val (.int 1)] []))
    refine own_F.of (fun _ => XS.aloadN S8.here S8.hx rfl (S8.dec d6_19) rfl rfl) ?_
    refine own_F.of (fun _ => XS.iloadN S8.here S8.hx rfl (S8.dec d6_20) rfl) ?_
    show own_F _ p e below _ Z _ _ _ _ _ (T8.setTop (mkF m 21 #[.val (.ref a1), .val (.int 1)] [(.int 1), (.ref a1)]))
    refine own_callV S8 (y := (⟨"java/lang/String", "charAt", "(I)C"⟩ : MethodName)) (y' := (⟨"java/lang/String", "charAt", "(I)C"⟩ : MethodName)) (own_w hw 63 rfl) (own_w hw 64 rfl) (own_nf S8 (own_w hw 66 rfl)) (own_w hw 66 rfl) (own_w hw 65 rfl) (own_w hw 67 rfl) (own_w hw 10 rfl) (by decide) E_a1 (argsL := [(.int (1 : Int32))]) (rest := []) (own_catU l Z a0 hw a1 aB [(.int (own_lo x1)), (.int (own_hi x1)), (.int (own_lo x2)), (.int (own_hi x2)), (.int (own_lo x3)), (.int (own_hi x3)), (.int (own_lo x4)), (.int (own_hi x4))] (4 : Int32) (1 : Int32) (2 : Int32) (3 : Int32) x2 zc vF h0 S8.old SZ hz S_as S_hi S_lo hvF SF (by show (8 : Nat).toInt32 >>> ((1 : Int32) &&& 31) = (4 : Int32); decide) (by decide) (by decide) (by decide) (by decide) (by decide) (by decide) rfl rfl cx2 E_a1 F_v F_c AB) all0 (by decide +kernel : parseMethodDescriptor "(I)C" = some ⟨[.int], some .char⟩) rfl rfl rfl d6_21 (by decide) (Nat.le_of_ble_eq_true rfl) (by decide) (by decide) (fun T10 h10 v10 S10 K10 q10 => ?_)
    obtain ⟨rfl, rfl⟩ := q10
    show own_F _ p e below _ Z _ _ _ _ _ (T10.setTop (mkF m 24 #[.val (.ref a1), .val (.int 1)] [(.int x2)]))
    refine own_callS S10 (y := (⟨"com/example/libidem/libidem/protocol/Token", "isTchar", "(C)Z"⟩ : MethodName)) (own_w hw 85 rfl) (own_w hw 86 rfl) (own_w hw 32 rfl) (own_w hw 87 rfl) (by decide) (argsL := [(.int x2)]) (rest := []) (own_isTchar l Z a0 hw x2 aT h0 S10.old ST AT cx2.1) all0 (by decide +kernel : parseMethodDescriptor "(C)Z" = some ⟨[.char], some .boolean⟩) rfl rfl rfl d6_24 (by decide) (Nat.le_of_ble_eq_true rfl) (by decide) (by decide) (fun T11 h11 v11 S11 K11 q11 => ?_)
    obtain ⟨rfl, rfl⟩ := q11
    show own_F _ p e below _ Z _ _ _ _ _ (T11.setTop (mkF m 27 #[.val (.ref a1), .val (.int 1)] [(.int (own_tc x2))]))
    refine own_if S11 32 d6_27 (by decide) (by decide) (fun (hc27_12 : ¬ ((own_tc x2) = (0 : Int32))) => ?_) (fun (hc27_12 : (own_tc x2) = (0 : Int32)) => ?_)
    · show own_F _ p e below _ Z _ _ _ _ _ (T11.setTop (mkF m 32 #[.val (.ref a1), .val (.int 1)] []))
      refine own_F.of (fun _ => XS.iinc S11.here S11.hx rfl (S11.dec d6_32) rfl (l' := #[.val (.ref a1), .val (.int 2)]) rfl) ?_
      show own_F _ p e below _ Z _ _ _ _ _ (T11.setTop (mkF m 35 #[.val (.ref a1), .val (.int 2)] []))
      refine own_F.of (fun _ => XS.goto S11.here S11.hx rfl (pc0 := 35) (pc' := 11) rfl (S11.dec d6_35) (by decide) (by decide)) ?_
      show own_F _ p e below _ Z _ _ _ _ _ (T11.setTop (mkF m 11 #[.val (.ref a1), .val (.int 2)] []))
      refine own_F.of (fun _ => XS.iloadN S11.here S11.hx rfl (S11.dec d6_11) rfl) ?_
      refine own_F.of (fun _ => XS.aloadN S11.here S11.hx rfl (S11.dec d6_12) rfl rfl) ?_
      show own_F _ p e below _ Z _ _ _ _ _ (T11.setTop (mkF m 13 #[.val (.ref a1), .val (.int 2)] [(.ref a1), (.int 2)]))
      refine own_callV S11 (y := (⟨"java/lang/String", "length", "()I"⟩ : MethodName)) (y' := (⟨"java/lang/String", "length", "()I"⟩ : MethodName)) (own_w hw 53 rfl) (own_w hw 54 rfl) (own_nf S11 (own_w hw 56 rfl)) (own_w hw 56 rfl) (own_w hw 55 rfl) (own_w hw 57 rfl) (own_w hw 10 rfl) (by decide) E_a1 (argsL := []) (rest := [(.int (2 : Int32))]) (own_lngU l Z a0 hw a1 aB [(.int (own_lo x1)), (.int (own_hi x1)), (.int (own_lo x2)), (.int (own_hi x2)), (.int (own_lo x3)), (.int (own_hi x3)), (.int (own_lo x4)), (.int (own_hi x4))] (4 : Int32) zc h0 S11.old SZ hz (by show (8 : Nat).toInt32 >>> ((1 : Int32) &&& 31) = (4 : Int32); decide) E_a1 F_v F_c AB) all0 (by decide +kernel : parseMethodDescriptor "()I" = some ⟨[], some .int⟩) rfl rfl rfl d6_13 (by decide) (Nat.le_of_ble_eq_true rfl) (by decide) (by decide) (fun T13 h13 v13 S13 K13 q13 => ?_)
      obtain ⟨rfl, rfl⟩ := q13
      show own_F _ p e below _ Z _ _ _ _ _ (T13.setTop (mkF m 16 #[.val (.ref a1), .val (.int 2)] [(.int 4), (.int 2)]))
      refine own_icmp S13 38 d6_16 (by decide) (by decide) (fun (hc16_14 : ¬ ((2 : Int32) < (4 : Int32))) => False.elim (absurd hc16_14 (by decide))) (fun (hc16_14 : (2 : Int32) < (4 : Int32)) => ?_)
      show own_F _ p e below _ Z _ _ _ _ _ (T13.setTop (mkF m 19 #[.val (.ref a1), .val (.int 2)] []))
      refine own_F.of (fun _ => XS.aloadN S13.here S13.hx rfl (S13.dec d6_19) rfl rfl) ?_
      refine own_F.of (fun _ => XS.iloadN S13.here S13.hx rfl (S13.dec d6_20) rfl) ?_
      show own_F _ p e below _ Z _ _ _ _ _ (T13.setTop (mkF m 21 #[.val (.ref a1), .val (.int 2)] [(.int 2), (.ref a1)]))
      refine own_callV S13 (y := (⟨"java/lang/String", "charAt", "(I)C"⟩ : MethodName)) (y' := (⟨"java/lang/String", "charAt", "(I)C"⟩ : MethodName)) (own_w hw 63 rfl) (own_w hw 64 rfl) (own_nf S13 (own_w hw 66 rfl)) (own_w hw 66 rfl) (own_w hw 65 rfl) (own_w hw 67 rfl) (own_w hw 10 rfl) (by decide) E_a1 (argsL := [(.int (2 : Int32))]) (rest := []) (own_catU l Z a0 hw a1 aB [(.int (own_lo x1)), (.int (own_hi x1)), (.int (own_lo x2)), (.int (own_hi x2)), (.int (own_lo x3)), (.int (own_hi x3)), (.int (own_lo x4)), (.int (own_hi x4))] (4 : Int32) (2 : Int32) (4 : Int32) (5 : Int32) x3 zc vF h0 S13.old SZ hz S_as S_hi S_lo hvF SF (by show (8 : Nat).toInt32 >>> ((1 : Int32) &&& 31) = (4 : Int32); decide) (by decide) (by decide) (by decide) (by decide) (by decide) (by decide) rfl rfl cx3 E_a1 F_v F_c AB) all0 (by decide +kernel : parseMethodDescriptor "(I)C" = some ⟨[.int], some .char⟩) rfl rfl rfl d6_21 (by decide) (Nat.le_of_ble_eq_true rfl) (by decide) (by decide) (fun T15 h15 v15 S15 K15 q15 => ?_)
      obtain ⟨rfl, rfl⟩ := q15
      show own_F _ p e below _ Z _ _ _ _ _ (T15.setTop (mkF m 24 #[.val (.ref a1), .val (.int 2)] [(.int x3)]))
      refine own_callS S15 (y := (⟨"com/example/libidem/libidem/protocol/Token", "isTchar", "(C)Z"⟩ : MethodName)) (own_w hw 85 rfl) (own_w hw 86 rfl) (own_w hw 32 rfl) (own_w hw 87 rfl) (by decide) (argsL := [(.int x3)]) (rest := []) (own_isTchar l Z a0 hw x3 aT h0 S15.old ST AT cx3.1) all0 (by decide +kernel : parseMethodDescriptor "(C)Z" = some ⟨[.char], some .boolean⟩) rfl rfl rfl d6_24 (by decide) (Nat.le_of_ble_eq_true rfl) (by decide) (by decide) (fun T16 h16 v16 S16 K16 q16 => ?_)
      obtain ⟨rfl, rfl⟩ := q16
      show own_F _ p e below _ Z _ _ _ _ _ (T16.setTop (mkF m 27 #[.val (.ref a1), .val (.int 2)] [(.int (own_tc x3))]))
      refine own_if S16 32 d6_27 (by decide) (by decide) (fun (hc27_17 : ¬ ((own_tc x3) = (0 : Int32))) => ?_) (fun (hc27_17 : (own_tc x3) = (0 : Int32)) => ?_)
      · show own_F _ p e below _ Z _ _ _ _ _ (T16.setTop (mkF m 32 #[.val (.ref a1), .val (.int 2)] []))
        refine own_F.of (fun _ => XS.iinc S16.here S16.hx rfl (S16.dec d6_32) rfl (l' := #[.val (.ref a1), .val (.int 3)]) rfl) ?_
        show own_F _ p e below _ Z _ _ _ _ _ (T16.setTop (mkF m 35 #[.val (.ref a1), .val (.int 3)] []))
        refine own_F.of (fun _ => XS.goto S16.here S16.hx rfl (pc0 := 35) (pc' := 11) rfl (S16.dec d6_35) (by decide) (by decide)) ?_
        show own_F _ p e below _ Z _ _ _ _ _ (T16.setTop (mkF m 11 #[.val (.ref a1), .val (.int 3)] []))
        refine own_F.of (fun _ => XS.iloadN S16.here S16.hx rfl (S16.dec d6_11) rfl) ?_
        refine own_F.of (fun _ => XS.aloadN S16.here S16.hx rfl (S16.dec d6_12) rfl rfl) ?_
        show own_F _ p e below _ Z _ _ _ _ _ (T16.setTop (mkF m 13 #[.val (.ref a1), .val (.int 3)] [(.ref a1), (.int 3)]))
        refine own_callV S16 (y := (⟨"java/lang/String", "length", "()I"⟩ : MethodName)) (y' := (⟨"java/lang/String", "length", "()I"⟩ : MethodName)) (own_w hw 53 rfl) (own_w hw 54 rfl) (own_nf S16 (own_w hw 56 rfl)) (own_w hw 56 rfl) (own_w hw 55 rfl) (own_w hw 57 rfl) (own_w hw 10 rfl) (by decide) E_a1 (argsL := []) (rest := [(.int (3 : Int32))]) (own_lngU l Z a0 hw a1 aB [(.int (own_lo x1)), (.int (own_hi x1)), (.int (own_lo x2)), (.int (own_hi x2)), (.int (own_lo x3)), (.int (own_hi x3)), (.int (own_lo x4)), (.int (own_hi x4))] (4 : Int32) zc h0 S16.old SZ hz (by show (8 : Nat).toInt32 >>> ((1 : Int32) &&& 31) = (4 : Int32); decide) E_a1 F_v F_c AB) all0 (by decide +kernel : parseMethodDescriptor "()I" = some ⟨[], some .int⟩) rfl rfl rfl d6_13 (by decide) (Nat.le_of_ble_eq_true rfl) (by decide) (by decide) (fun T18 h18 v18 S18 K18 q18 => ?_)
        obtain ⟨rfl, rfl⟩ := q18
        show own_F _ p e below _ Z _ _ _ _ _ (T18.setTop (mkF m 16 #[.val (.ref a1), .val (.int 3)] [(.int 4), (.int 3)]))
        refine own_icmp S18 38 d6_16 (by decide) (by decide) (fun (hc16_19 : ¬ ((3 : Int32) < (4 : Int32))) => False.elim (absurd hc16_19 (by decide))) (fun (hc16_19 : (3 : Int32) < (4 : Int32)) => ?_)
        show own_F _ p e below _ Z _ _ _ _ _ (T18.setTop (mkF m 19 #[.val (.ref a1), .val (.int 3)] []))
        refine own_F.of (fun _ => XS.aloadN S18.here S18.hx rfl (S18.dec d6_19) rfl rfl) ?_
        refine own_F.of (fun _ => XS.iloadN S18.here S18.hx rfl (S18.dec d6_20) rfl) ?_
        show own_F _ p e below _ Z _ _ _ _ _ (T18.setTop (mkF m 21 #[.val (.ref a1), .val (.int 3)] [(.int 3), (.ref a1)]))
        refine own_callV S18 (y := (⟨"java/lang/String", "charAt", "(I)C"⟩ : MethodName)) (y' := (⟨"java/lang/String", "charAt", "(I)C"⟩ : MethodName)) (own_w hw 63 rfl) (own_w hw 64 rfl) (own_nf S18 (own_w hw 66 rfl)) (own_w hw 66 rfl) (own_w hw 65 rfl) (own_w hw 67 rfl) (own_w hw 10 rfl) (by decide) E_a1 (argsL := [(.int (3 : Int32))]) (rest := []) (own_catU l Z a0 hw a1 aB [(.int (own_lo x1)), (.int (own_hi x1)), (.int (own_lo x2)), (.int (own_hi x2)), (.int (own_lo x3)), (.int (own_hi x3)), (.int (own_lo x4)), (.int (own_hi x4))] (4 : Int32) (3 : Int32) (6 : Int32) (7 : Int32) x4 zc vF h0 S18.old SZ hz S_as S_hi S_lo hvF SF (by show (8 : Nat).toInt32 >>> ((1 : Int32) &&& 31) = (4 : Int32); decide) (by decide) (by decide) (by decide) (by decide) (by decide) (by decide) rfl rfl cx4 E_a1 F_v F_c AB) all0 (by decide +kernel : parseMethodDescriptor "(I)C" = some ⟨[.int], some .char⟩) rfl rfl rfl d6_21 (by decide) (Nat.le_of_ble_eq_true rfl) (by decide) (by decide) (fun T20 h20 v20 S20 K20 q20 => ?_)
        obtain ⟨rfl, rfl⟩ := q20
        show own_F _ p e below _ Z _ _ _ _ _ (T20.setTop (mkF m 24 #[.val (.ref a1), .val (.int 3)] [(.int x4)]))
        refine own_callS S20 (y := (⟨"com/example/libidem/libidem/protocol/Token", "isTchar", "(C)Z"⟩ : MethodName)) (own_w hw 85 rfl) (own_w hw 86 rfl) (own_w hw 32 rfl) (own_w hw 87 rfl) (by decide) (argsL := [(.int x4)]) (rest := []) (own_isTchar l Z a0 hw x4 aT h0 S20.old ST AT cx4.1) all0 (by decide +kernel : parseMethodDescriptor "(C)Z" = some ⟨[.char], some .boolean⟩) rfl rfl rfl d6_24 (by decide) (Nat.le_of_ble_eq_true rfl) (by decide) (by decide) (fun T21 h21 v21 S21 K21 q21 => ?_)
        obtain ⟨rfl, rfl⟩ := q21
        show own_F _ p e below _ Z _ _ _ _ _ (T21.setTop (mkF m 27 #[.val (.ref a1), .val (.int 3)] [(.int (own_tc x4))]))
        refine own_if S21 32 d6_27 (by decide) (by decide) (fun (hc27_22 : ¬ ((own_tc x4) = (0 : Int32))) => ?_) (fun (hc27_22 : (own_tc x4) = (0 : Int32)) => ?_)
        · show own_F _ p e below _ Z _ _ _ _ _ (T21.setTop (mkF m 32 #[.val (.ref a1), .val (.int 3)] []))
          refine own_F.of (fun _ => XS.iinc S21.here S21.hx rfl (S21.dec d6_32) rfl (l' := #[.val (.ref a1), .val (.int 4)]) rfl) ?_
          show own_F _ p e below _ Z _ _ _ _ _ (T21.setTop (mkF m 35 #[.val (.ref a1), .val (.int 4)] []))
          refine own_F.of (fun _ => XS.goto S21.here S21.hx rfl (pc0 := 35) (pc' := 11) rfl (S21.dec d6_35) (by decide) (by decide)) ?_
          show own_F _ p e below _ Z _ _ _ _ _ (T21.setTop (mkF m 11 #[.val (.ref a1), .val (.int 4)] []))
          refine own_F.of (fun _ => XS.iloadN S21.here S21.hx rfl (S21.dec d6_11) rfl) ?_
          refine own_F.of (fun _ => XS.aloadN S21.here S21.hx rfl (S21.dec d6_12) rfl rfl) ?_
          show own_F _ p e below _ Z _ _ _ _ _ (T21.setTop (mkF m 13 #[.val (.ref a1), .val (.int 4)] [(.ref a1), (.int 4)]))
          refine own_callV S21 (y := (⟨"java/lang/String", "length", "()I"⟩ : MethodName)) (y' := (⟨"java/lang/String", "length", "()I"⟩ : MethodName)) (own_w hw 53 rfl) (own_w hw 54 rfl) (own_nf S21 (own_w hw 56 rfl)) (own_w hw 56 rfl) (own_w hw 55 rfl) (own_w hw 57 rfl) (own_w hw 10 rfl) (by decide) E_a1 (argsL := []) (rest := [(.int (4 : Int32))]) (own_lngU l Z a0 hw a1 aB [(.int (own_lo x1)), (.int (own_hi x1)), (.int (own_lo x2)), (.int (own_hi x2)), (.int (own_lo x3)), (.int (own_hi x3)), (.int (own_lo x4)), (.int (own_hi x4))] (4 : Int32) zc h0 S21.old SZ hz (by show (8 : Nat).toInt32 >>> ((1 : Int32) &&& 31) = (4 : Int32); decide) E_a1 F_v F_c AB) all0 (by decide +kernel : parseMethodDescriptor "()I" = some ⟨[], some .int⟩) rfl rfl rfl d6_13 (by decide) (Nat.le_of_ble_eq_true rfl) (by decide) (by decide) (fun T23 h23 v23 S23 K23 q23 => ?_)
          obtain ⟨rfl, rfl⟩ := q23
          show own_F _ p e below _ Z _ _ _ _ _ (T23.setTop (mkF m 16 #[.val (.ref a1), .val (.int 4)] [(.int 4), (.int 4)]))
          refine own_icmp S23 38 d6_16 (by decide) (by decide) (fun (hc16_24 : ¬ ((4 : Int32) < (4 : Int32))) => ?_) (fun (hc16_24 : (4 : Int32) < (4 : Int32)) => False.elim (absurd hc16_24 (by decide)))
          show own_F _ p e below _ Z _ _ _ _ _ (T23.setTop (mkF m 38 #[.val (.ref a1), .val (.int 4)] []))
          refine own_F.of (fun _ => XS.iconst S23.here S23.hx rfl (S23.dec d6_38)) ?_
          show own_F _ p e below _ Z _ _ _ _ _ (T23.setTop (mkF m 39 #[.val (.ref a1), .val (.int 4)] [(.int 1)]))
          refine own_retZ S23 (by simp) d6_39 (by decide) (by decide) ?_
          have hh : own_al [x1, x2, x3, x4] = (1 : Int32) := by simp [own_al, hc27_7, hc27_12, hc27_17, hc27_22]
          rw [hh]; exact ⟨rfl, rfl⟩
        · show own_F _ p e below _ Z _ _ _ _ _ (T21.setTop (mkF m 30 #[.val (.ref a1), .val (.int 3)] []))
          refine own_F.of (fun _ => XS.iconst S21.here S21.hx rfl (S21.dec d6_30)) ?_
          show own_F _ p e below _ Z _ _ _ _ _ (T21.setTop (mkF m 31 #[.val (.ref a1), .val (.int 3)] [(.int 0)]))
          refine own_retZ S21 (by simp) d6_31 (by decide) (by decide) ?_
          have hh : own_al [x1, x2, x3, x4] = (0 : Int32) := by simp [own_al, hc27_7, hc27_12, hc27_17, hc27_22]
          rw [hh]; exact ⟨rfl, rfl⟩
      · show own_F _ p e below _ Z _ _ _ _ _ (T16.setTop (mkF m 30 #[.val (.ref a1), .val (.int 2)] []))
        refine own_F.of (fun _ => XS.iconst S16.here S16.hx rfl (S16.dec d6_30)) ?_
        show own_F _ p e below _ Z _ _ _ _ _ (T16.setTop (mkF m 31 #[.val (.ref a1), .val (.int 2)] [(.int 0)]))
        refine own_retZ S16 (by simp) d6_31 (by decide) (by decide) ?_
        have hh : own_al [x1, x2, x3, x4] = (0 : Int32) := by simp [own_al, hc27_7, hc27_12, hc27_17]
        rw [hh]; exact ⟨rfl, rfl⟩
    · show own_F _ p e below _ Z _ _ _ _ _ (T11.setTop (mkF m 30 #[.val (.ref a1), .val (.int 1)] []))
      refine own_F.of (fun _ => XS.iconst S11.here S11.hx rfl (S11.dec d6_30)) ?_
      show own_F _ p e below _ Z _ _ _ _ _ (T11.setTop (mkF m 31 #[.val (.ref a1), .val (.int 1)] [(.int 0)]))
      refine own_retZ S11 (by simp) d6_31 (by decide) (by decide) ?_
      have hh : own_al [x1, x2, x3, x4] = (0 : Int32) := by simp [own_al, hc27_7, hc27_12]
      rw [hh]; exact ⟨rfl, rfl⟩
  · show own_F _ p e below _ Z _ _ _ _ _ (T6.setTop (mkF m 30 #[.val (.ref a1), .val (.int 0)] []))
    refine own_F.of (fun _ => XS.iconst S6.here S6.hx rfl (S6.dec d6_30)) ?_
    show own_F _ p e below _ Z _ _ _ _ _ (T6.setTop (mkF m 31 #[.val (.ref a1), .val (.int 0)] [(.int 0)]))
    refine own_retZ S6 (by simp) d6_31 (by decide) (by decide) ?_
    have hh : own_al [x1, x2, x3, x4] = (0 : Int32) := by simp [own_al, hc27_7]
    rw [hh]; exact ⟨rfl, rfl⟩
set_option maxRecDepth 65536 in
set_option maxHeartbeats 40000000 in
theorem own_val4 (l : Launch) (Z : State) (a0 : Array Value) (hw : ∀ d ∈ tables_1, d.before a0 Z = true) (a1 : Addr) (x1 x2 x3 x4 : Int32) (zc : Int32) (vF : Value) (aT : Addr) (h0 : Heap) (hO : Ext Z.heap h0) (SZ : Sta Z Z.heap "java/lang/String" "COMPACT_STRINGS" "Z" (.int zc)) (hz : ¬ zc = 0) (S_as : Sta Z Z.heap "java/lang/StringUTF16" "$assertionsDisabled" "Z" (.int 1)) (S_hi : Sta Z Z.heap "java/lang/StringUTF16" "HI_BYTE_SHIFT" "I" (.int 0)) (S_lo : Sta Z Z.heap "java/lang/StringUTF16" "LO_BYTE_SHIFT" "I" (.int 8)) (hvF : vF.isRef = true) (SF : Sta Z Z.heap "jdk/internal/util/Preconditions" "SIOOBE_FORMATTER" "Ljava/util/function/BiFunction;" vF) (ST : Sta Z Z.heap "com/example/libidem/libidem/protocol/Token" "TCHAR" "[Z" (.ref aT)) (AT : own_A Z Z.heap aT .boolean own_tab) (cx1 : own_isC x1) (cx2 : own_isC x2) (cx3 : own_isC x3) (cx4 : own_isC x4) (E_a1 : Exa Z h0 a1 "java/lang/String") (SX : ∃ d, Fld Z h0 a1 "java/lang/String" "value" "[B" (.ref d) ∧ (((Fld Z h0 a1 "java/lang/String" "coder" "B" (.int 0) ∧ own_A Z h0 d .byte [(.int (nar .byte (x1.toInt8.toInt32))), (.int (nar .byte (x2.toInt8.toInt32))), (.int (nar .byte (x3.toInt8.toInt32))), (.int (nar .byte (x4.toInt8.toInt32)))]) ∧ ¬ 255 < x1 ∧ ¬ 255 < x2 ∧ ¬ 255 < x3 ∧ ¬ 255 < x4) ∨ (Fld Z h0 a1 "java/lang/String" "coder" "B" (.int 1) ∧ own_A Z h0 d .byte [(.int (own_lo x1)), (.int (own_hi x1)), (.int (own_lo x2)), (.int (own_hi x2)), (.int (own_lo x3)), (.int (own_hi x3)), (.int (own_lo x4)), (.int (own_hi x4))]))) :
    own_C l Z (⟨"com/example/libidem/libidem/protocol/Token", "isValid", "(Ljava/lang/String;)Z"⟩ : MethodName) prog_16_method_2_code 2 (some .boolean) [] ({ frames := 5, cells := 0, slots := 0, locals := 66 } : Room) [] #[(.ref a1)] h0 (fun v h => v = some (.int (own_al [x1, x2, x3, x4])) ∧ h0 = h) := by
  obtain ⟨aB, Fv, ⟨⟨Fc, A⟩, q1, q2, q3, q4⟩ | ⟨Fc, A⟩⟩ := SX
  · exact own_valL4 l Z a0 hw a1 aB x1 x2 x3 x4 zc vF aT h0 hO SZ hz S_as S_hi S_lo hvF SF ST AT cx1 cx2 cx3 cx4 q1 q2 q3 q4 E_a1 Fv Fc A
  · exact own_valU4 l Z a0 hw a1 aB x1 x2 x3 x4 zc vF aT h0 hO SZ hz S_as S_hi S_lo hvF SF ST AT cx1 cx2 cx3 cx4 E_a1 Fv Fc A
theorem d2_0 : decode method_4_code 0 = .ok (.iload_n 0, 1) := by decide +kernel
theorem d2_1 : decode method_4_code 1 = .ok (.ifCond .ne 14, 3) := by decide +kernel
theorem d2_4 : decode method_4_code 4 = .ok (.new 8, 3) := by decide +kernel
theorem d2_7 : decode method_4_code 7 = .ok (.dup, 1) := by decide +kernel
theorem d2_8 : decode method_4_code 8 = .ok (.iconst 0, 1) := by decide +kernel
theorem d2_9 : decode method_4_code 9 = .ok (.newarray .char, 2) := by decide +kernel
theorem d2_11 : decode method_4_code 11 = .ok (.invokespecial 10, 3) := by decide +kernel
theorem d2_14 : decode method_4_code 14 = .ok (.areturn, 1) := by decide +kernel
theorem d2_15 : decode method_4_code 15 = .ok (.iload_n 0, 1) := by decide +kernel
theorem d2_16 : decode method_4_code 16 = .ok (.iconst 1, 1) := by decide +kernel
theorem d2_17 : decode method_4_code 17 = .ok (.if_icmp .ne 18, 3) := by decide +kernel
theorem d2_20 : decode method_4_code 20 = .ok (.new 8, 3) := by decide +kernel
theorem d2_23 : decode method_4_code 23 = .ok (.dup, 1) := by decide +kernel
theorem d2_24 : decode method_4_code 24 = .ok (.iconst 1, 1) := by decide +kernel
theorem d2_25 : decode method_4_code 25 = .ok (.newarray .char, 2) := by decide +kernel
theorem d2_27 : decode method_4_code 27 = .ok (.dup, 1) := by decide +kernel
theorem d2_28 : decode method_4_code 28 = .ok (.iconst 0, 1) := by decide +kernel
theorem d2_29 : decode method_4_code 29 = .ok (.iload_n 1, 1) := by decide +kernel
theorem d2_30 : decode method_4_code 30 = .ok (.castore, 1) := by decide +kernel
theorem d2_31 : decode method_4_code 31 = .ok (.invokespecial 10, 3) := by decide +kernel
theorem d2_34 : decode method_4_code 34 = .ok (.areturn, 1) := by decide +kernel
theorem d2_35 : decode method_4_code 35 = .ok (.iload_n 0, 1) := by decide +kernel
theorem d2_36 : decode method_4_code 36 = .ok (.iconst 2, 1) := by decide +kernel
theorem d2_37 : decode method_4_code 37 = .ok (.if_icmp .ne 22, 3) := by decide +kernel
theorem d2_40 : decode method_4_code 40 = .ok (.new 8, 3) := by decide +kernel
theorem d2_43 : decode method_4_code 43 = .ok (.dup, 1) := by decide +kernel
theorem d2_44 : decode method_4_code 44 = .ok (.iconst 2, 1) := by decide +kernel
theorem d2_45 : decode method_4_code 45 = .ok (.newarray .char, 2) := by decide +kernel
theorem d2_47 : decode method_4_code 47 = .ok (.dup, 1) := by decide +kernel
theorem d2_48 : decode method_4_code 48 = .ok (.iconst 0, 1) := by decide +kernel
theorem d2_49 : decode method_4_code 49 = .ok (.iload_n 1, 1) := by decide +kernel
theorem d2_50 : decode method_4_code 50 = .ok (.castore, 1) := by decide +kernel
theorem d2_51 : decode method_4_code 51 = .ok (.dup, 1) := by decide +kernel
theorem d2_52 : decode method_4_code 52 = .ok (.iconst 1, 1) := by decide +kernel
theorem d2_53 : decode method_4_code 53 = .ok (.iload_n 2, 1) := by decide +kernel
theorem d2_54 : decode method_4_code 54 = .ok (.castore, 1) := by decide +kernel
theorem d2_55 : decode method_4_code 55 = .ok (.invokespecial 10, 3) := by decide +kernel
theorem d2_58 : decode method_4_code 58 = .ok (.areturn, 1) := by decide +kernel
theorem d2_59 : decode method_4_code 59 = .ok (.iload_n 0, 1) := by decide +kernel
theorem d2_60 : decode method_4_code 60 = .ok (.iconst 3, 1) := by decide +kernel
theorem d2_61 : decode method_4_code 61 = .ok (.if_icmp .ne 26, 3) := by decide +kernel
theorem d2_64 : decode method_4_code 64 = .ok (.new 8, 3) := by decide +kernel
theorem d2_67 : decode method_4_code 67 = .ok (.dup, 1) := by decide +kernel
theorem d2_68 : decode method_4_code 68 = .ok (.iconst 3, 1) := by decide +kernel
theorem d2_69 : decode method_4_code 69 = .ok (.newarray .char, 2) := by decide +kernel
theorem d2_71 : decode method_4_code 71 = .ok (.dup, 1) := by decide +kernel
theorem d2_72 : decode method_4_code 72 = .ok (.iconst 0, 1) := by decide +kernel
theorem d2_73 : decode method_4_code 73 = .ok (.iload_n 1, 1) := by decide +kernel
theorem d2_74 : decode method_4_code 74 = .ok (.castore, 1) := by decide +kernel
theorem d2_75 : decode method_4_code 75 = .ok (.dup, 1) := by decide +kernel
theorem d2_76 : decode method_4_code 76 = .ok (.iconst 1, 1) := by decide +kernel
theorem d2_77 : decode method_4_code 77 = .ok (.iload_n 2, 1) := by decide +kernel
theorem d2_78 : decode method_4_code 78 = .ok (.castore, 1) := by decide +kernel
theorem d2_79 : decode method_4_code 79 = .ok (.dup, 1) := by decide +kernel
theorem d2_80 : decode method_4_code 80 = .ok (.iconst 2, 1) := by decide +kernel
theorem d2_81 : decode method_4_code 81 = .ok (.iload_n 3, 1) := by decide +kernel
theorem d2_82 : decode method_4_code 82 = .ok (.castore, 1) := by decide +kernel
theorem d2_83 : decode method_4_code 83 = .ok (.invokespecial 10, 3) := by decide +kernel
theorem d2_86 : decode method_4_code 86 = .ok (.areturn, 1) := by decide +kernel
theorem d2_87 : decode method_4_code 87 = .ok (.new 8, 3) := by decide +kernel
theorem d2_90 : decode method_4_code 90 = .ok (.dup, 1) := by decide +kernel
theorem d2_91 : decode method_4_code 91 = .ok (.iconst 4, 1) := by decide +kernel
theorem d2_92 : decode method_4_code 92 = .ok (.newarray .char, 2) := by decide +kernel
theorem d2_94 : decode method_4_code 94 = .ok (.dup, 1) := by decide +kernel
theorem d2_95 : decode method_4_code 95 = .ok (.iconst 0, 1) := by decide +kernel
theorem d2_96 : decode method_4_code 96 = .ok (.iload_n 1, 1) := by decide +kernel
theorem d2_97 : decode method_4_code 97 = .ok (.castore, 1) := by decide +kernel
theorem d2_98 : decode method_4_code 98 = .ok (.dup, 1) := by decide +kernel
theorem d2_99 : decode method_4_code 99 = .ok (.iconst 1, 1) := by decide +kernel
theorem d2_100 : decode method_4_code 100 = .ok (.iload_n 2, 1) := by decide +kernel
theorem d2_101 : decode method_4_code 101 = .ok (.castore, 1) := by decide +kernel
theorem d2_102 : decode method_4_code 102 = .ok (.dup, 1) := by decide +kernel
theorem d2_103 : decode method_4_code 103 = .ok (.iconst 2, 1) := by decide +kernel
theorem d2_104 : decode method_4_code 104 = .ok (.iload_n 3, 1) := by decide +kernel
theorem d2_105 : decode method_4_code 105 = .ok (.castore, 1) := by decide +kernel
theorem d2_106 : decode method_4_code 106 = .ok (.dup, 1) := by decide +kernel
theorem d2_107 : decode method_4_code 107 = .ok (.iconst 3, 1) := by decide +kernel
theorem d2_108 : decode method_4_code 108 = .ok (.iload 4, 2) := by decide +kernel
theorem d2_110 : decode method_4_code 110 = .ok (.castore, 1) := by decide +kernel
theorem d2_111 : decode method_4_code 111 = .ok (.invokespecial 10, 3) := by decide +kernel
theorem d2_114 : decode method_4_code 114 = .ok (.areturn, 1) := by decide +kernel
theorem pn2 : plainFor (⟨"com/example/libidem/libidem/protocol/TokenIsValidPinLaw", "str", "(ICCCC)Ljava/lang/String;"⟩ : MethodName) = true := plainFor_of_name (by first | (simp [plainName, overriddenIn]; done) | decide +kernel)
set_option maxRecDepth 65536 in
set_option maxHeartbeats 40000000 in
theorem own_stN1 (l : Launch) (Z : State) (a0 : Array Value) (hw : ∀ d ∈ tables_1, d.before a0 Z = true) (p1 p2 p3 p4 : Int32) (zc : Int32) (h0 : Heap) (hO : Ext Z.heap h0) (SZ : Sta Z Z.heap "java/lang/String" "COMPACT_STRINGS" "Z" (.int zc)) (hz : ¬ zc = 0) (S_as : Sta Z Z.heap "java/lang/StringUTF16" "$assertionsDisabled" "Z" (.int 1)) (S_hi : Sta Z Z.heap "java/lang/StringUTF16" "HI_BYTE_SHIFT" "I" (.int 0)) (S_lo : Sta Z Z.heap "java/lang/StringUTF16" "LO_BYTE_SHIFT" "I" (.int 8)) :
    own_C l Z (⟨"com/example/libidem/libidem/protocol/TokenIsValidPinLaw", "str", "(ICCCC)Ljava/lang/String;"⟩ : MethodName) method_4_code 5 (some (.object "java/lang/String")) [] ({ frames := 6, cells := 4, slots := 8, locals := 88 } : Room) [] #[(.int (1 : Int32)), (.int p1), (.int p2), (.int p3), (.int p4)] h0 (fun v h => ∃ r, v = some (.ref r) ∧ Exa Z h r "java/lang/String" ∧ ∃ d, Fld Z h r "java/lang/String" "value" "[B" (.ref d) ∧ (((Fld Z h r "java/lang/String" "coder" "B" (.int 0) ∧ own_A Z h d .byte [(.int (nar .byte ((nar .char p1).toInt8.toInt32)))]) ∧ ¬ 255 < (nar .char p1)) ∨ (Fld Z h r "java/lang/String" "coder" "B" (.int 1) ∧ own_A Z h d .byte [(.int (own_lo (nar .char p1))), (.int (own_hi (nar .char p1)))]))) := by
  refine own_C.of pn2 hO all0 ?_
  intro p e s m below meth c T0 S0
  refine own_F.cast (by first | (simp [entryFrame, mkF, argsToLocals, Value.category]; done) | rfl : entryFrame m #[(.int (1 : Int32)), (.int p1), (.int p2), (.int p3), (.int p4)] 5 = mkF m 0 #[.val (.int (1 : Int32)), .val (.int p1), .val (.int p2), .val (.int p3), .val (.int p4)] []) ?_
  show own_F _ p e below _ Z _ _ _ _ _ (T0.setTop (mkF m 0 #[.val (.int 1), .val (.int p1), .val (.int p2), .val (.int p3), .val (.int p4)] []))
  refine own_F.of (fun _ => XS.iloadN S0.here S0.hx rfl (S0.dec d2_0) rfl) ?_
  show own_F _ p e below _ Z _ _ _ _ _ (T0.setTop (mkF m 1 #[.val (.int 1), .val (.int p1), .val (.int p2), .val (.int p3), .val (.int p4)] [(.int 1)]))
  refine own_if S0 15 d2_1 (by decide) (by decide) (fun (hc1_1 : ¬ ((1 : Int32) = (0 : Int32))) => ?_) (fun (hc1_1 : (1 : Int32) = (0 : Int32)) => False.elim (absurd hc1_1 (by decide)))
  show own_F _ p e below _ Z _ _ _ _ _ (T0.setTop (mkF m 15 #[.val (.int 1), .val (.int p1), .val (.int p2), .val (.int p3), .val (.int p4)] []))
  refine own_F.of (fun _ => XS.iloadN S0.here S0.hx rfl (S0.dec d2_15) rfl) ?_
  refine own_F.of (fun _ => XS.iconst S0.here S0.hx rfl (S0.dec d2_16)) ?_
  show own_F _ p e below _ Z _ _ _ _ _ (T0.setTop (mkF m 17 #[.val (.int 1), .val (.int p1), .val (.int p2), .val (.int p3), .val (.int p4)] [(.int 1), (.int 1)]))
  refine own_icmp S0 35 d2_17 (by decide) (by decide) (fun (hc17_2 : ¬ ((1 : Int32) = (1 : Int32))) => False.elim (absurd hc17_2 (by decide))) (fun (hc17_2 : (1 : Int32) = (1 : Int32)) => ?_)
  show own_F _ p e below _ Z _ _ _ _ _ (T0.setTop (mkF m 20 #[.val (.int 1), .val (.int p1), .val (.int p2), .val (.int p3), .val (.int p4)] []))
  refine own_new S0 (own_w hw 8 rfl) (own_w hw 9 rfl) (own_w hw 10 rfl) d2_20 (by decide) (by decide) (fun T3 h3 b3 g3 S3 E3 A3 D3 => ?_)
  have F3_value : Fld Z h3 b3 "java/lang/String" "value" "[B" .null := (D3 (Or.inr (own_w hw 24 rfl)) (ty := (.array .byte)) (by decide))
  have F3_coder : Fld Z h3 b3 "java/lang/String" "coder" "B" (.int (0 : Int32)) := (D3 (Or.inr (own_w hw 25 rfl)) (ty := .byte) (by decide))
  show own_F _ p e below _ Z _ _ _ _ _ (T3.setTop (mkF m 23 #[.val (.int 1), .val (.int p1), .val (.int p2), .val (.int p3), .val (.int p4)] [(.ref b3)]))
  refine own_F.of (fun _ => XS.dup S3.here S3.hx rfl (S3.dec d2_23) rfl rfl) ?_
  refine own_F.of (fun _ => XS.iconst S3.here S3.hx rfl (S3.dec d2_24)) ?_
  show own_F _ p e below _ Z _ _ _ _ _ (T3.setTop (mkF m 25 #[.val (.int 1), .val (.int p1), .val (.int p2), .val (.int p3), .val (.int p4)] [(.int 1), (.ref b3), (.ref b3)]))
  refine own_newP S3 (own_w hw 11 rfl) d2_25 (by decide) (cap := 1) (by decide) (by decide) (by decide) (by decide) (fun T4 h4 b4 g4 S4 E4 A4 => ?_)
  have V5 : own_A Z h4 b4 .char [(.int (0 : Int32))] := A4
  show own_F _ p e below _ Z _ _ _ _ _ (T4.setTop (mkF m 27 #[.val (.int 1), .val (.int p1), .val (.int p2), .val (.int p3), .val (.int p4)] [(.ref b4), (.ref b3), (.ref b3)]))
  refine own_F.of (fun _ => XS.dup S4.here S4.hx rfl (S4.dec d2_27) rfl rfl) ?_
  refine own_F.of (fun _ => XS.iconst S4.here S4.hx rfl (S4.dec d2_28)) ?_
  refine own_F.of (fun _ => XS.iloadN S4.here S4.hx rfl (S4.dec d2_29) rfl) ?_
  show own_F _ p e below _ Z _ _ _ _ _ (T4.setTop (mkF m 30 #[.val (.int 1), .val (.int p1), .val (.int p2), .val (.int p3), .val (.int p4)] [(.int p1), (.int 0), (.ref b4), (.ref b4), (.ref b3), (.ref b3)]))
  refine own_cst S4 V5 (by decide) (Nat.le_of_ble_eq_true rfl) d2_30 (Or.inr (by rw [g4]; exact S3.size)) (fun T6 h6 S6 W6 A6 => ?_)
  have V7 : own_A Z h6 b4 .char [(.int (nar .char p1))] := A6
  show own_F _ p e below _ Z _ _ _ _ _ (T6.setTop (mkF m 31 #[.val (.int 1), .val (.int p1), .val (.int p2), .val (.int p3), .val (.int p4)] [(.ref b4), (.ref b3), (.ref b3)]))
  have fq8 := ((A3.ext E4).wr W6)
  have fq9 := ((F3_value.ext E4).other W6 (Or.inl (Nat.ne_of_lt (by rw [g4]; exact (F3_value).lt))))
  have fq10 := ((F3_coder.ext E4).other W6 (Or.inl (Nat.ne_of_lt (by rw [g4]; exact (F3_coder).lt))))
  refine own_callI S6 (y := (⟨"java/lang/String", "<init>", "([C)V"⟩ : MethodName)) rfl (own_w hw 12 rfl) (own_w hw 13 rfl) (own_w hw 10 rfl) (own_w hw 14 rfl) (by decide) (argsL := [(.ref b4)]) (rest := [(.ref b3)]) (own_strC1 l Z a0 hw b3 b4 (nar .char p1) zc h6 S6.old SZ hz S_as S_hi S_lo (own_isC.nar _) (own_mayN S6 (Or.inr (by rw [g3]; exact S0.size))) fq8 fq9 fq10 V7) (allS (Or.inr (by rw [g3]; exact S0.size)) all0) (by decide +kernel : parseMethodDescriptor "([C)V" = some ⟨[(.array .char)], none⟩) rfl rfl rfl d2_31 (by decide) (Nat.le_of_ble_eq_true rfl) (by decide) (by decide) (fun T11 h11 v11 S11 K11 q11 => ?_)
  obtain ⟨rfl, F11⟩ := q11
  show own_F _ p e below _ Z _ _ _ _ _ (T11.setTop (mkF m 34 #[.val (.int 1), .val (.int p1), .val (.int p2), .val (.int p3), .val (.int p4)] [(.ref b3)]))
  have fq12 := (fq8.keep K11)
  refine own_retA S11 rfl rfl d2_34 (by decide) (by decide) ?_
  exact ⟨_, rfl, fq12, F11⟩
set_option maxRecDepth 65536 in
set_option maxHeartbeats 40000000 in
theorem own_stN2 (l : Launch) (Z : State) (a0 : Array Value) (hw : ∀ d ∈ tables_1, d.before a0 Z = true) (p1 p2 p3 p4 : Int32) (zc : Int32) (h0 : Heap) (hO : Ext Z.heap h0) (SZ : Sta Z Z.heap "java/lang/String" "COMPACT_STRINGS" "Z" (.int zc)) (hz : ¬ zc = 0) (S_as : Sta Z Z.heap "java/lang/StringUTF16" "$assertionsDisabled" "Z" (.int 1)) (S_hi : Sta Z Z.heap "java/lang/StringUTF16" "HI_BYTE_SHIFT" "I" (.int 0)) (S_lo : Sta Z Z.heap "java/lang/StringUTF16" "LO_BYTE_SHIFT" "I" (.int 8)) :
    own_C l Z (⟨"com/example/libidem/libidem/protocol/TokenIsValidPinLaw", "str", "(ICCCC)Ljava/lang/String;"⟩ : MethodName) method_4_code 5 (some (.object "java/lang/String")) [] ({ frames := 6, cells := 4, slots := 12, locals := 88 } : Room) [] #[(.int (2 : Int32)), (.int p1), (.int p2), (.int p3), (.int p4)] h0 (fun v h => ∃ r, v = some (.ref r) ∧ Exa Z h r "java/lang/String" ∧ ∃ d, Fld Z h r "java/lang/String" "value" "[B" (.ref d) ∧ (((Fld Z h r "java/lang/String" "coder" "B" (.int 0) ∧ own_A Z h d .byte [(.int (nar .byte ((nar .char p1).toInt8.toInt32))), (.int (nar .byte ((nar .char p2).toInt8.toInt32)))]) ∧ ¬ 255 < (nar .char p1) ∧ ¬ 255 < (nar .char p2)) ∨ (Fld Z h r "java/lang/String" "coder" "B" (.int 1) ∧ own_A Z h d .byte [(.int (own_lo (nar .char p1))), (.int (own_hi (nar .char p1))), (.int (own_lo (nar .char p2))), (.int (own_hi (nar .char p2)))]))) := by
  refine own_C.of pn2 hO all0 ?_
  intro p e s m below meth c T0 S0
  refine own_F.cast (by first | (simp [entryFrame, mkF, argsToLocals, Value.category]; done) | rfl : entryFrame m #[(.int (2 : Int32)), (.int p1), (.int p2), (.int p3), (.int p4)] 5 = mkF m 0 #[.val (.int (2 : Int32)), .val (.int p1), .val (.int p2), .val (.int p3), .val (.int p4)] []) ?_
  show own_F _ p e below _ Z _ _ _ _ _ (T0.setTop (mkF m 0 #[.val (.int 2), .val (.int p1), .val (.int p2), .val (.int p3), .val (.int p4)] []))
  refine own_F.of (fun _ => XS.iloadN S0.here S0.hx rfl (S0.dec d2_0) rfl) ?_
  show own_F _ p e below _ Z _ _ _ _ _ (T0.setTop (mkF m 1 #[.val (.int 2), .val (.int p1), .val (.int p2), .val (.int p3), .val (.int p4)] [(.int 2)]))
  refine own_if S0 15 d2_1 (by decide) (by decide) (fun (hc1_1 : ¬ ((2 : Int32) = (0 : Int32))) => ?_) (fun (hc1_1 : (2 : Int32) = (0 : Int32)) => False.elim (absurd hc1_1 (by decide)))
  show own_F _ p e below _ Z _ _ _ _ _ (T0.setTop (mkF m 15 #[.val (.int 2), .val (.int p1), .val (.int p2), .val (.int p3), .val (.int p4)] []))
  refine own_F.of (fun _ => XS.iloadN S0.here S0.hx rfl (S0.dec d2_15) rfl) ?_
  refine own_F.of (fun _ => XS.iconst S0.here S0.hx rfl (S0.dec d2_16)) ?_
  show own_F _ p e below _ Z _ _ _ _ _ (T0.setTop (mkF m 17 #[.val (.int 2), .val (.int p1), .val (.int p2), .val (.int p3), .val (.int p4)] [(.int 1), (.int 2)]))
  refine own_icmp S0 35 d2_17 (by decide) (by decide) (fun (hc17_2 : ¬ ((2 : Int32) = (1 : Int32))) => ?_) (fun (hc17_2 : (2 : Int32) = (1 : Int32)) => False.elim (absurd hc17_2 (by decide)))
  show own_F _ p e below _ Z _ _ _ _ _ (T0.setTop (mkF m 35 #[.val (.int 2), .val (.int p1), .val (.int p2), .val (.int p3), .val (.int p4)] []))
  refine own_F.of (fun _ => XS.iloadN S0.here S0.hx rfl (S0.dec d2_35) rfl) ?_
  refine own_F.of (fun _ => XS.iconst S0.here S0.hx rfl (S0.dec d2_36)) ?_
  show own_F _ p e below _ Z _ _ _ _ _ (T0.setTop (mkF m 37 #[.val (.int 2), .val (.int p1), .val (.int p2), .val (.int p3), .val (.int p4)] [(.int 2), (.int 2)]))
  refine own_icmp S0 59 d2_37 (by decide) (by decide) (fun (hc37_3 : ¬ ((2 : Int32) = (2 : Int32))) => False.elim (absurd hc37_3 (by decide))) (fun (hc37_3 : (2 : Int32) = (2 : Int32)) => ?_)
  show own_F _ p e below _ Z _ _ _ _ _ (T0.setTop (mkF m 40 #[.val (.int 2), .val (.int p1), .val (.int p2), .val (.int p3), .val (.int p4)] []))
  refine own_new S0 (own_w hw 8 rfl) (own_w hw 9 rfl) (own_w hw 10 rfl) d2_40 (by decide) (by decide) (fun T4 h4 b4 g4 S4 E4 A4 D4 => ?_)
  have F4_value : Fld Z h4 b4 "java/lang/String" "value" "[B" .null := (D4 (Or.inr (own_w hw 24 rfl)) (ty := (.array .byte)) (by decide))
  have F4_coder : Fld Z h4 b4 "java/lang/String" "coder" "B" (.int (0 : Int32)) := (D4 (Or.inr (own_w hw 25 rfl)) (ty := .byte) (by decide))
  show own_F _ p e below _ Z _ _ _ _ _ (T4.setTop (mkF m 43 #[.val (.int 2), .val (.int p1), .val (.int p2), .val (.int p3), .val (.int p4)] [(.ref b4)]))
  refine own_F.of (fun _ => XS.dup S4.here S4.hx rfl (S4.dec d2_43) rfl rfl) ?_
  refine own_F.of (fun _ => XS.iconst S4.here S4.hx rfl (S4.dec d2_44)) ?_
  show own_F _ p e below _ Z _ _ _ _ _ (T4.setTop (mkF m 45 #[.val (.int 2), .val (.int p1), .val (.int p2), .val (.int p3), .val (.int p4)] [(.int 2), (.ref b4), (.ref b4)]))
  refine own_newP S4 (own_w hw 11 rfl) d2_45 (by decide) (cap := 2) (by decide) (by decide) (by decide) (by decide) (fun T5 h5 b5 g5 S5 E5 A5 => ?_)
  have V6 : own_A Z h5 b5 .char [(.int (0 : Int32)), (.int (0 : Int32))] := A5
  show own_F _ p e below _ Z _ _ _ _ _ (T5.setTop (mkF m 47 #[.val (.int 2), .val (.int p1), .val (.int p2), .val (.int p3), .val (.int p4)] [(.ref b5), (.ref b4), (.ref b4)]))
  refine own_F.of (fun _ => XS.dup S5.here S5.hx rfl (S5.dec d2_47) rfl rfl) ?_
  refine own_F.of (fun _ => XS.iconst S5.here S5.hx rfl (S5.dec d2_48)) ?_
  refine own_F.of (fun _ => XS.iloadN S5.here S5.hx rfl (S5.dec d2_49) rfl) ?_
  show own_F _ p e below _ Z _ _ _ _ _ (T5.setTop (mkF m 50 #[.val (.int 2), .val (.int p1), .val (.int p2), .val (.int p3), .val (.int p4)] [(.int p1), (.int 0), (.ref b5), (.ref b5), (.ref b4), (.ref b4)]))
  refine own_cst S5 V6 (by decide) (Nat.le_of_ble_eq_true rfl) d2_50 (Or.inr (by rw [g5]; exact S4.size)) (fun T7 h7 S7 W7 A7 => ?_)
  have V8 : own_A Z h7 b5 .char [(.int (nar .char p1)), (.int (0 : Int32))] := A7
  show own_F _ p e below _ Z _ _ _ _ _ (T7.setTop (mkF m 51 #[.val (.int 2), .val (.int p1), .val (.int p2), .val (.int p3), .val (.int p4)] [(.ref b5), (.ref b4), (.ref b4)]))
  refine own_F.of (fun _ => XS.dup S7.here S7.hx rfl (S7.dec d2_51) rfl rfl) ?_
  refine own_F.of (fun _ => XS.iconst S7.here S7.hx rfl (S7.dec d2_52)) ?_
  refine own_F.of (fun _ => XS.iloadN S7.here S7.hx rfl (S7.dec d2_53) rfl) ?_
  show own_F _ p e below _ Z _ _ _ _ _ (T7.setTop (mkF m 54 #[.val (.int 2), .val (.int p1), .val (.int p2), .val (.int p3), .val (.int p4)] [(.int p2), (.int 1), (.ref b5), (.ref b5), (.ref b4), (.ref b4)]))
  refine own_cst S7 V8 (by decide) (Nat.le_of_ble_eq_true rfl) d2_54 (Or.inr (by rw [g5]; exact S4.size)) (fun T9 h9 S9 W9 A9 => ?_)
  have V10 : own_A Z h9 b5 .char [(.int (nar .char p1)), (.int (nar .char p2))] := A9
  show own_F _ p e below _ Z _ _ _ _ _ (T9.setTop (mkF m 55 #[.val (.int 2), .val (.int p1), .val (.int p2), .val (.int p3), .val (.int p4)] [(.ref b5), (.ref b4), (.ref b4)]))
  have fq11 := (((A4.ext E5).wr W7).wr W9)
  have fq12 := (((F4_value.ext E5).other W7 (Or.inl (Nat.ne_of_lt (by rw [g5]; exact (F4_value).lt)))).other W9 (Or.inl (Nat.ne_of_lt (by rw [g5]; exact (F4_value).lt))))
  have fq13 := (((F4_coder.ext E5).other W7 (Or.inl (Nat.ne_of_lt (by rw [g5]; exact (F4_coder).lt)))).other W9 (Or.inl (Nat.ne_of_lt (by rw [g5]; exact (F4_coder).lt))))
  refine own_callI S9 (y := (⟨"java/lang/String", "<init>", "([C)V"⟩ : MethodName)) rfl (own_w hw 12 rfl) (own_w hw 13 rfl) (own_w hw 10 rfl) (own_w hw 14 rfl) (by decide) (argsL := [(.ref b5)]) (rest := [(.ref b4)]) (own_strC2 l Z a0 hw b4 b5 (nar .char p1) (nar .char p2) zc h9 S9.old SZ hz S_as S_hi S_lo (own_isC.nar _) (own_isC.nar _) (own_mayN S9 (Or.inr (by rw [g4]; exact S0.size))) fq11 fq12 fq13 V10) (allS (Or.inr (by rw [g4]; exact S0.size)) all0) (by decide +kernel : parseMethodDescriptor "([C)V" = some ⟨[(.array .char)], none⟩) rfl rfl rfl d2_55 (by decide) (Nat.le_of_ble_eq_true rfl) (by decide) (by decide) (fun T14 h14 v14 S14 K14 q14 => ?_)
  obtain ⟨rfl, F14⟩ := q14
  show own_F _ p e below _ Z _ _ _ _ _ (T14.setTop (mkF m 58 #[.val (.int 2), .val (.int p1), .val (.int p2), .val (.int p3), .val (.int p4)] [(.ref b4)]))
  have fq15 := (fq11.keep K14)
  refine own_retA S14 rfl rfl d2_58 (by decide) (by decide) ?_
  exact ⟨_, rfl, fq15, F14⟩
set_option maxRecDepth 65536 in
set_option maxHeartbeats 40000000 in
theorem own_stN3 (l : Launch) (Z : State) (a0 : Array Value) (hw : ∀ d ∈ tables_1, d.before a0 Z = true) (p1 p2 p3 p4 : Int32) (zc : Int32) (h0 : Heap) (hO : Ext Z.heap h0) (SZ : Sta Z Z.heap "java/lang/String" "COMPACT_STRINGS" "Z" (.int zc)) (hz : ¬ zc = 0) (S_as : Sta Z Z.heap "java/lang/StringUTF16" "$assertionsDisabled" "Z" (.int 1)) (S_hi : Sta Z Z.heap "java/lang/StringUTF16" "HI_BYTE_SHIFT" "I" (.int 0)) (S_lo : Sta Z Z.heap "java/lang/StringUTF16" "LO_BYTE_SHIFT" "I" (.int 8)) :
    own_C l Z (⟨"com/example/libidem/libidem/protocol/TokenIsValidPinLaw", "str", "(ICCCC)Ljava/lang/String;"⟩ : MethodName) method_4_code 5 (some (.object "java/lang/String")) [] ({ frames := 6, cells := 4, slots := 16, locals := 88 } : Room) [] #[(.int (3 : Int32)), (.int p1), (.int p2), (.int p3), (.int p4)] h0 (fun v h => ∃ r, v = some (.ref r) ∧ Exa Z h r "java/lang/String" ∧ ∃ d, Fld Z h r "java/lang/String" "value" "[B" (.ref d) ∧ (((Fld Z h r "java/lang/String" "coder" "B" (.int 0) ∧ own_A Z h d .byte [(.int (nar .byte ((nar .char p1).toInt8.toInt32))), (.int (nar .byte ((nar .char p2).toInt8.toInt32))), (.int (nar .byte ((nar .char p3).toInt8.toInt32)))]) ∧ ¬ 255 < (nar .char p1) ∧ ¬ 255 < (nar .char p2) ∧ ¬ 255 < (nar .char p3)) ∨ (Fld Z h r "java/lang/String" "coder" "B" (.int 1) ∧ own_A Z h d .byte [(.int (own_lo (nar .char p1))), (.int (own_hi (nar .char p1))), (.int (own_lo (nar .char p2))), (.int (own_hi (nar .char p2))), (.int (own_lo (nar .char p3))), (.int (own_hi (nar .char p3)))]))) := by
  refine own_C.of pn2 hO all0 ?_
  intro p e s m below meth c T0 S0
  refine own_F.cast (by first | (simp [entryFrame, mkF, argsToLocals, Value.category]; done) | rfl : entryFrame m #[(.int (3 : Int32)), (.int p1), (.int p2), (.int p3), (.int p4)] 5 = mkF m 0 #[.val (.int (3 : Int32)), .val (.int p1), .val (.int p2), .val (.int p3), .val (.int p4)] []) ?_
  show own_F _ p e below _ Z _ _ _ _ _ (T0.setTop (mkF m 0 #[.val (.int 3), .val (.int p1), .val (.int p2), .val (.int p3), .val (.int p4)] []))
  refine own_F.of (fun _ => XS.iloadN S0.here S0.hx rfl (S0.dec d2_0) rfl) ?_
  show own_F _ p e below _ Z _ _ _ _ _ (T0.setTop (mkF m 1 #[.val (.int 3), .val (.int p1), .val (.int p2), .val (.int p3), .val (.int p4)] [(.int 3)]))
  refine own_if S0 15 d2_1 (by decide) (by decide) (fun (hc1_1 : ¬ ((3 : Int32) = (0 : Int32))) => ?_) (fun (hc1_1 : (3 : Int32) = (0 : Int32)) => False.elim (absurd hc1_1 (by decide)))
  show own_F _ p e below _ Z _ _ _ _ _ (T0.setTop (mkF m 15 #[.val (.int 3), .val (.int p1), .val (.int p2), .val (.int p3), .val (.int p4)] []))
  refine own_F.of (fun _ => XS.iloadN S0.here S0.hx rfl (S0.dec d2_15) rfl) ?_
  refine own_F.of (fun _ => XS.iconst S0.here S0.hx rfl (S0.dec d2_16)) ?_
  show own_F _ p e below _ Z _ _ _ _ _ (T0.setTop (mkF m 17 #[.val (.int 3), .val (.int p1), .val (.int p2), .val (.int p3), .val (.int p4)] [(.int 1), (.int 3)]))
  refine own_icmp S0 35 d2_17 (by decide) (by decide) (fun (hc17_2 : ¬ ((3 : Int32) = (1 : Int32))) => ?_) (fun (hc17_2 : (3 : Int32) = (1 : Int32)) => False.elim (absurd hc17_2 (by decide)))
  show own_F _ p e below _ Z _ _ _ _ _ (T0.setTop (mkF m 35 #[.val (.int 3), .val (.int p1), .val (.int p2), .val (.int p3), .val (.int p4)] []))
  refine own_F.of (fun _ => XS.iloadN S0.here S0.hx rfl (S0.dec d2_35) rfl) ?_
  refine own_F.of (fun _ => XS.iconst S0.here S0.hx rfl (S0.dec d2_36)) ?_
  show own_F _ p e below _ Z _ _ _ _ _ (T0.setTop (mkF m 37 #[.val (.int 3), .val (.int p1), .val (.int p2), .val (.int p3), .val (.int p4)] [(.int 2), (.int 3)]))
  refine own_icmp S0 59 d2_37 (by decide) (by decide) (fun (hc37_3 : ¬ ((3 : Int32) = (2 : Int32))) => ?_) (fun (hc37_3 : (3 : Int32) = (2 : Int32)) => False.elim (absurd hc37_3 (by decide)))
  show own_F _ p e below _ Z _ _ _ _ _ (T0.setTop (mkF m 59 #[.val (.int 3), .val (.int p1), .val (.int p2), .val (.int p3), .val (.int p4)] []))
  refine own_F.of (fun _ => XS.iloadN S0.here S0.hx rfl (S0.dec d2_59) rfl) ?_
  refine own_F.of (fun _ => XS.iconst S0.here S0.hx rfl (S0.dec d2_60)) ?_
  show own_F _ p e below _ Z _ _ _ _ _ (T0.setTop (mkF m 61 #[.val (.int 3), .val (.int p1), .val (.int p2), .val (.int p3), .val (.int p4)] [(.int 3), (.int 3)]))
  refine own_icmp S0 87 d2_61 (by decide) (by decide) (fun (hc61_4 : ¬ ((3 : Int32) = (3 : Int32))) => False.elim (absurd hc61_4 (by decide))) (fun (hc61_4 : (3 : Int32) = (3 : Int32)) => ?_)
  show own_F _ p e below _ Z _ _ _ _ _ (T0.setTop (mkF m 64 #[.val (.int 3), .val (.int p1), .val (.int p2), .val (.int p3), .val (.int p4)] []))
  refine own_new S0 (own_w hw 8 rfl) (own_w hw 9 rfl) (own_w hw 10 rfl) d2_64 (by decide) (by decide) (fun T5 h5 b5 g5 S5 E5 A5 D5 => ?_)
  have F5_value : Fld Z h5 b5 "java/lang/String" "value" "[B" .null := (D5 (Or.inr (own_w hw 24 rfl)) (ty := (.array .byte)) (by decide))
  have F5_coder : Fld Z h5 b5 "java/lang/String" "coder" "B" (.int (0 : Int32)) := (D5 (Or.inr (own_w hw 25 rfl)) (ty := .byte) (by decide))
  show own_F _ p e below _ Z _ _ _ _ _ (T5.setTop (mkF m 67 #[.val (.int 3), .val (.int p1), .val (.int p2), .val (.int p3), .val (.int p4)] [(.ref b5)]))
  refine own_F.of (fun _ => XS.dup S5.here S5.hx rfl (S5.dec d2_67) rfl rfl) ?_
  refine own_F.of (fun _ => XS.iconst S5.here S5.hx rfl (S5.dec d2_68)) ?_
  show own_F _ p e below _ Z _ _ _ _ _ (T5.setTop (mkF m 69 #[.val (.int 3), .val (.int p1), .val (.int p2), .val (.int p3), .val (.int p4)] [(.int 3), (.ref b5), (.ref b5)]))
  refine own_newP S5 (own_w hw 11 rfl) d2_69 (by decide) (cap := 3) (by decide) (by decide) (by decide) (by decide) (fun T6 h6 b6 g6 S6 E6 A6 => ?_)
  have V7 : own_A Z h6 b6 .char [(.int (0 : Int32)), (.int (0 : Int32)), (.int (0 : Int32))] := A6
  show own_F _ p e below _ Z _ _ _ _ _ (T6.setTop (mkF m 71 #[.val (.int 3), .val (.int p1), .val (.int p2), .val (.int p3), .val (.int p4)] [(.ref b6), (.ref b5), (.ref b5)]))
  refine own_F.of (fun _ => XS.dup S6.here S6.hx rfl (S6.dec d2_71) rfl rfl) ?_
  refine own_F.of (fun _ => XS.iconst S6.here S6.hx rfl (S6.dec d2_72)) ?_
  refine own_F.of (fun _ => XS.iloadN S6.here S6.hx rfl (S6.dec d2_73) rfl) ?_
  show own_F _ p e below _ Z _ _ _ _ _ (T6.setTop (mkF m 74 #[.val (.int 3), .val (.int p1), .val (.int p2), .val (.int p3), .val (.int p4)] [(.int p1), (.int 0), (.ref b6), (.ref b6), (.ref b5), (.ref b5)]))
  refine own_cst S6 V7 (by decide) (Nat.le_of_ble_eq_true rfl) d2_74 (Or.inr (by rw [g6]; exact S5.size)) (fun T8 h8 S8 W8 A8 => ?_)
  have V9 : own_A Z h8 b6 .char [(.int (nar .char p1)), (.int (0 : Int32)), (.int (0 : Int32))] := A8
  show own_F _ p e below _ Z _ _ _ _ _ (T8.setTop (mkF m 75 #[.val (.int 3), .val (.int p1), .val (.int p2), .val (.int p3), .val (.int p4)] [(.ref b6), (.ref b5), (.ref b5)]))
  refine own_F.of (fun _ => XS.dup S8.here S8.hx rfl (S8.dec d2_75) rfl rfl) ?_
  refine own_F.of (fun _ => XS.iconst S8.here S8.hx rfl (S8.dec d2_76)) ?_
  refine own_F.of (fun _ => XS.iloadN S8.here S8.hx rfl (S8.dec d2_77) rfl) ?_
  show own_F _ p e below _ Z _ _ _ _ _ (T8.setTop (mkF m 78 #[.val (.int 3), .val (.int p1), .val (.int p2), .val (.int p3), .val (.int p4)] [(.int p2), (.int 1), (.ref b6), (.ref b6), (.ref b5), (.ref b5)]))
  refine own_cst S8 V9 (by decide) (Nat.le_of_ble_eq_true rfl) d2_78 (Or.inr (by rw [g6]; exact S5.size)) (fun T10 h10 S10 W10 A10 => ?_)
  have V11 : own_A Z h10 b6 .char [(.int (nar .char p1)), (.int (nar .char p2)), (.int (0 : Int32))] := A10
  show own_F _ p e below _ Z _ _ _ _ _ (T10.setTop (mkF m 79 #[.val (.int 3), .val (.int p1), .val (.int p2), .val (.int p3), .val (.int p4)] [(.ref b6), (.ref b5), (.ref b5)]))
  refine own_F.of (fun _ => XS.dup S10.here S10.hx rfl (S10.dec d2_79) rfl rfl) ?_
  refine own_F.of (fun _ => XS.iconst S10.here S10.hx rfl (S10.dec d2_80)) ?_
  refine own_F.of (fun _ => XS.iloadN S10.here S10.hx rfl (S10.dec d2_81) rfl) ?_
  show own_F _ p e below _ Z _ _ _ _ _ (T10.setTop (mkF m 82 #[.val (.int 3), .val (.int p1), .val (.int p2), .val (.int p3), .val (.int p4)] [(.int p3), (.int 2), (.ref b6), (.ref b6), (.ref b5), (.ref b5)]))
  refine own_cst S10 V11 (by decide) (Nat.le_of_ble_eq_true rfl) d2_82 (Or.inr (by rw [g6]; exact S5.size)) (fun T12 h12 S12 W12 A12 => ?_)
  have V13 : own_A Z h12 b6 .char [(.int (nar .char p1)), (.int (nar .char p2)), (.int (nar .char p3))] := A12
  show own_F _ p e below _ Z _ _ _ _ _ (T12.setTop (mkF m 83 #[.val (.int 3), .val (.int p1), .val (.int p2), .val (.int p3), .val (.int p4)] [(.ref b6), (.ref b5), (.ref b5)]))
  have fq14 := ((((A5.ext E6).wr W8).wr W10).wr W12)
  have fq15 := ((((F5_value.ext E6).other W8 (Or.inl (Nat.ne_of_lt (by rw [g6]; exact (F5_value).lt)))).other W10 (Or.inl (Nat.ne_of_lt (by rw [g6]; exact (F5_value).lt)))).other W12 (Or.inl (Nat.ne_of_lt (by rw [g6]; exact (F5_value).lt))))
  have fq16 := ((((F5_coder.ext E6).other W8 (Or.inl (Nat.ne_of_lt (by rw [g6]; exact (F5_coder).lt)))).other W10 (Or.inl (Nat.ne_of_lt (by rw [g6]; exact (F5_coder).lt)))).other W12 (Or.inl (Nat.ne_of_lt (by rw [g6]; exact (F5_coder).lt))))
  refine own_callI S12 (y := (⟨"java/lang/String", "<init>", "([C)V"⟩ : MethodName)) rfl (own_w hw 12 rfl) (own_w hw 13 rfl) (own_w hw 10 rfl) (own_w hw 14 rfl) (by decide) (argsL := [(.ref b6)]) (rest := [(.ref b5)]) (own_strC3 l Z a0 hw b5 b6 (nar .char p1) (nar .char p2) (nar .char p3) zc h12 S12.old SZ hz S_as S_hi S_lo (own_isC.nar _) (own_isC.nar _) (own_isC.nar _) (own_mayN S12 (Or.inr (by rw [g5]; exact S0.size))) fq14 fq15 fq16 V13) (allS (Or.inr (by rw [g5]; exact S0.size)) all0) (by decide +kernel : parseMethodDescriptor "([C)V" = some ⟨[(.array .char)], none⟩) rfl rfl rfl d2_83 (by decide) (Nat.le_of_ble_eq_true rfl) (by decide) (by decide) (fun T17 h17 v17 S17 K17 q17 => ?_)
  obtain ⟨rfl, F17⟩ := q17
  show own_F _ p e below _ Z _ _ _ _ _ (T17.setTop (mkF m 86 #[.val (.int 3), .val (.int p1), .val (.int p2), .val (.int p3), .val (.int p4)] [(.ref b5)]))
  have fq18 := (fq14.keep K17)
  refine own_retA S17 rfl rfl d2_86 (by decide) (by decide) ?_
  exact ⟨_, rfl, fq18, F17⟩
set_option maxRecDepth 65536 in
set_option maxHeartbeats 40000000 in
theorem own_stN4 (l : Launch) (Z : State) (a0 : Array Value) (hw : ∀ d ∈ tables_1, d.before a0 Z = true) (p1 p2 p3 p4 : Int32) (zc : Int32) (h0 : Heap) (hO : Ext Z.heap h0) (SZ : Sta Z Z.heap "java/lang/String" "COMPACT_STRINGS" "Z" (.int zc)) (hz : ¬ zc = 0) (S_as : Sta Z Z.heap "java/lang/StringUTF16" "$assertionsDisabled" "Z" (.int 1)) (S_hi : Sta Z Z.heap "java/lang/StringUTF16" "HI_BYTE_SHIFT" "I" (.int 0)) (S_lo : Sta Z Z.heap "java/lang/StringUTF16" "LO_BYTE_SHIFT" "I" (.int 8)) :
    own_C l Z (⟨"com/example/libidem/libidem/protocol/TokenIsValidPinLaw", "str", "(ICCCC)Ljava/lang/String;"⟩ : MethodName) method_4_code 5 (some (.object "java/lang/String")) [] ({ frames := 6, cells := 4, slots := 20, locals := 88 } : Room) [] #[(.int (4 : Int32)), (.int p1), (.int p2), (.int p3), (.int p4)] h0 (fun v h => ∃ r, v = some (.ref r) ∧ Exa Z h r "java/lang/String" ∧ ∃ d, Fld Z h r "java/lang/String" "value" "[B" (.ref d) ∧ (((Fld Z h r "java/lang/String" "coder" "B" (.int 0) ∧ own_A Z h d .byte [(.int (nar .byte ((nar .char p1).toInt8.toInt32))), (.int (nar .byte ((nar .char p2).toInt8.toInt32))), (.int (nar .byte ((nar .char p3).toInt8.toInt32))), (.int (nar .byte ((nar .char p4).toInt8.toInt32)))]) ∧ ¬ 255 < (nar .char p1) ∧ ¬ 255 < (nar .char p2) ∧ ¬ 255 < (nar .char p3) ∧ ¬ 255 < (nar .char p4)) ∨ (Fld Z h r "java/lang/String" "coder" "B" (.int 1) ∧ own_A Z h d .byte [(.int (own_lo (nar .char p1))), (.int (own_hi (nar .char p1))), (.int (own_lo (nar .char p2))), (.int (own_hi (nar .char p2))), (.int (own_lo (nar .char p3))), (.int (own_hi (nar .char p3))), (.int (own_lo (nar .char p4))), (.int (own_hi (nar .char p4)))]))) := by
  refine own_C.of pn2 hO all0 ?_
  intro p e s m below meth c T0 S0
  refine own_F.cast (by first | (simp [entryFrame, mkF, argsToLocals, Value.category]; done) | rfl : entryFrame m #[(.int (4 : Int32)), (.int p1), (.int p2), (.int p3), (.int p4)] 5 = mkF m 0 #[.val (.int (4 : Int32)), .val (.int p1), .val (.int p2), .val (.int p3), .val (.int p4)] []) ?_
  show own_F _ p e below _ Z _ _ _ _ _ (T0.setTop (mkF m 0 #[.val (.int 4), .val (.int p1), .val (.int p2), .val (.int p3), .val (.int p4)] []))
  refine own_F.of (fun _ => XS.iloadN S0.here S0.hx rfl (S0.dec d2_0) rfl) ?_
  show own_F _ p e below _ Z _ _ _ _ _ (T0.setTop (mkF m 1 #[.val (.int 4), .val (.int p1), .val (.int p2), .val (.int p3), .val (.int p4)] [(.int 4)]))
  refine own_if S0 15 d2_1 (by decide) (by decide) (fun (hc1_1 : ¬ ((4 : Int32) = (0 : Int32))) => ?_) (fun (hc1_1 : (4 : Int32) = (0 : Int32)) => False.elim (absurd hc1_1 (by decide)))
  show own_F _ p e below _ Z _ _ _ _ _ (T0.setTop (mkF m 15 #[.val (.int 4), .val (.int p1), .val (.int p2), .val (.int p3), .val (.int p4)] []))
  refine own_F.of (fun _ => XS.iloadN S0.here S0.hx rfl (S0.dec d2_15) rfl) ?_
  refine own_F.of (fun _ => XS.iconst S0.here S0.hx rfl (S0.dec d2_16)) ?_
  show own_F _ p e below _ Z _ _ _ _ _ (T0.setTop (mkF m 17 #[.val (.int 4), .val (.int p1), .val (.int p2), .val (.int p3), .val (.int p4)] [(.int 1), (.int 4)]))
  refine own_icmp S0 35 d2_17 (by decide) (by decide) (fun (hc17_2 : ¬ ((4 : Int32) = (1 : Int32))) => ?_) (fun (hc17_2 : (4 : Int32) = (1 : Int32)) => False.elim (absurd hc17_2 (by decide)))
  show own_F _ p e below _ Z _ _ _ _ _ (T0.setTop (mkF m 35 #[.val (.int 4), .val (.int p1), .val (.int p2), .val (.int p3), .val (.int p4)] []))
  refine own_F.of (fun _ => XS.iloadN S0.here S0.hx rfl (S0.dec d2_35) rfl) ?_
  refine own_F.of (fun _ => XS.iconst S0.here S0.hx rfl (S0.dec d2_36)) ?_
  show own_F _ p e below _ Z _ _ _ _ _ (T0.setTop (mkF m 37 #[.val (.int 4), .val (.int p1), .val (.int p2), .val (.int p3), .val (.int p4)] [(.int 2), (.int 4)]))
  refine own_icmp S0 59 d2_37 (by decide) (by decide) (fun (hc37_3 : ¬ ((4 : Int32) = (2 : Int32))) => ?_) (fun (hc37_3 : (4 : Int32) = (2 : Int32)) => False.elim (absurd hc37_3 (by decide)))
  show own_F _ p e below _ Z _ _ _ _ _ (T0.setTop (mkF m 59 #[.val (.int 4), .val (.int p1), .val (.int p2), .val (.int p3), .val (.int p4)] []))
  refine own_F.of (fun _ => XS.iloadN S0.here S0.hx rfl (S0.dec d2_59) rfl) ?_
  refine own_F.of (fun _ => XS.iconst S0.here S0.hx rfl (S0.dec d2_60)) ?_
  show own_F _ p e below _ Z _ _ _ _ _ (T0.setTop (mkF m 61 #[.val (.int 4), .val (.int p1), .val (.int p2), .val (.int p3), .val (.int p4)] [(.int 3), (.int 4)]))
  refine own_icmp S0 87 d2_61 (by decide) (by decide) (fun (hc61_4 : ¬ ((4 : Int32) = (3 : Int32))) => ?_) (fun (hc61_4 : (4 : Int32) = (3 : Int32)) => False.elim (absurd hc61_4 (by decide)))
  show own_F _ p e below _ Z _ _ _ _ _ (T0.setTop (mkF m 87 #[.val (.int 4), .val (.int p1), .val (.int p2), .val (.int p3), .val (.int p4)] []))
  refine own_new S0 (own_w hw 8 rfl) (own_w hw 9 rfl) (own_w hw 10 rfl) d2_87 (by decide) (by decide) (fun T5 h5 b5 g5 S5 E5 A5 D5 => ?_)
  have F5_value : Fld Z h5 b5 "java/lang/String" "value" "[B" .null := (D5 (Or.inr (own_w hw 24 rfl)) (ty := (.array .byte)) (by decide))
  have F5_coder : Fld Z h5 b5 "java/lang/String" "coder" "B" (.int (0 : Int32)) := (D5 (Or.inr (own_w hw 25 rfl)) (ty := .byte) (by decide))
  show own_F _ p e below _ Z _ _ _ _ _ (T5.setTop (mkF m 90 #[.val (.int 4), .val (.int p1), .val (.int p2), .val (.int p3), .val (.int p4)] [(.ref b5)]))
  refine own_F.of (fun _ => XS.dup S5.here S5.hx rfl (S5.dec d2_90) rfl rfl) ?_
  refine own_F.of (fun _ => XS.iconst S5.here S5.hx rfl (S5.dec d2_91)) ?_
  show own_F _ p e below _ Z _ _ _ _ _ (T5.setTop (mkF m 92 #[.val (.int 4), .val (.int p1), .val (.int p2), .val (.int p3), .val (.int p4)] [(.int 4), (.ref b5), (.ref b5)]))
  refine own_newP S5 (own_w hw 11 rfl) d2_92 (by decide) (cap := 4) (by decide) (by decide) (by decide) (by decide) (fun T6 h6 b6 g6 S6 E6 A6 => ?_)
  have V7 : own_A Z h6 b6 .char [(.int (0 : Int32)), (.int (0 : Int32)), (.int (0 : Int32)), (.int (0 : Int32))] := A6
  show own_F _ p e below _ Z _ _ _ _ _ (T6.setTop (mkF m 94 #[.val (.int 4), .val (.int p1), .val (.int p2), .val (.int p3), .val (.int p4)] [(.ref b6), (.ref b5), (.ref b5)]))
  refine own_F.of (fun _ => XS.dup S6.here S6.hx rfl (S6.dec d2_94) rfl rfl) ?_
  refine own_F.of (fun _ => XS.iconst S6.here S6.hx rfl (S6.dec d2_95)) ?_
  refine own_F.of (fun _ => XS.iloadN S6.here S6.hx rfl (S6.dec d2_96) rfl) ?_
  show own_F _ p e below _ Z _ _ _ _ _ (T6.setTop (mkF m 97 #[.val (.int 4), .val (.int p1), .val (.int p2), .val (.int p3), .val (.int p4)] [(.int p1), (.int 0), (.ref b6), (.ref b6), (.ref b5), (.ref b5)]))
  refine own_cst S6 V7 (by decide) (Nat.le_of_ble_eq_true rfl) d2_97 (Or.inr (by rw [g6]; exact S5.size)) (fun T8 h8 S8 W8 A8 => ?_)
  have V9 : own_A Z h8 b6 .char [(.int (nar .char p1)), (.int (0 : Int32)), (.int (0 : Int32)), (.int (0 : Int32))] := A8
  show own_F _ p e below _ Z _ _ _ _ _ (T8.setTop (mkF m 98 #[.val (.int 4), .val (.int p1), .val (.int p2), .val (.int p3), .val (.int p4)] [(.ref b6), (.ref b5), (.ref b5)]))
  refine own_F.of (fun _ => XS.dup S8.here S8.hx rfl (S8.dec d2_98) rfl rfl) ?_
  refine own_F.of (fun _ => XS.iconst S8.here S8.hx rfl (S8.dec d2_99)) ?_
  refine own_F.of (fun _ => XS.iloadN S8.here S8.hx rfl (S8.dec d2_100) rfl) ?_
  show own_F _ p e below _ Z _ _ _ _ _ (T8.setTop (mkF m 101 #[.val (.int 4), .val (.int p1), .val (.int p2), .val (.int p3), .val (.int p4)] [(.int p2), (.int 1), (.ref b6), (.ref b6), (.ref b5), (.ref b5)]))
  refine own_cst S8 V9 (by decide) (Nat.le_of_ble_eq_true rfl) d2_101 (Or.inr (by rw [g6]; exact S5.size)) (fun T10 h10 S10 W10 A10 => ?_)
  have V11 : own_A Z h10 b6 .char [(.int (nar .char p1)), (.int (nar .char p2)), (.int (0 : Int32)), (.int (0 : Int32))] := A10
  show own_F _ p e below _ Z _ _ _ _ _ (T10.setTop (mkF m 102 #[.val (.int 4), .val (.int p1), .val (.int p2), .val (.int p3), .val (.int p4)] [(.ref b6), (.ref b5), (.ref b5)]))
  refine own_F.of (fun _ => XS.dup S10.here S10.hx rfl (S10.dec d2_102) rfl rfl) ?_
  refine own_F.of (fun _ => XS.iconst S10.here S10.hx rfl (S10.dec d2_103)) ?_
  refine own_F.of (fun _ => XS.iloadN S10.here S10.hx rfl (S10.dec d2_104) rfl) ?_
  show own_F _ p e below _ Z _ _ _ _ _ (T10.setTop (mkF m 105 #[.val (.int 4), .val (.int p1), .val (.int p2), .val (.int p3), .val (.int p4)] [(.int p3), (.int 2), (.ref b6), (.ref b6), (.ref b5), (.ref b5)]))
  refine own_cst S10 V11 (by decide) (Nat.le_of_ble_eq_true rfl) d2_105 (Or.inr (by rw [g6]; exact S5.size)) (fun T12 h12 S12 W12 A12 => ?_)
  have V13 : own_A Z h12 b6 .char [(.int (nar .char p1)), (.int (nar .char p2)), (.int (nar .char p3)), (.int (0 : Int32))] := A12
  show own_F _ p e below _ Z _ _ _ _ _ (T12.setTop (mkF m 106 #[.val (.int 4), .val (.int p1), .val (.int p2), .val (.int p3), .val (.int p4)] [(.ref b6), (.ref b5), (.ref b5)]))
  refine own_F.of (fun _ => XS.dup S12.here S12.hx rfl (S12.dec d2_106) rfl rfl) ?_
  refine own_F.of (fun _ => XS.iconst S12.here S12.hx rfl (S12.dec d2_107)) ?_
  refine own_F.of (fun _ => XS.iload S12.here S12.hx rfl (S12.dec d2_108) rfl) ?_
  show own_F _ p e below _ Z _ _ _ _ _ (T12.setTop (mkF m 110 #[.val (.int 4), .val (.int p1), .val (.int p2), .val (.int p3), .val (.int p4)] [(.int p4), (.int 3), (.ref b6), (.ref b6), (.ref b5), (.ref b5)]))
  refine own_cst S12 V13 (by decide) (Nat.le_of_ble_eq_true rfl) d2_110 (Or.inr (by rw [g6]; exact S5.size)) (fun T14 h14 S14 W14 A14 => ?_)
  have V15 : own_A Z h14 b6 .char [(.int (nar .char p1)), (.int (nar .char p2)), (.int (nar .char p3)), (.int (nar .char p4))] := A14
  show own_F _ p e below _ Z _ _ _ _ _ (T14.setTop (mkF m 111 #[.val (.int 4), .val (.int p1), .val (.int p2), .val (.int p3), .val (.int p4)] [(.ref b6), (.ref b5), (.ref b5)]))
  have fq16 := (((((A5.ext E6).wr W8).wr W10).wr W12).wr W14)
  have fq17 := (((((F5_value.ext E6).other W8 (Or.inl (Nat.ne_of_lt (by rw [g6]; exact (F5_value).lt)))).other W10 (Or.inl (Nat.ne_of_lt (by rw [g6]; exact (F5_value).lt)))).other W12 (Or.inl (Nat.ne_of_lt (by rw [g6]; exact (F5_value).lt)))).other W14 (Or.inl (Nat.ne_of_lt (by rw [g6]; exact (F5_value).lt))))
  have fq18 := (((((F5_coder.ext E6).other W8 (Or.inl (Nat.ne_of_lt (by rw [g6]; exact (F5_coder).lt)))).other W10 (Or.inl (Nat.ne_of_lt (by rw [g6]; exact (F5_coder).lt)))).other W12 (Or.inl (Nat.ne_of_lt (by rw [g6]; exact (F5_coder).lt)))).other W14 (Or.inl (Nat.ne_of_lt (by rw [g6]; exact (F5_coder).lt))))
  refine own_callI S14 (y := (⟨"java/lang/String", "<init>", "([C)V"⟩ : MethodName)) rfl (own_w hw 12 rfl) (own_w hw 13 rfl) (own_w hw 10 rfl) (own_w hw 14 rfl) (by decide) (argsL := [(.ref b6)]) (rest := [(.ref b5)]) (own_strC4 l Z a0 hw b5 b6 (nar .char p1) (nar .char p2) (nar .char p3) (nar .char p4) zc h14 S14.old SZ hz S_as S_hi S_lo (own_isC.nar _) (own_isC.nar _) (own_isC.nar _) (own_isC.nar _) (own_mayN S14 (Or.inr (by rw [g5]; exact S0.size))) fq16 fq17 fq18 V15) (allS (Or.inr (by rw [g5]; exact S0.size)) all0) (by decide +kernel : parseMethodDescriptor "([C)V" = some ⟨[(.array .char)], none⟩) rfl rfl rfl d2_111 (by decide) (Nat.le_of_ble_eq_true rfl) (by decide) (by decide) (fun T19 h19 v19 S19 K19 q19 => ?_)
  obtain ⟨rfl, F19⟩ := q19
  show own_F _ p e below _ Z _ _ _ _ _ (T19.setTop (mkF m 114 #[.val (.int 4), .val (.int p1), .val (.int p2), .val (.int p3), .val (.int p4)] [(.ref b5)]))
  have fq20 := (fq16.keep K19)
  refine own_retA S19 rfl rfl d2_114 (by decide) (by decide) ?_
  exact ⟨_, rfl, fq20, F19⟩
set_option maxRecDepth 65536 in
set_option maxHeartbeats 40000000 in
theorem own_stN0 (l : Launch) (Z : State) (a0 : Array Value) (hw : ∀ d ∈ tables_1, d.before a0 Z = true) (p1 p2 p3 p4 : Int32) (h0 : Heap) (hO : Ext Z.heap h0) :
    own_CW l Z (⟨"com/example/libidem/libidem/protocol/TokenIsValidPinLaw", "str", "(ICCCC)Ljava/lang/String;"⟩ : MethodName) method_4_code 5 (some (.object "java/lang/String")) [] ({ frames := 3, cells := 6, slots := 12, locals := 43 } : Room) [] #[(.int (0 : Int32)), (.int p1), (.int p2), (.int p3), (.int p4)] h0 (fun vm => CHv Z [("java/lang/String", 7)] vm h0) (fun v h => ∃ r, v = some (.ref r) ∧ Exa Z h r "java/lang/String" ∧ ∃ b, Fld Z h r "java/lang/String" "value" "[B" (.ref b) ∧ Fld Z h r "java/lang/String" "coder" "B" (.int 0) ∧ own_A Z h b .byte []) := by
  refine own_CW.of pn2 hO all0 ?_
  intro p e s m below meth c T0 HS S0
  refine own_F.cast (by first | (simp [entryFrame, mkF, argsToLocals, Value.category]; done) | rfl : entryFrame m #[(.int (0 : Int32)), (.int p1), (.int p2), (.int p3), (.int p4)] 5 = mkF m 0 #[.val (.int (0 : Int32)), .val (.int p1), .val (.int p2), .val (.int p3), .val (.int p4)] []) ?_
  show own_F _ p e below _ Z _ _ _ _ _ (T0.setTop (mkF m 0 #[.val (.int 0), .val (.int p1), .val (.int p2), .val (.int p3), .val (.int p4)] []))
  refine own_F.of (fun _ => XS.iloadN S0.here S0.hx rfl (S0.dec d2_0) rfl) ?_
  show own_F _ p e below _ Z _ _ _ _ _ (T0.setTop (mkF m 1 #[.val (.int 0), .val (.int p1), .val (.int p2), .val (.int p3), .val (.int p4)] [(.int 0)]))
  refine own_if S0 15 d2_1 (by decide) (by decide) (fun (hc1_1 : ¬ ((0 : Int32) = (0 : Int32))) => False.elim (absurd hc1_1 (by decide))) (fun (hc1_1 : (0 : Int32) = (0 : Int32)) => ?_)
  show own_F _ p e below _ Z _ _ _ _ _ (T0.setTop (mkF m 4 #[.val (.int 0), .val (.int p1), .val (.int p2), .val (.int p3), .val (.int p4)] []))
  refine own_new S0 (own_w hw 8 rfl) (own_w hw 9 rfl) (own_w hw 10 rfl) d2_4 (by decide) (by decide) (fun T2 h2 b2 g2 S2 E2 A2 D2 => ?_)
  have F2_value : Fld Z h2 b2 "java/lang/String" "value" "[B" .null := (D2 (Or.inr (own_w hw 24 rfl)) (ty := (.array .byte)) (by decide))
  have F2_coder : Fld Z h2 b2 "java/lang/String" "coder" "B" (.int (0 : Int32)) := (D2 (Or.inr (own_w hw 25 rfl)) (ty := .byte) (by decide))
  show own_F _ p e below _ Z _ _ _ _ _ (T2.setTop (mkF m 7 #[.val (.int 0), .val (.int p1), .val (.int p2), .val (.int p3), .val (.int p4)] [(.ref b2)]))
  refine own_F.of (fun _ => XS.dup S2.here S2.hx rfl (S2.dec d2_7) rfl rfl) ?_
  refine own_F.of (fun _ => XS.iconst S2.here S2.hx rfl (S2.dec d2_8)) ?_
  show own_F _ p e below _ Z _ _ _ _ _ (T2.setTop (mkF m 9 #[.val (.int 0), .val (.int p1), .val (.int p2), .val (.int p3), .val (.int p4)] [(.int 0), (.ref b2), (.ref b2)]))
  refine own_newP S2 (own_w hw 11 rfl) d2_9 (by decide) (cap := 0) (by decide) (by decide) (by decide) (by decide) (fun T3 h3 b3 g3 S3 E3 A3 => ?_)
  have V4 : own_A Z h3 b3 .char [] := A3
  show own_F _ p e below _ Z _ _ _ _ _ (T3.setTop (mkF m 11 #[.val (.int 0), .val (.int p1), .val (.int p2), .val (.int p3), .val (.int p4)] [(.ref b3), (.ref b2), (.ref b2)]))
  have fq5 := (A2.ext E3)
  have fq6 := (F2_value.ext E3)
  have fq7 := (F2_coder.ext E3)
  refine own_callIW S3 (HH := fun vm => CHv Z [("java/lang/String", 7)] vm h3) (fun _ q => own_CHw S3 (own_EW a0 hw) (CHv.ext E3 (CHv.ext E2 HS)) q) (y := (⟨"java/lang/String", "<init>", "([C)V"⟩ : MethodName)) rfl (own_w hw 12 rfl) (own_w hw 13 rfl) (own_w hw 10 rfl) (own_w hw 14 rfl) (by decide) (argsL := [(.ref b3)]) (rest := [(.ref b2)]) (own_strC0 l Z a0 hw b2 b3 h3 S3.old (own_mayN S3 (Or.inr (by rw [g2]; exact S0.size))) fq5 fq6 fq7 V4) (allS (Or.inr (by rw [g2]; exact S0.size)) all0) (by decide +kernel : parseMethodDescriptor "([C)V" = some ⟨[(.array .char)], none⟩) rfl rfl rfl d2_11 (by decide) (Nat.le_of_ble_eq_true rfl) (by decide) (by decide) (fun T8 h8 v8 S8 K8 q8 => ?_)
  obtain ⟨rfl, F8⟩ := q8
  show own_F _ p e below _ Z _ _ _ _ _ (T8.setTop (mkF m 14 #[.val (.int 0), .val (.int p1), .val (.int p2), .val (.int p3), .val (.int p4)] [(.ref b2)]))
  have fq9 := (fq5.keep K8)
  refine own_retA S8 rfl rfl d2_14 (by decide) (by decide) ?_
  exact ⟨_, rfl, fq9, F8⟩
theorem d1_0 : decode method_2_code 0 = .ok (.iload_n 0, 1) := by decide +kernel
theorem d1_1 : decode method_2_code 1 = .ok (.ifCond .ge 9, 3) := by decide +kernel
theorem d1_4 : decode method_2_code 4 = .ok (.iload_n 0, 1) := by decide +kernel
theorem d1_5 : decode method_2_code 5 = .ok (.ldc 7, 2) := by decide +kernel
theorem d1_7 : decode method_2_code 7 = .ok (.iand, 1) := by decide +kernel
theorem d1_8 : decode method_2_code 8 = .ok (.i2c, 1) := by decide +kernel
theorem d1_9 : decode method_2_code 9 = .ok (.ireturn, 1) := by decide +kernel
theorem d1_10 : decode method_2_code 10 = .ok (.iload_n 0, 1) := by decide +kernel
theorem d1_11 : decode method_2_code 11 = .ok (.bipush 127, 2) := by decide +kernel
theorem d1_13 : decode method_2_code 13 = .ok (.iand, 1) := by decide +kernel
theorem d1_14 : decode method_2_code 14 = .ok (.i2c, 1) := by decide +kernel
theorem d1_15 : decode method_2_code 15 = .ok (.ireturn, 1) := by decide +kernel
theorem pn1 : plainFor (⟨"com/example/libidem/libidem/protocol/TokenIsValidPinLaw", "ch", "(I)C"⟩ : MethodName) = true := plainFor_of_name (by first | (simp [plainName, overriddenIn]; done) | decide +kernel)
set_option maxRecDepth 65536 in
set_option maxHeartbeats 40000000 in
theorem own_ch (l : Launch) (Z : State) (a0 : Array Value) (hw : ∀ d ∈ tables_1, d.before a0 Z = true) (p1 : Int32) (h0 : Heap) (hO : Ext Z.heap h0) :
    own_C l Z (⟨"com/example/libidem/libidem/protocol/TokenIsValidPinLaw", "ch", "(I)C"⟩ : MethodName) method_2_code 1 (some .char) [] ({ frames := 0, cells := 0, slots := 0, locals := 0 } : Room) [] #[(.int p1)] h0 (fun v h => ∃ x, v = some (.int x) ∧ own_isC x ∧ h0 = h) := by
  refine own_C.of pn1 hO all0 ?_
  intro p e s m below meth c T0 S0
  refine own_F.cast (by first | (simp [entryFrame, mkF, argsToLocals, Value.category]; done) | rfl : entryFrame m #[(.int p1)] 1 = mkF m 0 #[.val (.int p1)] []) ?_
  show own_F _ p e below _ Z _ _ _ _ _ (T0.setTop (mkF m 0 #[.val (.int p1)] []))
  refine own_F.of (fun _ => XS.iloadN S0.here S0.hx rfl (S0.dec d1_0) rfl) ?_
  show own_F _ p e below _ Z _ _ _ _ _ (T0.setTop (mkF m 1 #[.val (.int p1)] [(.int p1)]))
  refine own_if S0 10 d1_1 (by decide) (by decide) (fun (hc1_1 : ¬ (p1 < (0 : Int32))) => ?_) (fun (hc1_1 : p1 < (0 : Int32)) => ?_)
  · show own_F _ p e below _ Z _ _ _ _ _ (T0.setTop (mkF m 10 #[.val (.int p1)] []))
    refine own_F.of (fun _ => XS.iloadN S0.here S0.hx rfl (S0.dec d1_10) rfl) ?_
    refine own_F.of (fun _ => XS.bipush S0.here S0.hx rfl (S0.dec d1_11)) ?_
    show own_F _ p e below _ Z _ _ _ _ _ (T0.setTop (mkF m 13 #[.val (.int p1)] [(.int 127), (.int p1)]))
    refine own_F.of (fun _ => XS.iand S0.here S0.hx rfl (S0.dec d1_13) rfl) ?_
    show own_F _ p e below _ Z _ _ _ _ _ (T0.setTop (mkF m 14 #[.val (.int p1)] [(.int (p1 &&& (127 : Int32)))]))
    refine own_F.of (fun _ => XS.i2c S0.here S0.hx rfl (S0.dec d1_14) rfl) ?_
    show own_F _ p e below _ Z _ _ _ _ _ (T0.setTop (mkF m 15 #[.val (.int p1)] [(.int ((p1 &&& (127 : Int32)).toUInt32.toUInt16.toUInt32.toInt32))]))
    refine own_retZ S0 (by simp) d1_15 (by decide) (by decide) ?_
    exact ⟨_, rfl, own_isC.nar _, rfl⟩
  · show own_F _ p e below _ Z _ _ _ _ _ (T0.setTop (mkF m 4 #[.val (.int p1)] []))
    refine own_F.of (fun _ => XS.iloadN S0.here S0.hx rfl (S0.dec d1_4) rfl) ?_
    show own_F _ p e below _ Z _ _ _ _ _ (T0.setTop (mkF m 5 #[.val (.int p1)] [(.int p1)]))
    refine own_ldcI S0 (own_w hw 90 rfl) d1_5 ?_
    show own_F _ p e below _ Z _ _ _ _ _ (T0.setTop (mkF m 7 #[.val (.int p1)] [(.int 65535), (.int p1)]))
    refine own_F.of (fun _ => XS.iand S0.here S0.hx rfl (S0.dec d1_7) rfl) ?_
    show own_F _ p e below _ Z _ _ _ _ _ (T0.setTop (mkF m 8 #[.val (.int p1)] [(.int (p1 &&& (65535 : Int32)))]))
    refine own_F.of (fun _ => XS.i2c S0.here S0.hx rfl (S0.dec d1_8) rfl) ?_
    show own_F _ p e below _ Z _ _ _ _ _ (T0.setTop (mkF m 9 #[.val (.int p1)] [(.int ((p1 &&& (65535 : Int32)).toUInt32.toUInt16.toUInt32.toInt32))]))
    refine own_retZ S0 (by simp) d1_9 (by decide) (by decide) ?_
    exact ⟨_, rfl, own_isC.nar _, rfl⟩
theorem d11_0 : decode method_3_code 0 = .ok (.iload_n 0, 1) := by decide +kernel
theorem d11_1 : decode method_3_code 1 = .ok (.bipush 48, 2) := by decide +kernel
theorem d11_3 : decode method_3_code 3 = .ok (.if_icmp .lt 11, 3) := by decide +kernel
theorem d11_6 : decode method_3_code 6 = .ok (.iload_n 0, 1) := by decide +kernel
theorem d11_7 : decode method_3_code 7 = .ok (.bipush 57, 2) := by decide +kernel
theorem d11_9 : decode method_3_code 9 = .ok (.if_icmp .gt 5, 3) := by decide +kernel
theorem d11_12 : decode method_3_code 12 = .ok (.iconst 1, 1) := by decide +kernel
theorem d11_13 : decode method_3_code 13 = .ok (.ireturn, 1) := by decide +kernel
theorem d11_14 : decode method_3_code 14 = .ok (.iload_n 0, 1) := by decide +kernel
theorem d11_15 : decode method_3_code 15 = .ok (.bipush 65, 2) := by decide +kernel
theorem d11_17 : decode method_3_code 17 = .ok (.if_icmp .lt 11, 3) := by decide +kernel
theorem d11_20 : decode method_3_code 20 = .ok (.iload_n 0, 1) := by decide +kernel
theorem d11_21 : decode method_3_code 21 = .ok (.bipush 90, 2) := by decide +kernel
theorem d11_23 : decode method_3_code 23 = .ok (.if_icmp .gt 5, 3) := by decide +kernel
theorem d11_26 : decode method_3_code 26 = .ok (.iconst 1, 1) := by decide +kernel
theorem d11_27 : decode method_3_code 27 = .ok (.ireturn, 1) := by decide +kernel
theorem d11_28 : decode method_3_code 28 = .ok (.iload_n 0, 1) := by decide +kernel
theorem d11_29 : decode method_3_code 29 = .ok (.bipush 97, 2) := by decide +kernel
theorem d11_31 : decode method_3_code 31 = .ok (.if_icmp .lt 11, 3) := by decide +kernel
theorem d11_34 : decode method_3_code 34 = .ok (.iload_n 0, 1) := by decide +kernel
theorem d11_35 : decode method_3_code 35 = .ok (.bipush 122, 2) := by decide +kernel
theorem d11_37 : decode method_3_code 37 = .ok (.if_icmp .gt 5, 3) := by decide +kernel
theorem d11_40 : decode method_3_code 40 = .ok (.iconst 1, 1) := by decide +kernel
theorem d11_41 : decode method_3_code 41 = .ok (.ireturn, 1) := by decide +kernel
theorem d11_42 : decode method_3_code 42 = .ok (.iload_n 0, 1) := by decide +kernel
theorem d11_43 : decode method_3_code 43 = .ok (.bipush 33, 2) := by decide +kernel
theorem d11_45 : decode method_3_code 45 = .ok (.if_icmp .eq 87, 3) := by decide +kernel
theorem d11_48 : decode method_3_code 48 = .ok (.iload_n 0, 1) := by decide +kernel
theorem d11_49 : decode method_3_code 49 = .ok (.bipush 35, 2) := by decide +kernel
theorem d11_51 : decode method_3_code 51 = .ok (.if_icmp .eq 81, 3) := by decide +kernel
theorem d11_54 : decode method_3_code 54 = .ok (.iload_n 0, 1) := by decide +kernel
theorem d11_55 : decode method_3_code 55 = .ok (.bipush 36, 2) := by decide +kernel
theorem d11_57 : decode method_3_code 57 = .ok (.if_icmp .eq 75, 3) := by decide +kernel
theorem d11_60 : decode method_3_code 60 = .ok (.iload_n 0, 1) := by decide +kernel
theorem d11_61 : decode method_3_code 61 = .ok (.bipush 37, 2) := by decide +kernel
theorem d11_63 : decode method_3_code 63 = .ok (.if_icmp .eq 69, 3) := by decide +kernel
theorem d11_66 : decode method_3_code 66 = .ok (.iload_n 0, 1) := by decide +kernel
theorem d11_67 : decode method_3_code 67 = .ok (.bipush 38, 2) := by decide +kernel
theorem d11_69 : decode method_3_code 69 = .ok (.if_icmp .eq 63, 3) := by decide +kernel
theorem d11_72 : decode method_3_code 72 = .ok (.iload_n 0, 1) := by decide +kernel
theorem d11_73 : decode method_3_code 73 = .ok (.bipush 39, 2) := by decide +kernel
theorem d11_75 : decode method_3_code 75 = .ok (.if_icmp .eq 57, 3) := by decide +kernel
theorem d11_78 : decode method_3_code 78 = .ok (.iload_n 0, 1) := by decide +kernel
theorem d11_79 : decode method_3_code 79 = .ok (.bipush 42, 2) := by decide +kernel
theorem d11_81 : decode method_3_code 81 = .ok (.if_icmp .eq 51, 3) := by decide +kernel
theorem d11_84 : decode method_3_code 84 = .ok (.iload_n 0, 1) := by decide +kernel
theorem d11_85 : decode method_3_code 85 = .ok (.bipush 43, 2) := by decide +kernel
theorem d11_87 : decode method_3_code 87 = .ok (.if_icmp .eq 45, 3) := by decide +kernel
theorem d11_90 : decode method_3_code 90 = .ok (.iload_n 0, 1) := by decide +kernel
theorem d11_91 : decode method_3_code 91 = .ok (.bipush 45, 2) := by decide +kernel
theorem d11_93 : decode method_3_code 93 = .ok (.if_icmp .eq 39, 3) := by decide +kernel
theorem d11_96 : decode method_3_code 96 = .ok (.iload_n 0, 1) := by decide +kernel
theorem d11_97 : decode method_3_code 97 = .ok (.bipush 46, 2) := by decide +kernel
theorem d11_99 : decode method_3_code 99 = .ok (.if_icmp .eq 33, 3) := by decide +kernel
theorem d11_102 : decode method_3_code 102 = .ok (.iload_n 0, 1) := by decide +kernel
theorem d11_103 : decode method_3_code 103 = .ok (.bipush 94, 2) := by decide +kernel
theorem d11_105 : decode method_3_code 105 = .ok (.if_icmp .eq 27, 3) := by decide +kernel
theorem d11_108 : decode method_3_code 108 = .ok (.iload_n 0, 1) := by decide +kernel
theorem d11_109 : decode method_3_code 109 = .ok (.bipush 95, 2) := by decide +kernel
theorem d11_111 : decode method_3_code 111 = .ok (.if_icmp .eq 21, 3) := by decide +kernel
theorem d11_114 : decode method_3_code 114 = .ok (.iload_n 0, 1) := by decide +kernel
theorem d11_115 : decode method_3_code 115 = .ok (.bipush 96, 2) := by decide +kernel
theorem d11_117 : decode method_3_code 117 = .ok (.if_icmp .eq 15, 3) := by decide +kernel
theorem d11_120 : decode method_3_code 120 = .ok (.iload_n 0, 1) := by decide +kernel
theorem d11_121 : decode method_3_code 121 = .ok (.bipush 124, 2) := by decide +kernel
theorem d11_123 : decode method_3_code 123 = .ok (.if_icmp .eq 9, 3) := by decide +kernel
theorem d11_126 : decode method_3_code 126 = .ok (.iload_n 0, 1) := by decide +kernel
theorem d11_127 : decode method_3_code 127 = .ok (.bipush 126, 2) := by decide +kernel
theorem d11_129 : decode method_3_code 129 = .ok (.if_icmp .ne 7, 3) := by decide +kernel
theorem d11_132 : decode method_3_code 132 = .ok (.iconst 1, 1) := by decide +kernel
theorem d11_133 : decode method_3_code 133 = .ok (.goto 4, 3) := by decide +kernel
theorem d11_136 : decode method_3_code 136 = .ok (.iconst 0, 1) := by decide +kernel
theorem d11_137 : decode method_3_code 137 = .ok (.ireturn, 1) := by decide +kernel
theorem pn11 : plainFor (⟨"com/example/libidem/libidem/protocol/TokenIsValidPinLaw", "ref", "(C)Z"⟩ : MethodName) = true := plainFor_of_name (by first | (simp [plainName, overriddenIn]; done) | decide +kernel)
set_option maxRecDepth 65536 in
set_option maxHeartbeats 40000000 in
theorem own_ref (l : Launch) (Z : State) (a0 : Array Value) (hw : ∀ d ∈ tables_1, d.before a0 Z = true) (p1 : Int32) (h0 : Heap) (hO : Ext Z.heap h0) :
    own_C l Z (⟨"com/example/libidem/libidem/protocol/TokenIsValidPinLaw", "ref", "(C)Z"⟩ : MethodName) method_3_code 1 (some .boolean) [] ({ frames := 0, cells := 0, slots := 0, locals := 0 } : Room) [] #[(.int p1)] h0 (fun v h => v = some (.int (own_ex p1)) ∧ h0 = h) := by
  refine own_C.of pn11 hO all0 ?_
  intro p e s m below meth c T0 S0
  refine own_F.cast (by first | (simp [entryFrame, mkF, argsToLocals, Value.category]; done) | rfl : entryFrame m #[(.int p1)] 1 = mkF m 0 #[.val (.int p1)] []) ?_
  have J : own_ex p1 = own_sp p1 → own_F FrameEnd p e below s Z h0 [] ({ frames := 0, cells := 0, slots := 0, locals := 0 } : Room).cells ({ frames := 0, cells := 0, slots := 0, locals := 0 } : Room).slots (fun v h => v = some (.int (own_ex p1)) ∧ h0 = h) (T0.setTop (mkF m 42 #[.val (.int p1)] [])) := by
    intro hJ
    show own_F _ p e below _ Z _ _ _ _ _ (T0.setTop (mkF m 42 #[.val (.int p1)] []))
    refine own_F.of (fun _ => XS.iloadN S0.here S0.hx rfl (S0.dec d11_42) rfl) ?_
    refine own_F.of (fun _ => XS.bipush S0.here S0.hx rfl (S0.dec d11_43)) ?_
    show own_F _ p e below _ Z _ _ _ _ _ (T0.setTop (mkF m 45 #[.val (.int p1)] [(.int 33), (.int p1)]))
    refine own_icmp S0 132 d11_45 (by decide) (by decide) (fun (hc45_1 : p1 = (33 : Int32)) => ?_) (fun (hc45_1 : ¬ (p1 = (33 : Int32))) => ?_)
    · show own_F _ p e below _ Z _ _ _ _ _ (T0.setTop (mkF m 132 #[.val (.int p1)] []))
      refine own_F.of (fun _ => XS.iconst S0.here S0.hx rfl (S0.dec d11_132)) ?_
      show own_F _ p e below _ Z _ _ _ _ _ (T0.setTop (mkF m 133 #[.val (.int p1)] [(.int 1)]))
      refine own_F.of (fun _ => XS.goto S0.here S0.hx rfl (pc0 := 133) (pc' := 137) rfl (S0.dec d11_133) (by decide) (by decide)) ?_
      show own_F _ p e below _ Z _ _ _ _ _ (T0.setTop (mkF m 137 #[.val (.int p1)] [(.int 1)]))
      refine own_retZ S0 (by simp) d11_137 (by decide) (by decide) ?_
      have hh : own_sp p1 = (1 : Int32) := by simp [own_sp, hc45_1]
      rw [hJ, hh]; exact ⟨rfl, rfl⟩
    · show own_F _ p e below _ Z _ _ _ _ _ (T0.setTop (mkF m 48 #[.val (.int p1)] []))
      refine own_F.of (fun _ => XS.iloadN S0.here S0.hx rfl (S0.dec d11_48) rfl) ?_
      refine own_F.of (fun _ => XS.bipush S0.here S0.hx rfl (S0.dec d11_49)) ?_
      show own_F _ p e below _ Z _ _ _ _ _ (T0.setTop (mkF m 51 #[.val (.int p1)] [(.int 35), (.int p1)]))
      refine own_icmp S0 132 d11_51 (by decide) (by decide) (fun (hc51_2 : p1 = (35 : Int32)) => ?_) (fun (hc51_2 : ¬ (p1 = (35 : Int32))) => ?_)
      · show own_F _ p e below _ Z _ _ _ _ _ (T0.setTop (mkF m 132 #[.val (.int p1)] []))
        refine own_F.of (fun _ => XS.iconst S0.here S0.hx rfl (S0.dec d11_132)) ?_
        show own_F _ p e below _ Z _ _ _ _ _ (T0.setTop (mkF m 133 #[.val (.int p1)] [(.int 1)]))
        refine own_F.of (fun _ => XS.goto S0.here S0.hx rfl (pc0 := 133) (pc' := 137) rfl (S0.dec d11_133) (by decide) (by decide)) ?_
        show own_F _ p e below _ Z _ _ _ _ _ (T0.setTop (mkF m 137 #[.val (.int p1)] [(.int 1)]))
        refine own_retZ S0 (by simp) d11_137 (by decide) (by decide) ?_
        have hh : own_sp p1 = (1 : Int32) := by simp [own_sp, hc45_1, hc51_2]
        rw [hJ, hh]; exact ⟨rfl, rfl⟩
      · show own_F _ p e below _ Z _ _ _ _ _ (T0.setTop (mkF m 54 #[.val (.int p1)] []))
        refine own_F.of (fun _ => XS.iloadN S0.here S0.hx rfl (S0.dec d11_54) rfl) ?_
        refine own_F.of (fun _ => XS.bipush S0.here S0.hx rfl (S0.dec d11_55)) ?_
        show own_F _ p e below _ Z _ _ _ _ _ (T0.setTop (mkF m 57 #[.val (.int p1)] [(.int 36), (.int p1)]))
        refine own_icmp S0 132 d11_57 (by decide) (by decide) (fun (hc57_3 : p1 = (36 : Int32)) => ?_) (fun (hc57_3 : ¬ (p1 = (36 : Int32))) => ?_)
        · show own_F _ p e below _ Z _ _ _ _ _ (T0.setTop (mkF m 132 #[.val (.int p1)] []))
          refine own_F.of (fun _ => XS.iconst S0.here S0.hx rfl (S0.dec d11_132)) ?_
          show own_F _ p e below _ Z _ _ _ _ _ (T0.setTop (mkF m 133 #[.val (.int p1)] [(.int 1)]))
          refine own_F.of (fun _ => XS.goto S0.here S0.hx rfl (pc0 := 133) (pc' := 137) rfl (S0.dec d11_133) (by decide) (by decide)) ?_
          show own_F _ p e below _ Z _ _ _ _ _ (T0.setTop (mkF m 137 #[.val (.int p1)] [(.int 1)]))
          refine own_retZ S0 (by simp) d11_137 (by decide) (by decide) ?_
          have hh : own_sp p1 = (1 : Int32) := by simp [own_sp, hc45_1, hc51_2, hc57_3]
          rw [hJ, hh]; exact ⟨rfl, rfl⟩
        · show own_F _ p e below _ Z _ _ _ _ _ (T0.setTop (mkF m 60 #[.val (.int p1)] []))
          refine own_F.of (fun _ => XS.iloadN S0.here S0.hx rfl (S0.dec d11_60) rfl) ?_
          refine own_F.of (fun _ => XS.bipush S0.here S0.hx rfl (S0.dec d11_61)) ?_
          show own_F _ p e below _ Z _ _ _ _ _ (T0.setTop (mkF m 63 #[.val (.int p1)] [(.int 37), (.int p1)]))
          refine own_icmp S0 132 d11_63 (by decide) (by decide) (fun (hc63_4 : p1 = (37 : Int32)) => ?_) (fun (hc63_4 : ¬ (p1 = (37 : Int32))) => ?_)
          · show own_F _ p e below _ Z _ _ _ _ _ (T0.setTop (mkF m 132 #[.val (.int p1)] []))
            refine own_F.of (fun _ => XS.iconst S0.here S0.hx rfl (S0.dec d11_132)) ?_
            show own_F _ p e below _ Z _ _ _ _ _ (T0.setTop (mkF m 133 #[.val (.int p1)] [(.int 1)]))
            refine own_F.of (fun _ => XS.goto S0.here S0.hx rfl (pc0 := 133) (pc' := 137) rfl (S0.dec d11_133) (by decide) (by decide)) ?_
            show own_F _ p e below _ Z _ _ _ _ _ (T0.setTop (mkF m 137 #[.val (.int p1)] [(.int 1)]))
            refine own_retZ S0 (by simp) d11_137 (by decide) (by decide) ?_
            have hh : own_sp p1 = (1 : Int32) := by simp [own_sp, hc45_1, hc51_2, hc57_3, hc63_4]
            rw [hJ, hh]; exact ⟨rfl, rfl⟩
          · show own_F _ p e below _ Z _ _ _ _ _ (T0.setTop (mkF m 66 #[.val (.int p1)] []))
            refine own_F.of (fun _ => XS.iloadN S0.here S0.hx rfl (S0.dec d11_66) rfl) ?_
            refine own_F.of (fun _ => XS.bipush S0.here S0.hx rfl (S0.dec d11_67)) ?_
            show own_F _ p e below _ Z _ _ _ _ _ (T0.setTop (mkF m 69 #[.val (.int p1)] [(.int 38), (.int p1)]))
            refine own_icmp S0 132 d11_69 (by decide) (by decide) (fun (hc69_5 : p1 = (38 : Int32)) => ?_) (fun (hc69_5 : ¬ (p1 = (38 : Int32))) => ?_)
            · show own_F _ p e below _ Z _ _ _ _ _ (T0.setTop (mkF m 132 #[.val (.int p1)] []))
              refine own_F.of (fun _ => XS.iconst S0.here S0.hx rfl (S0.dec d11_132)) ?_
              show own_F _ p e below _ Z _ _ _ _ _ (T0.setTop (mkF m 133 #[.val (.int p1)] [(.int 1)]))
              refine own_F.of (fun _ => XS.goto S0.here S0.hx rfl (pc0 := 133) (pc' := 137) rfl (S0.dec d11_133) (by decide) (by decide)) ?_
              show own_F _ p e below _ Z _ _ _ _ _ (T0.setTop (mkF m 137 #[.val (.int p1)] [(.int 1)]))
              refine own_retZ S0 (by simp) d11_137 (by decide) (by decide) ?_
              have hh : own_sp p1 = (1 : Int32) := by simp [own_sp, hc45_1, hc51_2, hc57_3, hc63_4, hc69_5]
              rw [hJ, hh]; exact ⟨rfl, rfl⟩
            · show own_F _ p e below _ Z _ _ _ _ _ (T0.setTop (mkF m 72 #[.val (.int p1)] []))
              refine own_F.of (fun _ => XS.iloadN S0.here S0.hx rfl (S0.dec d11_72) rfl) ?_
              refine own_F.of (fun _ => XS.bipush S0.here S0.hx rfl (S0.dec d11_73)) ?_
              show own_F _ p e below _ Z _ _ _ _ _ (T0.setTop (mkF m 75 #[.val (.int p1)] [(.int 39), (.int p1)]))
              refine own_icmp S0 132 d11_75 (by decide) (by decide) (fun (hc75_6 : p1 = (39 : Int32)) => ?_) (fun (hc75_6 : ¬ (p1 = (39 : Int32))) => ?_)
              · show own_F _ p e below _ Z _ _ _ _ _ (T0.setTop (mkF m 132 #[.val (.int p1)] []))
                refine own_F.of (fun _ => XS.iconst S0.here S0.hx rfl (S0.dec d11_132)) ?_
                show own_F _ p e below _ Z _ _ _ _ _ (T0.setTop (mkF m 133 #[.val (.int p1)] [(.int 1)]))
                refine own_F.of (fun _ => XS.goto S0.here S0.hx rfl (pc0 := 133) (pc' := 137) rfl (S0.dec d11_133) (by decide) (by decide)) ?_
                show own_F _ p e below _ Z _ _ _ _ _ (T0.setTop (mkF m 137 #[.val (.int p1)] [(.int 1)]))
                refine own_retZ S0 (by simp) d11_137 (by decide) (by decide) ?_
                have hh : own_sp p1 = (1 : Int32) := by simp [own_sp, hc45_1, hc51_2, hc57_3, hc63_4, hc69_5, hc75_6]
                rw [hJ, hh]; exact ⟨rfl, rfl⟩
              · show own_F _ p e below _ Z _ _ _ _ _ (T0.setTop (mkF m 78 #[.val (.int p1)] []))
                refine own_F.of (fun _ => XS.iloadN S0.here S0.hx rfl (S0.dec d11_78) rfl) ?_
                refine own_F.of (fun _ => XS.bipush S0.here S0.hx rfl (S0.dec d11_79)) ?_
                show own_F _ p e below _ Z _ _ _ _ _ (T0.setTop (mkF m 81 #[.val (.int p1)] [(.int 42), (.int p1)]))
                refine own_icmp S0 132 d11_81 (by decide) (by decide) (fun (hc81_7 : p1 = (42 : Int32)) => ?_) (fun (hc81_7 : ¬ (p1 = (42 : Int32))) => ?_)
                · show own_F _ p e below _ Z _ _ _ _ _ (T0.setTop (mkF m 132 #[.val (.int p1)] []))
                  refine own_F.of (fun _ => XS.iconst S0.here S0.hx rfl (S0.dec d11_132)) ?_
                  show own_F _ p e below _ Z _ _ _ _ _ (T0.setTop (mkF m 133 #[.val (.int p1)] [(.int 1)]))
                  refine own_F.of (fun _ => XS.goto S0.here S0.hx rfl (pc0 := 133) (pc' := 137) rfl (S0.dec d11_133) (by decide) (by decide)) ?_
                  show own_F _ p e below _ Z _ _ _ _ _ (T0.setTop (mkF m 137 #[.val (.int p1)] [(.int 1)]))
                  refine own_retZ S0 (by simp) d11_137 (by decide) (by decide) ?_
                  have hh : own_sp p1 = (1 : Int32) := by simp [own_sp, hc45_1, hc51_2, hc57_3, hc63_4, hc69_5, hc75_6, hc81_7]
                  rw [hJ, hh]; exact ⟨rfl, rfl⟩
                · show own_F _ p e below _ Z _ _ _ _ _ (T0.setTop (mkF m 84 #[.val (.int p1)] []))
                  refine own_F.of (fun _ => XS.iloadN S0.here S0.hx rfl (S0.dec d11_84) rfl) ?_
                  refine own_F.of (fun _ => XS.bipush S0.here S0.hx rfl (S0.dec d11_85)) ?_
                  show own_F _ p e below _ Z _ _ _ _ _ (T0.setTop (mkF m 87 #[.val (.int p1)] [(.int 43), (.int p1)]))
                  refine own_icmp S0 132 d11_87 (by decide) (by decide) (fun (hc87_8 : p1 = (43 : Int32)) => ?_) (fun (hc87_8 : ¬ (p1 = (43 : Int32))) => ?_)
                  · show own_F _ p e below _ Z _ _ _ _ _ (T0.setTop (mkF m 132 #[.val (.int p1)] []))
                    refine own_F.of (fun _ => XS.iconst S0.here S0.hx rfl (S0.dec d11_132)) ?_
                    show own_F _ p e below _ Z _ _ _ _ _ (T0.setTop (mkF m 133 #[.val (.int p1)] [(.int 1)]))
                    refine own_F.of (fun _ => XS.goto S0.here S0.hx rfl (pc0 := 133) (pc' := 137) rfl (S0.dec d11_133) (by decide) (by decide)) ?_
                    show own_F _ p e below _ Z _ _ _ _ _ (T0.setTop (mkF m 137 #[.val (.int p1)] [(.int 1)]))
                    refine own_retZ S0 (by simp) d11_137 (by decide) (by decide) ?_
                    have hh : own_sp p1 = (1 : Int32) := by simp [own_sp, hc45_1, hc51_2, hc57_3, hc63_4, hc69_5, hc75_6, hc81_7, hc87_8]
                    rw [hJ, hh]; exact ⟨rfl, rfl⟩
                  · show own_F _ p e below _ Z _ _ _ _ _ (T0.setTop (mkF m 90 #[.val (.int p1)] []))
                    refine own_F.of (fun _ => XS.iloadN S0.here S0.hx rfl (S0.dec d11_90) rfl) ?_
                    refine own_F.of (fun _ => XS.bipush S0.here S0.hx rfl (S0.dec d11_91)) ?_
                    show own_F _ p e below _ Z _ _ _ _ _ (T0.setTop (mkF m 93 #[.val (.int p1)] [(.int 45), (.int p1)]))
                    refine own_icmp S0 132 d11_93 (by decide) (by decide) (fun (hc93_9 : p1 = (45 : Int32)) => ?_) (fun (hc93_9 : ¬ (p1 = (45 : Int32))) => ?_)
                    · show own_F _ p e below _ Z _ _ _ _ _ (T0.setTop (mkF m 132 #[.val (.int p1)] []))
                      refine own_F.of (fun _ => XS.iconst S0.here S0.hx rfl (S0.dec d11_132)) ?_
                      show own_F _ p e below _ Z _ _ _ _ _ (T0.setTop (mkF m 133 #[.val (.int p1)] [(.int 1)]))
                      refine own_F.of (fun _ => XS.goto S0.here S0.hx rfl (pc0 := 133) (pc' := 137) rfl (S0.dec d11_133) (by decide) (by decide)) ?_
                      show own_F _ p e below _ Z _ _ _ _ _ (T0.setTop (mkF m 137 #[.val (.int p1)] [(.int 1)]))
                      refine own_retZ S0 (by simp) d11_137 (by decide) (by decide) ?_
                      have hh : own_sp p1 = (1 : Int32) := by simp [own_sp, hc45_1, hc51_2, hc57_3, hc63_4, hc69_5, hc75_6, hc81_7, hc87_8, hc93_9]
                      rw [hJ, hh]; exact ⟨rfl, rfl⟩
                    · show own_F _ p e below _ Z _ _ _ _ _ (T0.setTop (mkF m 96 #[.val (.int p1)] []))
                      refine own_F.of (fun _ => XS.iloadN S0.here S0.hx rfl (S0.dec d11_96) rfl) ?_
                      refine own_F.of (fun _ => XS.bipush S0.here S0.hx rfl (S0.dec d11_97)) ?_
                      show own_F _ p e below _ Z _ _ _ _ _ (T0.setTop (mkF m 99 #[.val (.int p1)] [(.int 46), (.int p1)]))
                      refine own_icmp S0 132 d11_99 (by decide) (by decide) (fun (hc99_10 : p1 = (46 : Int32)) => ?_) (fun (hc99_10 : ¬ (p1 = (46 : Int32))) => ?_)
                      · show own_F _ p e below _ Z _ _ _ _ _ (T0.setTop (mkF m 132 #[.val (.int p1)] []))
                        refine own_F.of (fun _ => XS.iconst S0.here S0.hx rfl (S0.dec d11_132)) ?_
                        show own_F _ p e below _ Z _ _ _ _ _ (T0.setTop (mkF m 133 #[.val (.int p1)] [(.int 1)]))
                        refine own_F.of (fun _ => XS.goto S0.here S0.hx rfl (pc0 := 133) (pc' := 137) rfl (S0.dec d11_133) (by decide) (by decide)) ?_
                        show own_F _ p e below _ Z _ _ _ _ _ (T0.setTop (mkF m 137 #[.val (.int p1)] [(.int 1)]))
                        refine own_retZ S0 (by simp) d11_137 (by decide) (by decide) ?_
                        have hh : own_sp p1 = (1 : Int32) := by simp [own_sp, hc45_1, hc51_2, hc57_3, hc63_4, hc69_5, hc75_6, hc81_7, hc87_8, hc93_9, hc99_10]
                        rw [hJ, hh]; exact ⟨rfl, rfl⟩
                      · show own_F _ p e below _ Z _ _ _ _ _ (T0.setTop (mkF m 102 #[.val (.int p1)] []))
                        refine own_F.of (fun _ => XS.iloadN S0.here S0.hx rfl (S0.dec d11_102) rfl) ?_
                        refine own_F.of (fun _ => XS.bipush S0.here S0.hx rfl (S0.dec d11_103)) ?_
                        show own_F _ p e below _ Z _ _ _ _ _ (T0.setTop (mkF m 105 #[.val (.int p1)] [(.int 94), (.int p1)]))
                        refine own_icmp S0 132 d11_105 (by decide) (by decide) (fun (hc105_11 : p1 = (94 : Int32)) => ?_) (fun (hc105_11 : ¬ (p1 = (94 : Int32))) => ?_)
                        · show own_F _ p e below _ Z _ _ _ _ _ (T0.setTop (mkF m 132 #[.val (.int p1)] []))
                          refine own_F.of (fun _ => XS.iconst S0.here S0.hx rfl (S0.dec d11_132)) ?_
                          show own_F _ p e below _ Z _ _ _ _ _ (T0.setTop (mkF m 133 #[.val (.int p1)] [(.int 1)]))
                          refine own_F.of (fun _ => XS.goto S0.here S0.hx rfl (pc0 := 133) (pc' := 137) rfl (S0.dec d11_133) (by decide) (by decide)) ?_
                          show own_F _ p e below _ Z _ _ _ _ _ (T0.setTop (mkF m 137 #[.val (.int p1)] [(.int 1)]))
                          refine own_retZ S0 (by simp) d11_137 (by decide) (by decide) ?_
                          have hh : own_sp p1 = (1 : Int32) := by simp [own_sp, hc45_1, hc51_2, hc57_3, hc63_4, hc69_5, hc75_6, hc81_7, hc87_8, hc93_9, hc99_10, hc105_11]
                          rw [hJ, hh]; exact ⟨rfl, rfl⟩
                        · show own_F _ p e below _ Z _ _ _ _ _ (T0.setTop (mkF m 108 #[.val (.int p1)] []))
                          refine own_F.of (fun _ => XS.iloadN S0.here S0.hx rfl (S0.dec d11_108) rfl) ?_
                          refine own_F.of (fun _ => XS.bipush S0.here S0.hx rfl (S0.dec d11_109)) ?_
                          show own_F _ p e below _ Z _ _ _ _ _ (T0.setTop (mkF m 111 #[.val (.int p1)] [(.int 95), (.int p1)]))
                          refine own_icmp S0 132 d11_111 (by decide) (by decide) (fun (hc111_12 : p1 = (95 : Int32)) => ?_) (fun (hc111_12 : ¬ (p1 = (95 : Int32))) => ?_)
                          · show own_F _ p e below _ Z _ _ _ _ _ (T0.setTop (mkF m 132 #[.val (.int p1)] []))
                            refine own_F.of (fun _ => XS.iconst S0.here S0.hx rfl (S0.dec d11_132)) ?_
                            show own_F _ p e below _ Z _ _ _ _ _ (T0.setTop (mkF m 133 #[.val (.int p1)] [(.int 1)]))
                            refine own_F.of (fun _ => XS.goto S0.here S0.hx rfl (pc0 := 133) (pc' := 137) rfl (S0.dec d11_133) (by decide) (by decide)) ?_
                            show own_F _ p e below _ Z _ _ _ _ _ (T0.setTop (mkF m 137 #[.val (.int p1)] [(.int 1)]))
                            refine own_retZ S0 (by simp) d11_137 (by decide) (by decide) ?_
                            have hh : own_sp p1 = (1 : Int32) := by simp [own_sp, hc45_1, hc51_2, hc57_3, hc63_4, hc69_5, hc75_6, hc81_7, hc87_8, hc93_9, hc99_10, hc105_11, hc111_12]
                            rw [hJ, hh]; exact ⟨rfl, rfl⟩
                          · show own_F _ p e below _ Z _ _ _ _ _ (T0.setTop (mkF m 114 #[.val (.int p1)] []))
                            refine own_F.of (fun _ => XS.iloadN S0.here S0.hx rfl (S0.dec d11_114) rfl) ?_
                            refine own_F.of (fun _ => XS.bipush S0.here S0.hx rfl (S0.dec d11_115)) ?_
                            show own_F _ p e below _ Z _ _ _ _ _ (T0.setTop (mkF m 117 #[.val (.int p1)] [(.int 96), (.int p1)]))
                            refine own_icmp S0 132 d11_117 (by decide) (by decide) (fun (hc117_13 : p1 = (96 : Int32)) => ?_) (fun (hc117_13 : ¬ (p1 = (96 : Int32))) => ?_)
                            · show own_F _ p e below _ Z _ _ _ _ _ (T0.setTop (mkF m 132 #[.val (.int p1)] []))
                              refine own_F.of (fun _ => XS.iconst S0.here S0.hx rfl (S0.dec d11_132)) ?_
                              show own_F _ p e below _ Z _ _ _ _ _ (T0.setTop (mkF m 133 #[.val (.int p1)] [(.int 1)]))
                              refine own_F.of (fun _ => XS.goto S0.here S0.hx rfl (pc0 := 133) (pc' := 137) rfl (S0.dec d11_133) (by decide) (by decide)) ?_
                              show own_F _ p e below _ Z _ _ _ _ _ (T0.setTop (mkF m 137 #[.val (.int p1)] [(.int 1)]))
                              refine own_retZ S0 (by simp) d11_137 (by decide) (by decide) ?_
                              have hh : own_sp p1 = (1 : Int32) := by simp [own_sp, hc45_1, hc51_2, hc57_3, hc63_4, hc69_5, hc75_6, hc81_7, hc87_8, hc93_9, hc99_10, hc105_11, hc111_12, hc117_13]
                              rw [hJ, hh]; exact ⟨rfl, rfl⟩
                            · show own_F _ p e below _ Z _ _ _ _ _ (T0.setTop (mkF m 120 #[.val (.int p1)] []))
                              refine own_F.of (fun _ => XS.iloadN S0.here S0.hx rfl (S0.dec d11_120) rfl) ?_
                              refine own_F.of (fun _ => XS.bipush S0.here S0.hx rfl (S0.dec d11_121)) ?_
                              show own_F _ p e below _ Z _ _ _ _ _ (T0.setTop (mkF m 123 #[.val (.int p1)] [(.int 124), (.int p1)]))
                              refine own_icmp S0 132 d11_123 (by decide) (by decide) (fun (hc123_14 : p1 = (124 : Int32)) => ?_) (fun (hc123_14 : ¬ (p1 = (124 : Int32))) => ?_)
                              · show own_F _ p e below _ Z _ _ _ _ _ (T0.setTop (mkF m 132 #[.val (.int p1)] []))
                                refine own_F.of (fun _ => XS.iconst S0.here S0.hx rfl (S0.dec d11_132)) ?_
                                show own_F _ p e below _ Z _ _ _ _ _ (T0.setTop (mkF m 133 #[.val (.int p1)] [(.int 1)]))
                                refine own_F.of (fun _ => XS.goto S0.here S0.hx rfl (pc0 := 133) (pc' := 137) rfl (S0.dec d11_133) (by decide) (by decide)) ?_
                                show own_F _ p e below _ Z _ _ _ _ _ (T0.setTop (mkF m 137 #[.val (.int p1)] [(.int 1)]))
                                refine own_retZ S0 (by simp) d11_137 (by decide) (by decide) ?_
                                have hh : own_sp p1 = (1 : Int32) := by simp [own_sp, hc45_1, hc51_2, hc57_3, hc63_4, hc69_5, hc75_6, hc81_7, hc87_8, hc93_9, hc99_10, hc105_11, hc111_12, hc117_13, hc123_14]
                                rw [hJ, hh]; exact ⟨rfl, rfl⟩
                              · show own_F _ p e below _ Z _ _ _ _ _ (T0.setTop (mkF m 126 #[.val (.int p1)] []))
                                refine own_F.of (fun _ => XS.iloadN S0.here S0.hx rfl (S0.dec d11_126) rfl) ?_
                                refine own_F.of (fun _ => XS.bipush S0.here S0.hx rfl (S0.dec d11_127)) ?_
                                show own_F _ p e below _ Z _ _ _ _ _ (T0.setTop (mkF m 129 #[.val (.int p1)] [(.int 126), (.int p1)]))
                                refine own_icmp S0 136 d11_129 (by decide) (by decide) (fun (hc129_15 : ¬ (p1 = (126 : Int32))) => ?_) (fun (hc129_15 : p1 = (126 : Int32)) => ?_)
                                · show own_F _ p e below _ Z _ _ _ _ _ (T0.setTop (mkF m 136 #[.val (.int p1)] []))
                                  refine own_F.of (fun _ => XS.iconst S0.here S0.hx rfl (S0.dec d11_136)) ?_
                                  show own_F _ p e below _ Z _ _ _ _ _ (T0.setTop (mkF m 137 #[.val (.int p1)] [(.int 0)]))
                                  refine own_retZ S0 (by simp) d11_137 (by decide) (by decide) ?_
                                  have hh : own_sp p1 = (0 : Int32) := by simp [own_sp, hc45_1, hc51_2, hc57_3, hc63_4, hc69_5, hc75_6, hc81_7, hc87_8, hc93_9, hc99_10, hc105_11, hc111_12, hc117_13, hc123_14, hc129_15]
                                  rw [hJ, hh]; exact ⟨rfl, rfl⟩
                                · show own_F _ p e below _ Z _ _ _ _ _ (T0.setTop (mkF m 132 #[.val (.int p1)] []))
                                  refine own_F.of (fun _ => XS.iconst S0.here S0.hx rfl (S0.dec d11_132)) ?_
                                  show own_F _ p e below _ Z _ _ _ _ _ (T0.setTop (mkF m 133 #[.val (.int p1)] [(.int 1)]))
                                  refine own_F.of (fun _ => XS.goto S0.here S0.hx rfl (pc0 := 133) (pc' := 137) rfl (S0.dec d11_133) (by decide) (by decide)) ?_
                                  show own_F _ p e below _ Z _ _ _ _ _ (T0.setTop (mkF m 137 #[.val (.int p1)] [(.int 1)]))
                                  refine own_retZ S0 (by simp) d11_137 (by decide) (by decide) ?_
                                  have hh : own_sp p1 = (1 : Int32) := by simp [own_sp, hc45_1, hc51_2, hc57_3, hc63_4, hc69_5, hc75_6, hc81_7, hc87_8, hc93_9, hc99_10, hc105_11, hc111_12, hc117_13, hc123_14, hc129_15]
                                  rw [hJ, hh]; exact ⟨rfl, rfl⟩
  show own_F _ p e below _ Z _ _ _ _ _ (T0.setTop (mkF m 0 #[.val (.int p1)] []))
  refine own_F.of (fun _ => XS.iloadN S0.here S0.hx rfl (S0.dec d11_0) rfl) ?_
  refine own_F.of (fun _ => XS.bipush S0.here S0.hx rfl (S0.dec d11_1)) ?_
  show own_F _ p e below _ Z _ _ _ _ _ (T0.setTop (mkF m 3 #[.val (.int p1)] [(.int 48), (.int p1)]))
  refine own_icmp S0 14 d11_3 (by decide) (by decide) (fun (hc3_16 : p1 < (48 : Int32)) => ?_) (fun (hc3_16 : ¬ (p1 < (48 : Int32))) => ?_)
  · show own_F _ p e below _ Z _ _ _ _ _ (T0.setTop (mkF m 14 #[.val (.int p1)] []))
    refine own_F.of (fun _ => XS.iloadN S0.here S0.hx rfl (S0.dec d11_14) rfl) ?_
    refine own_F.of (fun _ => XS.bipush S0.here S0.hx rfl (S0.dec d11_15)) ?_
    show own_F _ p e below _ Z _ _ _ _ _ (T0.setTop (mkF m 17 #[.val (.int p1)] [(.int 65), (.int p1)]))
    refine own_icmp S0 28 d11_17 (by decide) (by decide) (fun (hc17_17 : p1 < (65 : Int32)) => ?_) (fun (hc17_17 : ¬ (p1 < (65 : Int32))) => False.elim (hc17_17 (Int32.lt_trans hc3_16 (by decide))))
    show own_F _ p e below _ Z _ _ _ _ _ (T0.setTop (mkF m 28 #[.val (.int p1)] []))
    refine own_F.of (fun _ => XS.iloadN S0.here S0.hx rfl (S0.dec d11_28) rfl) ?_
    refine own_F.of (fun _ => XS.bipush S0.here S0.hx rfl (S0.dec d11_29)) ?_
    show own_F _ p e below _ Z _ _ _ _ _ (T0.setTop (mkF m 31 #[.val (.int p1)] [(.int 97), (.int p1)]))
    refine own_icmp S0 42 d11_31 (by decide) (by decide) (fun (hc31_18 : p1 < (97 : Int32)) => ?_) (fun (hc31_18 : ¬ (p1 < (97 : Int32))) => False.elim (hc31_18 (Int32.lt_trans hc3_16 (by decide))))
    show own_F _ p e below _ Z _ _ _ _ _ (T0.setTop (mkF m 42 #[.val (.int p1)] []))
    exact J (by simp [own_ex, hc3_16, (Int32.lt_trans hc3_16 (by decide) : p1 < 97), (Int32.lt_trans hc3_16 (by decide) : p1 < 65)])
  · show own_F _ p e below _ Z _ _ _ _ _ (T0.setTop (mkF m 6 #[.val (.int p1)] []))
    refine own_F.of (fun _ => XS.iloadN S0.here S0.hx rfl (S0.dec d11_6) rfl) ?_
    refine own_F.of (fun _ => XS.bipush S0.here S0.hx rfl (S0.dec d11_7)) ?_
    show own_F _ p e below _ Z _ _ _ _ _ (T0.setTop (mkF m 9 #[.val (.int p1)] [(.int 57), (.int p1)]))
    refine own_icmp S0 14 d11_9 (by decide) (by decide) (fun (hc9_19 : (57 : Int32) < p1) => ?_) (fun (hc9_19 : ¬ ((57 : Int32) < p1)) => ?_)
    · show own_F _ p e below _ Z _ _ _ _ _ (T0.setTop (mkF m 14 #[.val (.int p1)] []))
      refine own_F.of (fun _ => XS.iloadN S0.here S0.hx rfl (S0.dec d11_14) rfl) ?_
      refine own_F.of (fun _ => XS.bipush S0.here S0.hx rfl (S0.dec d11_15)) ?_
      show own_F _ p e below _ Z _ _ _ _ _ (T0.setTop (mkF m 17 #[.val (.int p1)] [(.int 65), (.int p1)]))
      refine own_icmp S0 28 d11_17 (by decide) (by decide) (fun (hc17_20 : p1 < (65 : Int32)) => ?_) (fun (hc17_20 : ¬ (p1 < (65 : Int32))) => ?_)
      · show own_F _ p e below _ Z _ _ _ _ _ (T0.setTop (mkF m 28 #[.val (.int p1)] []))
        refine own_F.of (fun _ => XS.iloadN S0.here S0.hx rfl (S0.dec d11_28) rfl) ?_
        refine own_F.of (fun _ => XS.bipush S0.here S0.hx rfl (S0.dec d11_29)) ?_
        show own_F _ p e below _ Z _ _ _ _ _ (T0.setTop (mkF m 31 #[.val (.int p1)] [(.int 97), (.int p1)]))
        refine own_icmp S0 42 d11_31 (by decide) (by decide) (fun (hc31_21 : p1 < (97 : Int32)) => ?_) (fun (hc31_21 : ¬ (p1 < (97 : Int32))) => False.elim (hc31_21 (Int32.lt_trans hc17_20 (by decide))))
        show own_F _ p e below _ Z _ _ _ _ _ (T0.setTop (mkF m 42 #[.val (.int p1)] []))
        exact J (by simp [own_ex, hc3_16, hc9_19, hc17_20, (Int32.lt_trans hc17_20 (by decide) : p1 < 97)])
      · show own_F _ p e below _ Z _ _ _ _ _ (T0.setTop (mkF m 20 #[.val (.int p1)] []))
        refine own_F.of (fun _ => XS.iloadN S0.here S0.hx rfl (S0.dec d11_20) rfl) ?_
        refine own_F.of (fun _ => XS.bipush S0.here S0.hx rfl (S0.dec d11_21)) ?_
        show own_F _ p e below _ Z _ _ _ _ _ (T0.setTop (mkF m 23 #[.val (.int p1)] [(.int 90), (.int p1)]))
        refine own_icmp S0 28 d11_23 (by decide) (by decide) (fun (hc23_22 : (90 : Int32) < p1) => ?_) (fun (hc23_22 : ¬ ((90 : Int32) < p1)) => ?_)
        · show own_F _ p e below _ Z _ _ _ _ _ (T0.setTop (mkF m 28 #[.val (.int p1)] []))
          refine own_F.of (fun _ => XS.iloadN S0.here S0.hx rfl (S0.dec d11_28) rfl) ?_
          refine own_F.of (fun _ => XS.bipush S0.here S0.hx rfl (S0.dec d11_29)) ?_
          show own_F _ p e below _ Z _ _ _ _ _ (T0.setTop (mkF m 31 #[.val (.int p1)] [(.int 97), (.int p1)]))
          refine own_icmp S0 42 d11_31 (by decide) (by decide) (fun (hc31_23 : p1 < (97 : Int32)) => ?_) (fun (hc31_23 : ¬ (p1 < (97 : Int32))) => ?_)
          · show own_F _ p e below _ Z _ _ _ _ _ (T0.setTop (mkF m 42 #[.val (.int p1)] []))
            exact J (by simp [own_ex, hc3_16, hc9_19, hc17_20, hc23_22, hc31_23])
          · show own_F _ p e below _ Z _ _ _ _ _ (T0.setTop (mkF m 34 #[.val (.int p1)] []))
            refine own_F.of (fun _ => XS.iloadN S0.here S0.hx rfl (S0.dec d11_34) rfl) ?_
            refine own_F.of (fun _ => XS.bipush S0.here S0.hx rfl (S0.dec d11_35)) ?_
            show own_F _ p e below _ Z _ _ _ _ _ (T0.setTop (mkF m 37 #[.val (.int p1)] [(.int 122), (.int p1)]))
            refine own_icmp S0 42 d11_37 (by decide) (by decide) (fun (hc37_24 : (122 : Int32) < p1) => ?_) (fun (hc37_24 : ¬ ((122 : Int32) < p1)) => ?_)
            · show own_F _ p e below _ Z _ _ _ _ _ (T0.setTop (mkF m 42 #[.val (.int p1)] []))
              exact J (by simp [own_ex, hc3_16, hc9_19, hc17_20, hc23_22, hc31_23, hc37_24])
            · show own_F _ p e below _ Z _ _ _ _ _ (T0.setTop (mkF m 40 #[.val (.int p1)] []))
              refine own_F.of (fun _ => XS.iconst S0.here S0.hx rfl (S0.dec d11_40)) ?_
              show own_F _ p e below _ Z _ _ _ _ _ (T0.setTop (mkF m 41 #[.val (.int p1)] [(.int 1)]))
              refine own_retZ S0 (by simp) d11_41 (by decide) (by decide) ?_
              have hh : own_ex p1 = (1 : Int32) := by simp [own_ex, hc3_16, hc9_19, hc17_20, hc23_22, hc31_23, hc37_24]
              rw [hh]; exact ⟨rfl, rfl⟩
        · show own_F _ p e below _ Z _ _ _ _ _ (T0.setTop (mkF m 26 #[.val (.int p1)] []))
          refine own_F.of (fun _ => XS.iconst S0.here S0.hx rfl (S0.dec d11_26)) ?_
          show own_F _ p e below _ Z _ _ _ _ _ (T0.setTop (mkF m 27 #[.val (.int p1)] [(.int 1)]))
          refine own_retZ S0 (by simp) d11_27 (by decide) (by decide) ?_
          have hh : own_ex p1 = (1 : Int32) := by simp [own_ex, hc3_16, hc9_19, hc17_20, hc23_22]
          rw [hh]; exact ⟨rfl, rfl⟩
    · show own_F _ p e below _ Z _ _ _ _ _ (T0.setTop (mkF m 12 #[.val (.int p1)] []))
      refine own_F.of (fun _ => XS.iconst S0.here S0.hx rfl (S0.dec d11_12)) ?_
      show own_F _ p e below _ Z _ _ _ _ _ (T0.setTop (mkF m 13 #[.val (.int p1)] [(.int 1)]))
      refine own_retZ S0 (by simp) d11_13 (by decide) (by decide) ?_
      have hh : own_ex p1 = (1 : Int32) := by simp [own_ex, hc3_16, hc9_19]
      rw [hh]; exact ⟨rfl, rfl⟩
theorem pn0 : plainFor x = true := plainFor_of_name (by first | (simp [plainName, overriddenIn]; done) | decide +kernel)
set_option maxRecDepth 65536 in
set_option maxHeartbeats 40000000 in
theorem own_law (l : Launch) (Z : State) (a0 : Array Value) (hw : ∀ d ∈ tables_1, d.before a0 Z = true) (p0 p1 p2 p3 p4 zc : Int32) (vF : Value) (aT : Addr) (h0 : Heap) (hO : Ext Z.heap h0) (SZ : Sta Z Z.heap "java/lang/String" "COMPACT_STRINGS" "Z" (.int zc)) (hz : ¬ zc = 0) (S_as : Sta Z Z.heap "java/lang/StringUTF16" "$assertionsDisabled" "Z" (.int 1)) (S_hi : Sta Z Z.heap "java/lang/StringUTF16" "HI_BYTE_SHIFT" "I" (.int 0)) (S_lo : Sta Z Z.heap "java/lang/StringUTF16" "LO_BYTE_SHIFT" "I" (.int 8)) (hvF : vF.isRef = true) (SF : Sta Z Z.heap "jdk/internal/util/Preconditions" "SIOOBE_FORMATTER" "Ljava/util/function/BiFunction;" vF) (ST : Sta Z Z.heap "com/example/libidem/libidem/protocol/Token" "TCHAR" "[Z" (.ref aT)) (AT : own_A Z Z.heap aT .boolean own_tab) :
    own_CW l Z x code maxLocals ret tables_1 room_1 [] #[(.int p0), (.int p1), (.int p2), (.int p3), (.int p4)] h0 (fun vm => CHv Z [("java/lang/String", 7)] vm h0) (fun v _ => v = some (.int 1)) := by
  refine own_CW.of pn0 hO all0 ?_
  intro p e s m below meth c T0 HS S0
  refine own_F.cast (by first | (simp [entryFrame, mkF, argsToLocals, Value.category, maxLocals]; done) | rfl : entryFrame m #[(.int p0), (.int p1), (.int p2), (.int p3), (.int p4)] maxLocals = mkF m 0 #[.val (.int p0), .val (.int p1), .val (.int p2), .val (.int p3), .val (.int p4), .unset, .unset, .unset, .unset, .unset, .unset, .unset] []) ?_
  show own_F _ p e below _ Z _ _ _ _ _ (T0.setTop (mkF m 0 #[.val (.int p0), .val (.int p1), .val (.int p2), .val (.int p3), .val (.int p4), .unset, .unset, .unset, .unset, .unset, .unset, .unset] []))
  refine own_F.of (fun _ => XS.iloadN S0.here S0.hx rfl (S0.dec at_0) rfl) ?_
  show own_F _ p e below _ Z _ _ _ _ _ (T0.setTop (mkF m 1 #[.val (.int p0), .val (.int p1), .val (.int p2), .val (.int p3), .val (.int p4), .unset, .unset, .unset, .unset, .unset, .unset, .unset] [(.int p0)]))
  refine own_ldcI S0 (own_w hw 0 rfl) at_1 ?_
  show own_F _ p e below _ Z _ _ _ _ _ (T0.setTop (mkF m 3 #[.val (.int p0), .val (.int p1), .val (.int p2), .val (.int p3), .val (.int p4), .unset, .unset, .unset, .unset, .unset, .unset, .unset] [(.int 2147483647), (.int p0)]))
  refine own_F.of (fun _ => XS.iand S0.here S0.hx rfl (S0.dec at_3) rfl) ?_
  show own_F _ p e below _ Z _ _ _ _ _ (T0.setTop (mkF m 4 #[.val (.int p0), .val (.int p1), .val (.int p2), .val (.int p3), .val (.int p4), .unset, .unset, .unset, .unset, .unset, .unset, .unset] [(.int (p0 &&& (2147483647 : Int32)))]))
  refine own_F.of (fun _ => XS.iconst S0.here S0.hx rfl (S0.dec at_4)) ?_
  show own_F _ p e below _ Z _ _ _ _ _ (T0.setTop (mkF m 5 #[.val (.int p0), .val (.int p1), .val (.int p2), .val (.int p3), .val (.int p4), .unset, .unset, .unset, .unset, .unset, .unset, .unset] [(.int 5), (.int (p0 &&& (2147483647 : Int32)))]))
  refine own_F.of (fun _ => own_irem S0 at_5 (by decide)) ?_
  show own_F _ p e below _ Z _ _ _ _ _ (T0.setTop (mkF m 6 #[.val (.int p0), .val (.int p1), .val (.int p2), .val (.int p3), .val (.int p4), .unset, .unset, .unset, .unset, .unset, .unset, .unset] [(.int ((p0 &&& (2147483647 : Int32)) % (5 : Int32)))]))
  refine own_F.of (fun _ => XS.istore S0.here S0.hx rfl (S0.dec at_6) rfl (l' := #[.val (.int p0), .val (.int p1), .val (.int p2), .val (.int p3), .val (.int p4), .val (.int ((p0 &&& (2147483647 : Int32)) % (5 : Int32))), .unset, .unset, .unset, .unset, .unset, .unset]) rfl) ?_
  rcases own_mod5 p0 with hn | hn | hn | hn | hn
  · rw [hn]
    show own_F _ p e below _ Z _ _ _ _ _ (T0.setTop (mkF m 8 #[.val (.int p0), .val (.int p1), .val (.int p2), .val (.int p3), .val (.int p4), .val (.int 0), .unset, .unset, .unset, .unset, .unset, .unset] []))
    refine own_F.of (fun _ => XS.iloadN S0.here S0.hx rfl (S0.dec at_8) rfl) ?_
    show own_F _ p e below _ Z _ _ _ _ _ (T0.setTop (mkF m 9 #[.val (.int p0), .val (.int p1), .val (.int p2), .val (.int p3), .val (.int p4), .val (.int 0), .unset, .unset, .unset, .unset, .unset, .unset] [(.int p1)]))
    refine own_callS S0 (y := (⟨"com/example/libidem/libidem/protocol/TokenIsValidPinLaw", "ch", "(I)C"⟩ : MethodName)) (own_w hw 1 rfl) (own_w hw 2 rfl) (own_w hw 3 rfl) (own_w hw 4 rfl) (by decide) (argsL := [(.int p1)]) (rest := []) (own_ch l Z a0 hw p1 h0 S0.old) all0 (by decide +kernel : parseMethodDescriptor "(I)C" = some ⟨[.int], some .char⟩) rfl rfl rfl at_9 (by decide) (Nat.le_of_ble_eq_true rfl) (by decide) (by decide) (fun T1 h1 v1 S1 K1 q1 => ?_)
    obtain ⟨x1, rfl, cx1, rfl⟩ := q1
    show own_F _ p e below _ Z _ _ _ _ _ (T1.setTop (mkF m 12 #[.val (.int p0), .val (.int p1), .val (.int p2), .val (.int p3), .val (.int p4), .val (.int 0), .unset, .unset, .unset, .unset, .unset, .unset] [(.int x1)]))
    refine own_F.of (fun _ => XS.istore S1.here S1.hx rfl (S1.dec at_12) rfl (l' := #[.val (.int p0), .val (.int p1), .val (.int p2), .val (.int p3), .val (.int p4), .val (.int 0), .val (.int x1), .unset, .unset, .unset, .unset, .unset]) rfl) ?_
    refine own_F.of (fun _ => XS.iloadN S1.here S1.hx rfl (S1.dec at_14) rfl) ?_
    show own_F _ p e below _ Z _ _ _ _ _ (T1.setTop (mkF m 15 #[.val (.int p0), .val (.int p1), .val (.int p2), .val (.int p3), .val (.int p4), .val (.int 0), .val (.int x1), .unset, .unset, .unset, .unset, .unset] [(.int p2)]))
    refine own_callS S1 (y := (⟨"com/example/libidem/libidem/protocol/TokenIsValidPinLaw", "ch", "(I)C"⟩ : MethodName)) (own_w hw 1 rfl) (own_w hw 2 rfl) (own_w hw 3 rfl) (own_w hw 4 rfl) (by decide) (argsL := [(.int p2)]) (rest := []) (own_ch l Z a0 hw p2 h0 S1.old) all0 (by decide +kernel : parseMethodDescriptor "(I)C" = some ⟨[.int], some .char⟩) rfl rfl rfl at_15 (by decide) (Nat.le_of_ble_eq_true rfl) (by decide) (by decide) (fun T2 h2 v2 S2 K2 q2 => ?_)
    obtain ⟨x2, rfl, cx2, rfl⟩ := q2
    show own_F _ p e below _ Z _ _ _ _ _ (T2.setTop (mkF m 18 #[.val (.int p0), .val (.int p1), .val (.int p2), .val (.int p3), .val (.int p4), .val (.int 0), .val (.int x1), .unset, .unset, .unset, .unset, .unset] [(.int x2)]))
    refine own_F.of (fun _ => XS.istore S2.here S2.hx rfl (S2.dec at_18) rfl (l' := #[.val (.int p0), .val (.int p1), .val (.int p2), .val (.int p3), .val (.int p4), .val (.int 0), .val (.int x1), .val (.int x2), .unset, .unset, .unset, .unset]) rfl) ?_
    refine own_F.of (fun _ => XS.iloadN S2.here S2.hx rfl (S2.dec at_20) rfl) ?_
    show own_F _ p e below _ Z _ _ _ _ _ (T2.setTop (mkF m 21 #[.val (.int p0), .val (.int p1), .val (.int p2), .val (.int p3), .val (.int p4), .val (.int 0), .val (.int x1), .val (.int x2), .unset, .unset, .unset, .unset] [(.int p3)]))
    refine own_callS S2 (y := (⟨"com/example/libidem/libidem/protocol/TokenIsValidPinLaw", "ch", "(I)C"⟩ : MethodName)) (own_w hw 1 rfl) (own_w hw 2 rfl) (own_w hw 3 rfl) (own_w hw 4 rfl) (by decide) (argsL := [(.int p3)]) (rest := []) (own_ch l Z a0 hw p3 h0 S2.old) all0 (by decide +kernel : parseMethodDescriptor "(I)C" = some ⟨[.int], some .char⟩) rfl rfl rfl at_21 (by decide) (Nat.le_of_ble_eq_true rfl) (by decide) (by decide) (fun T3 h3 v3 S3 K3 q3 => ?_)
    obtain ⟨x3, rfl, cx3, rfl⟩ := q3
    show own_F _ p e below _ Z _ _ _ _ _ (T3.setTop (mkF m 24 #[.val (.int p0), .val (.int p1), .val (.int p2), .val (.int p3), .val (.int p4), .val (.int 0), .val (.int x1), .val (.int x2), .unset, .unset, .unset, .unset] [(.int x3)]))
    refine own_F.of (fun _ => XS.istore S3.here S3.hx rfl (S3.dec at_24) rfl (l' := #[.val (.int p0), .val (.int p1), .val (.int p2), .val (.int p3), .val (.int p4), .val (.int 0), .val (.int x1), .val (.int x2), .val (.int x3), .unset, .unset, .unset]) rfl) ?_
    refine own_F.of (fun _ => XS.iload S3.here S3.hx rfl (S3.dec at_26) rfl) ?_
    show own_F _ p e below _ Z _ _ _ _ _ (T3.setTop (mkF m 28 #[.val (.int p0), .val (.int p1), .val (.int p2), .val (.int p3), .val (.int p4), .val (.int 0), .val (.int x1), .val (.int x2), .val (.int x3), .unset, .unset, .unset] [(.int p4)]))
    refine own_callS S3 (y := (⟨"com/example/libidem/libidem/protocol/TokenIsValidPinLaw", "ch", "(I)C"⟩ : MethodName)) (own_w hw 1 rfl) (own_w hw 2 rfl) (own_w hw 3 rfl) (own_w hw 4 rfl) (by decide) (argsL := [(.int p4)]) (rest := []) (own_ch l Z a0 hw p4 h0 S3.old) all0 (by decide +kernel : parseMethodDescriptor "(I)C" = some ⟨[.int], some .char⟩) rfl rfl rfl at_28 (by decide) (Nat.le_of_ble_eq_true rfl) (by decide) (by decide) (fun T4 h4 v4 S4 K4 q4 => ?_)
    obtain ⟨x4, rfl, cx4, rfl⟩ := q4
    show own_F _ p e below _ Z _ _ _ _ _ (T4.setTop (mkF m 31 #[.val (.int p0), .val (.int p1), .val (.int p2), .val (.int p3), .val (.int p4), .val (.int 0), .val (.int x1), .val (.int x2), .val (.int x3), .unset, .unset, .unset] [(.int x4)]))
    refine own_F.of (fun _ => XS.istore S4.here S4.hx rfl (S4.dec at_31) rfl (l' := #[.val (.int p0), .val (.int p1), .val (.int p2), .val (.int p3), .val (.int p4), .val (.int 0), .val (.int x1), .val (.int x2), .val (.int x3), .val (.int x4), .unset, .unset]) rfl) ?_
    refine own_F.of (fun _ => XS.iload S4.here S4.hx rfl (S4.dec at_33) rfl) ?_
    refine own_F.of (fun _ => XS.iload S4.here S4.hx rfl (S4.dec at_35) rfl) ?_
    refine own_F.of (fun _ => XS.iload S4.here S4.hx rfl (S4.dec at_37) rfl) ?_
    refine own_F.of (fun _ => XS.iload S4.here S4.hx rfl (S4.dec at_39) rfl) ?_
    refine own_F.of (fun _ => XS.iload S4.here S4.hx rfl (S4.dec at_41) rfl) ?_
    show own_F _ p e below _ Z _ _ _ _ _ (T4.setTop (mkF m 43 #[.val (.int p0), .val (.int p1), .val (.int p2), .val (.int p3), .val (.int p4), .val (.int 0), .val (.int x1), .val (.int x2), .val (.int x3), .val (.int x4), .unset, .unset] [(.int x4), (.int x3), (.int x2), (.int x1), (.int 0)]))
    refine own_callSW S4 (HH := fun vm => CHv Z [("java/lang/String", 7)] vm h0) (fun _ q => own_CHw S4 (own_EW a0 hw) HS q) (y := (⟨"com/example/libidem/libidem/protocol/TokenIsValidPinLaw", "str", "(ICCCC)Ljava/lang/String;"⟩ : MethodName)) (own_w hw 5 rfl) (own_w hw 6 rfl) (own_w hw 3 rfl) (own_w hw 7 rfl) (by decide) (argsL := [(.int (0 : Int32)), (.int x1), (.int x2), (.int x3), (.int x4)]) (rest := []) (own_stN0 l Z a0 hw x1 x2 x3 x4 h0 S4.old) all0 (by decide +kernel : parseMethodDescriptor "(ICCCC)Ljava/lang/String;" = some ⟨[.int, .char, .char, .char, .char], some (.object "java/lang/String")⟩) rfl rfl rfl at_43 (by decide) (Nat.le_of_ble_eq_true rfl) (by decide) (by decide) (fun T5 h5 v5 S5 K5 q5 => ?_)
    obtain ⟨b5, rfl, X5, d5, V5, F5, A5⟩ := q5
    show own_F _ p e below _ Z _ _ _ _ _ (T5.setTop (mkF m 46 #[.val (.int p0), .val (.int p1), .val (.int p2), .val (.int p3), .val (.int p4), .val (.int 0), .val (.int x1), .val (.int x2), .val (.int x3), .val (.int x4), .unset, .unset] [(.ref b5)]))
    refine own_F.of (fun _ => XS.astore S5.here S5.hx rfl (S5.dec at_46) rfl rfl (l' := #[.val (.int p0), .val (.int p1), .val (.int p2), .val (.int p3), .val (.int p4), .val (.int 0), .val (.int x1), .val (.int x2), .val (.int x3), .val (.int x4), .val (.ref b5), .unset]) rfl) ?_
    refine own_F.of (fun _ => XS.iload S5.here S5.hx rfl (S5.dec at_48) rfl) ?_
    refine own_F.of (fun _ => XS.iconst S5.here S5.hx rfl (S5.dec at_50)) ?_
    show own_F _ p e below _ Z _ _ _ _ _ (T5.setTop (mkF m 51 #[.val (.int p0), .val (.int p1), .val (.int p2), .val (.int p3), .val (.int p4), .val (.int 0), .val (.int x1), .val (.int x2), .val (.int x3), .val (.int x4), .val (.ref b5), .unset] [(.int 1), (.int 0)]))
    refine own_icmp S5 58 at_51 (by decide) (by decide) (fun (hc51_6 : (0 : Int32) < (1 : Int32)) => ?_) (fun (hc51_6 : ¬ ((0 : Int32) < (1 : Int32))) => False.elim (absurd hc51_6 (by decide)))
    show own_F _ p e below _ Z _ _ _ _ _ (T5.setTop (mkF m 58 #[.val (.int p0), .val (.int p1), .val (.int p2), .val (.int p3), .val (.int p4), .val (.int 0), .val (.int x1), .val (.int x2), .val (.int x3), .val (.int x4), .val (.ref b5), .unset] []))
    refine own_F.of (fun _ => XS.iconst S5.here S5.hx rfl (S5.dec at_58)) ?_
    show own_F _ p e below _ Z _ _ _ _ _ (T5.setTop (mkF m 59 #[.val (.int p0), .val (.int p1), .val (.int p2), .val (.int p3), .val (.int p4), .val (.int 0), .val (.int x1), .val (.int x2), .val (.int x3), .val (.int x4), .val (.ref b5), .unset] [(.int 0)]))
    refine own_F.of (fun _ => XS.istore S5.here S5.hx rfl (S5.dec at_59) rfl (l' := #[.val (.int p0), .val (.int p1), .val (.int p2), .val (.int p3), .val (.int p4), .val (.int 0), .val (.int x1), .val (.int x2), .val (.int x3), .val (.int x4), .val (.ref b5), .val (.int 0)]) rfl) ?_
    refine own_F.of (fun _ => XS.iload S5.here S5.hx rfl (S5.dec at_61) rfl) ?_
    refine own_F.of (fun _ => XS.iconst S5.here S5.hx rfl (S5.dec at_63)) ?_
    show own_F _ p e below _ Z _ _ _ _ _ (T5.setTop (mkF m 64 #[.val (.int p0), .val (.int p1), .val (.int p2), .val (.int p3), .val (.int p4), .val (.int 0), .val (.int x1), .val (.int x2), .val (.int x3), .val (.int x4), .val (.ref b5), .val (.int 0)] [(.int 1), (.int 0)]))
    refine own_icmp S5 78 at_64 (by decide) (by decide) (fun (hc64_7 : (0 : Int32) < (1 : Int32)) => ?_) (fun (hc64_7 : ¬ ((0 : Int32) < (1 : Int32))) => False.elim (absurd hc64_7 (by decide)))
    show own_F _ p e below _ Z _ _ _ _ _ (T5.setTop (mkF m 78 #[.val (.int p0), .val (.int p1), .val (.int p2), .val (.int p3), .val (.int p4), .val (.int 0), .val (.int x1), .val (.int x2), .val (.int x3), .val (.int x4), .val (.ref b5), .val (.int 0)] []))
    refine own_F.of (fun _ => XS.iload S5.here S5.hx rfl (S5.dec at_78) rfl) ?_
    refine own_F.of (fun _ => XS.iconst S5.here S5.hx rfl (S5.dec at_80)) ?_
    show own_F _ p e below _ Z _ _ _ _ _ (T5.setTop (mkF m 81 #[.val (.int p0), .val (.int p1), .val (.int p2), .val (.int p3), .val (.int p4), .val (.int 0), .val (.int x1), .val (.int x2), .val (.int x3), .val (.int x4), .val (.ref b5), .val (.int 0)] [(.int 2), (.int 0)]))
    refine own_icmp S5 95 at_81 (by decide) (by decide) (fun (hc81_8 : (0 : Int32) < (2 : Int32)) => ?_) (fun (hc81_8 : ¬ ((0 : Int32) < (2 : Int32))) => False.elim (absurd hc81_8 (by decide)))
    show own_F _ p e below _ Z _ _ _ _ _ (T5.setTop (mkF m 95 #[.val (.int p0), .val (.int p1), .val (.int p2), .val (.int p3), .val (.int p4), .val (.int 0), .val (.int x1), .val (.int x2), .val (.int x3), .val (.int x4), .val (.ref b5), .val (.int 0)] []))
    refine own_F.of (fun _ => XS.iload S5.here S5.hx rfl (S5.dec at_95) rfl) ?_
    refine own_F.of (fun _ => XS.iconst S5.here S5.hx rfl (S5.dec at_97)) ?_
    show own_F _ p e below _ Z _ _ _ _ _ (T5.setTop (mkF m 98 #[.val (.int p0), .val (.int p1), .val (.int p2), .val (.int p3), .val (.int p4), .val (.int 0), .val (.int x1), .val (.int x2), .val (.int x3), .val (.int x4), .val (.ref b5), .val (.int 0)] [(.int 3), (.int 0)]))
    refine own_icmp S5 112 at_98 (by decide) (by decide) (fun (hc98_9 : (0 : Int32) < (3 : Int32)) => ?_) (fun (hc98_9 : ¬ ((0 : Int32) < (3 : Int32))) => False.elim (absurd hc98_9 (by decide)))
    show own_F _ p e below _ Z _ _ _ _ _ (T5.setTop (mkF m 112 #[.val (.int p0), .val (.int p1), .val (.int p2), .val (.int p3), .val (.int p4), .val (.int 0), .val (.int x1), .val (.int x2), .val (.int x3), .val (.int x4), .val (.ref b5), .val (.int 0)] []))
    refine own_F.of (fun _ => XS.iload S5.here S5.hx rfl (S5.dec at_112) rfl) ?_
    refine own_F.of (fun _ => XS.iconst S5.here S5.hx rfl (S5.dec at_114)) ?_
    show own_F _ p e below _ Z _ _ _ _ _ (T5.setTop (mkF m 115 #[.val (.int p0), .val (.int p1), .val (.int p2), .val (.int p3), .val (.int p4), .val (.int 0), .val (.int x1), .val (.int x2), .val (.int x3), .val (.int x4), .val (.ref b5), .val (.int 0)] [(.int 4), (.int 0)]))
    refine own_icmp S5 129 at_115 (by decide) (by decide) (fun (hc115_10 : (0 : Int32) < (4 : Int32)) => ?_) (fun (hc115_10 : ¬ ((0 : Int32) < (4 : Int32))) => False.elim (absurd hc115_10 (by decide)))
    show own_F _ p e below _ Z _ _ _ _ _ (T5.setTop (mkF m 129 #[.val (.int p0), .val (.int p1), .val (.int p2), .val (.int p3), .val (.int p4), .val (.int 0), .val (.int x1), .val (.int x2), .val (.int x3), .val (.int x4), .val (.ref b5), .val (.int 0)] []))
    refine own_F.of (fun _ => XS.aload S5.here S5.hx rfl (S5.dec at_129) rfl rfl) ?_
    show own_F _ p e below _ Z _ _ _ _ _ (T5.setTop (mkF m 131 #[.val (.int p0), .val (.int p1), .val (.int p2), .val (.int p3), .val (.int p4), .val (.int 0), .val (.int x1), .val (.int x2), .val (.int x3), .val (.int x4), .val (.ref b5), .val (.int 0)] [(.ref b5)]))
    refine own_callS S5 (y := (⟨"com/example/libidem/libidem/protocol/Token", "isValid", "(Ljava/lang/String;)Z"⟩ : MethodName)) (own_w hw 30 rfl) (own_w hw 31 rfl) (own_w hw 32 rfl) (own_w hw 33 rfl) (by decide) (argsL := [(.ref b5)]) (rest := []) (own_valL0 l Z a0 hw b5 d5 zc vF aT h5 S5.old SZ hz S_as S_hi S_lo hvF SF ST AT X5 V5 F5 A5) all0 (by decide +kernel : parseMethodDescriptor "(Ljava/lang/String;)Z" = some ⟨[(.object "java/lang/String")], some .boolean⟩) rfl rfl rfl at_131 (by decide) (Nat.le_of_ble_eq_true rfl) (by decide) (by decide) (fun T11 h11 v11 S11 K11 q11 => ?_)
    obtain ⟨rfl, rfl⟩ := q11
    show own_F _ p e below _ Z _ _ _ _ _ (T11.setTop (mkF m 134 #[.val (.int p0), .val (.int p1), .val (.int p2), .val (.int p3), .val (.int p4), .val (.int 0), .val (.int x1), .val (.int x2), .val (.int x3), .val (.int x4), .val (.ref b5), .val (.int 0)] [(.int 0)]))
    refine own_F.of (fun _ => XS.iload S11.here S11.hx rfl (S11.dec at_134) rfl) ?_
    show own_F _ p e below _ Z _ _ _ _ _ (T11.setTop (mkF m 136 #[.val (.int p0), .val (.int p1), .val (.int p2), .val (.int p3), .val (.int p4), .val (.int 0), .val (.int x1), .val (.int x2), .val (.int x3), .val (.int x4), .val (.ref b5), .val (.int 0)] [(.int 0), (.int 0)]))
    refine own_icmp S11 143 at_136 (by decide) (by decide) (fun (hc136_12 : ¬ ((0 : Int32) = (0 : Int32))) => False.elim (absurd hc136_12 (by decide))) (fun (hc136_12 : (0 : Int32) = (0 : Int32)) => ?_)
    show own_F _ p e below _ Z _ _ _ _ _ (T11.setTop (mkF m 139 #[.val (.int p0), .val (.int p1), .val (.int p2), .val (.int p3), .val (.int p4), .val (.int 0), .val (.int x1), .val (.int x2), .val (.int x3), .val (.int x4), .val (.ref b5), .val (.int 0)] []))
    refine own_F.of (fun _ => XS.iconst S11.here S11.hx rfl (S11.dec at_139)) ?_
    show own_F _ p e below _ Z _ _ _ _ _ (T11.setTop (mkF m 140 #[.val (.int p0), .val (.int p1), .val (.int p2), .val (.int p3), .val (.int p4), .val (.int 0), .val (.int x1), .val (.int x2), .val (.int x3), .val (.int x4), .val (.ref b5), .val (.int 0)] [(.int 1)]))
    refine own_F.of (fun _ => XS.goto S11.here S11.hx rfl (pc0 := 140) (pc' := 144) rfl (S11.dec at_140) (by decide) (by decide)) ?_
    show own_F _ p e below _ Z _ _ _ _ _ (T11.setTop (mkF m 144 #[.val (.int p0), .val (.int p1), .val (.int p2), .val (.int p3), .val (.int p4), .val (.int 0), .val (.int x1), .val (.int x2), .val (.int x3), .val (.int x4), .val (.ref b5), .val (.int 0)] [(.int 1)]))
    refine own_retZ S11 (by simp) at_144 (by decide) (by decide) ?_
    rfl
  · rw [hn]
    show own_F _ p e below _ Z _ _ _ _ _ (T0.setTop (mkF m 8 #[.val (.int p0), .val (.int p1), .val (.int p2), .val (.int p3), .val (.int p4), .val (.int 1), .unset, .unset, .unset, .unset, .unset, .unset] []))
    refine own_F.of (fun _ => XS.iloadN S0.here S0.hx rfl (S0.dec at_8) rfl) ?_
    show own_F _ p e below _ Z _ _ _ _ _ (T0.setTop (mkF m 9 #[.val (.int p0), .val (.int p1), .val (.int p2), .val (.int p3), .val (.int p4), .val (.int 1), .unset, .unset, .unset, .unset, .unset, .unset] [(.int p1)]))
    refine own_callS S0 (y := (⟨"com/example/libidem/libidem/protocol/TokenIsValidPinLaw", "ch", "(I)C"⟩ : MethodName)) (own_w hw 1 rfl) (own_w hw 2 rfl) (own_w hw 3 rfl) (own_w hw 4 rfl) (by decide) (argsL := [(.int p1)]) (rest := []) (own_ch l Z a0 hw p1 h0 S0.old) all0 (by decide +kernel : parseMethodDescriptor "(I)C" = some ⟨[.int], some .char⟩) rfl rfl rfl at_9 (by decide) (Nat.le_of_ble_eq_true rfl) (by decide) (by decide) (fun T13 h13 v13 S13 K13 q13 => ?_)
    obtain ⟨x13, rfl, cx13, rfl⟩ := q13
    show own_F _ p e below _ Z _ _ _ _ _ (T13.setTop (mkF m 12 #[.val (.int p0), .val (.int p1), .val (.int p2), .val (.int p3), .val (.int p4), .val (.int 1), .unset, .unset, .unset, .unset, .unset, .unset] [(.int x13)]))
    refine own_F.of (fun _ => XS.istore S13.here S13.hx rfl (S13.dec at_12) rfl (l' := #[.val (.int p0), .val (.int p1), .val (.int p2), .val (.int p3), .val (.int p4), .val (.int 1), .val (.int x13), .unset, .unset, .unset, .unset, .unset]) rfl) ?_
    refine own_F.of (fun _ => XS.iloadN S13.here S13.hx rfl (S13.dec at_14) rfl) ?_
    show own_F _ p e below _ Z _ _ _ _ _ (T13.setTop (mkF m 15 #[.val (.int p0), .val (.int p1), .val (.int p2), .val (.int p3), .val (.int p4), .val (.int 1), .val (.int x13), .unset, .unset, .unset, .unset, .unset] [(.int p2)]))
    refine own_callS S13 (y := (⟨"com/example/libidem/libidem/protocol/TokenIsValidPinLaw", "ch", "(I)C"⟩ : MethodName)) (own_w hw 1 rfl) (own_w hw 2 rfl) (own_w hw 3 rfl) (own_w hw 4 rfl) (by decide) (argsL := [(.int p2)]) (rest := []) (own_ch l Z a0 hw p2 h0 S13.old) all0 (by decide +kernel : parseMethodDescriptor "(I)C" = some ⟨[.int], some .char⟩) rfl rfl rfl at_15 (by decide) (Nat.le_of_ble_eq_true rfl) (by decide) (by decide) (fun T14 h14 v14 S14 K14 q14 => ?_)
    obtain ⟨x14, rfl, cx14, rfl⟩ := q14
    show own_F _ p e below _ Z _ _ _ _ _ (T14.setTop (mkF m 18 #[.val (.int p0), .val (.int p1), .val (.int p2), .val (.int p3), .val (.int p4), .val (.int 1), .val (.int x13), .unset, .unset, .unset, .unset, .unset] [(.int x14)]))
    refine own_F.of (fun _ => XS.istore S14.here S14.hx rfl (S14.dec at_18) rfl (l' := #[.val (.int p0), .val (.int p1), .val (.int p2), .val (.int p3), .val (.int p4), .val (.int 1), .val (.int x13), .val (.int x14), .unset, .unset, .unset, .unset]) rfl) ?_
    refine own_F.of (fun _ => XS.iloadN S14.here S14.hx rfl (S14.dec at_20) rfl) ?_
    show own_F _ p e below _ Z _ _ _ _ _ (T14.setTop (mkF m 21 #[.val (.int p0), .val (.int p1), .val (.int p2), .val (.int p3), .val (.int p4), .val (.int 1), .val (.int x13), .val (.int x14), .unset, .unset, .unset, .unset] [(.int p3)]))
    refine own_callS S14 (y := (⟨"com/example/libidem/libidem/protocol/TokenIsValidPinLaw", "ch", "(I)C"⟩ : MethodName)) (own_w hw 1 rfl) (own_w hw 2 rfl) (own_w hw 3 rfl) (own_w hw 4 rfl) (by decide) (argsL := [(.int p3)]) (rest := []) (own_ch l Z a0 hw p3 h0 S14.old) all0 (by decide +kernel : parseMethodDescriptor "(I)C" = some ⟨[.int], some .char⟩) rfl rfl rfl at_21 (by decide) (Nat.le_of_ble_eq_true rfl) (by decide) (by decide) (fun T15 h15 v15 S15 K15 q15 => ?_)
    obtain ⟨x15, rfl, cx15, rfl⟩ := q15
    show own_F _ p e below _ Z _ _ _ _ _ (T15.setTop (mkF m 24 #[.val (.int p0), .val (.int p1), .val (.int p2), .val (.int p3), .val (.int p4), .val (.int 1), .val (.int x13), .val (.int x14), .unset, .unset, .unset, .unset] [(.int x15)]))
    refine own_F.of (fun _ => XS.istore S15.here S15.hx rfl (S15.dec at_24) rfl (l' := #[.val (.int p0), .val (.int p1), .val (.int p2), .val (.int p3), .val (.int p4), .val (.int 1), .val (.int x13), .val (.int x14), .val (.int x15), .unset, .unset, .unset]) rfl) ?_
    refine own_F.of (fun _ => XS.iload S15.here S15.hx rfl (S15.dec at_26) rfl) ?_
    show own_F _ p e below _ Z _ _ _ _ _ (T15.setTop (mkF m 28 #[.val (.int p0), .val (.int p1), .val (.int p2), .val (.int p3), .val (.int p4), .val (.int 1), .val (.int x13), .val (.int x14), .val (.int x15), .unset, .unset, .unset] [(.int p4)]))
    refine own_callS S15 (y := (⟨"com/example/libidem/libidem/protocol/TokenIsValidPinLaw", "ch", "(I)C"⟩ : MethodName)) (own_w hw 1 rfl) (own_w hw 2 rfl) (own_w hw 3 rfl) (own_w hw 4 rfl) (by decide) (argsL := [(.int p4)]) (rest := []) (own_ch l Z a0 hw p4 h0 S15.old) all0 (by decide +kernel : parseMethodDescriptor "(I)C" = some ⟨[.int], some .char⟩) rfl rfl rfl at_28 (by decide) (Nat.le_of_ble_eq_true rfl) (by decide) (by decide) (fun T16 h16 v16 S16 K16 q16 => ?_)
    obtain ⟨x16, rfl, cx16, rfl⟩ := q16
    show own_F _ p e below _ Z _ _ _ _ _ (T16.setTop (mkF m 31 #[.val (.int p0), .val (.int p1), .val (.int p2), .val (.int p3), .val (.int p4), .val (.int 1), .val (.int x13), .val (.int x14), .val (.int x15), .unset, .unset, .unset] [(.int x16)]))
    refine own_F.of (fun _ => XS.istore S16.here S16.hx rfl (S16.dec at_31) rfl (l' := #[.val (.int p0), .val (.int p1), .val (.int p2), .val (.int p3), .val (.int p4), .val (.int 1), .val (.int x13), .val (.int x14), .val (.int x15), .val (.int x16), .unset, .unset]) rfl) ?_
    refine own_F.of (fun _ => XS.iload S16.here S16.hx rfl (S16.dec at_33) rfl) ?_
    refine own_F.of (fun _ => XS.iload S16.here S16.hx rfl (S16.dec at_35) rfl) ?_
    refine own_F.of (fun _ => XS.iload S16.here S16.hx rfl (S16.dec at_37) rfl) ?_
    refine own_F.of (fun _ => XS.iload S16.here S16.hx rfl (S16.dec at_39) rfl) ?_
    refine own_F.of (fun _ => XS.iload S16.here S16.hx rfl (S16.dec at_41) rfl) ?_
    show own_F _ p e below _ Z _ _ _ _ _ (T16.setTop (mkF m 43 #[.val (.int p0), .val (.int p1), .val (.int p2), .val (.int p3), .val (.int p4), .val (.int 1), .val (.int x13), .val (.int x14), .val (.int x15), .val (.int x16), .unset, .unset] [(.int x16), (.int x15), (.int x14), (.int x13), (.int 1)]))
    refine own_callS S16 (y := (⟨"com/example/libidem/libidem/protocol/TokenIsValidPinLaw", "str", "(ICCCC)Ljava/lang/String;"⟩ : MethodName)) (own_w hw 5 rfl) (own_w hw 6 rfl) (own_w hw 3 rfl) (own_w hw 7 rfl) (by decide) (argsL := [(.int (1 : Int32)), (.int x13), (.int x14), (.int x15), (.int x16)]) (rest := []) (own_stN1 l Z a0 hw x13 x14 x15 x16 zc h0 S16.old SZ hz S_as S_hi S_lo) all0 (by decide +kernel : parseMethodDescriptor "(ICCCC)Ljava/lang/String;" = some ⟨[.int, .char, .char, .char, .char], some (.object "java/lang/String")⟩) rfl rfl rfl at_43 (by decide) (Nat.le_of_ble_eq_true rfl) (by decide) (by decide) (fun T17 h17 v17 S17 K17 q17 => ?_)
    obtain ⟨b17, rfl, X17, F17⟩ := q17
    show own_F _ p e below _ Z _ _ _ _ _ (T17.setTop (mkF m 46 #[.val (.int p0), .val (.int p1), .val (.int p2), .val (.int p3), .val (.int p4), .val (.int 1), .val (.int x13), .val (.int x14), .val (.int x15), .val (.int x16), .unset, .unset] [(.ref b17)]))
    refine own_F.of (fun _ => XS.astore S17.here S17.hx rfl (S17.dec at_46) rfl rfl (l' := #[.val (.int p0), .val (.int p1), .val (.int p2), .val (.int p3), .val (.int p4), .val (.int 1), .val (.int x13), .val (.int x14), .val (.int x15), .val (.int x16), .val (.ref b17), .unset]) rfl) ?_
    have J : ∀ (TJ : State) (SJ : own_S Z h0 [] x.cls code maxLocals ret x.name p l e room_1 s m #[.int p0, .int p1, .int p2, .int p3, .int p4] below meth c TJ h17 4 8) (vJ : Int32), vJ = own_al [(nar .char x13)] → own_F ReturnedEndW p e below s Z h0 [] room_1.cells room_1.slots (fun v _ => v = some (.int 1)) (TJ.setTop (mkF m 129 #[.val (.int p0), .val (.int p1), .val (.int p2), .val (.int p3), .val (.int p4), .val (.int (1 : Int32)), .val (.int x13), .val (.int x14), .val (.int x15), .val (.int x16), .val (.ref b17), .val (.int vJ)] [])) := by
      intro TJ SJ vJ hJ
      show own_F _ p e below _ Z _ _ _ _ _ (TJ.setTop (mkF m 129 #[.val (.int p0), .val (.int p1), .val (.int p2), .val (.int p3), .val (.int p4), .val (.int 1), .val (.int x13), .val (.int x14), .val (.int x15), .val (.int x16), .val (.ref b17), .val (.int vJ)] []))
      refine own_F.of (fun _ => XS.aload SJ.here SJ.hx rfl (SJ.dec at_129) rfl rfl) ?_
      show own_F _ p e below _ Z _ _ _ _ _ (TJ.setTop (mkF m 131 #[.val (.int p0), .val (.int p1), .val (.int p2), .val (.int p3), .val (.int p4), .val (.int 1), .val (.int x13), .val (.int x14), .val (.int x15), .val (.int x16), .val (.ref b17), .val (.int vJ)] [(.ref b17)]))
      refine own_callS SJ (y := (⟨"com/example/libidem/libidem/protocol/Token", "isValid", "(Ljava/lang/String;)Z"⟩ : MethodName)) (own_w hw 30 rfl) (own_w hw 31 rfl) (own_w hw 32 rfl) (own_w hw 33 rfl) (by decide) (argsL := [(.ref b17)]) (rest := []) (own_val1 l Z a0 hw b17 (nar .char x13) zc vF aT h17 SJ.old SZ hz S_as S_hi S_lo hvF SF ST AT (own_isC.nar _) X17 F17) all0 (by decide +kernel : parseMethodDescriptor "(Ljava/lang/String;)Z" = some ⟨[(.object "java/lang/String")], some .boolean⟩) rfl rfl rfl at_131 (by decide) (Nat.le_of_ble_eq_true rfl) (by decide) (by decide) (fun T18 h18 v18 S18 K18 q18 => ?_)
      obtain ⟨rfl, rfl⟩ := q18
      show own_F _ p e below _ Z _ _ _ _ _ (T18.setTop (mkF m 134 #[.val (.int p0), .val (.int p1), .val (.int p2), .val (.int p3), .val (.int p4), .val (.int 1), .val (.int x13), .val (.int x14), .val (.int x15), .val (.int x16), .val (.ref b17), .val (.int vJ)] [(.int (own_al [(nar .char x13)]))]))
      refine own_F.of (fun _ => XS.iload S18.here S18.hx rfl (S18.dec at_134) rfl) ?_
      show own_F _ p e below _ Z _ _ _ _ _ (T18.setTop (mkF m 136 #[.val (.int p0), .val (.int p1), .val (.int p2), .val (.int p3), .val (.int p4), .val (.int 1), .val (.int x13), .val (.int x14), .val (.int x15), .val (.int x16), .val (.ref b17), .val (.int vJ)] [(.int vJ), (.int (own_al [(nar .char x13)]))]))
      refine own_icmp S18 143 at_136 (by decide) (by decide) (fun (hc136_19 : ¬ ((own_al [(nar .char x13)]) = vJ)) => False.elim (hc136_19 hJ.symm)) (fun (hc136_19 : (own_al [(nar .char x13)]) = vJ) => ?_)
      show own_F _ p e below _ Z _ _ _ _ _ (T18.setTop (mkF m 139 #[.val (.int p0), .val (.int p1), .val (.int p2), .val (.int p3), .val (.int p4), .val (.int 1), .val (.int x13), .val (.int x14), .val (.int x15), .val (.int x16), .val (.ref b17), .val (.int vJ)] []))
      refine own_F.of (fun _ => XS.iconst S18.here S18.hx rfl (S18.dec at_139)) ?_
      show own_F _ p e below _ Z _ _ _ _ _ (T18.setTop (mkF m 140 #[.val (.int p0), .val (.int p1), .val (.int p2), .val (.int p3), .val (.int p4), .val (.int 1), .val (.int x13), .val (.int x14), .val (.int x15), .val (.int x16), .val (.ref b17), .val (.int vJ)] [(.int 1)]))
      refine own_F.of (fun _ => XS.goto S18.here S18.hx rfl (pc0 := 140) (pc' := 144) rfl (S18.dec at_140) (by decide) (by decide)) ?_
      show own_F _ p e below _ Z _ _ _ _ _ (T18.setTop (mkF m 144 #[.val (.int p0), .val (.int p1), .val (.int p2), .val (.int p3), .val (.int p4), .val (.int 1), .val (.int x13), .val (.int x14), .val (.int x15), .val (.int x16), .val (.ref b17), .val (.int vJ)] [(.int 1)]))
      refine own_retZ S18 (by simp) at_144 (by decide) (by decide) ?_
      rfl
    refine own_F.of (fun _ => XS.iload S17.here S17.hx rfl (S17.dec at_48) rfl) ?_
    refine own_F.of (fun _ => XS.iconst S17.here S17.hx rfl (S17.dec at_50)) ?_
    show own_F _ p e below _ Z _ _ _ _ _ (T17.setTop (mkF m 51 #[.val (.int p0), .val (.int p1), .val (.int p2), .val (.int p3), .val (.int p4), .val (.int 1), .val (.int x13), .val (.int x14), .val (.int x15), .val (.int x16), .val (.ref b17), .unset] [(.int 1), (.int 1)]))
    refine own_icmp S17 58 at_51 (by decide) (by decide) (fun (hc51_20 : (1 : Int32) < (1 : Int32)) => False.elim (absurd hc51_20 (by decide))) (fun (hc51_20 : ¬ ((1 : Int32) < (1 : Int32))) => ?_)
    show own_F _ p e below _ Z _ _ _ _ _ (T17.setTop (mkF m 54 #[.val (.int p0), .val (.int p1), .val (.int p2), .val (.int p3), .val (.int p4), .val (.int 1), .val (.int x13), .val (.int x14), .val (.int x15), .val (.int x16), .val (.ref b17), .unset] []))
    refine own_F.of (fun _ => XS.iconst S17.here S17.hx rfl (S17.dec at_54)) ?_
    show own_F _ p e below _ Z _ _ _ _ _ (T17.setTop (mkF m 55 #[.val (.int p0), .val (.int p1), .val (.int p2), .val (.int p3), .val (.int p4), .val (.int 1), .val (.int x13), .val (.int x14), .val (.int x15), .val (.int x16), .val (.ref b17), .unset] [(.int 1)]))
    refine own_F.of (fun _ => XS.goto S17.here S17.hx rfl (pc0 := 55) (pc' := 59) rfl (S17.dec at_55) (by decide) (by decide)) ?_
    show own_F _ p e below _ Z _ _ _ _ _ (T17.setTop (mkF m 59 #[.val (.int p0), .val (.int p1), .val (.int p2), .val (.int p3), .val (.int p4), .val (.int 1), .val (.int x13), .val (.int x14), .val (.int x15), .val (.int x16), .val (.ref b17), .unset] [(.int 1)]))
    refine own_F.of (fun _ => XS.istore S17.here S17.hx rfl (S17.dec at_59) rfl (l' := #[.val (.int p0), .val (.int p1), .val (.int p2), .val (.int p3), .val (.int p4), .val (.int 1), .val (.int x13), .val (.int x14), .val (.int x15), .val (.int x16), .val (.ref b17), .val (.int 1)]) rfl) ?_
    refine own_F.of (fun _ => XS.iload S17.here S17.hx rfl (S17.dec at_61) rfl) ?_
    refine own_F.of (fun _ => XS.iconst S17.here S17.hx rfl (S17.dec at_63)) ?_
    show own_F _ p e below _ Z _ _ _ _ _ (T17.setTop (mkF m 64 #[.val (.int p0), .val (.int p1), .val (.int p2), .val (.int p3), .val (.int p4), .val (.int 1), .val (.int x13), .val (.int x14), .val (.int x15), .val (.int x16), .val (.ref b17), .val (.int 1)] [(.int 1), (.int 1)]))
    refine own_icmp S17 78 at_64 (by decide) (by decide) (fun (hc64_21 : (1 : Int32) < (1 : Int32)) => False.elim (absurd hc64_21 (by decide))) (fun (hc64_21 : ¬ ((1 : Int32) < (1 : Int32))) => ?_)
    show own_F _ p e below _ Z _ _ _ _ _ (T17.setTop (mkF m 67 #[.val (.int p0), .val (.int p1), .val (.int p2), .val (.int p3), .val (.int p4), .val (.int 1), .val (.int x13), .val (.int x14), .val (.int x15), .val (.int x16), .val (.ref b17), .val (.int 1)] []))
    refine own_F.of (fun _ => XS.iload S17.here S17.hx rfl (S17.dec at_67) rfl) ?_
    show own_F _ p e below _ Z _ _ _ _ _ (T17.setTop (mkF m 69 #[.val (.int p0), .val (.int p1), .val (.int p2), .val (.int p3), .val (.int p4), .val (.int 1), .val (.int x13), .val (.int x14), .val (.int x15), .val (.int x16), .val (.ref b17), .val (.int 1)] [(.int x13)]))
    refine own_callS S17 (y := (⟨"com/example/libidem/libidem/protocol/TokenIsValidPinLaw", "ref", "(C)Z"⟩ : MethodName)) (own_w hw 50 rfl) (own_w hw 51 rfl) (own_w hw 3 rfl) (own_w hw 52 rfl) (by decide) (argsL := [(.int x13)]) (rest := []) (own_ref l Z a0 hw x13 h17 S17.old) all0 (by decide +kernel : parseMethodDescriptor "(C)Z" = some ⟨[.char], some .boolean⟩) rfl rfl rfl at_69 (by decide) (Nat.le_of_ble_eq_true rfl) (by decide) (by decide) (fun T22 h22 v22 S22 K22 q22 => ?_)
    obtain ⟨rfl, rfl⟩ := q22
    show own_F _ p e below _ Z _ _ _ _ _ (T22.setTop (mkF m 72 #[.val (.int p0), .val (.int p1), .val (.int p2), .val (.int p3), .val (.int p4), .val (.int 1), .val (.int x13), .val (.int x14), .val (.int x15), .val (.int x16), .val (.ref b17), .val (.int 1)] [(.int (own_ex x13))]))
    refine own_if S22 78 at_72 (by decide) (by decide) (fun (hc72_23 : ¬ ((own_ex x13) = (0 : Int32))) => ?_) (fun (hc72_23 : (own_ex x13) = (0 : Int32)) => ?_)
    · show own_F _ p e below _ Z _ _ _ _ _ (T22.setTop (mkF m 78 #[.val (.int p0), .val (.int p1), .val (.int p2), .val (.int p3), .val (.int p4), .val (.int 1), .val (.int x13), .val (.int x14), .val (.int x15), .val (.int x16), .val (.ref b17), .val (.int 1)] []))
      refine own_F.of (fun _ => XS.iload S22.here S22.hx rfl (S22.dec at_78) rfl) ?_
      refine own_F.of (fun _ => XS.iconst S22.here S22.hx rfl (S22.dec at_80)) ?_
      show own_F _ p e below _ Z _ _ _ _ _ (T22.setTop (mkF m 81 #[.val (.int p0), .val (.int p1), .val (.int p2), .val (.int p3), .val (.int p4), .val (.int 1), .val (.int x13), .val (.int x14), .val (.int x15), .val (.int x16), .val (.ref b17), .val (.int 1)] [(.int 2), (.int 1)]))
      refine own_icmp S22 95 at_81 (by decide) (by decide) (fun (hc81_24 : (1 : Int32) < (2 : Int32)) => ?_) (fun (hc81_24 : ¬ ((1 : Int32) < (2 : Int32))) => False.elim (absurd hc81_24 (by decide)))
      show own_F _ p e below _ Z _ _ _ _ _ (T22.setTop (mkF m 95 #[.val (.int p0), .val (.int p1), .val (.int p2), .val (.int p3), .val (.int p4), .val (.int 1), .val (.int x13), .val (.int x14), .val (.int x15), .val (.int x16), .val (.ref b17), .val (.int 1)] []))
      refine own_F.of (fun _ => XS.iload S22.here S22.hx rfl (S22.dec at_95) rfl) ?_
      refine own_F.of (fun _ => XS.iconst S22.here S22.hx rfl (S22.dec at_97)) ?_
      show own_F _ p e below _ Z _ _ _ _ _ (T22.setTop (mkF m 98 #[.val (.int p0), .val (.int p1), .val (.int p2), .val (.int p3), .val (.int p4), .val (.int 1), .val (.int x13), .val (.int x14), .val (.int x15), .val (.int x16), .val (.ref b17), .val (.int 1)] [(.int 3), (.int 1)]))
      refine own_icmp S22 112 at_98 (by decide) (by decide) (fun (hc98_25 : (1 : Int32) < (3 : Int32)) => ?_) (fun (hc98_25 : ¬ ((1 : Int32) < (3 : Int32))) => False.elim (absurd hc98_25 (by decide)))
      show own_F _ p e below _ Z _ _ _ _ _ (T22.setTop (mkF m 112 #[.val (.int p0), .val (.int p1), .val (.int p2), .val (.int p3), .val (.int p4), .val (.int 1), .val (.int x13), .val (.int x14), .val (.int x15), .val (.int x16), .val (.ref b17), .val (.int 1)] []))
      refine own_F.of (fun _ => XS.iload S22.here S22.hx rfl (S22.dec at_112) rfl) ?_
      refine own_F.of (fun _ => XS.iconst S22.here S22.hx rfl (S22.dec at_114)) ?_
      show own_F _ p e below _ Z _ _ _ _ _ (T22.setTop (mkF m 115 #[.val (.int p0), .val (.int p1), .val (.int p2), .val (.int p3), .val (.int p4), .val (.int 1), .val (.int x13), .val (.int x14), .val (.int x15), .val (.int x16), .val (.ref b17), .val (.int 1)] [(.int 4), (.int 1)]))
      refine own_icmp S22 129 at_115 (by decide) (by decide) (fun (hc115_26 : (1 : Int32) < (4 : Int32)) => ?_) (fun (hc115_26 : ¬ ((1 : Int32) < (4 : Int32))) => False.elim (absurd hc115_26 (by decide)))
      show own_F _ p e below _ Z _ _ _ _ _ (T22.setTop (mkF m 129 #[.val (.int p0), .val (.int p1), .val (.int p2), .val (.int p3), .val (.int p4), .val (.int 1), .val (.int x13), .val (.int x14), .val (.int x15), .val (.int x16), .val (.ref b17), .val (.int 1)] []))
      exact J T22 S22 (1 : Int32) (by simp [own_al, own_narC cx13, own_same cx13.1 cx13.2, hc72_23])
    · show own_F _ p e below _ Z _ _ _ _ _ (T22.setTop (mkF m 75 #[.val (.int p0), .val (.int p1), .val (.int p2), .val (.int p3), .val (.int p4), .val (.int 1), .val (.int x13), .val (.int x14), .val (.int x15), .val (.int x16), .val (.ref b17), .val (.int 1)] []))
      refine own_F.of (fun _ => XS.iconst S22.here S22.hx rfl (S22.dec at_75)) ?_
      show own_F _ p e below _ Z _ _ _ _ _ (T22.setTop (mkF m 76 #[.val (.int p0), .val (.int p1), .val (.int p2), .val (.int p3), .val (.int p4), .val (.int 1), .val (.int x13), .val (.int x14), .val (.int x15), .val (.int x16), .val (.ref b17), .val (.int 1)] [(.int 0)]))
      refine own_F.of (fun _ => XS.istore S22.here S22.hx rfl (S22.dec at_76) rfl (l' := #[.val (.int p0), .val (.int p1), .val (.int p2), .val (.int p3), .val (.int p4), .val (.int 1), .val (.int x13), .val (.int x14), .val (.int x15), .val (.int x16), .val (.ref b17), .val (.int 0)]) rfl) ?_
      refine own_F.of (fun _ => XS.iload S22.here S22.hx rfl (S22.dec at_78) rfl) ?_
      refine own_F.of (fun _ => XS.iconst S22.here S22.hx rfl (S22.dec at_80)) ?_
      show own_F _ p e below _ Z _ _ _ _ _ (T22.setTop (mkF m 81 #[.val (.int p0), .val (.int p1), .val (.int p2), .val (.int p3), .val (.int p4), .val (.int 1), .val (.int x13), .val (.int x14), .val (.int x15), .val (.int x16), .val (.ref b17), .val (.int 0)] [(.int 2), (.int 1)]))
      refine own_icmp S22 95 at_81 (by decide) (by decide) (fun (hc81_27 : (1 : Int32) < (2 : Int32)) => ?_) (fun (hc81_27 : ¬ ((1 : Int32) < (2 : Int32))) => False.elim (absurd hc81_27 (by decide)))
      show own_F _ p e below _ Z _ _ _ _ _ (T22.setTop (mkF m 95 #[.val (.int p0), .val (.int p1), .val (.int p2), .val (.int p3), .val (.int p4), .val (.int 1), .val (.int x13), .val (.int x14), .val (.int x15), .val (.int x16), .val (.ref b17), .val (.int 0)] []))
      refine own_F.of (fun _ => XS.iload S22.here S22.hx rfl (S22.dec at_95) rfl) ?_
      refine own_F.of (fun _ => XS.iconst S22.here S22.hx rfl (S22.dec at_97)) ?_
      show own_F _ p e below _ Z _ _ _ _ _ (T22.setTop (mkF m 98 #[.val (.int p0), .val (.int p1), .val (.int p2), .val (.int p3), .val (.int p4), .val (.int 1), .val (.int x13), .val (.int x14), .val (.int x15), .val (.int x16), .val (.ref b17), .val (.int 0)] [(.int 3), (.int 1)]))
      refine own_icmp S22 112 at_98 (by decide) (by decide) (fun (hc98_28 : (1 : Int32) < (3 : Int32)) => ?_) (fun (hc98_28 : ¬ ((1 : Int32) < (3 : Int32))) => False.elim (absurd hc98_28 (by decide)))
      show own_F _ p e below _ Z _ _ _ _ _ (T22.setTop (mkF m 112 #[.val (.int p0), .val (.int p1), .val (.int p2), .val (.int p3), .val (.int p4), .val (.int 1), .val (.int x13), .val (.int x14), .val (.int x15), .val (.int x16), .val (.ref b17), .val (.int 0)] []))
      refine own_F.of (fun _ => XS.iload S22.here S22.hx rfl (S22.dec at_112) rfl) ?_
      refine own_F.of (fun _ => XS.iconst S22.here S22.hx rfl (S22.dec at_114)) ?_
      show own_F _ p e below _ Z _ _ _ _ _ (T22.setTop (mkF m 115 #[.val (.int p0), .val (.int p1), .val (.int p2), .val (.int p3), .val (.int p4), .val (.int 1), .val (.int x13), .val (.int x14), .val (.int x15), .val (.int x16), .val (.ref b17), .val (.int 0)] [(.int 4), (.int 1)]))
      refine own_icmp S22 129 at_115 (by decide) (by decide) (fun (hc115_29 : (1 : Int32) < (4 : Int32)) => ?_) (fun (hc115_29 : ¬ ((1 : Int32) < (4 : Int32))) => False.elim (absurd hc115_29 (by decide)))
      show own_F _ p e below _ Z _ _ _ _ _ (T22.setTop (mkF m 129 #[.val (.int p0), .val (.int p1), .val (.int p2), .val (.int p3), .val (.int p4), .val (.int 1), .val (.int x13), .val (.int x14), .val (.int x15), .val (.int x16), .val (.ref b17), .val (.int 0)] []))
      exact J T22 S22 (0 : Int32) (by simp [own_al, own_narC cx13, own_same cx13.1 cx13.2, hc72_23])
  · rw [hn]
    show own_F _ p e below _ Z _ _ _ _ _ (T0.setTop (mkF m 8 #[.val (.int p0), .val (.int p1), .val (.int p2), .val (.int p3), .val (.int p4), .val (.int 2), .unset, .unset, .unset, .unset, .unset, .unset] []))
    refine own_F.of (fun _ => XS.iloadN S0.here S0.hx rfl (S0.dec at_8) rfl) ?_
    show own_F _ p e below _ Z _ _ _ _ _ (T0.setTop (mkF m 9 #[.val (.int p0), .val (.int p1), .val (.int p2), .val (.int p3), .val (.int p4), .val (.int 2), .unset, .unset, .unset, .unset, .unset, .unset] [(.int p1)]))
    refine own_callS S0 (y := (⟨"com/example/libidem/libidem/protocol/TokenIsValidPinLaw", "ch", "(I)C"⟩ : MethodName)) (own_w hw 1 rfl) (own_w hw 2 rfl) (own_w hw 3 rfl) (own_w hw 4 rfl) (by decide) (argsL := [(.int p1)]) (rest := []) (own_ch l Z a0 hw p1 h0 S0.old) all0 (by decide +kernel : parseMethodDescriptor "(I)C" = some ⟨[.int], some .char⟩) rfl rfl rfl at_9 (by decide) (Nat.le_of_ble_eq_true rfl) (by decide) (by decide) (fun T30 h30 v30 S30 K30 q30 => ?_)
    obtain ⟨x30, rfl, cx30, rfl⟩ := q30
    show own_F _ p e below _ Z _ _ _ _ _ (T30.setTop (mkF m 12 #[.val (.int p0), .val (.int p1), .val (.int p2), .val (.int p3), .val (.int p4), .val (.int 2), .unset, .unset, .unset, .unset, .unset, .unset] [(.int x30)]))
    refine own_F.of (fun _ => XS.istore S30.here S30.hx rfl (S30.dec at_12) rfl (l' := #[.val (.int p0), .val (.int p1), .val (.int p2), .val (.int p3), .val (.int p4), .val (.int 2), .val (.int x30), .unset, .unset, .unset, .unset, .unset]) rfl) ?_
    refine own_F.of (fun _ => XS.iloadN S30.here S30.hx rfl (S30.dec at_14) rfl) ?_
    show own_F _ p e below _ Z _ _ _ _ _ (T30.setTop (mkF m 15 #[.val (.int p0), .val (.int p1), .val (.int p2), .val (.int p3), .val (.int p4), .val (.int 2), .val (.int x30), .unset, .unset, .unset, .unset, .unset] [(.int p2)]))
    refine own_callS S30 (y := (⟨"com/example/libidem/libidem/protocol/TokenIsValidPinLaw", "ch", "(I)C"⟩ : MethodName)) (own_w hw 1 rfl) (own_w hw 2 rfl) (own_w hw 3 rfl) (own_w hw 4 rfl) (by decide) (argsL := [(.int p2)]) (rest := []) (own_ch l Z a0 hw p2 h0 S30.old) all0 (by decide +kernel : parseMethodDescriptor "(I)C" = some ⟨[.int], some .char⟩) rfl rfl rfl at_15 (by decide) (Nat.le_of_ble_eq_true rfl) (by decide) (by decide) (fun T31 h31 v31 S31 K31 q31 => ?_)
    obtain ⟨x31, rfl, cx31, rfl⟩ := q31
    show own_F _ p e below _ Z _ _ _ _ _ (T31.setTop (mkF m 18 #[.val (.int p0), .val (.int p1), .val (.int p2), .val (.int p3), .val (.int p4), .val (.int 2), .val (.int x30), .unset, .unset, .unset, .unset, .unset] [(.int x31)]))
    refine own_F.of (fun _ => XS.istore S31.here S31.hx rfl (S31.dec at_18) rfl (l' := #[.val (.int p0), .val (.int p1), .val (.int p2), .val (.int p3), .val (.int p4), .val (.int 2), .val (.int x30), .val (.int x31), .unset, .unset, .unset, .unset]) rfl) ?_
    refine own_F.of (fun _ => XS.iloadN S31.here S31.hx rfl (S31.dec at_20) rfl) ?_
    show own_F _ p e below _ Z _ _ _ _ _ (T31.setTop (mkF m 21 #[.val (.int p0), .val (.int p1), .val (.int p2), .val (.int p3), .val (.int p4), .val (.int 2), .val (.int x30), .val (.int x31), .unset, .unset, .unset, .unset] [(.int p3)]))
    refine own_callS S31 (y := (⟨"com/example/libidem/libidem/protocol/TokenIsValidPinLaw", "ch", "(I)C"⟩ : MethodName)) (own_w hw 1 rfl) (own_w hw 2 rfl) (own_w hw 3 rfl) (own_w hw 4 rfl) (by decide) (argsL := [(.int p3)]) (rest := []) (own_ch l Z a0 hw p3 h0 S31.old) all0 (by decide +kernel : parseMethodDescriptor "(I)C" = some ⟨[.int], some .char⟩) rfl rfl rfl at_21 (by decide) (Nat.le_of_ble_eq_true rfl) (by decide) (by decide) (fun T32 h32 v32 S32 K32 q32 => ?_)
    obtain ⟨x32, rfl, cx32, rfl⟩ := q32
    show own_F _ p e below _ Z _ _ _ _ _ (T32.setTop (mkF m 24 #[.val (.int p0), .val (.int p1), .val (.int p2), .val (.int p3), .val (.int p4), .val (.int 2), .val (.int x30), .val (.int x31), .unset, .unset, .unset, .unset] [(.int x32)]))
    refine own_F.of (fun _ => XS.istore S32.here S32.hx rfl (S32.dec at_24) rfl (l' := #[.val (.int p0), .val (.int p1), .val (.int p2), .val (.int p3), .val (.int p4), .val (.int 2), .val (.int x30), .val (.int x31), .val (.int x32), .unset, .unset, .unset]) rfl) ?_
    refine own_F.of (fun _ => XS.iload S32.here S32.hx rfl (S32.dec at_26) rfl) ?_
    show own_F _ p e below _ Z _ _ _ _ _ (T32.setTop (mkF m 28 #[.val (.int p0), .val (.int p1), .val (.int p2), .val (.int p3), .val (.int p4), .val (.int 2), .val (.int x30), .val (.int x31), .val (.int x32), .unset, .unset, .unset] [(.int p4)]))
    refine own_callS S32 (y := (⟨"com/example/libidem/libidem/protocol/TokenIsValidPinLaw", "ch", "(I)C"⟩ : MethodName)) (own_w hw 1 rfl) (own_w hw 2 rfl) (own_w hw 3 rfl) (own_w hw 4 rfl) (by decide) (argsL := [(.int p4)]) (rest := []) (own_ch l Z a0 hw p4 h0 S32.old) all0 (by decide +kernel : parseMethodDescriptor "(I)C" = some ⟨[.int], some .char⟩) rfl rfl rfl at_28 (by decide) (Nat.le_of_ble_eq_true rfl) (by decide) (by decide) (fun T33 h33 v33 S33 K33 q33 => ?_)
    obtain ⟨x33, rfl, cx33, rfl⟩ := q33
    show own_F _ p e below _ Z _ _ _ _ _ (T33.setTop (mkF m 31 #[.val (.int p0), .val (.int p1), .val (.int p2), .val (.int p3), .val (.int p4), .val (.int 2), .val (.int x30), .val (.int x31), .val (.int x32), .unset, .unset, .unset] [(.int x33)]))
    refine own_F.of (fun _ => XS.istore S33.here S33.hx rfl (S33.dec at_31) rfl (l' := #[.val (.int p0), .val (.int p1), .val (.int p2), .val (.int p3), .val (.int p4), .val (.int 2), .val (.int x30), .val (.int x31), .val (.int x32), .val (.int x33), .unset, .unset]) rfl) ?_
    refine own_F.of (fun _ => XS.iload S33.here S33.hx rfl (S33.dec at_33) rfl) ?_
    refine own_F.of (fun _ => XS.iload S33.here S33.hx rfl (S33.dec at_35) rfl) ?_
    refine own_F.of (fun _ => XS.iload S33.here S33.hx rfl (S33.dec at_37) rfl) ?_
    refine own_F.of (fun _ => XS.iload S33.here S33.hx rfl (S33.dec at_39) rfl) ?_
    refine own_F.of (fun _ => XS.iload S33.here S33.hx rfl (S33.dec at_41) rfl) ?_
    show own_F _ p e below _ Z _ _ _ _ _ (T33.setTop (mkF m 43 #[.val (.int p0), .val (.int p1), .val (.int p2), .val (.int p3), .val (.int p4), .val (.int 2), .val (.int x30), .val (.int x31), .val (.int x32), .val (.int x33), .unset, .unset] [(.int x33), (.int x32), (.int x31), (.int x30), (.int 2)]))
    refine own_callS S33 (y := (⟨"com/example/libidem/libidem/protocol/TokenIsValidPinLaw", "str", "(ICCCC)Ljava/lang/String;"⟩ : MethodName)) (own_w hw 5 rfl) (own_w hw 6 rfl) (own_w hw 3 rfl) (own_w hw 7 rfl) (by decide) (argsL := [(.int (2 : Int32)), (.int x30), (.int x31), (.int x32), (.int x33)]) (rest := []) (own_stN2 l Z a0 hw x30 x31 x32 x33 zc h0 S33.old SZ hz S_as S_hi S_lo) all0 (by decide +kernel : parseMethodDescriptor "(ICCCC)Ljava/lang/String;" = some ⟨[.int, .char, .char, .char, .char], some (.object "java/lang/String")⟩) rfl rfl rfl at_43 (by decide) (Nat.le_of_ble_eq_true rfl) (by decide) (by decide) (fun T34 h34 v34 S34 K34 q34 => ?_)
    obtain ⟨b34, rfl, X34, F34⟩ := q34
    show own_F _ p e below _ Z _ _ _ _ _ (T34.setTop (mkF m 46 #[.val (.int p0), .val (.int p1), .val (.int p2), .val (.int p3), .val (.int p4), .val (.int 2), .val (.int x30), .val (.int x31), .val (.int x32), .val (.int x33), .unset, .unset] [(.ref b34)]))
    refine own_F.of (fun _ => XS.astore S34.here S34.hx rfl (S34.dec at_46) rfl rfl (l' := #[.val (.int p0), .val (.int p1), .val (.int p2), .val (.int p3), .val (.int p4), .val (.int 2), .val (.int x30), .val (.int x31), .val (.int x32), .val (.int x33), .val (.ref b34), .unset]) rfl) ?_
    have J : ∀ (TJ : State) (SJ : own_S Z h0 [] x.cls code maxLocals ret x.name p l e room_1 s m #[.int p0, .int p1, .int p2, .int p3, .int p4] below meth c TJ h34 4 12) (vJ : Int32), vJ = own_al [(nar .char x30), (nar .char x31)] → own_F ReturnedEndW p e below s Z h0 [] room_1.cells room_1.slots (fun v _ => v = some (.int 1)) (TJ.setTop (mkF m 129 #[.val (.int p0), .val (.int p1), .val (.int p2), .val (.int p3), .val (.int p4), .val (.int (2 : Int32)), .val (.int x30), .val (.int x31), .val (.int x32), .val (.int x33), .val (.ref b34), .val (.int vJ)] [])) := by
      intro TJ SJ vJ hJ
      show own_F _ p e below _ Z _ _ _ _ _ (TJ.setTop (mkF m 129 #[.val (.int p0), .val (.int p1), .val (.int p2), .val (.int p3), .val (.int p4), .val (.int 2), .val (.int x30), .val (.int x31), .val (.int x32), .val (.int x33), .val (.ref b34), .val (.int vJ)] []))
      refine own_F.of (fun _ => XS.aload SJ.here SJ.hx rfl (SJ.dec at_129) rfl rfl) ?_
      show own_F _ p e below _ Z _ _ _ _ _ (TJ.setTop (mkF m 131 #[.val (.int p0), .val (.int p1), .val (.int p2), .val (.int p3), .val (.int p4), .val (.int 2), .val (.int x30), .val (.int x31), .val (.int x32), .val (.int x33), .val (.ref b34), .val (.int vJ)] [(.ref b34)]))
      refine own_callS SJ (y := (⟨"com/example/libidem/libidem/protocol/Token", "isValid", "(Ljava/lang/String;)Z"⟩ : MethodName)) (own_w hw 30 rfl) (own_w hw 31 rfl) (own_w hw 32 rfl) (own_w hw 33 rfl) (by decide) (argsL := [(.ref b34)]) (rest := []) (own_val2 l Z a0 hw b34 (nar .char x30) (nar .char x31) zc vF aT h34 SJ.old SZ hz S_as S_hi S_lo hvF SF ST AT (own_isC.nar _) (own_isC.nar _) X34 F34) all0 (by decide +kernel : parseMethodDescriptor "(Ljava/lang/String;)Z" = some ⟨[(.object "java/lang/String")], some .boolean⟩) rfl rfl rfl at_131 (by decide) (Nat.le_of_ble_eq_true rfl) (by decide) (by decide) (fun T35 h35 v35 S35 K35 q35 => ?_)
      obtain ⟨rfl, rfl⟩ := q35
      show own_F _ p e below _ Z _ _ _ _ _ (T35.setTop (mkF m 134 #[.val (.int p0), .val (.int p1), .val (.int p2), .val (.int p3), .val (.int p4), .val (.int 2), .val (.int x30), .val (.int x31), .val (.int x32), .val (.int x33), .val (.ref b34), .val (.int vJ)] [(.int (own_al [(nar .char x30), (nar .char x31)]))]))
      refine own_F.of (fun _ => XS.iload S35.here S35.hx rfl (S35.dec at_134) rfl) ?_
      show own_F _ p e below _ Z _ _ _ _ _ (T35.setTop (mkF m 136 #[.val (.int p0), .val (.int p1), .val (.int p2), .val (.int p3), .val (.int p4), .val (.int 2), .val (.int x30), .val (.int x31), .val (.int x32), .val (.int x33), .val (.ref b34), .val (.int vJ)] [(.int vJ), (.int (own_al [(nar .char x30), (nar .char x31)]))]))
      refine own_icmp S35 143 at_136 (by decide) (by decide) (fun (hc136_36 : ¬ ((own_al [(nar .char x30), (nar .char x31)]) = vJ)) => False.elim (hc136_36 hJ.symm)) (fun (hc136_36 : (own_al [(nar .char x30), (nar .char x31)]) = vJ) => ?_)
      show own_F _ p e below _ Z _ _ _ _ _ (T35.setTop (mkF m 139 #[.val (.int p0), .val (.int p1), .val (.int p2), .val (.int p3), .val (.int p4), .val (.int 2), .val (.int x30), .val (.int x31), .val (.int x32), .val (.int x33), .val (.ref b34), .val (.int vJ)] []))
      refine own_F.of (fun _ => XS.iconst S35.here S35.hx rfl (S35.dec at_139)) ?_
      show own_F _ p e below _ Z _ _ _ _ _ (T35.setTop (mkF m 140 #[.val (.int p0), .val (.int p1), .val (.int p2), .val (.int p3), .val (.int p4), .val (.int 2), .val (.int x30), .val (.int x31), .val (.int x32), .val (.int x33), .val (.ref b34), .val (.int vJ)] [(.int 1)]))
      refine own_F.of (fun _ => XS.goto S35.here S35.hx rfl (pc0 := 140) (pc' := 144) rfl (S35.dec at_140) (by decide) (by decide)) ?_
      show own_F _ p e below _ Z _ _ _ _ _ (T35.setTop (mkF m 144 #[.val (.int p0), .val (.int p1), .val (.int p2), .val (.int p3), .val (.int p4), .val (.int 2), .val (.int x30), .val (.int x31), .val (.int x32), .val (.int x33), .val (.ref b34), .val (.int vJ)] [(.int 1)]))
      refine own_retZ S35 (by simp) at_144 (by decide) (by decide) ?_
      rfl
    refine own_F.of (fun _ => XS.iload S34.here S34.hx rfl (S34.dec at_48) rfl) ?_
    refine own_F.of (fun _ => XS.iconst S34.here S34.hx rfl (S34.dec at_50)) ?_
    show own_F _ p e below _ Z _ _ _ _ _ (T34.setTop (mkF m 51 #[.val (.int p0), .val (.int p1), .val (.int p2), .val (.int p3), .val (.int p4), .val (.int 2), .val (.int x30), .val (.int x31), .val (.int x32), .val (.int x33), .val (.ref b34), .unset] [(.int 1), (.int 2)]))
    refine own_icmp S34 58 at_51 (by decide) (by decide) (fun (hc51_37 : (2 : Int32) < (1 : Int32)) => False.elim (absurd hc51_37 (by decide))) (fun (hc51_37 : ¬ ((2 : Int32) < (1 : Int32))) => ?_)
    show own_F _ p e below _ Z _ _ _ _ _ (T34.setTop (mkF m 54 #[.val (.int p0), .val (.int p1), .val (.int p2), .val (.int p3), .val (.int p4), .val (.int 2), .val (.int x30), .val (.int x31), .val (.int x32), .val (.int x33), .val (.ref b34), .unset] []))
    refine own_F.of (fun _ => XS.iconst S34.here S34.hx rfl (S34.dec at_54)) ?_
    show own_F _ p e below _ Z _ _ _ _ _ (T34.setTop (mkF m 55 #[.val (.int p0), .val (.int p1), .val (.int p2), .val (.int p3), .val (.int p4), .val (.int 2), .val (.int x30), .val (.int x31), .val (.int x32), .val (.int x33), .val (.ref b34), .unset] [(.int 1)]))
    refine own_F.of (fun _ => XS.goto S34.here S34.hx rfl (pc0 := 55) (pc' := 59) rfl (S34.dec at_55) (by decide) (by decide)) ?_
    show own_F _ p e below _ Z _ _ _ _ _ (T34.setTop (mkF m 59 #[.val (.int p0), .val (.int p1), .val (.int p2), .val (.int p3), .val (.int p4), .val (.int 2), .val (.int x30), .val (.int x31), .val (.int x32), .val (.int x33), .val (.ref b34), .unset] [(.int 1)]))
    refine own_F.of (fun _ => XS.istore S34.here S34.hx rfl (S34.dec at_59) rfl (l' := #[.val (.int p0), .val (.int p1), .val (.int p2), .val (.int p3), .val (.int p4), .val (.int 2), .val (.int x30), .val (.int x31), .val (.int x32), .val (.int x33), .val (.ref b34), .val (.int 1)]) rfl) ?_
    refine own_F.of (fun _ => XS.iload S34.here S34.hx rfl (S34.dec at_61) rfl) ?_
    refine own_F.of (fun _ => XS.iconst S34.here S34.hx rfl (S34.dec at_63)) ?_
    show own_F _ p e below _ Z _ _ _ _ _ (T34.setTop (mkF m 64 #[.val (.int p0), .val (.int p1), .val (.int p2), .val (.int p3), .val (.int p4), .val (.int 2), .val (.int x30), .val (.int x31), .val (.int x32), .val (.int x33), .val (.ref b34), .val (.int 1)] [(.int 1), (.int 2)]))
    refine own_icmp S34 78 at_64 (by decide) (by decide) (fun (hc64_38 : (2 : Int32) < (1 : Int32)) => False.elim (absurd hc64_38 (by decide))) (fun (hc64_38 : ¬ ((2 : Int32) < (1 : Int32))) => ?_)
    show own_F _ p e below _ Z _ _ _ _ _ (T34.setTop (mkF m 67 #[.val (.int p0), .val (.int p1), .val (.int p2), .val (.int p3), .val (.int p4), .val (.int 2), .val (.int x30), .val (.int x31), .val (.int x32), .val (.int x33), .val (.ref b34), .val (.int 1)] []))
    refine own_F.of (fun _ => XS.iload S34.here S34.hx rfl (S34.dec at_67) rfl) ?_
    show own_F _ p e below _ Z _ _ _ _ _ (T34.setTop (mkF m 69 #[.val (.int p0), .val (.int p1), .val (.int p2), .val (.int p3), .val (.int p4), .val (.int 2), .val (.int x30), .val (.int x31), .val (.int x32), .val (.int x33), .val (.ref b34), .val (.int 1)] [(.int x30)]))
    refine own_callS S34 (y := (⟨"com/example/libidem/libidem/protocol/TokenIsValidPinLaw", "ref", "(C)Z"⟩ : MethodName)) (own_w hw 50 rfl) (own_w hw 51 rfl) (own_w hw 3 rfl) (own_w hw 52 rfl) (by decide) (argsL := [(.int x30)]) (rest := []) (own_ref l Z a0 hw x30 h34 S34.old) all0 (by decide +kernel : parseMethodDescriptor "(C)Z" = some ⟨[.char], some .boolean⟩) rfl rfl rfl at_69 (by decide) (Nat.le_of_ble_eq_true rfl) (by decide) (by decide) (fun T39 h39 v39 S39 K39 q39 => ?_)
    obtain ⟨rfl, rfl⟩ := q39
    show own_F _ p e below _ Z _ _ _ _ _ (T39.setTop (mkF m 72 #[.val (.int p0), .val (.int p1), .val (.int p2), .val (.int p3), .val (.int p4), .val (.int 2), .val (.int x30), .val (.int x31), .val (.int x32), .val (.int x33), .val (.ref b34), .val (.int 1)] [(.int (own_ex x30))]))
    refine own_if S39 78 at_72 (by decide) (by decide) (fun (hc72_40 : ¬ ((own_ex x30) = (0 : Int32))) => ?_) (fun (hc72_40 : (own_ex x30) = (0 : Int32)) => ?_)
    · show own_F _ p e below _ Z _ _ _ _ _ (T39.setTop (mkF m 78 #[.val (.int p0), .val (.int p1), .val (.int p2), .val (.int p3), .val (.int p4), .val (.int 2), .val (.int x30), .val (.int x31), .val (.int x32), .val (.int x33), .val (.ref b34), .val (.int 1)] []))
      refine own_F.of (fun _ => XS.iload S39.here S39.hx rfl (S39.dec at_78) rfl) ?_
      refine own_F.of (fun _ => XS.iconst S39.here S39.hx rfl (S39.dec at_80)) ?_
      show own_F _ p e below _ Z _ _ _ _ _ (T39.setTop (mkF m 81 #[.val (.int p0), .val (.int p1), .val (.int p2), .val (.int p3), .val (.int p4), .val (.int 2), .val (.int x30), .val (.int x31), .val (.int x32), .val (.int x33), .val (.ref b34), .val (.int 1)] [(.int 2), (.int 2)]))
      refine own_icmp S39 95 at_81 (by decide) (by decide) (fun (hc81_41 : (2 : Int32) < (2 : Int32)) => False.elim (absurd hc81_41 (by decide))) (fun (hc81_41 : ¬ ((2 : Int32) < (2 : Int32))) => ?_)
      show own_F _ p e below _ Z _ _ _ _ _ (T39.setTop (mkF m 84 #[.val (.int p0), .val (.int p1), .val (.int p2), .val (.int p3), .val (.int p4), .val (.int 2), .val (.int x30), .val (.int x31), .val (.int x32), .val (.int x33), .val (.ref b34), .val (.int 1)] []))
      refine own_F.of (fun _ => XS.iload S39.here S39.hx rfl (S39.dec at_84) rfl) ?_
      show own_F _ p e below _ Z _ _ _ _ _ (T39.setTop (mkF m 86 #[.val (.int p0), .val (.int p1), .val (.int p2), .val (.int p3), .val (.int p4), .val (.int 2), .val (.int x30), .val (.int x31), .val (.int x32), .val (.int x33), .val (.ref b34), .val (.int 1)] [(.int x31)]))
      refine own_callS S39 (y := (⟨"com/example/libidem/libidem/protocol/TokenIsValidPinLaw", "ref", "(C)Z"⟩ : MethodName)) (own_w hw 50 rfl) (own_w hw 51 rfl) (own_w hw 3 rfl) (own_w hw 52 rfl) (by decide) (argsL := [(.int x31)]) (rest := []) (own_ref l Z a0 hw x31 h34 S39.old) all0 (by decide +kernel : parseMethodDescriptor "(C)Z" = some ⟨[.char], some .boolean⟩) rfl rfl rfl at_86 (by decide) (Nat.le_of_ble_eq_true rfl) (by decide) (by decide) (fun T42 h42 v42 S42 K42 q42 => ?_)
      obtain ⟨rfl, rfl⟩ := q42
      show own_F _ p e below _ Z _ _ _ _ _ (T42.setTop (mkF m 89 #[.val (.int p0), .val (.int p1), .val (.int p2), .val (.int p3), .val (.int p4), .val (.int 2), .val (.int x30), .val (.int x31), .val (.int x32), .val (.int x33), .val (.ref b34), .val (.int 1)] [(.int (own_ex x31))]))
      refine own_if S42 95 at_89 (by decide) (by decide) (fun (hc89_43 : ¬ ((own_ex x31) = (0 : Int32))) => ?_) (fun (hc89_43 : (own_ex x31) = (0 : Int32)) => ?_)
      · show own_F _ p e below _ Z _ _ _ _ _ (T42.setTop (mkF m 95 #[.val (.int p0), .val (.int p1), .val (.int p2), .val (.int p3), .val (.int p4), .val (.int 2), .val (.int x30), .val (.int x31), .val (.int x32), .val (.int x33), .val (.ref b34), .val (.int 1)] []))
        refine own_F.of (fun _ => XS.iload S42.here S42.hx rfl (S42.dec at_95) rfl) ?_
        refine own_F.of (fun _ => XS.iconst S42.here S42.hx rfl (S42.dec at_97)) ?_
        show own_F _ p e below _ Z _ _ _ _ _ (T42.setTop (mkF m 98 #[.val (.int p0), .val (.int p1), .val (.int p2), .val (.int p3), .val (.int p4), .val (.int 2), .val (.int x30), .val (.int x31), .val (.int x32), .val (.int x33), .val (.ref b34), .val (.int 1)] [(.int 3), (.int 2)]))
        refine own_icmp S42 112 at_98 (by decide) (by decide) (fun (hc98_44 : (2 : Int32) < (3 : Int32)) => ?_) (fun (hc98_44 : ¬ ((2 : Int32) < (3 : Int32))) => False.elim (absurd hc98_44 (by decide)))
        show own_F _ p e below _ Z _ _ _ _ _ (T42.setTop (mkF m 112 #[.val (.int p0), .val (.int p1), .val (.int p2), .val (.int p3), .val (.int p4), .val (.int 2), .val (.int x30), .val (.int x31), .val (.int x32), .val (.int x33), .val (.ref b34), .val (.int 1)] []))
        refine own_F.of (fun _ => XS.iload S42.here S42.hx rfl (S42.dec at_112) rfl) ?_
        refine own_F.of (fun _ => XS.iconst S42.here S42.hx rfl (S42.dec at_114)) ?_
        show own_F _ p e below _ Z _ _ _ _ _ (T42.setTop (mkF m 115 #[.val (.int p0), .val (.int p1), .val (.int p2), .val (.int p3), .val (.int p4), .val (.int 2), .val (.int x30), .val (.int x31), .val (.int x32), .val (.int x33), .val (.ref b34), .val (.int 1)] [(.int 4), (.int 2)]))
        refine own_icmp S42 129 at_115 (by decide) (by decide) (fun (hc115_45 : (2 : Int32) < (4 : Int32)) => ?_) (fun (hc115_45 : ¬ ((2 : Int32) < (4 : Int32))) => False.elim (absurd hc115_45 (by decide)))
        show own_F _ p e below _ Z _ _ _ _ _ (T42.setTop (mkF m 129 #[.val (.int p0), .val (.int p1), .val (.int p2), .val (.int p3), .val (.int p4), .val (.int 2), .val (.int x30), .val (.int x31), .val (.int x32), .val (.int x33), .val (.ref b34), .val (.int 1)] []))
        exact J T42 S42 (1 : Int32) (by simp [own_al, own_narC cx30, own_same cx30.1 cx30.2, own_narC cx31, own_same cx31.1 cx31.2, hc72_40, hc89_43])
      · show own_F _ p e below _ Z _ _ _ _ _ (T42.setTop (mkF m 92 #[.val (.int p0), .val (.int p1), .val (.int p2), .val (.int p3), .val (.int p4), .val (.int 2), .val (.int x30), .val (.int x31), .val (.int x32), .val (.int x33), .val (.ref b34), .val (.int 1)] []))
        refine own_F.of (fun _ => XS.iconst S42.here S42.hx rfl (S42.dec at_92)) ?_
        show own_F _ p e below _ Z _ _ _ _ _ (T42.setTop (mkF m 93 #[.val (.int p0), .val (.int p1), .val (.int p2), .val (.int p3), .val (.int p4), .val (.int 2), .val (.int x30), .val (.int x31), .val (.int x32), .val (.int x33), .val (.ref b34), .val (.int 1)] [(.int 0)]))
        refine own_F.of (fun _ => XS.istore S42.here S42.hx rfl (S42.dec at_93) rfl (l' := #[.val (.int p0), .val (.int p1), .val (.int p2), .val (.int p3), .val (.int p4), .val (.int 2), .val (.int x30), .val (.int x31), .val (.int x32), .val (.int x33), .val (.ref b34), .val (.int 0)]) rfl) ?_
        refine own_F.of (fun _ => XS.iload S42.here S42.hx rfl (S42.dec at_95) rfl) ?_
        refine own_F.of (fun _ => XS.iconst S42.here S42.hx rfl (S42.dec at_97)) ?_
        show own_F _ p e below _ Z _ _ _ _ _ (T42.setTop (mkF m 98 #[.val (.int p0), .val (.int p1), .val (.int p2), .val (.int p3), .val (.int p4), .val (.int 2), .val (.int x30), .val (.int x31), .val (.int x32), .val (.int x33), .val (.ref b34), .val (.int 0)] [(.int 3), (.int 2)]))
        refine own_icmp S42 112 at_98 (by decide) (by decide) (fun (hc98_46 : (2 : Int32) < (3 : Int32)) => ?_) (fun (hc98_46 : ¬ ((2 : Int32) < (3 : Int32))) => False.elim (absurd hc98_46 (by decide)))
        show own_F _ p e below _ Z _ _ _ _ _ (T42.setTop (mkF m 112 #[.val (.int p0), .val (.int p1), .val (.int p2), .val (.int p3), .val (.int p4), .val (.int 2), .val (.int x30), .val (.int x31), .val (.int x32), .val (.int x33), .val (.ref b34), .val (.int 0)] []))
        refine own_F.of (fun _ => XS.iload S42.here S42.hx rfl (S42.dec at_112) rfl) ?_
        refine own_F.of (fun _ => XS.iconst S42.here S42.hx rfl (S42.dec at_114)) ?_
        show own_F _ p e below _ Z _ _ _ _ _ (T42.setTop (mkF m 115 #[.val (.int p0), .val (.int p1), .val (.int p2), .val (.int p3), .val (.int p4), .val (.int 2), .val (.int x30), .val (.int x31), .val (.int x32), .val (.int x33), .val (.ref b34), .val (.int 0)] [(.int 4), (.int 2)]))
        refine own_icmp S42 129 at_115 (by decide) (by decide) (fun (hc115_47 : (2 : Int32) < (4 : Int32)) => ?_) (fun (hc115_47 : ¬ ((2 : Int32) < (4 : Int32))) => False.elim (absurd hc115_47 (by decide)))
        show own_F _ p e below _ Z _ _ _ _ _ (T42.setTop (mkF m 129 #[.val (.int p0), .val (.int p1), .val (.int p2), .val (.int p3), .val (.int p4), .val (.int 2), .val (.int x30), .val (.int x31), .val (.int x32), .val (.int x33), .val (.ref b34), .val (.int 0)] []))
        exact J T42 S42 (0 : Int32) (by simp [own_al, own_narC cx30, own_same cx30.1 cx30.2, own_narC cx31, own_same cx31.1 cx31.2, hc72_40, hc89_43])
    · show own_F _ p e below _ Z _ _ _ _ _ (T39.setTop (mkF m 75 #[.val (.int p0), .val (.int p1), .val (.int p2), .val (.int p3), .val (.int p4), .val (.int 2), .val (.int x30), .val (.int x31), .val (.int x32), .val (.int x33), .val (.ref b34), .val (.int 1)] []))
      refine own_F.of (fun _ => XS.iconst S39.here S39.hx rfl (S39.dec at_75)) ?_
      show own_F _ p e below _ Z _ _ _ _ _ (T39.setTop (mkF m 76 #[.val (.int p0), .val (.int p1), .val (.int p2), .val (.int p3), .val (.int p4), .val (.int 2), .val (.int x30), .val (.int x31), .val (.int x32), .val (.int x33), .val (.ref b34), .val (.int 1)] [(.int 0)]))
      refine own_F.of (fun _ => XS.istore S39.here S39.hx rfl (S39.dec at_76) rfl (l' := #[.val (.int p0), .val (.int p1), .val (.int p2), .val (.int p3), .val (.int p4), .val (.int 2), .val (.int x30), .val (.int x31), .val (.int x32), .val (.int x33), .val (.ref b34), .val (.int 0)]) rfl) ?_
      refine own_F.of (fun _ => XS.iload S39.here S39.hx rfl (S39.dec at_78) rfl) ?_
      refine own_F.of (fun _ => XS.iconst S39.here S39.hx rfl (S39.dec at_80)) ?_
      show own_F _ p e below _ Z _ _ _ _ _ (T39.setTop (mkF m 81 #[.val (.int p0), .val (.int p1), .val (.int p2), .val (.int p3), .val (.int p4), .val (.int 2), .val (.int x30), .val (.int x31), .val (.int x32), .val (.int x33), .val (.ref b34), .val (.int 0)] [(.int 2), (.int 2)]))
      refine own_icmp S39 95 at_81 (by decide) (by decide) (fun (hc81_48 : (2 : Int32) < (2 : Int32)) => False.elim (absurd hc81_48 (by decide))) (fun (hc81_48 : ¬ ((2 : Int32) < (2 : Int32))) => ?_)
      show own_F _ p e below _ Z _ _ _ _ _ (T39.setTop (mkF m 84 #[.val (.int p0), .val (.int p1), .val (.int p2), .val (.int p3), .val (.int p4), .val (.int 2), .val (.int x30), .val (.int x31), .val (.int x32), .val (.int x33), .val (.ref b34), .val (.int 0)] []))
      refine own_F.of (fun _ => XS.iload S39.here S39.hx rfl (S39.dec at_84) rfl) ?_
      show own_F _ p e below _ Z _ _ _ _ _ (T39.setTop (mkF m 86 #[.val (.int p0), .val (.int p1), .val (.int p2), .val (.int p3), .val (.int p4), .val (.int 2), .val (.int x30), .val (.int x31), .val (.int x32), .val (.int x33), .val (.ref b34), .val (.int 0)] [(.int x31)]))
      refine own_callS S39 (y := (⟨"com/example/libidem/libidem/protocol/TokenIsValidPinLaw", "ref", "(C)Z"⟩ : MethodName)) (own_w hw 50 rfl) (own_w hw 51 rfl) (own_w hw 3 rfl) (own_w hw 52 rfl) (by decide) (argsL := [(.int x31)]) (rest := []) (own_ref l Z a0 hw x31 h34 S39.old) all0 (by decide +kernel : parseMethodDescriptor "(C)Z" = some ⟨[.char], some .boolean⟩) rfl rfl rfl at_86 (by decide) (Nat.le_of_ble_eq_true rfl) (by decide) (by decide) (fun T49 h49 v49 S49 K49 q49 => ?_)
      obtain ⟨rfl, rfl⟩ := q49
      show own_F _ p e below _ Z _ _ _ _ _ (T49.setTop (mkF m 89 #[.val (.int p0), .val (.int p1), .val (.int p2), .val (.int p3), .val (.int p4), .val (.int 2), .val (.int x30), .val (.int x31), .val (.int x32), .val (.int x33), .val (.ref b34), .val (.int 0)] [(.int (own_ex x31))]))
      refine own_if S49 95 at_89 (by decide) (by decide) (fun (hc89_50 : ¬ ((own_ex x31) = (0 : Int32))) => ?_) (fun (hc89_50 : (own_ex x31) = (0 : Int32)) => ?_)
      · show own_F _ p e below _ Z _ _ _ _ _ (T49.setTop (mkF m 95 #[.val (.int p0), .val (.int p1), .val (.int p2), .val (.int p3), .val (.int p4), .val (.int 2), .val (.int x30), .val (.int x31), .val (.int x32), .val (.int x33), .val (.ref b34), .val (.int 0)] []))
        refine own_F.of (fun _ => XS.iload S49.here S49.hx rfl (S49.dec at_95) rfl) ?_
        refine own_F.of (fun _ => XS.iconst S49.here S49.hx rfl (S49.dec at_97)) ?_
        show own_F _ p e below _ Z _ _ _ _ _ (T49.setTop (mkF m 98 #[.val (.int p0), .val (.int p1), .val (.int p2), .val (.int p3), .val (.int p4), .val (.int 2), .val (.int x30), .val (.int x31), .val (.int x32), .val (.int x33), .val (.ref b34), .val (.int 0)] [(.int 3), (.int 2)]))
        refine own_icmp S49 112 at_98 (by decide) (by decide) (fun (hc98_51 : (2 : Int32) < (3 : Int32)) => ?_) (fun (hc98_51 : ¬ ((2 : Int32) < (3 : Int32))) => False.elim (absurd hc98_51 (by decide)))
        show own_F _ p e below _ Z _ _ _ _ _ (T49.setTop (mkF m 112 #[.val (.int p0), .val (.int p1), .val (.int p2), .val (.int p3), .val (.int p4), .val (.int 2), .val (.int x30), .val (.int x31), .val (.int x32), .val (.int x33), .val (.ref b34), .val (.int 0)] []))
        refine own_F.of (fun _ => XS.iload S49.here S49.hx rfl (S49.dec at_112) rfl) ?_
        refine own_F.of (fun _ => XS.iconst S49.here S49.hx rfl (S49.dec at_114)) ?_
        show own_F _ p e below _ Z _ _ _ _ _ (T49.setTop (mkF m 115 #[.val (.int p0), .val (.int p1), .val (.int p2), .val (.int p3), .val (.int p4), .val (.int 2), .val (.int x30), .val (.int x31), .val (.int x32), .val (.int x33), .val (.ref b34), .val (.int 0)] [(.int 4), (.int 2)]))
        refine own_icmp S49 129 at_115 (by decide) (by decide) (fun (hc115_52 : (2 : Int32) < (4 : Int32)) => ?_) (fun (hc115_52 : ¬ ((2 : Int32) < (4 : Int32))) => False.elim (absurd hc115_52 (by decide)))
        show own_F _ p e below _ Z _ _ _ _ _ (T49.setTop (mkF m 129 #[.val (.int p0), .val (.int p1), .val (.int p2), .val (.int p3), .val (.int p4), .val (.int 2), .val (.int x30), .val (.int x31), .val (.int x32), .val (.int x33), .val (.ref b34), .val (.int 0)] []))
        exact J T49 S49 (0 : Int32) (by simp [own_al, own_narC cx30, own_same cx30.1 cx30.2, own_narC cx31, own_same cx31.1 cx31.2, hc72_40, hc89_50])
      · show own_F _ p e below _ Z _ _ _ _ _ (T49.setTop (mkF m 92 #[.val (.int p0), .val (.int p1), .val (.int p2), .val (.int p3), .val (.int p4), .val (.int 2), .val (.int x30), .val (.int x31), .val (.int x32), .val (.int x33), .val (.ref b34), .val (.int 0)] []))
        refine own_F.of (fun _ => XS.iconst S49.here S49.hx rfl (S49.dec at_92)) ?_
        show own_F _ p e below _ Z _ _ _ _ _ (T49.setTop (mkF m 93 #[.val (.int p0), .val (.int p1), .val (.int p2), .val (.int p3), .val (.int p4), .val (.int 2), .val (.int x30), .val (.int x31), .val (.int x32), .val (.int x33), .val (.ref b34), .val (.int 0)] [(.int 0)]))
        refine own_F.of (fun _ => XS.istore S49.here S49.hx rfl (S49.dec at_93) rfl (l' := #[.val (.int p0), .val (.int p1), .val (.int p2), .val (.int p3), .val (.int p4), .val (.int 2), .val (.int x30), .val (.int x31), .val (.int x32), .val (.int x33), .val (.ref b34), .val (.int 0)]) rfl) ?_
        refine own_F.of (fun _ => XS.iload S49.here S49.hx rfl (S49.dec at_95) rfl) ?_
        refine own_F.of (fun _ => XS.iconst S49.here S49.hx rfl (S49.dec at_97)) ?_
        show own_F _ p e below _ Z _ _ _ _ _ (T49.setTop (mkF m 98 #[.val (.int p0), .val (.int p1), .val (.int p2), .val (.int p3), .val (.int p4), .val (.int 2), .val (.int x30), .val (.int x31), .val (.int x32), .val (.int x33), .val (.ref b34), .val (.int 0)] [(.int 3), (.int 2)]))
        refine own_icmp S49 112 at_98 (by decide) (by decide) (fun (hc98_53 : (2 : Int32) < (3 : Int32)) => ?_) (fun (hc98_53 : ¬ ((2 : Int32) < (3 : Int32))) => False.elim (absurd hc98_53 (by decide)))
        show own_F _ p e below _ Z _ _ _ _ _ (T49.setTop (mkF m 112 #[.val (.int p0), .val (.int p1), .val (.int p2), .val (.int p3), .val (.int p4), .val (.int 2), .val (.int x30), .val (.int x31), .val (.int x32), .val (.int x33), .val (.ref b34), .val (.int 0)] []))
        refine own_F.of (fun _ => XS.iload S49.here S49.hx rfl (S49.dec at_112) rfl) ?_
        refine own_F.of (fun _ => XS.iconst S49.here S49.hx rfl (S49.dec at_114)) ?_
        show own_F _ p e below _ Z _ _ _ _ _ (T49.setTop (mkF m 115 #[.val (.int p0), .val (.int p1), .val (.int p2), .val (.int p3), .val (.int p4), .val (.int 2), .val (.int x30), .val (.int x31), .val (.int x32), .val (.int x33), .val (.ref b34), .val (.int 0)] [(.int 4), (.int 2)]))
        refine own_icmp S49 129 at_115 (by decide) (by decide) (fun (hc115_54 : (2 : Int32) < (4 : Int32)) => ?_) (fun (hc115_54 : ¬ ((2 : Int32) < (4 : Int32))) => False.elim (absurd hc115_54 (by decide)))
        show own_F _ p e below _ Z _ _ _ _ _ (T49.setTop (mkF m 129 #[.val (.int p0), .val (.int p1), .val (.int p2), .val (.int p3), .val (.int p4), .val (.int 2), .val (.int x30), .val (.int x31), .val (.int x32), .val (.int x33), .val (.ref b34), .val (.int 0)] []))
        exact J T49 S49 (0 : Int32) (by simp [own_al, own_narC cx30, own_same cx30.1 cx30.2, own_narC cx31, own_same cx31.1 cx31.2, hc72_40, hc89_50])
  · rw [hn]
    show own_F _ p e below _ Z _ _ _ _ _ (T0.setTop (mkF m 8 #[.val (.int p0), .val (.int p1), .val (.int p2), .val (.int p3), .val (.int p4), .val (.int 3), .unset, .unset, .unset, .unset, .unset, .unset] []))
    refine own_F.of (fun _ => XS.iloadN S0.here S0.hx rfl (S0.dec at_8) rfl) ?_
    show own_F _ p e below _ Z _ _ _ _ _ (T0.setTop (mkF m 9 #[.val (.int p0), .val (.int p1), .val (.int p2), .val (.int p3), .val (.int p4), .val (.int 3), .unset, .unset, .unset, .unset, .unset, .unset] [(.int p1)]))
    refine own_callS S0 (y := (⟨"com/example/libidem/libidem/protocol/TokenIsValidPinLaw", "ch", "(I)C"⟩ : MethodName)) (own_w hw 1 rfl) (own_w hw 2 rfl) (own_w hw 3 rfl) (own_w hw 4 rfl) (by decide) (argsL := [(.int p1)]) (rest := []) (own_ch l Z a0 hw p1 h0 S0.old) all0 (by decide +kernel : parseMethodDescriptor "(I)C" = some ⟨[.int], some .char⟩) rfl rfl rfl at_9 (by decide) (Nat.le_of_ble_eq_true rfl) (by decide) (by decide) (fun T55 h55 v55 S55 K55 q55 => ?_)
    obtain ⟨x55, rfl, cx55, rfl⟩ := q55
    show own_F _ p e below _ Z _ _ _ _ _ (T55.setTop (mkF m 12 #[.val (.int p0), .val (.int p1), .val (.int p2), .val (.int p3), .val (.int p4), .val (.int 3), .unset, .unset, .unset, .unset, .unset, .unset] [(.int x55)]))
    refine own_F.of (fun _ => XS.istore S55.here S55.hx rfl (S55.dec at_12) rfl (l' := #[.val (.int p0), .val (.int p1), .val (.int p2), .val (.int p3), .val (.int p4), .val (.int 3), .val (.int x55), .unset, .unset, .unset, .unset, .unset]) rfl) ?_
    refine own_F.of (fun _ => XS.iloadN S55.here S55.hx rfl (S55.dec at_14) rfl) ?_
    show own_F _ p e below _ Z _ _ _ _ _ (T55.setTop (mkF m 15 #[.val (.int p0), .val (.int p1), .val (.int p2), .val (.int p3), .val (.int p4), .val (.int 3), .val (.int x55), .unset, .unset, .unset, .unset, .unset] [(.int p2)]))
    refine own_callS S55 (y := (⟨"com/example/libidem/libidem/protocol/TokenIsValidPinLaw", "ch", "(I)C"⟩ : MethodName)) (own_w hw 1 rfl) (own_w hw 2 rfl) (own_w hw 3 rfl) (own_w hw 4 rfl) (by decide) (argsL := [(.int p2)]) (rest := []) (own_ch l Z a0 hw p2 h0 S55.old) all0 (by decide +kernel : parseMethodDescriptor "(I)C" = some ⟨[.int], some .char⟩) rfl rfl rfl at_15 (by decide) (Nat.le_of_ble_eq_true rfl) (by decide) (by decide) (fun T56 h56 v56 S56 K56 q56 => ?_)
    obtain ⟨x56, rfl, cx56, rfl⟩ := q56
    show own_F _ p e below _ Z _ _ _ _ _ (T56.setTop (mkF m 18 #[.val (.int p0), .val (.int p1), .val (.int p2), .val (.int p3), .val (.int p4), .val (.int 3), .val (.int x55), .unset, .unset, .unset, .unset, .unset] [(.int x56)]))
    refine own_F.of (fun _ => XS.istore S56.here S56.hx rfl (S56.dec at_18) rfl (l' := #[.val (.int p0), .val (.int p1), .val (.int p2), .val (.int p3), .val (.int p4), .val (.int 3), .val (.int x55), .val (.int x56), .unset, .unset, .unset, .unset]) rfl) ?_
    refine own_F.of (fun _ => XS.iloadN S56.here S56.hx rfl (S56.dec at_20) rfl) ?_
    show own_F _ p e below _ Z _ _ _ _ _ (T56.setTop (mkF m 21 #[.val (.int p0), .val (.int p1), .val (.int p2), .val (.int p3), .val (.int p4), .val (.int 3), .val (.int x55), .val (.int x56), .unset, .unset, .unset, .unset] [(.int p3)]))
    refine own_callS S56 (y := (⟨"com/example/libidem/libidem/protocol/TokenIsValidPinLaw", "ch", "(I)C"⟩ : MethodName)) (own_w hw 1 rfl) (own_w hw 2 rfl) (own_w hw 3 rfl) (own_w hw 4 rfl) (by decide) (argsL := [(.int p3)]) (rest := []) (own_ch l Z a0 hw p3 h0 S56.old) all0 (by decide +kernel : parseMethodDescriptor "(I)C" = some ⟨[.int], some .char⟩) rfl rfl rfl at_21 (by decide) (Nat.le_of_ble_eq_true rfl) (by decide) (by decide) (fun T57 h57 v57 S57 K57 q57 => ?_)
    obtain ⟨x57, rfl, cx57, rfl⟩ := q57
    show own_F _ p e below _ Z _ _ _ _ _ (T57.setTop (mkF m 24 #[.val (.int p0), .val (.int p1), .val (.int p2), .val (.int p3), .val (.int p4), .val (.int 3), .val (.int x55), .val (.int x56), .unset, .unset, .unset, .unset] [(.int x57)]))
    refine own_F.of (fun _ => XS.istore S57.here S57.hx rfl (S57.dec at_24) rfl (l' := #[.val (.int p0), .val (.int p1), .val (.int p2), .val (.int p3), .val (.int p4), .val (.int 3), .val (.int x55), .val (.int x56), .val (.int x57), .unset, .unset, .unset]) rfl) ?_
    refine own_F.of (fun _ => XS.iload S57.here S57.hx rfl (S57.dec at_26) rfl) ?_
    show own_F _ p e below _ Z _ _ _ _ _ (T57.setTop (mkF m 28 #[.val (.int p0), .val (.int p1), .val (.int p2), .val (.int p3), .val (.int p4), .val (.int 3), .val (.int x55), .val (.int x56), .val (.int x57), .unset, .unset, .unset] [(.int p4)]))
    refine own_callS S57 (y := (⟨"com/example/libidem/libidem/protocol/TokenIsValidPinLaw", "ch", "(I)C"⟩ : MethodName)) (own_w hw 1 rfl) (own_w hw 2 rfl) (own_w hw 3 rfl) (own_w hw 4 rfl) (by decide) (argsL := [(.int p4)]) (rest := []) (own_ch l Z a0 hw p4 h0 S57.old) all0 (by decide +kernel : parseMethodDescriptor "(I)C" = some ⟨[.int], some .char⟩) rfl rfl rfl at_28 (by decide) (Nat.le_of_ble_eq_true rfl) (by decide) (by decide) (fun T58 h58 v58 S58 K58 q58 => ?_)
    obtain ⟨x58, rfl, cx58, rfl⟩ := q58
    show own_F _ p e below _ Z _ _ _ _ _ (T58.setTop (mkF m 31 #[.val (.int p0), .val (.int p1), .val (.int p2), .val (.int p3), .val (.int p4), .val (.int 3), .val (.int x55), .val (.int x56), .val (.int x57), .unset, .unset, .unset] [(.int x58)]))
    refine own_F.of (fun _ => XS.istore S58.here S58.hx rfl (S58.dec at_31) rfl (l' := #[.val (.int p0), .val (.int p1), .val (.int p2), .val (.int p3), .val (.int p4), .val (.int 3), .val (.int x55), .val (.int x56), .val (.int x57), .val (.int x58), .unset, .unset]) rfl) ?_
    refine own_F.of (fun _ => XS.iload S58.here S58.hx rfl (S58.dec at_33) rfl) ?_
    refine own_F.of (fun _ => XS.iload S58.here S58.hx rfl (S58.dec at_35) rfl) ?_
    refine own_F.of (fun _ => XS.iload S58.here S58.hx rfl (S58.dec at_37) rfl) ?_
    refine own_F.of (fun _ => XS.iload S58.here S58.hx rfl (S58.dec at_39) rfl) ?_
    refine own_F.of (fun _ => XS.iload S58.here S58.hx rfl (S58.dec at_41) rfl) ?_
    show own_F _ p e below _ Z _ _ _ _ _ (T58.setTop (mkF m 43 #[.val (.int p0), .val (.int p1), .val (.int p2), .val (.int p3), .val (.int p4), .val (.int 3), .val (.int x55), .val (.int x56), .val (.int x57), .val (.int x58), .unset, .unset] [(.int x58), (.int x57), (.int x56), (.int x55), (.int 3)]))
    refine own_callS S58 (y := (⟨"com/example/libidem/libidem/protocol/TokenIsValidPinLaw", "str", "(ICCCC)Ljava/lang/String;"⟩ : MethodName)) (own_w hw 5 rfl) (own_w hw 6 rfl) (own_w hw 3 rfl) (own_w hw 7 rfl) (by decide) (argsL := [(.int (3 : Int32)), (.int x55), (.int x56), (.int x57), (.int x58)]) (rest := []) (own_stN3 l Z a0 hw x55 x56 x57 x58 zc h0 S58.old SZ hz S_as S_hi S_lo) all0 (by decide +kernel : parseMethodDescriptor "(ICCCC)Ljava/lang/String;" = some ⟨[.int, .char, .char, .char, .char], some (.object "java/lang/String")⟩) rfl rfl rfl at_43 (by decide) (Nat.le_of_ble_eq_true rfl) (by decide) (by decide) (fun T59 h59 v59 S59 K59 q59 => ?_)
    obtain ⟨b59, rfl, X59, F59⟩ := q59
    show own_F _ p e below _ Z _ _ _ _ _ (T59.setTop (mkF m 46 #[.val (.int p0), .val (.int p1), .val (.int p2), .val (.int p3), .val (.int p4), .val (.int 3), .val (.int x55), .val (.int x56), .val (.int x57), .val (.int x58), .unset, .unset] [(.ref b59)]))
    refine own_F.of (fun _ => XS.astore S59.here S59.hx rfl (S59.dec at_46) rfl rfl (l' := #[.val (.int p0), .val (.int p1), .val (.int p2), .val (.int p3), .val (.int p4), .val (.int 3), .val (.int x55), .val (.int x56), .val (.int x57), .val (.int x58), .val (.ref b59), .unset]) rfl) ?_
    have J : ∀ (TJ : State) (SJ : own_S Z h0 [] x.cls code maxLocals ret x.name p l e room_1 s m #[.int p0, .int p1, .int p2, .int p3, .int p4] below meth c TJ h59 4 16) (vJ : Int32), vJ = own_al [(nar .char x55), (nar .char x56), (nar .char x57)] → own_F ReturnedEndW p e below s Z h0 [] room_1.cells room_1.slots (fun v _ => v = some (.int 1)) (TJ.setTop (mkF m 129 #[.val (.int p0), .val (.int p1), .val (.int p2), .val (.int p3), .val (.int p4), .val (.int (3 : Int32)), .val (.int x55), .val (.int x56), .val (.int x57), .val (.int x58), .val (.ref b59), .val (.int vJ)] [])) := by
      intro TJ SJ vJ hJ
      show own_F _ p e below _ Z _ _ _ _ _ (TJ.setTop (mkF m 129 #[.val (.int p0), .val (.int p1), .val (.int p2), .val (.int p3), .val (.int p4), .val (.int 3), .val (.int x55), .val (.int x56), .val (.int x57), .val (.int x58), .val (.ref b59), .val (.int vJ)] []))
      refine own_F.of (fun _ => XS.aload SJ.here SJ.hx rfl (SJ.dec at_129) rfl rfl) ?_
      show own_F _ p e below _ Z _ _ _ _ _ (TJ.setTop (mkF m 131 #[.val (.int p0), .val (.int p1), .val (.int p2), .val (.int p3), .val (.int p4), .val (.int 3), .val (.int x55), .val (.int x56), .val (.int x57), .val (.int x58), .val (.ref b59), .val (.int vJ)] [(.ref b59)]))
      refine own_callS SJ (y := (⟨"com/example/libidem/libidem/protocol/Token", "isValid", "(Ljava/lang/String;)Z"⟩ : MethodName)) (own_w hw 30 rfl) (own_w hw 31 rfl) (own_w hw 32 rfl) (own_w hw 33 rfl) (by decide) (argsL := [(.ref b59)]) (rest := []) (own_val3 l Z a0 hw b59 (nar .char x55) (nar .char x56) (nar .char x57) zc vF aT h59 SJ.old SZ hz S_as S_hi S_lo hvF SF ST AT (own_isC.nar _) (own_isC.nar _) (own_isC.nar _) X59 F59) all0 (by decide +kernel : parseMethodDescriptor "(Ljava/lang/String;)Z" = some ⟨[(.object "java/lang/String")], some .boolean⟩) rfl rfl rfl at_131 (by decide) (Nat.le_of_ble_eq_true rfl) (by decide) (by decide) (fun T60 h60 v60 S60 K60 q60 => ?_)
      obtain ⟨rfl, rfl⟩ := q60
      show own_F _ p e below _ Z _ _ _ _ _ (T60.setTop (mkF m 134 #[.val (.int p0), .val (.int p1), .val (.int p2), .val (.int p3), .val (.int p4), .val (.int 3), .val (.int x55), .val (.int x56), .val (.int x57), .val (.int x58), .val (.ref b59), .val (.int vJ)] [(.int (own_al [(nar .char x55), (nar .char x56), (nar .char x57)]))]))
      refine own_F.of (fun _ => XS.iload S60.here S60.hx rfl (S60.dec at_134) rfl) ?_
      show own_F _ p e below _ Z _ _ _ _ _ (T60.setTop (mkF m 136 #[.val (.int p0), .val (.int p1), .val (.int p2), .val (.int p3), .val (.int p4), .val (.int 3), .val (.int x55), .val (.int x56), .val (.int x57), .val (.int x58), .val (.ref b59), .val (.int vJ)] [(.int vJ), (.int (own_al [(nar .char x55), (nar .char x56), (nar .char x57)]))]))
      refine own_icmp S60 143 at_136 (by decide) (by decide) (fun (hc136_61 : ¬ ((own_al [(nar .char x55), (nar .char x56), (nar .char x57)]) = vJ)) => False.elim (hc136_61 hJ.symm)) (fun (hc136_61 : (own_al [(nar .char x55), (nar .char x56), (nar .char x57)]) = vJ) => ?_)
      show own_F _ p e below _ Z _ _ _ _ _ (T60.setTop (mkF m 139 #[.val (.int p0), .val (.int p1), .val (.int p2), .val (.int p3), .val (.int p4), .val (.int 3), .val (.int x55), .val (.int x56), .val (.int x57), .val (.int x58), .val (.ref b59), .val (.int vJ)] []))
      refine own_F.of (fun _ => XS.iconst S60.here S60.hx rfl (S60.dec at_139)) ?_
      show own_F _ p e below _ Z _ _ _ _ _ (T60.setTop (mkF m 140 #[.val (.int p0), .val (.int p1), .val (.int p2), .val (.int p3), .val (.int p4), .val (.int 3), .val (.int x55), .val (.int x56), .val (.int x57), .val (.int x58), .val (.ref b59), .val (.int vJ)] [(.int 1)]))
      refine own_F.of (fun _ => XS.goto S60.here S60.hx rfl (pc0 := 140) (pc' := 144) rfl (S60.dec at_140) (by decide) (by decide)) ?_
      show own_F _ p e below _ Z _ _ _ _ _ (T60.setTop (mkF m 144 #[.val (.int p0), .val (.int p1), .val (.int p2), .val (.int p3), .val (.int p4), .val (.int 3), .val (.int x55), .val (.int x56), .val (.int x57), .val (.int x58), .val (.ref b59), .val (.int vJ)] [(.int 1)]))
      refine own_retZ S60 (by simp) at_144 (by decide) (by decide) ?_
      rfl
    refine own_F.of (fun _ => XS.iload S59.here S59.hx rfl (S59.dec at_48) rfl) ?_
    refine own_F.of (fun _ => XS.iconst S59.here S59.hx rfl (S59.dec at_50)) ?_
    show own_F _ p e below _ Z _ _ _ _ _ (T59.setTop (mkF m 51 #[.val (.int p0), .val (.int p1), .val (.int p2), .val (.int p3), .val (.int p4), .val (.int 3), .val (.int x55), .val (.int x56), .val (.int x57), .val (.int x58), .val (.ref b59), .unset] [(.int 1), (.int 3)]))
    refine own_icmp S59 58 at_51 (by decide) (by decide) (fun (hc51_62 : (3 : Int32) < (1 : Int32)) => False.elim (absurd hc51_62 (by decide))) (fun (hc51_62 : ¬ ((3 : Int32) < (1 : Int32))) => ?_)
    show own_F _ p e below _ Z _ _ _ _ _ (T59.setTop (mkF m 54 #[.val (.int p0), .val (.int p1), .val (.int p2), .val (.int p3), .val (.int p4), .val (.int 3), .val (.int x55), .val (.int x56), .val (.int x57), .val (.int x58), .val (.ref b59), .unset] []))
    refine own_F.of (fun _ => XS.iconst S59.here S59.hx rfl (S59.dec at_54)) ?_
    show own_F _ p e below _ Z _ _ _ _ _ (T59.setTop (mkF m 55 #[.val (.int p0), .val (.int p1), .val (.int p2), .val (.int p3), .val (.int p4), .val (.int 3), .val (.int x55), .val (.int x56), .val (.int x57), .val (.int x58), .val (.ref b59), .unset] [(.int 1)]))
    refine own_F.of (fun _ => XS.goto S59.here S59.hx rfl (pc0 := 55) (pc' := 59) rfl (S59.dec at_55) (by decide) (by decide)) ?_
    show own_F _ p e below _ Z _ _ _ _ _ (T59.setTop (mkF m 59 #[.val (.int p0), .val (.int p1), .val (.int p2), .val (.int p3), .val (.int p4), .val (.int 3), .val (.int x55), .val (.int x56), .val (.int x57), .val (.int x58), .val (.ref b59), .unset] [(.int 1)]))
    refine own_F.of (fun _ => XS.istore S59.here S59.hx rfl (S59.dec at_59) rfl (l' := #[.val (.int p0), .val (.int p1), .val (.int p2), .val (.int p3), .val (.int p4), .val (.int 3), .val (.int x55), .val (.int x56), .val (.int x57), .val (.int x58), .val (.ref b59), .val (.int 1)]) rfl) ?_
    refine own_F.of (fun _ => XS.iload S59.here S59.hx rfl (S59.dec at_61) rfl) ?_
    refine own_F.of (fun _ => XS.iconst S59.here S59.hx rfl (S59.dec at_63)) ?_
    show own_F _ p e below _ Z _ _ _ _ _ (T59.setTop (mkF m 64 #[.val (.int p0), .val (.int p1), .val (.int p2), .val (.int p3), .val (.int p4), .val (.int 3), .val (.int x55), .val (.int x56), .val (.int x57), .val (.int x58), .val (.ref b59), .val (.int 1)] [(.int 1), (.int 3)]))
    refine own_icmp S59 78 at_64 (by decide) (by decide) (fun (hc64_63 : (3 : Int32) < (1 : Int32)) => False.elim (absurd hc64_63 (by decide))) (fun (hc64_63 : ¬ ((3 : Int32) < (1 : Int32))) => ?_)
    show own_F _ p e below _ Z _ _ _ _ _ (T59.setTop (mkF m 67 #[.val (.int p0), .val (.int p1), .val (.int p2), .val (.int p3), .val (.int p4), .val (.int 3), .val (.int x55), .val (.int x56), .val (.int x57), .val (.int x58), .val (.ref b59), .val (.int 1)] []))
    refine own_F.of (fun _ => XS.iload S59.here S59.hx rfl (S59.dec at_67) rfl) ?_
    show own_F _ p e below _ Z _ _ _ _ _ (T59.setTop (mkF m 69 #[.val (.int p0), .val (.int p1), .val (.int p2), .val (.int p3), .val (.int p4), .val (.int 3), .val (.int x55), .val (.int x56), .val (.int x57), .val (.int x58), .val (.ref b59), .val (.int 1)] [(.int x55)]))
    refine own_callS S59 (y := (⟨"com/example/libidem/libidem/protocol/TokenIsValidPinLaw", "ref", "(C)Z"⟩ : MethodName)) (own_w hw 50 rfl) (own_w hw 51 rfl) (own_w hw 3 rfl) (own_w hw 52 rfl) (by decide) (argsL := [(.int x55)]) (rest := []) (own_ref l Z a0 hw x55 h59 S59.old) all0 (by decide +kernel : parseMethodDescriptor "(C)Z" = some ⟨[.char], some .boolean⟩) rfl rfl rfl at_69 (by decide) (Nat.le_of_ble_eq_true rfl) (by decide) (by decide) (fun T64 h64 v64 S64 K64 q64 => ?_)
    obtain ⟨rfl, rfl⟩ := q64
    show own_F _ p e below _ Z _ _ _ _ _ (T64.setTop (mkF m 72 #[.val (.int p0), .val (.int p1), .val (.int p2), .val (.int p3), .val (.int p4), .val (.int 3), .val (.int x55), .val (.int x56), .val (.int x57), .val (.int x58), .val (.ref b59), .val (.int 1)] [(.int (own_ex x55))]))
    refine own_if S64 78 at_72 (by decide) (by decide) (fun (hc72_65 : ¬ ((own_ex x55) = (0 : Int32))) => ?_) (fun (hc72_65 : (own_ex x55) = (0 : Int32)) => ?_)
    · show own_F _ p e below _ Z _ _ _ _ _ (T64.setTop (mkF m 78 #[.val (.int p0), .val (.int p1), .val (.int p2), .val (.int p3), .val (.int p4), .val (.int 3), .val (.int x55), .val (.int x56), .val (.int x57), .val (.int x58), .val (.ref b59), .val (.int 1)] []))
      refine own_F.of (fun _ => XS.iload S64.here S64.hx rfl (S64.dec at_78) rfl) ?_
      refine own_F.of (fun _ => XS.iconst S64.here S64.hx rfl (S64.dec at_80)) ?_
      show own_F _ p e below _ Z _ _ _ _ _ (T64.setTop (mkF m 81 #[.val (.int p0), .val (.int p1), .val (.int p2), .val (.int p3), .val (.int p4), .val (.int 3), .val (.int x55), .val (.int x56), .val (.int x57), .val (.int x58), .val (.ref b59), .val (.int 1)] [(.int 2), (.int 3)]))
      refine own_icmp S64 95 at_81 (by decide) (by decide) (fun (hc81_66 : (3 : Int32) < (2 : Int32)) => False.elim (absurd hc81_66 (by decide))) (fun (hc81_66 : ¬ ((3 : Int32) < (2 : Int32))) => ?_)
      show own_F _ p e below _ Z _ _ _ _ _ (T64.setTop (mkF m 84 #[.val (.int p0), .val (.int p1), .val (.int p2), .val (.int p3), .val (.int p4), .val (.int 3), .val (.int x55), .val (.int x56), .val (.int x57), .val (.int x58), .val (.ref b59), .val (.int 1)] []))
      refine own_F.of (fun _ => XS.iload S64.here S64.hx rfl (S64.dec at_84) rfl) ?_
      show own_F _ p e below _ Z _ _ _ _ _ (T64.setTop (mkF m 86 #[.val (.int p0), .val (.int p1), .val (.int p2), .val (.int p3), .val (.int p4), .val (.int 3), .val (.int x55), .val (.int x56), .val (.int x57), .val (.int x58), .val (.ref b59), .val (.int 1)] [(.int x56)]))
      refine own_callS S64 (y := (⟨"com/example/libidem/libidem/protocol/TokenIsValidPinLaw", "ref", "(C)Z"⟩ : MethodName)) (own_w hw 50 rfl) (own_w hw 51 rfl) (own_w hw 3 rfl) (own_w hw 52 rfl) (by decide) (argsL := [(.int x56)]) (rest := []) (own_ref l Z a0 hw x56 h59 S64.old) all0 (by decide +kernel : parseMethodDescriptor "(C)Z" = some ⟨[.char], some .boolean⟩) rfl rfl rfl at_86 (by decide) (Nat.le_of_ble_eq_true rfl) (by decide) (by decide) (fun T67 h67 v67 S67 K67 q67 => ?_)
      obtain ⟨rfl, rfl⟩ := q67
      show own_F _ p e below _ Z _ _ _ _ _ (T67.setTop (mkF m 89 #[.val (.int p0), .val (.int p1), .val (.int p2), .val (.int p3), .val (.int p4), .val (.int 3), .val (.int x55), .val (.int x56), .val (.int x57), .val (.int x58), .val (.ref b59), .val (.int 1)] [(.int (own_ex x56))]))
      refine own_if S67 95 at_89 (by decide) (by decide) (fun (hc89_68 : ¬ ((own_ex x56) = (0 : Int32))) => ?_) (fun (hc89_68 : (own_ex x56) = (0 : Int32)) => ?_)
      · show own_F _ p e below _ Z _ _ _ _ _ (T67.setTop (mkF m 95 #[.val (.int p0), .val (.int p1), .val (.int p2), .val (.int p3), .val (.int p4), .val (.int 3), .val (.int x55), .val (.int x56), .val (.int x57), .val (.int x58), .val (.ref b59), .val (.int 1)] []))
        refine own_F.of (fun _ => XS.iload S67.here S67.hx rfl (S67.dec at_95) rfl) ?_
        refine own_F.of (fun _ => XS.iconst S67.here S67.hx rfl (S67.dec at_97)) ?_
        show own_F _ p e below _ Z _ _ _ _ _ (T67.setTop (mkF m 98 #[.val (.int p0), .val (.int p1), .val (.int p2), .val (.int p3), .val (.int p4), .val (.int 3), .val (.int x55), .val (.int x56), .val (.int x57), .val (.int x58), .val (.ref b59), .val (.int 1)] [(.int 3), (.int 3)]))
        refine own_icmp S67 112 at_98 (by decide) (by decide) (fun (hc98_69 : (3 : Int32) < (3 : Int32)) => False.elim (absurd hc98_69 (by decide))) (fun (hc98_69 : ¬ ((3 : Int32) < (3 : Int32))) => ?_)
        show own_F _ p e below _ Z _ _ _ _ _ (T67.setTop (mkF m 101 #[.val (.int p0), .val (.int p1), .val (.int p2), .val (.int p3), .val (.int p4), .val (.int 3), .val (.int x55), .val (.int x56), .val (.int x57), .val (.int x58), .val (.ref b59), .val (.int 1)] []))
        refine own_F.of (fun _ => XS.iload S67.here S67.hx rfl (S67.dec at_101) rfl) ?_
        show own_F _ p e below _ Z _ _ _ _ _ (T67.setTop (mkF m 103 #[.val (.int p0), .val (.int p1), .val (.int p2), .val (.int p3), .val (.int p4), .val (.int 3), .val (.int x55), .val (.int x56), .val (.int x57), .val (.int x58), .val (.ref b59), .val (.int 1)] [(.int x57)]))
        refine own_callS S67 (y := (⟨"com/example/libidem/libidem/protocol/TokenIsValidPinLaw", "ref", "(C)Z"⟩ : MethodName)) (own_w hw 50 rfl) (own_w hw 51 rfl) (own_w hw 3 rfl) (own_w hw 52 rfl) (by decide) (argsL := [(.int x57)]) (rest := []) (own_ref l Z a0 hw x57 h59 S67.old) all0 (by decide +kernel : parseMethodDescriptor "(C)Z" = some ⟨[.char], some .boolean⟩) rfl rfl rfl at_103 (by decide) (Nat.le_of_ble_eq_true rfl) (by decide) (by decide) (fun T70 h70 v70 S70 K70 q70 => ?_)
        obtain ⟨rfl, rfl⟩ := q70
        show own_F _ p e below _ Z _ _ _ _ _ (T70.setTop (mkF m 106 #[.val (.int p0), .val (.int p1), .val (.int p2), .val (.int p3), .val (.int p4), .val (.int 3), .val (.int x55), .val (.int x56), .val (.int x57), .val (.int x58), .val (.ref b59), .val (.int 1)] [(.int (own_ex x57))]))
        refine own_if S70 112 at_106 (by decide) (by decide) (fun (hc106_71 : ¬ ((own_ex x57) = (0 : Int32))) => ?_) (fun (hc106_71 : (own_ex x57) = (0 : Int32)) => ?_)
        · show own_F _ p e below _ Z _ _ _ _ _ (T70.setTop (mkF m 112 #[.val (.int p0), .val (.int p1), .val (.int p2), .val (.int p3), .val (.int p4), .val (.int 3), .val (.int x55), .val (.int x56), .val (.int x57), .val (.int x58), .val (.ref b59), .val (.int 1)] []))
          refine own_F.of (fun _ => XS.iload S70.here S70.hx rfl (S70.dec at_112) rfl) ?_
          refine own_F.of (fun _ => XS.iconst S70.here S70.hx rfl (S70.dec at_114)) ?_
          show own_F _ p e below _ Z _ _ _ _ _ (T70.setTop (mkF m 115 #[.val (.int p0), .val (.int p1), .val (.int p2), .val (.int p3), .val (.int p4), .val (.int 3), .val (.int x55), .val (.int x56), .val (.int x57), .val (.int x58), .val (.ref b59), .val (.int 1)] [(.int 4), (.int 3)]))
          refine own_icmp S70 129 at_115 (by decide) (by decide) (fun (hc115_72 : (3 : Int32) < (4 : Int32)) => ?_) (fun (hc115_72 : ¬ ((3 : Int32) < (4 : Int32))) => False.elim (absurd hc115_72 (by decide)))
          show own_F _ p e below _ Z _ _ _ _ _ (T70.setTop (mkF m 129 #[.val (.int p0), .val (.int p1), .val (.int p2), .val (.int p3), .val (.int p4), .val (.int 3), .val (.int x55), .val (.int x56), .val (.int x57), .val (.int x58), .val (.ref b59), .val (.int 1)] []))
          exact J T70 S70 (1 : Int32) (by simp [own_al, own_narC cx55, own_same cx55.1 cx55.2, own_narC cx56, own_same cx56.1 cx56.2, own_narC cx57, own_same cx57.1 cx57.2, hc72_65, hc89_68, hc106_71])
        · show own_F _ p e below _ Z _ _ _ _ _ (T70.setTop (mkF m 109 #[.val (.int p0), .val (.int p1), .val (.int p2), .val (.int p3), .val (.int p4), .val (.int 3), .val (.int x55), .val (.int x56), .val (.int x57), .val (.int x58), .val (.ref b59), .val (.int 1)] []))
          refine own_F.of (fun _ => XS.iconst S70.here S70.hx rfl (S70.dec at_109)) ?_
          show own_F _ p e below _ Z _ _ _ _ _ (T70.setTop (mkF m 110 #[.val (.int p0), .val (.int p1), .val (.int p2), .val (.int p3), .val (.int p4), .val (.int 3), .val (.int x55), .val (.int x56), .val (.int x57), .val (.int x58), .val (.ref b59), .val (.int 1)] [(.int 0)]))
          refine own_F.of (fun _ => XS.istore S70.here S70.hx rfl (S70.dec at_110) rfl (l' := #[.val (.int p0), .val (.int p1), .val (.int p2), .val (.int p3), .val (.int p4), .val (.int 3), .val (.int x55), .val (.int x56), .val (.int x57), .val (.int x58), .val (.ref b59), .val (.int 0)]) rfl) ?_
          refine own_F.of (fun _ => XS.iload S70.here S70.hx rfl (S70.dec at_112) rfl) ?_
          refine own_F.of (fun _ => XS.iconst S70.here S70.hx rfl (S70.dec at_114)) ?_
          show own_F _ p e below _ Z _ _ _ _ _ (T70.setTop (mkF m 115 #[.val (.int p0), .val (.int p1), .val (.int p2), .val (.int p3), .val (.int p4), .val (.int 3), .val (.int x55), .val (.int x56), .val (.int x57), .val (.int x58), .val (.ref b59), .val (.int 0)] [(.int 4), (.int 3)]))
          refine own_icmp S70 129 at_115 (by decide) (by decide) (fun (hc115_73 : (3 : Int32) < (4 : Int32)) => ?_) (fun (hc115_73 : ¬ ((3 : Int32) < (4 : Int32))) => False.elim (absurd hc115_73 (by decide)))
          show own_F _ p e below _ Z _ _ _ _ _ (T70.setTop (mkF m 129 #[.val (.int p0), .val (.int p1), .val (.int p2), .val (.int p3), .val (.int p4), .val (.int 3), .val (.int x55), .val (.int x56), .val (.int x57), .val (.int x58), .val (.ref b59), .val (.int 0)] []))
          exact J T70 S70 (0 : Int32) (by simp [own_al, own_narC cx55, own_same cx55.1 cx55.2, own_narC cx56, own_same cx56.1 cx56.2, own_narC cx57, own_same cx57.1 cx57.2, hc72_65, hc89_68, hc106_71])
      · show own_F _ p e below _ Z _ _ _ _ _ (T67.setTop (mkF m 92 #[.val (.int p0), .val (.int p1), .val (.int p2), .val (.int p3), .val (.int p4), .val (.int 3), .val (.int x55), .val (.int x56), .val (.int x57), .val (.int x58), .val (.ref b59), .val (.int 1)] []))
        refine own_F.of (fun _ => XS.iconst S67.here S67.hx rfl (S67.dec at_92)) ?_
        show own_F _ p e below _ Z _ _ _ _ _ (T67.setTop (mkF m 93 #[.val (.int p0), .val (.int p1), .val (.int p2), .val (.int p3), .val (.int p4), .val (.int 3), .val (.int x55), .val (.int x56), .val (.int x57), .val (.int x58), .val (.ref b59), .val (.int 1)] [(.int 0)]))
        refine own_F.of (fun _ => XS.istore S67.here S67.hx rfl (S67.dec at_93) rfl (l' := #[.val (.int p0), .val (.int p1), .val (.int p2), .val (.int p3), .val (.int p4), .val (.int 3), .val (.int x55), .val (.int x56), .val (.int x57), .val (.int x58), .val (.ref b59), .val (.int 0)]) rfl) ?_
        refine own_F.of (fun _ => XS.iload S67.here S67.hx rfl (S67.dec at_95) rfl) ?_
        refine own_F.of (fun _ => XS.iconst S67.here S67.hx rfl (S67.dec at_97)) ?_
        show own_F _ p e below _ Z _ _ _ _ _ (T67.setTop (mkF m 98 #[.val (.int p0), .val (.int p1), .val (.int p2), .val (.int p3), .val (.int p4), .val (.int 3), .val (.int x55), .val (.int x56), .val (.int x57), .val (.int x58), .val (.ref b59), .val (.int 0)] [(.int 3), (.int 3)]))
        refine own_icmp S67 112 at_98 (by decide) (by decide) (fun (hc98_74 : (3 : Int32) < (3 : Int32)) => False.elim (absurd hc98_74 (by decide))) (fun (hc98_74 : ¬ ((3 : Int32) < (3 : Int32))) => ?_)
        show own_F _ p e below _ Z _ _ _ _ _ (T67.setTop (mkF m 101 #[.val (.int p0), .val (.int p1), .val (.int p2), .val (.int p3), .val (.int p4), .val (.int 3), .val (.int x55), .val (.int x56), .val (.int x57), .val (.int x58), .val (.ref b59), .val (.int 0)] []))
        refine own_F.of (fun _ => XS.iload S67.here S67.hx rfl (S67.dec at_101) rfl) ?_
        show own_F _ p e below _ Z _ _ _ _ _ (T67.setTop (mkF m 103 #[.val (.int p0), .val (.int p1), .val (.int p2), .val (.int p3), .val (.int p4), .val (.int 3), .val (.int x55), .val (.int x56), .val (.int x57), .val (.int x58), .val (.ref b59), .val (.int 0)] [(.int x57)]))
        refine own_callS S67 (y := (⟨"com/example/libidem/libidem/protocol/TokenIsValidPinLaw", "ref", "(C)Z"⟩ : MethodName)) (own_w hw 50 rfl) (own_w hw 51 rfl) (own_w hw 3 rfl) (own_w hw 52 rfl) (by decide) (argsL := [(.int x57)]) (rest := []) (own_ref l Z a0 hw x57 h59 S67.old) all0 (by decide +kernel : parseMethodDescriptor "(C)Z" = some ⟨[.char], some .boolean⟩) rfl rfl rfl at_103 (by decide) (Nat.le_of_ble_eq_true rfl) (by decide) (by decide) (fun T75 h75 v75 S75 K75 q75 => ?_)
        obtain ⟨rfl, rfl⟩ := q75
        show own_F _ p e below _ Z _ _ _ _ _ (T75.setTop (mkF m 106 #[.val (.int p0), .val (.int p1), .val (.int p2), .val (.int p3), .val (.int p4), .val (.int 3), .val (.int x55), .val (.int x56), .val (.int x57), .val (.int x58), .val (.ref b59), .val (.int 0)] [(.int (own_ex x57))]))
        refine own_if S75 112 at_106 (by decide) (by decide) (fun (hc106_76 : ¬ ((own_ex x57) = (0 : Int32))) => ?_) (fun (hc106_76 : (own_ex x57) = (0 : Int32)) => ?_)
        · show own_F _ p e below _ Z _ _ _ _ _ (T75.setTop (mkF m 112 #[.val (.int p0), .val (.int p1), .val (.int p2), .val (.int p3), .val (.int p4), .val (.int 3), .val (.int x55), .val (.int x56), .val (.int x57), .val (.int x58), .val (.ref b59), .val (.int 0)] []))
          refine own_F.of (fun _ => XS.iload S75.here S75.hx rfl (S75.dec at_112) rfl) ?_
          refine own_F.of (fun _ => XS.iconst S75.here S75.hx rfl (S75.dec at_114)) ?_
          show own_F _ p e below _ Z _ _ _ _ _ (T75.setTop (mkF m 115 #[.val (.int p0), .val (.int p1), .val (.int p2), .val (.int p3), .val (.int p4), .val (.int 3), .val (.int x55), .val (.int x56), .val (.int x57), .val (.int x58), .val (.ref b59), .val (.int 0)] [(.int 4), (.int 3)]))
          refine own_icmp S75 129 at_115 (by decide) (by decide) (fun (hc115_77 : (3 : Int32) < (4 : Int32)) => ?_) (fun (hc115_77 : ¬ ((3 : Int32) < (4 : Int32))) => False.elim (absurd hc115_77 (by decide)))
          show own_F _ p e below _ Z _ _ _ _ _ (T75.setTop (mkF m 129 #[.val (.int p0), .val (.int p1), .val (.int p2), .val (.int p3), .val (.int p4), .val (.int 3), .val (.int x55), .val (.int x56), .val (.int x57), .val (.int x58), .val (.ref b59), .val (.int 0)] []))
          exact J T75 S75 (0 : Int32) (by simp [own_al, own_narC cx55, own_same cx55.1 cx55.2, own_narC cx56, own_same cx56.1 cx56.2, own_narC cx57, own_same cx57.1 cx57.2, hc72_65, hc89_68, hc106_76])
        · show own_F _ p e below _ Z _ _ _ _ _ (T75.setTop (mkF m 109 #[.val (.int p0), .val (.int p1), .val (.int p2), .val (.int p3), .val (.int p4), .val (.int 3), .val (.int x55), .val (.int x56), .val (.int x57), .val (.int x58), .val (.ref b59), .val (.int 0)] []))
          refine own_F.of (fun _ => XS.iconst S75.here S75.hx rfl (S75.dec at_109)) ?_
          show own_F _ p e below _ Z _ _ _ _ _ (T75.setTop (mkF m 110 #[.val (.int p0), .val (.int p1), .val (.int p2), .val (.int p3), .val (.int p4), .val (.int 3), .val (.int x55), .val (.int x56), .val (.int x57), .val (.int x58), .val (.ref b59), .val (.int 0)] [(.int 0)]))
          refine own_F.of (fun _ => XS.istore S75.here S75.hx rfl (S75.dec at_110) rfl (l' := #[.val (.int p0), .val (.int p1), .val (.int p2), .val (.int p3), .val (.int p4), .val (.int 3), .val (.int x55), .val (.int x56), .val (.int x57), .val (.int x58), .val (.ref b59), .val (.int 0)]) rfl) ?_
          refine own_F.of (fun _ => XS.iload S75.here S75.hx rfl (S75.dec at_112) rfl) ?_
          refine own_F.of (fun _ => XS.iconst S75.here S75.hx rfl (S75.dec at_114)) ?_
          show own_F _ p e below _ Z _ _ _ _ _ (T75.setTop (mkF m 115 #[.val (.int p0), .val (.int p1), .val (.int p2), .val (.int p3), .val (.int p4), .val (.int 3), .val (.int x55), .val (.int x56), .val (.int x57), .val (.int x58), .val (.ref b59), .val (.int 0)] [(.int 4), (.int 3)]))
          refine own_icmp S75 129 at_115 (by decide) (by decide) (fun (hc115_78 : (3 : Int32) < (4 : Int32)) => ?_) (fun (hc115_78 : ¬ ((3 : Int32) < (4 : Int32))) => False.elim (absurd hc115_78 (by decide)))
          show own_F _ p e below _ Z _ _ _ _ _ (T75.setTop (mkF m 129 #[.val (.int p0), .val (.int p1), .val (.int p2), .val (.int p3), .val (.int p4), .val (.int 3), .val (.int x55), .val (.int x56), .val (.int x57), .val (.int x58), .val (.ref b59), .val (.int 0)] []))
          exact J T75 S75 (0 : Int32) (by simp [own_al, own_narC cx55, own_same cx55.1 cx55.2, own_narC cx56, own_same cx56.1 cx56.2, own_narC cx57, own_same cx57.1 cx57.2, hc72_65, hc89_68, hc106_76])
    · show own_F _ p e below _ Z _ _ _ _ _ (T64.setTop (mkF m 75 #[.val (.int p0), .val (.int p1), .val (.int p2), .val (.int p3), .val (.int p4), .val (.int 3), .val (.int x55), .val (.int x56), .val (.int x57), .val (.int x58), .val (.ref b59), .val (.int 1)] []))
      refine own_F.of (fun _ => XS.iconst S64.here S64.hx rfl (S64.dec at_75)) ?_
      show own_F _ p e below _ Z _ _ _ _ _ (T64.setTop (mkF m 76 #[.val (.int p0), .val (.int p1), .val (.int p2), .val (.int p3), .val (.int p4), .val (.int 3), .val (.int x55), .val (.int x56), .val (.int x57), .val (.int x58), .val (.ref b59), .val (.int 1)] [(.int 0)]))
      refine own_F.of (fun _ => XS.istore S64.here S64.hx rfl (S64.dec at_76) rfl (l' := #[.val (.int p0), .val (.int p1), .val (.int p2), .val (.int p3), .val (.int p4), .val (.int 3), .val (.int x55), .val (.int x56), .val (.int x57), .val (.int x58), .val (.ref b59), .val (.int 0)]) rfl) ?_
      refine own_F.of (fun _ => XS.iload S64.here S64.hx rfl (S64.dec at_78) rfl) ?_
      refine own_F.of (fun _ => XS.iconst S64.here S64.hx rfl (S64.dec at_80)) ?_
      show own_F _ p e below _ Z _ _ _ _ _ (T64.setTop (mkF m 81 #[.val (.int p0), .val (.int p1), .val (.int p2), .val (.int p3), .val (.int p4), .val (.int 3), .val (.int x55), .val (.int x56), .val (.int x57), .val (.int x58), .val (.ref b59), .val (.int 0)] [(.int 2), (.int 3)]))
      refine own_icmp S64 95 at_81 (by decide) (by decide) (fun (hc81_79 : (3 : Int32) < (2 : Int32)) => False.elim (absurd hc81_79 (by decide))) (fun (hc81_79 : ¬ ((3 : Int32) < (2 : Int32))) => ?_)
      show own_F _ p e below _ Z _ _ _ _ _ (T64.setTop (mkF m 84 #[.val (.int p0), .val (.int p1), .val (.int p2), .val (.int p3), .val (.int p4), .val (.int 3), .val (.int x55), .val (.int x56), .val (.int x57), .val (.int x58), .val (.ref b59), .val (.int 0)] []))
      refine own_F.of (fun _ => XS.iload S64.here S64.hx rfl (S64.dec at_84) rfl) ?_
      show own_F _ p e below _ Z _ _ _ _ _ (T64.setTop (mkF m 86 #[.val (.int p0), .val (.int p1), .val (.int p2), .val (.int p3), .val (.int p4), .val (.int 3), .val (.int x55), .val (.int x56), .val (.int x57), .val (.int x58), .val (.ref b59), .val (.int 0)] [(.int x56)]))
      refine own_callS S64 (y := (⟨"com/example/libidem/libidem/protocol/TokenIsValidPinLaw", "ref", "(C)Z"⟩ : MethodName)) (own_w hw 50 rfl) (own_w hw 51 rfl) (own_w hw 3 rfl) (own_w hw 52 rfl) (by decide) (argsL := [(.int x56)]) (rest := []) (own_ref l Z a0 hw x56 h59 S64.old) all0 (by decide +kernel : parseMethodDescriptor "(C)Z" = some ⟨[.char], some .boolean⟩) rfl rfl rfl at_86 (by decide) (Nat.le_of_ble_eq_true rfl) (by decide) (by decide) (fun T80 h80 v80 S80 K80 q80 => ?_)
      obtain ⟨rfl, rfl⟩ := q80
      show own_F _ p e below _ Z _ _ _ _ _ (T80.setTop (mkF m 89 #[.val (.int p0), .val (.int p1), .val (.int p2), .val (.int p3), .val (.int p4), .val (.int 3), .val (.int x55), .val (.int x56), .val (.int x57), .val (.int x58), .val (.ref b59), .val (.int 0)] [(.int (own_ex x56))]))
      refine own_if S80 95 at_89 (by decide) (by decide) (fun (hc89_81 : ¬ ((own_ex x56) = (0 : Int32))) => ?_) (fun (hc89_81 : (own_ex x56) = (0 : Int32)) => ?_)
      · show own_F _ p e below _ Z _ _ _ _ _ (T80.setTop (mkF m 95 #[.val (.int p0), .val (.int p1), .val (.int p2), .val (.int p3), .val (.int p4), .val (.int 3), .val (.int x55), .val (.int x56), .val (.int x57), .val (.int x58), .val (.ref b59), .val (.int 0)] []))
        refine own_F.of (fun _ => XS.iload S80.here S80.hx rfl (S80.dec at_95) rfl) ?_
        refine own_F.of (fun _ => XS.iconst S80.here S80.hx rfl (S80.dec at_97)) ?_
        show own_F _ p e below _ Z _ _ _ _ _ (T80.setTop (mkF m 98 #[.val (.int p0), .val (.int p1), .val (.int p2), .val (.int p3), .val (.int p4), .val (.int 3), .val (.int x55), .val (.int x56), .val (.int x57), .val (.int x58), .val (.ref b59), .val (.int 0)] [(.int 3), (.int 3)]))
        refine own_icmp S80 112 at_98 (by decide) (by decide) (fun (hc98_82 : (3 : Int32) < (3 : Int32)) => False.elim (absurd hc98_82 (by decide))) (fun (hc98_82 : ¬ ((3 : Int32) < (3 : Int32))) => ?_)
        show own_F _ p e below _ Z _ _ _ _ _ (T80.setTop (mkF m 101 #[.val (.int p0), .val (.int p1), .val (.int p2), .val (.int p3), .val (.int p4), .val (.int 3), .val (.int x55), .val (.int x56), .val (.int x57), .val (.int x58), .val (.ref b59), .val (.int 0)] []))
        refine own_F.of (fun _ => XS.iload S80.here S80.hx rfl (S80.dec at_101) rfl) ?_
        show own_F _ p e below _ Z _ _ _ _ _ (T80.setTop (mkF m 103 #[.val (.int p0), .val (.int p1), .val (.int p2), .val (.int p3), .val (.int p4), .val (.int 3), .val (.int x55), .val (.int x56), .val (.int x57), .val (.int x58), .val (.ref b59), .val (.int 0)] [(.int x57)]))
        refine own_callS S80 (y := (⟨"com/example/libidem/libidem/protocol/TokenIsValidPinLaw", "ref", "(C)Z"⟩ : MethodName)) (own_w hw 50 rfl) (own_w hw 51 rfl) (own_w hw 3 rfl) (own_w hw 52 rfl) (by decide) (argsL := [(.int x57)]) (rest := []) (own_ref l Z a0 hw x57 h59 S80.old) all0 (by decide +kernel : parseMethodDescriptor "(C)Z" = some ⟨[.char], some .boolean⟩) rfl rfl rfl at_103 (by decide) (Nat.le_of_ble_eq_true rfl) (by decide) (by decide) (fun T83 h83 v83 S83 K83 q83 => ?_)
        obtain ⟨rfl, rfl⟩ := q83
        show own_F _ p e below _ Z _ _ _ _ _ (T83.setTop (mkF m 106 #[.val (.int p0), .val (.int p1), .val (.int p2), .val (.int p3), .val (.int p4), .val (.int 3), .val (.int x55), .val (.int x56), .val (.int x57), .val (.int x58), .val (.ref b59), .val (.int 0)] [(.int (own_ex x57))]))
        refine own_if S83 112 at_106 (by decide) (by decide) (fun (hc106_84 : ¬ ((own_ex x57) = (0 : Int32))) => ?_) (fun (hc106_84 : (own_ex x57) = (0 : Int32)) => ?_)
        · show own_F _ p e below _ Z _ _ _ _ _ (T83.setTop (mkF m 112 #[.val (.int p0), .val (.int p1), .val (.int p2), .val (.int p3), .val (.int p4), .val (.int 3), .val (.int x55), .val (.int x56), .val (.int x57), .val (.int x58), .val (.ref b59), .val (.int 0)] []))
          refine own_F.of (fun _ => XS.iload S83.here S83.hx rfl (S83.dec at_112) rfl) ?_
          refine own_F.of (fun _ => XS.iconst S83.here S83.hx rfl (S83.dec at_114)) ?_
          show own_F _ p e below _ Z _ _ _ _ _ (T83.setTop (mkF m 115 #[.val (.int p0), .val (.int p1), .val (.int p2), .val (.int p3), .val (.int p4), .val (.int 3), .val (.int x55), .val (.int x56), .val (.int x57), .val (.int x58), .val (.ref b59), .val (.int 0)] [(.int 4), (.int 3)]))
          refine own_icmp S83 129 at_115 (by decide) (by decide) (fun (hc115_85 : (3 : Int32) < (4 : Int32)) => ?_) (fun (hc115_85 : ¬ ((3 : Int32) < (4 : Int32))) => False.elim (absurd hc115_85 (by decide)))
          show own_F _ p e below _ Z _ _ _ _ _ (T83.setTop (mkF m 129 #[.val (.int p0), .val (.int p1), .val (.int p2), .val (.int p3), .val (.int p4), .val (.int 3), .val (.int x55), .val (.int x56), .val (.int x57), .val (.int x58), .val (.ref b59), .val (.int 0)] []))
          exact J T83 S83 (0 : Int32) (by simp [own_al, own_narC cx55, own_same cx55.1 cx55.2, own_narC cx56, own_same cx56.1 cx56.2, own_narC cx57, own_same cx57.1 cx57.2, hc72_65, hc89_81, hc106_84])
        · show own_F _ p e below _ Z _ _ _ _ _ (T83.setTop (mkF m 109 #[.val (.int p0), .val (.int p1), .val (.int p2), .val (.int p3), .val (.int p4), .val (.int 3), .val (.int x55), .val (.int x56), .val (.int x57), .val (.int x58), .val (.ref b59), .val (.int 0)] []))
          refine own_F.of (fun _ => XS.iconst S83.here S83.hx rfl (S83.dec at_109)) ?_
          show own_F _ p e below _ Z _ _ _ _ _ (T83.setTop (mkF m 110 #[.val (.int p0), .val (.int p1), .val (.int p2), .val (.int p3), .val (.int p4), .val (.int 3), .val (.int x55), .val (.int x56), .val (.int x57), .val (.int x58), .val (.ref b59), .val (.int 0)] [(.int 0)]))
          refine own_F.of (fun _ => XS.istore S83.here S83.hx rfl (S83.dec at_110) rfl (l' := #[.val (.int p0), .val (.int p1), .val (.int p2), .val (.int p3), .val (.int p4), .val (.int 3), .val (.int x55), .val (.int x56), .val (.int x57), .val (.int x58), .val (.ref b59), .val (.int 0)]) rfl) ?_
          refine own_F.of (fun _ => XS.iload S83.here S83.hx rfl (S83.dec at_112) rfl) ?_
          refine own_F.of (fun _ => XS.iconst S83.here S83.hx rfl (S83.dec at_114)) ?_
          show own_F _ p e below _ Z _ _ _ _ _ (T83.setTop (mkF m 115 #[.val (.int p0), .val (.int p1), .val (.int p2), .val (.int p3), .val (.int p4), .val (.int 3), .val (.int x55), .val (.int x56), .val (.int x57), .val (.int x58), .val (.ref b59), .val (.int 0)] [(.int 4), (.int 3)]))
          refine own_icmp S83 129 at_115 (by decide) (by decide) (fun (hc115_86 : (3 : Int32) < (4 : Int32)) => ?_) (fun (hc115_86 : ¬ ((3 : Int32) < (4 : Int32))) => False.elim (absurd hc115_86 (by decide)))
          show own_F _ p e below _ Z _ _ _ _ _ (T83.setTop (mkF m 129 #[.val (.int p0), .val (.int p1), .val (.int p2), .val (.int p3), .val (.int p4), .val (.int 3), .val (.int x55), .val (.int x56), .val (.int x57), .val (.int x58), .val (.ref b59), .val (.int 0)] []))
          exact J T83 S83 (0 : Int32) (by simp [own_al, own_narC cx55, own_same cx55.1 cx55.2, own_narC cx56, own_same cx56.1 cx56.2, own_narC cx57, own_same cx57.1 cx57.2, hc72_65, hc89_81, hc106_84])
      · show own_F _ p e below _ Z _ _ _ _ _ (T80.setTop (mkF m 92 #[.val (.int p0), .val (.int p1), .val (.int p2), .val (.int p3), .val (.int p4), .val (.int 3), .val (.int x55), .val (.int x56), .val (.int x57), .val (.int x58), .val (.ref b59), .val (.int 0)] []))
        refine own_F.of (fun _ => XS.iconst S80.here S80.hx rfl (S80.dec at_92)) ?_
        show own_F _ p e below _ Z _ _ _ _ _ (T80.setTop (mkF m 93 #[.val (.int p0), .val (.int p1), .val (.int p2), .val (.int p3), .val (.int p4), .val (.int 3), .val (.int x55), .val (.int x56), .val (.int x57), .val (.int x58), .val (.ref b59), .val (.int 0)] [(.int 0)]))
        refine own_F.of (fun _ => XS.istore S80.here S80.hx rfl (S80.dec at_93) rfl (l' := #[.val (.int p0), .val (.int p1), .val (.int p2), .val (.int p3), .val (.int p4), .val (.int 3), .val (.int x55), .val (.int x56), .val (.int x57), .val (.int x58), .val (.ref b59), .val (.int 0)]) rfl) ?_
        refine own_F.of (fun _ => XS.iload S80.here S80.hx rfl (S80.dec at_95) rfl) ?_
        refine own_F.of (fun _ => XS.iconst S80.here S80.hx rfl (S80.dec at_97)) ?_
        show own_F _ p e below _ Z _ _ _ _ _ (T80.setTop (mkF m 98 #[.val (.int p0), .val (.int p1), .val (.int p2), .val (.int p3), .val (.int p4), .val (.int 3), .val (.int x55), .val (.int x56), .val (.int x57), .val (.int x58), .val (.ref b59), .val (.int 0)] [(.int 3), (.int 3)]))
        refine own_icmp S80 112 at_98 (by decide) (by decide) (fun (hc98_87 : (3 : Int32) < (3 : Int32)) => False.elim (absurd hc98_87 (by decide))) (fun (hc98_87 : ¬ ((3 : Int32) < (3 : Int32))) => ?_)
        show own_F _ p e below _ Z _ _ _ _ _ (T80.setTop (mkF m 101 #[.val (.int p0), .val (.int p1), .val (.int p2), .val (.int p3), .val (.int p4), .val (.int 3), .val (.int x55), .val (.int x56), .val (.int x57), .val (.int x58), .val (.ref b59), .val (.int 0)] []))
        refine own_F.of (fun _ => XS.iload S80.here S80.hx rfl (S80.dec at_101) rfl) ?_
        show own_F _ p e below _ Z _ _ _ _ _ (T80.setTop (mkF m 103 #[.val (.int p0), .val (.int p1), .val (.int p2), .val (.int p3), .val (.int p4), .val (.int 3), .val (.int x55), .val (.int x56), .val (.int x57), .val (.int x58), .val (.ref b59), .val (.int 0)] [(.int x57)]))
        refine own_callS S80 (y := (⟨"com/example/libidem/libidem/protocol/TokenIsValidPinLaw", "ref", "(C)Z"⟩ : MethodName)) (own_w hw 50 rfl) (own_w hw 51 rfl) (own_w hw 3 rfl) (own_w hw 52 rfl) (by decide) (argsL := [(.int x57)]) (rest := []) (own_ref l Z a0 hw x57 h59 S80.old) all0 (by decide +kernel : parseMethodDescriptor "(C)Z" = some ⟨[.char], some .boolean⟩) rfl rfl rfl at_103 (by decide) (Nat.le_of_ble_eq_true rfl) (by decide) (by decide) (fun T88 h88 v88 S88 K88 q88 => ?_)
        obtain ⟨rfl, rfl⟩ := q88
        show own_F _ p e below _ Z _ _ _ _ _ (T88.setTop (mkF m 106 #[.val (.int p0), .val (.int p1), .val (.int p2), .val (.int p3), .val (.int p4), .val (.int 3), .val (.int x55), .val (.int x56), .val (.int x57), .val (.int x58), .val (.ref b59), .val (.int 0)] [(.int (own_ex x57))]))
        refine own_if S88 112 at_106 (by decide) (by decide) (fun (hc106_89 : ¬ ((own_ex x57) = (0 : Int32))) => ?_) (fun (hc106_89 : (own_ex x57) = (0 : Int32)) => ?_)
        · show own_F _ p e below _ Z _ _ _ _ _ (T88.setTop (mkF m 112 #[.val (.int p0), .val (.int p1), .val (.int p2), .val (.int p3), .val (.int p4), .val (.int 3), .val (.int x55), .val (.int x56), .val (.int x57), .val (.int x58), .val (.ref b59), .val (.int 0)] []))
          refine own_F.of (fun _ => XS.iload S88.here S88.hx rfl (S88.dec at_112) rfl) ?_
          refine own_F.of (fun _ => XS.iconst S88.here S88.hx rfl (S88.dec at_114)) ?_
          show own_F _ p e below _ Z _ _ _ _ _ (T88.setTop (mkF m 115 #[.val (.int p0), .val (.int p1), .val (.int p2), .val (.int p3), .val (.int p4), .val (.int 3), .val (.int x55), .val (.int x56), .val (.int x57), .val (.int x58), .val (.ref b59), .val (.int 0)] [(.int 4), (.int 3)]))
          refine own_icmp S88 129 at_115 (by decide) (by decide) (fun (hc115_90 : (3 : Int32) < (4 : Int32)) => ?_) (fun (hc115_90 : ¬ ((3 : Int32) < (4 : Int32))) => False.elim (absurd hc115_90 (by decide)))
          show own_F _ p e below _ Z _ _ _ _ _ (T88.setTop (mkF m 129 #[.val (.int p0), .val (.int p1), .val (.int p2), .val (.int p3), .val (.int p4), .val (.int 3), .val (.int x55), .val (.int x56), .val (.int x57), .val (.int x58), .val (.ref b59), .val (.int 0)] []))
          exact J T88 S88 (0 : Int32) (by simp [own_al, own_narC cx55, own_same cx55.1 cx55.2, own_narC cx56, own_same cx56.1 cx56.2, own_narC cx57, own_same cx57.1 cx57.2, hc72_65, hc89_81, hc106_89])
        · show own_F _ p e below _ Z _ _ _ _ _ (T88.setTop (mkF m 109 #[.val (.int p0), .val (.int p1), .val (.int p2), .val (.int p3), .val (.int p4), .val (.int 3), .val (.int x55), .val (.int x56), .val (.int x57), .val (.int x58), .val (.ref b59), .val (.int 0)] []))
          refine own_F.of (fun _ => XS.iconst S88.here S88.hx rfl (S88.dec at_109)) ?_
          show own_F _ p e below _ Z _ _ _ _ _ (T88.setTop (mkF m 110 #[.val (.int p0), .val (.int p1), .val (.int p2), .val (.int p3), .val (.int p4), .val (.int 3), .val (.int x55), .val (.int x56), .val (.int x57), .val (.int x58), .val (.ref b59), .val (.int 0)] [(.int 0)]))
          refine own_F.of (fun _ => XS.istore S88.here S88.hx rfl (S88.dec at_110) rfl (l' := #[.val (.int p0), .val (.int p1), .val (.int p2), .val (.int p3), .val (.int p4), .val (.int 3), .val (.int x55), .val (.int x56), .val (.int x57), .val (.int x58), .val (.ref b59), .val (.int 0)]) rfl) ?_
          refine own_F.of (fun _ => XS.iload S88.here S88.hx rfl (S88.dec at_112) rfl) ?_
          refine own_F.of (fun _ => XS.iconst S88.here S88.hx rfl (S88.dec at_114)) ?_
          show own_F _ p e below _ Z _ _ _ _ _ (T88.setTop (mkF m 115 #[.val (.int p0), .val (.int p1), .val (.int p2), .val (.int p3), .val (.int p4), .val (.int 3), .val (.int x55), .val (.int x56), .val (.int x57), .val (.int x58), .val (.ref b59), .val (.int 0)] [(.int 4), (.int 3)]))
          refine own_icmp S88 129 at_115 (by decide) (by decide) (fun (hc115_91 : (3 : Int32) < (4 : Int32)) => ?_) (fun (hc115_91 : ¬ ((3 : Int32) < (4 : Int32))) => False.elim (absurd hc115_91 (by decide)))
          show own_F _ p e below _ Z _ _ _ _ _ (T88.setTop (mkF m 129 #[.val (.int p0), .val (.int p1), .val (.int p2), .val (.int p3), .val (.int p4), .val (.int 3), .val (.int x55), .val (.int x56), .val (.int x57), .val (.int x58), .val (.ref b59), .val (.int 0)] []))
          exact J T88 S88 (0 : Int32) (by simp [own_al, own_narC cx55, own_same cx55.1 cx55.2, own_narC cx56, own_same cx56.1 cx56.2, own_narC cx57, own_same cx57.1 cx57.2, hc72_65, hc89_81, hc106_89])
  · rw [hn]
    show own_F _ p e below _ Z _ _ _ _ _ (T0.setTop (mkF m 8 #[.val (.int p0), .val (.int p1), .val (.int p2), .val (.int p3), .val (.int p4), .val (.int 4), .unset, .unset, .unset, .unset, .unset, .unset] []))
    refine own_F.of (fun _ => XS.iloadN S0.here S0.hx rfl (S0.dec at_8) rfl) ?_
    show own_F _ p e below _ Z _ _ _ _ _ (T0.setTop (mkF m 9 #[.val (.int p0), .val (.int p1), .val (.int p2), .val (.int p3), .val (.int p4), .val (.int 4), .unset, .unset, .unset, .unset, .unset, .unset] [(.int p1)]))
    refine own_callS S0 (y := (⟨"com/example/libidem/libidem/protocol/TokenIsValidPinLaw", "ch", "(I)C"⟩ : MethodName)) (own_w hw 1 rfl) (own_w hw 2 rfl) (own_w hw 3 rfl) (own_w hw 4 rfl) (by decide) (argsL := [(.int p1)]) (rest := []) (own_ch l Z a0 hw p1 h0 S0.old) all0 (by decide +kernel : parseMethodDescriptor "(I)C" = some ⟨[.int], some .char⟩) rfl rfl rfl at_9 (by decide) (Nat.le_of_ble_eq_true rfl) (by decide) (by decide) (fun T92 h92 v92 S92 K92 q92 => ?_)
    obtain ⟨x92, rfl, cx92, rfl⟩ := q92
    show own_F _ p e below _ Z _ _ _ _ _ (T92.setTop (mkF m 12 #[.val (.int p0), .val (.int p1), .val (.int p2), .val (.int p3), .val (.int p4), .val (.int 4), .unset, .unset, .unset, .unset, .unset, .unset] [(.int x92)]))
    refine own_F.of (fun _ => XS.istore S92.here S92.hx rfl (S92.dec at_12) rfl (l' := #[.val (.int p0), .val (.int p1), .val (.int p2), .val (.int p3), .val (.int p4), .val (.int 4), .val (.int x92), .unset, .unset, .unset, .unset, .unset]) rfl) ?_
    refine own_F.of (fun _ => XS.iloadN S92.here S92.hx rfl (S92.dec at_14) rfl) ?_
    show own_F _ p e below _ Z _ _ _ _ _ (T92.setTop (mkF m 15 #[.val (.int p0), .val (.int p1), .val (.int p2), .val (.int p3), .val (.int p4), .val (.int 4), .val (.int x92), .unset, .unset, .unset, .unset, .unset] [(.int p2)]))
    refine own_callS S92 (y := (⟨"com/example/libidem/libidem/protocol/TokenIsValidPinLaw", "ch", "(I)C"⟩ : MethodName)) (own_w hw 1 rfl) (own_w hw 2 rfl) (own_w hw 3 rfl) (own_w hw 4 rfl) (by decide) (argsL := [(.int p2)]) (rest := []) (own_ch l Z a0 hw p2 h0 S92.old) all0 (by decide +kernel : parseMethodDescriptor "(I)C" = some ⟨[.int], some .char⟩) rfl rfl rfl at_15 (by decide) (Nat.le_of_ble_eq_true rfl) (by decide) (by decide) (fun T93 h93 v93 S93 K93 q93 => ?_)
    obtain ⟨x93, rfl, cx93, rfl⟩ := q93
    show own_F _ p e below _ Z _ _ _ _ _ (T93.setTop (mkF m 18 #[.val (.int p0), .val (.int p1), .val (.int p2), .val (.int p3), .val (.int p4), .val (.int 4), .val (.int x92), .unset, .unset, .unset, .unset, .unset] [(.int x93)]))
    refine own_F.of (fun _ => XS.istore S93.here S93.hx rfl (S93.dec at_18) rfl (l' := #[.val (.int p0), .val (.int p1), .val (.int p2), .val (.int p3), .val (.int p4), .val (.int 4), .val (.int x92), .val (.int x93), .unset, .unset, .unset, .unset]) rfl) ?_
    refine own_F.of (fun _ => XS.iloadN S93.here S93.hx rfl (S93.dec at_20) rfl) ?_
    show own_F _ p e below _ Z _ _ _ _ _ (T93.setTop (mkF m 21 #[.val (.int p0), .val (.int p1), .val (.int p2), .val (.int p3), .val (.int p4), .val (.int 4), .val (.int x92), .val (.int x93), .unset, .unset, .unset, .unset] [(.int p3)]))
    refine own_callS S93 (y := (⟨"com/example/libidem/libidem/protocol/TokenIsValidPinLaw", "ch", "(I)C"⟩ : MethodName)) (own_w hw 1 rfl) (own_w hw 2 rfl) (own_w hw 3 rfl) (own_w hw 4 rfl) (by decide) (argsL := [(.int p3)]) (rest := []) (own_ch l Z a0 hw p3 h0 S93.old) all0 (by decide +kernel : parseMethodDescriptor "(I)C" = some ⟨[.int], some .char⟩) rfl rfl rfl at_21 (by decide) (Nat.le_of_ble_eq_true rfl) (by decide) (by decide) (fun T94 h94 v94 S94 K94 q94 => ?_)
    obtain ⟨x94, rfl, cx94, rfl⟩ := q94
    show own_F _ p e below _ Z _ _ _ _ _ (T94.setTop (mkF m 24 #[.val (.int p0), .val (.int p1), .val (.int p2), .val (.int p3), .val (.int p4), .val (.int 4), .val (.int x92), .val (.int x93), .unset, .unset, .unset, .unset] [(.int x94)]))
    refine own_F.of (fun _ => XS.istore S94.here S94.hx rfl (S94.dec at_24) rfl (l' := #[.val (.int p0), .val (.int p1), .val (.int p2), .val (.int p3), .val (.int p4), .val (.int 4), .val (.int x92), .val (.int x93), .val (.int x94), .unset, .unset, .unset]) rfl) ?_
    refine own_F.of (fun _ => XS.iload S94.here S94.hx rfl (S94.dec at_26) rfl) ?_
    show own_F _ p e below _ Z _ _ _ _ _ (T94.setTop (mkF m 28 #[.val (.int p0), .val (.int p1), .val (.int p2), .val (.int p3), .val (.int p4), .val (.int 4), .val (.int x92), .val (.int x93), .val (.int x94), .unset, .unset, .unset] [(.int p4)]))
    refine own_callS S94 (y := (⟨"com/example/libidem/libidem/protocol/TokenIsValidPinLaw", "ch", "(I)C"⟩ : MethodName)) (own_w hw 1 rfl) (own_w hw 2 rfl) (own_w hw 3 rfl) (own_w hw 4 rfl) (by decide) (argsL := [(.int p4)]) (rest := []) (own_ch l Z a0 hw p4 h0 S94.old) all0 (by decide +kernel : parseMethodDescriptor "(I)C" = some ⟨[.int], some .char⟩) rfl rfl rfl at_28 (by decide) (Nat.le_of_ble_eq_true rfl) (by decide) (by decide) (fun T95 h95 v95 S95 K95 q95 => ?_)
    obtain ⟨x95, rfl, cx95, rfl⟩ := q95
    show own_F _ p e below _ Z _ _ _ _ _ (T95.setTop (mkF m 31 #[.val (.int p0), .val (.int p1), .val (.int p2), .val (.int p3), .val (.int p4), .val (.int 4), .val (.int x92), .val (.int x93), .val (.int x94), .unset, .unset, .unset] [(.int x95)]))
    refine own_F.of (fun _ => XS.istore S95.here S95.hx rfl (S95.dec at_31) rfl (l' := #[.val (.int p0), .val (.int p1), .val (.int p2), .val (.int p3), .val (.int p4), .val (.int 4), .val (.int x92), .val (.int x93), .val (.int x94), .val (.int x95), .unset, .unset]) rfl) ?_
    refine own_F.of (fun _ => XS.iload S95.here S95.hx rfl (S95.dec at_33) rfl) ?_
    refine own_F.of (fun _ => XS.iload S95.here S95.hx rfl (S95.dec at_35) rfl) ?_
    refine own_F.of (fun _ => XS.iload S95.here S95.hx rfl (S95.dec at_37) rfl) ?_
    refine own_F.of (fun _ => XS.iload S95.here S95.hx rfl (S95.dec at_39) rfl) ?_
    refine own_F.of (fun _ => XS.iload S95.here S95.hx rfl (S95.dec at_41) rfl) ?_
    show own_F _ p e below _ Z _ _ _ _ _ (T95.setTop (mkF m 43 #[.val (.int p0), .val (.int p1), .val (.int p2), .val (.int p3), .val (.int p4), .val (.int 4), .val (.int x92), .val (.int x93), .val (.int x94), .val (.int x95), .unset, .unset] [(.int x95), (.int x94), (.int x93), (.int x92), (.int 4)]))
    refine own_callS S95 (y := (⟨"com/example/libidem/libidem/protocol/TokenIsValidPinLaw", "str", "(ICCCC)Ljava/lang/String;"⟩ : MethodName)) (own_w hw 5 rfl) (own_w hw 6 rfl) (own_w hw 3 rfl) (own_w hw 7 rfl) (by decide) (argsL := [(.int (4 : Int32)), (.int x92), (.int x93), (.int x94), (.int x95)]) (rest := []) (own_stN4 l Z a0 hw x92 x93 x94 x95 zc h0 S95.old SZ hz S_as S_hi S_lo) all0 (by decide +kernel : parseMethodDescriptor "(ICCCC)Ljava/lang/String;" = some ⟨[.int, .char, .char, .char, .char], some (.object "java/lang/String")⟩) rfl rfl rfl at_43 (by decide) (Nat.le_of_ble_eq_true rfl) (by decide) (by decide) (fun T96 h96 v96 S96 K96 q96 => ?_)
    obtain ⟨b96, rfl, X96, F96⟩ := q96
    show own_F _ p e below _ Z _ _ _ _ _ (T96.setTop (mkF m 46 #[.val (.int p0), .val (.int p1), .val (.int p2), .val (.int p3), .val (.int p4), .val (.int 4), .val (.int x92), .val (.int x93), .val (.int x94), .val (.int x95), .unset, .unset] [(.ref b96)]))
    refine own_F.of (fun _ => XS.astore S96.here S96.hx rfl (S96.dec at_46) rfl rfl (l' := #[.val (.int p0), .val (.int p1), .val (.int p2), .val (.int p3), .val (.int p4), .val (.int 4), .val (.int x92), .val (.int x93), .val (.int x94), .val (.int x95), .val (.ref b96), .unset]) rfl) ?_
    have J : ∀ (TJ : State) (SJ : own_S Z h0 [] x.cls code maxLocals ret x.name p l e room_1 s m #[.int p0, .int p1, .int p2, .int p3, .int p4] below meth c TJ h96 4 20) (vJ : Int32), vJ = own_al [(nar .char x92), (nar .char x93), (nar .char x94), (nar .char x95)] → own_F ReturnedEndW p e below s Z h0 [] room_1.cells room_1.slots (fun v _ => v = some (.int 1)) (TJ.setTop (mkF m 129 #[.val (.int p0), .val (.int p1), .val (.int p2), .val (.int p3), .val (.int p4), .val (.int (4 : Int32)), .val (.int x92), .val (.int x93), .val (.int x94), .val (.int x95), .val (.ref b96), .val (.int vJ)] [])) := by
      intro TJ SJ vJ hJ
      show own_F _ p e below _ Z _ _ _ _ _ (TJ.setTop (mkF m 129 #[.val (.int p0), .val (.int p1), .val (.int p2), .val (.int p3), .val (.int p4), .val (.int 4), .val (.int x92), .val (.int x93), .val (.int x94), .val (.int x95), .val (.ref b96), .val (.int vJ)] []))
      refine own_F.of (fun _ => XS.aload SJ.here SJ.hx rfl (SJ.dec at_129) rfl rfl) ?_
      show own_F _ p e below _ Z _ _ _ _ _ (TJ.setTop (mkF m 131 #[.val (.int p0), .val (.int p1), .val (.int p2), .val (.int p3), .val (.int p4), .val (.int 4), .val (.int x92), .val (.int x93), .val (.int x94), .val (.int x95), .val (.ref b96), .val (.int vJ)] [(.ref b96)]))
      refine own_callS SJ (y := (⟨"com/example/libidem/libidem/protocol/Token", "isValid", "(Ljava/lang/String;)Z"⟩ : MethodName)) (own_w hw 30 rfl) (own_w hw 31 rfl) (own_w hw 32 rfl) (own_w hw 33 rfl) (by decide) (argsL := [(.ref b96)]) (rest := []) (own_val4 l Z a0 hw b96 (nar .char x92) (nar .char x93) (nar .char x94) (nar .char x95) zc vF aT h96 SJ.old SZ hz S_as S_hi S_lo hvF SF ST AT (own_isC.nar _) (own_isC.nar _) (own_isC.nar _) (own_isC.nar _) X96 F96) all0 (by decide +kernel : parseMethodDescriptor "(Ljava/lang/String;)Z" = some ⟨[(.object "java/lang/String")], some .boolean⟩) rfl rfl rfl at_131 (by decide) (Nat.le_of_ble_eq_true rfl) (by decide) (by decide) (fun T97 h97 v97 S97 K97 q97 => ?_)
      obtain ⟨rfl, rfl⟩ := q97
      show own_F _ p e below _ Z _ _ _ _ _ (T97.setTop (mkF m 134 #[.val (.int p0), .val (.int p1), .val (.int p2), .val (.int p3), .val (.int p4), .val (.int 4), .val (.int x92), .val (.int x93), .val (.int x94), .val (.int x95), .val (.ref b96), .val (.int vJ)] [(.int (own_al [(nar .char x92), (nar .char x93), (nar .char x94), (nar .char x95)]))]))
      refine own_F.of (fun _ => XS.iload S97.here S97.hx rfl (S97.dec at_134) rfl) ?_
      show own_F _ p e below _ Z _ _ _ _ _ (T97.setTop (mkF m 136 #[.val (.int p0), .val (.int p1), .val (.int p2), .val (.int p3), .val (.int p4), .val (.int 4), .val (.int x92), .val (.int x93), .val (.int x94), .val (.int x95), .val (.ref b96), .val (.int vJ)] [(.int vJ), (.int (own_al [(nar .char x92), (nar .char x93), (nar .char x94), (nar .char x95)]))]))
      refine own_icmp S97 143 at_136 (by decide) (by decide) (fun (hc136_98 : ¬ ((own_al [(nar .char x92), (nar .char x93), (nar .char x94), (nar .char x95)]) = vJ)) => False.elim (hc136_98 hJ.symm)) (fun (hc136_98 : (own_al [(nar .char x92), (nar .char x93), (nar .char x94), (nar .char x95)]) = vJ) => ?_)
      show own_F _ p e below _ Z _ _ _ _ _ (T97.setTop (mkF m 139 #[.val (.int p0), .val (.int p1), .val (.int p2), .val (.int p3), .val (.int p4), .val (.int 4), .val (.int x92), .val (.int x93), .val (.int x94), .val (.int x95), .val (.ref b96), .val (.int vJ)] []))
      refine own_F.of (fun _ => XS.iconst S97.here S97.hx rfl (S97.dec at_139)) ?_
      show own_F _ p e below _ Z _ _ _ _ _ (T97.setTop (mkF m 140 #[.val (.int p0), .val (.int p1), .val (.int p2), .val (.int p3), .val (.int p4), .val (.int 4), .val (.int x92), .val (.int x93), .val (.int x94), .val (.int x95), .val (.ref b96), .val (.int vJ)] [(.int 1)]))
      refine own_F.of (fun _ => XS.goto S97.here S97.hx rfl (pc0 := 140) (pc' := 144) rfl (S97.dec at_140) (by decide) (by decide)) ?_
      show own_F _ p e below _ Z _ _ _ _ _ (T97.setTop (mkF m 144 #[.val (.int p0), .val (.int p1), .val (.int p2), .val (.int p3), .val (.int p4), .val (.int 4), .val (.int x92), .val (.int x93), .val (.int x94), .val (.int x95), .val (.ref b96), .val (.int vJ)] [(.int 1)]))
      refine own_retZ S97 (by simp) at_144 (by decide) (by decide) ?_
      rfl
    refine own_F.of (fun _ => XS.iload S96.here S96.hx rfl (S96.dec at_48) rfl) ?_
    refine own_F.of (fun _ => XS.iconst S96.here S96.hx rfl (S96.dec at_50)) ?_
    show own_F _ p e below _ Z _ _ _ _ _ (T96.setTop (mkF m 51 #[.val (.int p0), .val (.int p1), .val (.int p2), .val (.int p3), .val (.int p4), .val (.int 4), .val (.int x92), .val (.int x93), .val (.int x94), .val (.int x95), .val (.ref b96), .unset] [(.int 1), (.int 4)]))
    refine own_icmp S96 58 at_51 (by decide) (by decide) (fun (hc51_99 : (4 : Int32) < (1 : Int32)) => False.elim (absurd hc51_99 (by decide))) (fun (hc51_99 : ¬ ((4 : Int32) < (1 : Int32))) => ?_)
    show own_F _ p e below _ Z _ _ _ _ _ (T96.setTop (mkF m 54 #[.val (.int p0), .val (.int p1), .val (.int p2), .val (.int p3), .val (.int p4), .val (.int 4), .val (.int x92), .val (.int x93), .val (.int x94), .val (.int x95), .val (.ref b96), .unset] []))
    refine own_F.of (fun _ => XS.iconst S96.here S96.hx rfl (S96.dec at_54)) ?_
    show own_F _ p e below _ Z _ _ _ _ _ (T96.setTop (mkF m 55 #[.val (.int p0), .val (.int p1), .val (.int p2), .val (.int p3), .val (.int p4), .val (.int 4), .val (.int x92), .val (.int x93), .val (.int x94), .val (.int x95), .val (.ref b96), .unset] [(.int 1)]))
    refine own_F.of (fun _ => XS.goto S96.here S96.hx rfl (pc0 := 55) (pc' := 59) rfl (S96.dec at_55) (by decide) (by decide)) ?_
    show own_F _ p e below _ Z _ _ _ _ _ (T96.setTop (mkF m 59 #[.val (.int p0), .val (.int p1), .val (.int p2), .val (.int p3), .val (.int p4), .val (.int 4), .val (.int x92), .val (.int x93), .val (.int x94), .val (.int x95), .val (.ref b96), .unset] [(.int 1)]))
    refine own_F.of (fun _ => XS.istore S96.here S96.hx rfl (S96.dec at_59) rfl (l' := #[.val (.int p0), .val (.int p1), .val (.int p2), .val (.int p3), .val (.int p4), .val (.int 4), .val (.int x92), .val (.int x93), .val (.int x94), .val (.int x95), .val (.ref b96), .val (.int 1)]) rfl) ?_
    refine own_F.of (fun _ => XS.iload S96.here S96.hx rfl (S96.dec at_61) rfl) ?_
    refine own_F.of (fun _ => XS.iconst S96.here S96.hx rfl (S96.dec at_63)) ?_
    show own_F _ p e below _ Z _ _ _ _ _ (T96.setTop (mkF m 64 #[.val (.int p0), .val (.int p1), .val (.int p2), .val (.int p3), .val (.int p4), .val (.int 4), .val (.int x92), .val (.int x93), .val (.int x94), .val (.int x95), .val (.ref b96), .val (.int 1)] [(.int 1), (.int 4)]))
    refine own_icmp S96 78 at_64 (by decide) (by decide) (fun (hc64_100 : (4 : Int32) < (1 : Int32)) => False.elim (absurd hc64_100 (by decide))) (fun (hc64_100 : ¬ ((4 : Int32) < (1 : Int32))) => ?_)
    show own_F _ p e below _ Z _ _ _ _ _ (T96.setTop (mkF m 67 #[.val (.int p0), .val (.int p1), .val (.int p2), .val (.int p3), .val (.int p4), .val (.int 4), .val (.int x92), .val (.int x93), .val (.int x94), .val (.int x95), .val (.ref b96), .val (.int 1)] []))
    refine own_F.of (fun _ => XS.iload S96.here S96.hx rfl (S96.dec at_67) rfl) ?_
    show own_F _ p e below _ Z _ _ _ _ _ (T96.setTop (mkF m 69 #[.val (.int p0), .val (.int p1), .val (.int p2), .val (.int p3), .val (.int p4), .val (.int 4), .val (.int x92), .val (.int x93), .val (.int x94), .val (.int x95), .val (.ref b96), .val (.int 1)] [(.int x92)]))
    refine own_callS S96 (y := (⟨"com/example/libidem/libidem/protocol/TokenIsValidPinLaw", "ref", "(C)Z"⟩ : MethodName)) (own_w hw 50 rfl) (own_w hw 51 rfl) (own_w hw 3 rfl) (own_w hw 52 rfl) (by decide) (argsL := [(.int x92)]) (rest := []) (own_ref l Z a0 hw x92 h96 S96.old) all0 (by decide +kernel : parseMethodDescriptor "(C)Z" = some ⟨[.char], some .boolean⟩) rfl rfl rfl at_69 (by decide) (Nat.le_of_ble_eq_true rfl) (by decide) (by decide) (fun T101 h101 v101 S101 K101 q101 => ?_)
    obtain ⟨rfl, rfl⟩ := q101
    show own_F _ p e below _ Z _ _ _ _ _ (T101.setTop (mkF m 72 #[.val (.int p0), .val (.int p1), .val (.int p2), .val (.int p3), .val (.int p4), .val (.int 4), .val (.int x92), .val (.int x93), .val (.int x94), .val (.int x95), .val (.ref b96), .val (.int 1)] [(.int (own_ex x92))]))
    refine own_if S101 78 at_72 (by decide) (by decide) (fun (hc72_102 : ¬ ((own_ex x92) = (0 : Int32))) => ?_) (fun (hc72_102 : (own_ex x92) = (0 : Int32)) => ?_)
    · show own_F _ p e below _ Z _ _ _ _ _ (T101.setTop (mkF m 78 #[.val (.int p0), .val (.int p1), .val (.int p2), .val (.int p3), .val (.int p4), .val (.int 4), .val (.int x92), .val (.int x93), .val (.int x94), .val (.int x95), .val (.ref b96), .val (.int 1)] []))
      refine own_F.of (fun _ => XS.iload S101.here S101.hx rfl (S101.dec at_78) rfl) ?_
      refine own_F.of (fun _ => XS.iconst S101.here S101.hx rfl (S101.dec at_80)) ?_
      show own_F _ p e below _ Z _ _ _ _ _ (T101.setTop (mkF m 81 #[.val (.int p0), .val (.int p1), .val (.int p2), .val (.int p3), .val (.int p4), .val (.int 4), .val (.int x92), .val (.int x93), .val (.int x94), .val (.int x95), .val (.ref b96), .val (.int 1)] [(.int 2), (.int 4)]))
      refine own_icmp S101 95 at_81 (by decide) (by decide) (fun (hc81_103 : (4 : Int32) < (2 : Int32)) => False.elim (absurd hc81_103 (by decide))) (fun (hc81_103 : ¬ ((4 : Int32) < (2 : Int32))) => ?_)
      show own_F _ p e below _ Z _ _ _ _ _ (T101.setTop (mkF m 84 #[.val (.int p0), .val (.int p1), .val (.int p2), .val (.int p3), .val (.int p4), .val (.int 4), .val (.int x92), .val (.int x93), .val (.int x94), .val (.int x95), .val (.ref b96), .val (.int 1)] []))
      refine own_F.of (fun _ => XS.iload S101.here S101.hx rfl (S101.dec at_84) rfl) ?_
      show own_F _ p e below _ Z _ _ _ _ _ (T101.setTop (mkF m 86 #[.val (.int p0), .val (.int p1), .val (.int p2), .val (.int p3), .val (.int p4), .val (.int 4), .val (.int x92), .val (.int x93), .val (.int x94), .val (.int x95), .val (.ref b96), .val (.int 1)] [(.int x93)]))
      refine own_callS S101 (y := (⟨"com/example/libidem/libidem/protocol/TokenIsValidPinLaw", "ref", "(C)Z"⟩ : MethodName)) (own_w hw 50 rfl) (own_w hw 51 rfl) (own_w hw 3 rfl) (own_w hw 52 rfl) (by decide) (argsL := [(.int x93)]) (rest := []) (own_ref l Z a0 hw x93 h96 S101.old) all0 (by decide +kernel : parseMethodDescriptor "(C)Z" = some ⟨[.char], some .boolean⟩) rfl rfl rfl at_86 (by decide) (Nat.le_of_ble_eq_true rfl) (by decide) (by decide) (fun T104 h104 v104 S104 K104 q104 => ?_)
      obtain ⟨rfl, rfl⟩ := q104
      show own_F _ p e below _ Z _ _ _ _ _ (T104.setTop (mkF m 89 #[.val (.int p0), .val (.int p1), .val (.int p2), .val (.int p3), .val (.int p4), .val (.int 4), .val (.int x92), .val (.int x93), .val (.int x94), .val (.int x95), .val (.ref b96), .val (.int 1)] [(.int (own_ex x93))]))
      refine own_if S104 95 at_89 (by decide) (by decide) (fun (hc89_105 : ¬ ((own_ex x93) = (0 : Int32))) => ?_) (fun (hc89_105 : (own_ex x93) = (0 : Int32)) => ?_)
      · show own_F _ p e below _ Z _ _ _ _ _ (T104.setTop (mkF m 95 #[.val (.int p0), .val (.int p1), .val (.int p2), .val (.int p3), .val (.int p4), .val (.int 4), .val (.int x92), .val (.int x93), .val (.int x94), .val (.int x95), .val (.ref b96), .val (.int 1)] []))
        refine own_F.of (fun _ => XS.iload S104.here S104.hx rfl (S104.dec at_95) rfl) ?_
        refine own_F.of (fun _ => XS.iconst S104.here S104.hx rfl (S104.dec at_97)) ?_
        show own_F _ p e below _ Z _ _ _ _ _ (T104.setTop (mkF m 98 #[.val (.int p0), .val (.int p1), .val (.int p2), .val (.int p3), .val (.int p4), .val (.int 4), .val (.int x92), .val (.int x93), .val (.int x94), .val (.int x95), .val (.ref b96), .val (.int 1)] [(.int 3), (.int 4)]))
        refine own_icmp S104 112 at_98 (by decide) (by decide) (fun (hc98_106 : (4 : Int32) < (3 : Int32)) => False.elim (absurd hc98_106 (by decide))) (fun (hc98_106 : ¬ ((4 : Int32) < (3 : Int32))) => ?_)
        show own_F _ p e below _ Z _ _ _ _ _ (T104.setTop (mkF m 101 #[.val (.int p0), .val (.int p1), .val (.int p2), .val (.int p3), .val (.int p4), .val (.int 4), .val (.int x92), .val (.int x93), .val (.int x94), .val (.int x95), .val (.ref b96), .val (.int 1)] []))
        refine own_F.of (fun _ => XS.iload S104.here S104.hx rfl (S104.dec at_101) rfl) ?_
        show own_F _ p e below _ Z _ _ _ _ _ (T104.setTop (mkF m 103 #[.val (.int p0), .val (.int p1), .val (.int p2), .val (.int p3), .val (.int p4), .val (.int 4), .val (.int x92), .val (.int x93), .val (.int x94), .val (.int x95), .val (.ref b96), .val (.int 1)] [(.int x94)]))
        refine own_callS S104 (y := (⟨"com/example/libidem/libidem/protocol/TokenIsValidPinLaw", "ref", "(C)Z"⟩ : MethodName)) (own_w hw 50 rfl) (own_w hw 51 rfl) (own_w hw 3 rfl) (own_w hw 52 rfl) (by decide) (argsL := [(.int x94)]) (rest := []) (own_ref l Z a0 hw x94 h96 S104.old) all0 (by decide +kernel : parseMethodDescriptor "(C)Z" = some ⟨[.char], some .boolean⟩) rfl rfl rfl at_103 (by decide) (Nat.le_of_ble_eq_true rfl) (by decide) (by decide) (fun T107 h107 v107 S107 K107 q107 => ?_)
        obtain ⟨rfl, rfl⟩ := q107
        show own_F _ p e below _ Z _ _ _ _ _ (T107.setTop (mkF m 106 #[.val (.int p0), .val (.int p1), .val (.int p2), .val (.int p3), .val (.int p4), .val (.int 4), .val (.int x92), .val (.int x93), .val (.int x94), .val (.int x95), .val (.ref b96), .val (.int 1)] [(.int (own_ex x94))]))
        refine own_if S107 112 at_106 (by decide) (by decide) (fun (hc106_108 : ¬ ((own_ex x94) = (0 : Int32))) => ?_) (fun (hc106_108 : (own_ex x94) = (0 : Int32)) => ?_)
        · show own_F _ p e below _ Z _ _ _ _ _ (T107.setTop (mkF m 112 #[.val (.int p0), .val (.int p1), .val (.int p2), .val (.int p3), .val (.int p4), .val (.int 4), .val (.int x92), .val (.int x93), .val (.int x94), .val (.int x95), .val (.ref b96), .val (.int 1)] []))
          refine own_F.of (fun _ => XS.iload S107.here S107.hx rfl (S107.dec at_112) rfl) ?_
          refine own_F.of (fun _ => XS.iconst S107.here S107.hx rfl (S107.dec at_114)) ?_
          show own_F _ p e below _ Z _ _ _ _ _ (T107.setTop (mkF m 115 #[.val (.int p0), .val (.int p1), .val (.int p2), .val (.int p3), .val (.int p4), .val (.int 4), .val (.int x92), .val (.int x93), .val (.int x94), .val (.int x95), .val (.ref b96), .val (.int 1)] [(.int 4), (.int 4)]))
          refine own_icmp S107 129 at_115 (by decide) (by decide) (fun (hc115_109 : (4 : Int32) < (4 : Int32)) => False.elim (absurd hc115_109 (by decide))) (fun (hc115_109 : ¬ ((4 : Int32) < (4 : Int32))) => ?_)
          show own_F _ p e below _ Z _ _ _ _ _ (T107.setTop (mkF m 118 #[.val (.int p0), .val (.int p1), .val (.int p2), .val (.int p3), .val (.int p4), .val (.int 4), .val (.int x92), .val (.int x93), .val (.int x94), .val (.int x95), .val (.ref b96), .val (.int 1)] []))
          refine own_F.of (fun _ => XS.iload S107.here S107.hx rfl (S107.dec at_118) rfl) ?_
          show own_F _ p e below _ Z _ _ _ _ _ (T107.setTop (mkF m 120 #[.val (.int p0), .val (.int p1), .val (.int p2), .val (.int p3), .val (.int p4), .val (.int 4), .val (.int x92), .val (.int x93), .val (.int x94), .val (.int x95), .val (.ref b96), .val (.int 1)] [(.int x95)]))
          refine own_callS S107 (y := (⟨"com/example/libidem/libidem/protocol/TokenIsValidPinLaw", "ref", "(C)Z"⟩ : MethodName)) (own_w hw 50 rfl) (own_w hw 51 rfl) (own_w hw 3 rfl) (own_w hw 52 rfl) (by decide) (argsL := [(.int x95)]) (rest := []) (own_ref l Z a0 hw x95 h96 S107.old) all0 (by decide +kernel : parseMethodDescriptor "(C)Z" = some ⟨[.char], some .boolean⟩) rfl rfl rfl at_120 (by decide) (Nat.le_of_ble_eq_true rfl) (by decide) (by decide) (fun T110 h110 v110 S110 K110 q110 => ?_)
          obtain ⟨rfl, rfl⟩ := q110
          show own_F _ p e below _ Z _ _ _ _ _ (T110.setTop (mkF m 123 #[.val (.int p0), .val (.int p1), .val (.int p2), .val (.int p3), .val (.int p4), .val (.int 4), .val (.int x92), .val (.int x93), .val (.int x94), .val (.int x95), .val (.ref b96), .val (.int 1)] [(.int (own_ex x95))]))
          refine own_if S110 129 at_123 (by decide) (by decide) (fun (hc123_111 : ¬ ((own_ex x95) = (0 : Int32))) => ?_) (fun (hc123_111 : (own_ex x95) = (0 : Int32)) => ?_)
          · show own_F _ p e below _ Z _ _ _ _ _ (T110.setTop (mkF m 129 #[.val (.int p0), .val (.int p1), .val (.int p2), .val (.int p3), .val (.int p4), .val (.int 4), .val (.int x92), .val (.int x93), .val (.int x94), .val (.int x95), .val (.ref b96), .val (.int 1)] []))
            exact J T110 S110 (1 : Int32) (by simp [own_al, own_narC cx92, own_same cx92.1 cx92.2, own_narC cx93, own_same cx93.1 cx93.2, own_narC cx94, own_same cx94.1 cx94.2, own_narC cx95, own_same cx95.1 cx95.2, hc72_102, hc89_105, hc106_108, hc123_111])
          · show own_F _ p e below _ Z _ _ _ _ _ (T110.setTop (mkF m 126 #[.val (.int p0), .val (.int p1), .val (.int p2), .val (.int p3), .val (.int p4), .val (.int 4), .val (.int x92), .val (.int x93), .val (.int x94), .val (.int x95), .val (.ref b96), .val (.int 1)] []))
            refine own_F.of (fun _ => XS.iconst S110.here S110.hx rfl (S110.dec at_126)) ?_
            show own_F _ p e below _ Z _ _ _ _ _ (T110.setTop (mkF m 127 #[.val (.int p0), .val (.int p1), .val (.int p2), .val (.int p3), .val (.int p4), .val (.int 4), .val (.int x92), .val (.int x93), .val (.int x94), .val (.int x95), .val (.ref b96), .val (.int 1)] [(.int 0)]))
            refine own_F.of (fun _ => XS.istore S110.here S110.hx rfl (S110.dec at_127) rfl (l' := #[.val (.int p0), .val (.int p1), .val (.int p2), .val (.int p3), .val (.int p4), .val (.int 4), .val (.int x92), .val (.int x93), .val (.int x94), .val (.int x95), .val (.ref b96), .val (.int 0)]) rfl) ?_
            exact J T110 S110 (0 : Int32) (by simp [own_al, own_narC cx92, own_same cx92.1 cx92.2, own_narC cx93, own_same cx93.1 cx93.2, own_narC cx94, own_same cx94.1 cx94.2, own_narC cx95, own_same cx95.1 cx95.2, hc72_102, hc89_105, hc106_108, hc123_111])
        · show own_F _ p e below _ Z _ _ _ _ _ (T107.setTop (mkF m 109 #[.val (.int p0), .val (.int p1), .val (.int p2), .val (.int p3), .val (.int p4), .val (.int 4), .val (.int x92), .val (.int x93), .val (.int x94), .val (.int x95), .val (.ref b96), .val (.int 1)] []))
          refine own_F.of (fun _ => XS.iconst S107.here S107.hx rfl (S107.dec at_109)) ?_
          show own_F _ p e below _ Z _ _ _ _ _ (T107.setTop (mkF m 110 #[.val (.int p0), .val (.int p1), .val (.int p2), .val (.int p3), .val (.int p4), .val (.int 4), .val (.int x92), .val (.int x93), .val (.int x94), .val (.int x95), .val (.ref b96), .val (.int 1)] [(.int 0)]))
          refine own_F.of (fun _ => XS.istore S107.here S107.hx rfl (S107.dec at_110) rfl (l' := #[.val (.int p0), .val (.int p1), .val (.int p2), .val (.int p3), .val (.int p4), .val (.int 4), .val (.int x92), .val (.int x93), .val (.int x94), .val (.int x95), .val (.ref b96), .val (.int 0)]) rfl) ?_
          refine own_F.of (fun _ => XS.iload S107.here S107.hx rfl (S107.dec at_112) rfl) ?_
          refine own_F.of (fun _ => XS.iconst S107.here S107.hx rfl (S107.dec at_114)) ?_
          show own_F _ p e below _ Z _ _ _ _ _ (T107.setTop (mkF m 115 #[.val (.int p0), .val (.int p1), .val (.int p2), .val (.int p3), .val (.int p4), .val (.int 4), .val (.int x92), .val (.int x93), .val (.int x94), .val (.int x95), .val (.ref b96), .val (.int 0)] [(.int 4), (.int 4)]))
          refine own_icmp S107 129 at_115 (by decide) (by decide) (fun (hc115_112 : (4 : Int32) < (4 : Int32)) => False.elim (absurd hc115_112 (by decide))) (fun (hc115_112 : ¬ ((4 : Int32) < (4 : Int32))) => ?_)
          show own_F _ p e below _ Z _ _ _ _ _ (T107.setTop (mkF m 118 #[.val (.int p0), .val (.int p1), .val (.int p2), .val (.int p3), .val (.int p4), .val (.int 4), .val (.int x92), .val (.int x93), .val (.int x94), .val (.int x95), .val (.ref b96), .val (.int 0)] []))
          refine own_F.of (fun _ => XS.iload S107.here S107.hx rfl (S107.dec at_118) rfl) ?_
          show own_F _ p e below _ Z _ _ _ _ _ (T107.setTop (mkF m 120 #[.val (.int p0), .val (.int p1), .val (.int p2), .val (.int p3), .val (.int p4), .val (.int 4), .val (.int x92), .val (.int x93), .val (.int x94), .val (.int x95), .val (.ref b96), .val (.int 0)] [(.int x95)]))
          refine own_callS S107 (y := (⟨"com/example/libidem/libidem/protocol/TokenIsValidPinLaw", "ref", "(C)Z"⟩ : MethodName)) (own_w hw 50 rfl) (own_w hw 51 rfl) (own_w hw 3 rfl) (own_w hw 52 rfl) (by decide) (argsL := [(.int x95)]) (rest := []) (own_ref l Z a0 hw x95 h96 S107.old) all0 (by decide +kernel : parseMethodDescriptor "(C)Z" = some ⟨[.char], some .boolean⟩) rfl rfl rfl at_120 (by decide) (Nat.le_of_ble_eq_true rfl) (by decide) (by decide) (fun T113 h113 v113 S113 K113 q113 => ?_)
          obtain ⟨rfl, rfl⟩ := q113
          show own_F _ p e below _ Z _ _ _ _ _ (T113.setTop (mkF m 123 #[.val (.int p0), .val (.int p1), .val (.int p2), .val (.int p3), .val (.int p4), .val (.int 4), .val (.int x92), .val (.int x93), .val (.int x94), .val (.int x95), .val (.ref b96), .val (.int 0)] [(.int (own_ex x95))]))
          refine own_if S113 129 at_123 (by decide) (by decide) (fun (hc123_114 : ¬ ((own_ex x95) = (0 : Int32))) => ?_) (fun (hc123_114 : (own_ex x95) = (0 : Int32)) => ?_)
          · show own_F _ p e below _ Z _ _ _ _ _ (T113.setTop (mkF m 129 #[.val (.int p0), .val (.int p1), .val (.int p2), .val (.int p3), .val (.int p4), .val (.int 4), .val (.int x92), .val (.int x93), .val (.int x94), .val (.int x95), .val (.ref b96), .val (.int 0)] []))
            exact J T113 S113 (0 : Int32) (by simp [own_al, own_narC cx92, own_same cx92.1 cx92.2, own_narC cx93, own_same cx93.1 cx93.2, own_narC cx94, own_same cx94.1 cx94.2, own_narC cx95, own_same cx95.1 cx95.2, hc72_102, hc89_105, hc106_108, hc123_114])
          · show own_F _ p e below _ Z _ _ _ _ _ (T113.setTop (mkF m 126 #[.val (.int p0), .val (.int p1), .val (.int p2), .val (.int p3), .val (.int p4), .val (.int 4), .val (.int x92), .val (.int x93), .val (.int x94), .val (.int x95), .val (.ref b96), .val (.int 0)] []))
            refine own_F.of (fun _ => XS.iconst S113.here S113.hx rfl (S113.dec at_126)) ?_
            show own_F _ p e below _ Z _ _ _ _ _ (T113.setTop (mkF m 127 #[.val (.int p0), .val (.int p1), .val (.int p2), .val (.int p3), .val (.int p4), .val (.int 4), .val (.int x92), .val (.int x93), .val (.int x94), .val (.int x95), .val (.ref b96), .val (.int 0)] [(.int 0)]))
            refine own_F.of (fun _ => XS.istore S113.here S113.hx rfl (S113.dec at_127) rfl (l' := #[.val (.int p0), .val (.int p1), .val (.int p2), .val (.int p3), .val (.int p4), .val (.int 4), .val (.int x92), .val (.int x93), .val (.int x94), .val (.int x95), .val (.ref b96), .val (.int 0)]) rfl) ?_
            exact J T113 S113 (0 : Int32) (by simp [own_al, own_narC cx92, own_same cx92.1 cx92.2, own_narC cx93, own_same cx93.1 cx93.2, own_narC cx94, own_same cx94.1 cx94.2, own_narC cx95, own_same cx95.1 cx95.2, hc72_102, hc89_105, hc106_108, hc123_114])
      · show own_F _ p e below _ Z _ _ _ _ _ (T104.setTop (mkF m 92 #[.val (.int p0), .val (.int p1), .val (.int p2), .val (.int p3), .val (.int p4), .val (.int 4), .val (.int x92), .val (.int x93), .val (.int x94), .val (.int x95), .val (.ref b96), .val (.int 1)] []))
        refine own_F.of (fun _ => XS.iconst S104.here S104.hx rfl (S104.dec at_92)) ?_
        show own_F _ p e below _ Z _ _ _ _ _ (T104.setTop (mkF m 93 #[.val (.int p0), .val (.int p1), .val (.int p2), .val (.int p3), .val (.int p4), .val (.int 4), .val (.int x92), .val (.int x93), .val (.int x94), .val (.int x95), .val (.ref b96), .val (.int 1)] [(.int 0)]))
        refine own_F.of (fun _ => XS.istore S104.here S104.hx rfl (S104.dec at_93) rfl (l' := #[.val (.int p0), .val (.int p1), .val (.int p2), .val (.int p3), .val (.int p4), .val (.int 4), .val (.int x92), .val (.int x93), .val (.int x94), .val (.int x95), .val (.ref b96), .val (.int 0)]) rfl) ?_
        refine own_F.of (fun _ => XS.iload S104.here S104.hx rfl (S104.dec at_95) rfl) ?_
        refine own_F.of (fun _ => XS.iconst S104.here S104.hx rfl (S104.dec at_97)) ?_
        show own_F _ p e below _ Z _ _ _ _ _ (T104.setTop (mkF m 98 #[.val (.int p0), .val (.int p1), .val (.int p2), .val (.int p3), .val (.int p4), .val (.int 4), .val (.int x92), .val (.int x93), .val (.int x94), .val (.int x95), .val (.ref b96), .val (.int 0)] [(.int 3), (.int 4)]))
        refine own_icmp S104 112 at_98 (by decide) (by decide) (fun (hc98_115 : (4 : Int32) < (3 : Int32)) => False.elim (absurd hc98_115 (by decide))) (fun (hc98_115 : ¬ ((4 : Int32) < (3 : Int32))) => ?_)
        show own_F _ p e below _ Z _ _ _ _ _ (T104.setTop (mkF m 101 #[.val (.int p0), .val (.int p1), .val (.int p2), .val (.int p3), .val (.int p4), .val (.int 4), .val (.int x92), .val (.int x93), .val (.int x94), .val (.int x95), .val (.ref b96), .val (.int 0)] []))
        refine own_F.of (fun _ => XS.iload S104.here S104.hx rfl (S104.dec at_101) rfl) ?_
        show own_F _ p e below _ Z _ _ _ _ _ (T104.setTop (mkF m 103 #[.val (.int p0), .val (.int p1), .val (.int p2), .val (.int p3), .val (.int p4), .val (.int 4), .val (.int x92), .val (.int x93), .val (.int x94), .val (.int x95), .val (.ref b96), .val (.int 0)] [(.int x94)]))
        refine own_callS S104 (y := (⟨"com/example/libidem/libidem/protocol/TokenIsValidPinLaw", "ref", "(C)Z"⟩ : MethodName)) (own_w hw 50 rfl) (own_w hw 51 rfl) (own_w hw 3 rfl) (own_w hw 52 rfl) (by decide) (argsL := [(.int x94)]) (rest := []) (own_ref l Z a0 hw x94 h96 S104.old) all0 (by decide +kernel : parseMethodDescriptor "(C)Z" = some ⟨[.char], some .boolean⟩) rfl rfl rfl at_103 (by decide) (Nat.le_of_ble_eq_true rfl) (by decide) (by decide) (fun T116 h116 v116 S116 K116 q116 => ?_)
        obtain ⟨rfl, rfl⟩ := q116
        show own_F _ p e below _ Z _ _ _ _ _ (T116.setTop (mkF m 106 #[.val (.int p0), .val (.int p1), .val (.int p2), .val (.int p3), .val (.int p4), .val (.int 4), .val (.int x92), .val (.int x93), .val (.int x94), .val (.int x95), .val (.ref b96), .val (.int 0)] [(.int (own_ex x94))]))
        refine own_if S116 112 at_106 (by decide) (by decide) (fun (hc106_117 : ¬ ((own_ex x94) = (0 : Int32))) => ?_) (fun (hc106_117 : (own_ex x94) = (0 : Int32)) => ?_)
        · show own_F _ p e below _ Z _ _ _ _ _ (T116.setTop (mkF m 112 #[.val (.int p0), .val (.int p1), .val (.int p2), .val (.int p3), .val (.int p4), .val (.int 4), .val (.int x92), .val (.int x93), .val (.int x94), .val (.int x95), .val (.ref b96), .val (.int 0)] []))
          refine own_F.of (fun _ => XS.iload S116.here S116.hx rfl (S116.dec at_112) rfl) ?_
          refine own_F.of (fun _ => XS.iconst S116.here S116.hx rfl (S116.dec at_114)) ?_
          show own_F _ p e below _ Z _ _ _ _ _ (T116.setTop (mkF m 115 #[.val (.int p0), .val (.int p1), .val (.int p2), .val (.int p3), .val (.int p4), .val (.int 4), .val (.int x92), .val (.int x93), .val (.int x94), .val (.int x95), .val (.ref b96), .val (.int 0)] [(.int 4), (.int 4)]))
          refine own_icmp S116 129 at_115 (by decide) (by decide) (fun (hc115_118 : (4 : Int32) < (4 : Int32)) => False.elim (absurd hc115_118 (by decide))) (fun (hc115_118 : ¬ ((4 : Int32) < (4 : Int32))) => ?_)
          show own_F _ p e below _ Z _ _ _ _ _ (T116.setTop (mkF m 118 #[.val (.int p0), .val (.int p1), .val (.int p2), .val (.int p3), .val (.int p4), .val (.int 4), .val (.int x92), .val (.int x93), .val (.int x94), .val (.int x95), .val (.ref b96), .val (.int 0)] []))
          refine own_F.of (fun _ => XS.iload S116.here S116.hx rfl (S116.dec at_118) rfl) ?_
          show own_F _ p e below _ Z _ _ _ _ _ (T116.setTop (mkF m 120 #[.val (.int p0), .val (.int p1), .val (.int p2), .val (.int p3), .val (.int p4), .val (.int 4), .val (.int x92), .val (.int x93), .val (.int x94), .val (.int x95), .val (.ref b96), .val (.int 0)] [(.int x95)]))
          refine own_callS S116 (y := (⟨"com/example/libidem/libidem/protocol/TokenIsValidPinLaw", "ref", "(C)Z"⟩ : MethodName)) (own_w hw 50 rfl) (own_w hw 51 rfl) (own_w hw 3 rfl) (own_w hw 52 rfl) (by decide) (argsL := [(.int x95)]) (rest := []) (own_ref l Z a0 hw x95 h96 S116.old) all0 (by decide +kernel : parseMethodDescriptor "(C)Z" = some ⟨[.char], some .boolean⟩) rfl rfl rfl at_120 (by decide) (Nat.le_of_ble_eq_true rfl) (by decide) (by decide) (fun T119 h119 v119 S119 K119 q119 => ?_)
          obtain ⟨rfl, rfl⟩ := q119
          show own_F _ p e below _ Z _ _ _ _ _ (T119.setTop (mkF m 123 #[.val (.int p0), .val (.int p1), .val (.int p2), .val (.int p3), .val (.int p4), .val (.int 4), .val (.int x92), .val (.int x93), .val (.int x94), .val (.int x95), .val (.ref b96), .val (.int 0)] [(.int (own_ex x95))]))
          refine own_if S119 129 at_123 (by decide) (by decide) (fun (hc123_120 : ¬ ((own_ex x95) = (0 : Int32))) => ?_) (fun (hc123_120 : (own_ex x95) = (0 : Int32)) => ?_)
          · show own_F _ p e below _ Z _ _ _ _ _ (T119.setTop (mkF m 129 #[.val (.int p0), .val (.int p1), .val (.int p2), .val (.int p3), .val (.int p4), .val (.int 4), .val (.int x92), .val (.int x93), .val (.int x94), .val (.int x95), .val (.ref b96), .val (.int 0)] []))
            exact J T119 S119 (0 : Int32) (by simp [own_al, own_narC cx92, own_same cx92.1 cx92.2, own_narC cx93, own_same cx93.1 cx93.2, own_narC cx94, own_same cx94.1 cx94.2, own_narC cx95, own_same cx95.1 cx95.2, hc72_102, hc89_105, hc106_117, hc123_120])
          · show own_F _ p e below _ Z _ _ _ _ _ (T119.setTop (mkF m 126 #[.val (.int p0), .val (.int p1), .val (.int p2), .val (.int p3), .val (.int p4), .val (.int 4), .val (.int x92), .val (.int x93), .val (.int x94), .val (.int x95), .val (.ref b96), .val (.int 0)] []))
            refine own_F.of (fun _ => XS.iconst S119.here S119.hx rfl (S119.dec at_126)) ?_
            show own_F _ p e below _ Z _ _ _ _ _ (T119.setTop (mkF m 127 #[.val (.int p0), .val (.int p1), .val (.int p2), .val (.int p3), .val (.int p4), .val (.int 4), .val (.int x92), .val (.int x93), .val (.int x94), .val (.int x95), .val (.ref b96), .val (.int 0)] [(.int 0)]))
            refine own_F.of (fun _ => XS.istore S119.here S119.hx rfl (S119.dec at_127) rfl (l' := #[.val (.int p0), .val (.int p1), .val (.int p2), .val (.int p3), .val (.int p4), .val (.int 4), .val (.int x92), .val (.int x93), .val (.int x94), .val (.int x95), .val (.ref b96), .val (.int 0)]) rfl) ?_
            exact J T119 S119 (0 : Int32) (by simp [own_al, own_narC cx92, own_same cx92.1 cx92.2, own_narC cx93, own_same cx93.1 cx93.2, own_narC cx94, own_same cx94.1 cx94.2, own_narC cx95, own_same cx95.1 cx95.2, hc72_102, hc89_105, hc106_117, hc123_120])
        · show own_F _ p e below _ Z _ _ _ _ _ (T116.setTop (mkF m 109 #[.val (.int p0), .val (.int p1), .val (.int p2), .val (.int p3), .val (.int p4), .val (.int 4), .val (.int x92), .val (.int x93), .val (.int x94), .val (.int x95), .val (.ref b96), .val (.int 0)] []))
          refine own_F.of (fun _ => XS.iconst S116.here S116.hx rfl (S116.dec at_109)) ?_
          show own_F _ p e below _ Z _ _ _ _ _ (T116.setTop (mkF m 110 #[.val (.int p0), .val (.int p1), .val (.int p2), .val (.int p3), .val (.int p4), .val (.int 4), .val (.int x92), .val (.int x93), .val (.int x94), .val (.int x95), .val (.ref b96), .val (.int 0)] [(.int 0)]))
          refine own_F.of (fun _ => XS.istore S116.here S116.hx rfl (S116.dec at_110) rfl (l' := #[.val (.int p0), .val (.int p1), .val (.int p2), .val (.int p3), .val (.int p4), .val (.int 4), .val (.int x92), .val (.int x93), .val (.int x94), .val (.int x95), .val (.ref b96), .val (.int 0)]) rfl) ?_
          refine own_F.of (fun _ => XS.iload S116.here S116.hx rfl (S116.dec at_112) rfl) ?_
          refine own_F.of (fun _ => XS.iconst S116.here S116.hx rfl (S116.dec at_114)) ?_
          show own_F _ p e below _ Z _ _ _ _ _ (T116.setTop (mkF m 115 #[.val (.int p0), .val (.int p1), .val (.int p2), .val (.int p3), .val (.int p4), .val (.int 4), .val (.int x92), .val (.int x93), .val (.int x94), .val (.int x95), .val (.ref b96), .val (.int 0)] [(.int 4), (.int 4)]))
          refine own_icmp S116 129 at_115 (by decide) (by decide) (fun (hc115_121 : (4 : Int32) < (4 : Int32)) => False.elim (absurd hc115_121 (by decide))) (fun (hc115_121 : ¬ ((4 : Int32) < (4 : Int32))) => ?_)
          show own_F _ p e below _ Z _ _ _ _ _ (T116.setTop (mkF m 118 #[.val (.int p0), .val (.int p1), .val (.int p2), .val (.int p3), .val (.int p4), .val (.int 4), .val (.int x92), .val (.int x93), .val (.int x94), .val (.int x95), .val (.ref b96), .val (.int 0)] []))
          refine own_F.of (fun _ => XS.iload S116.here S116.hx rfl (S116.dec at_118) rfl) ?_
          show own_F _ p e below _ Z _ _ _ _ _ (T116.setTop (mkF m 120 #[.val (.int p0), .val (.int p1), .val (.int p2), .val (.int p3), .val (.int p4), .val (.int 4), .val (.int x92), .val (.int x93), .val (.int x94), .val (.int x95), .val (.ref b96), .val (.int 0)] [(.int x95)]))
          refine own_callS S116 (y := (⟨"com/example/libidem/libidem/protocol/TokenIsValidPinLaw", "ref", "(C)Z"⟩ : MethodName)) (own_w hw 50 rfl) (own_w hw 51 rfl) (own_w hw 3 rfl) (own_w hw 52 rfl) (by decide) (argsL := [(.int x95)]) (rest := []) (own_ref l Z a0 hw x95 h96 S116.old) all0 (by decide +kernel : parseMethodDescriptor "(C)Z" = some ⟨[.char], some .boolean⟩) rfl rfl rfl at_120 (by decide) (Nat.le_of_ble_eq_true rfl) (by decide) (by decide) (fun T122 h122 v122 S122 K122 q122 => ?_)
          obtain ⟨rfl, rfl⟩ := q122
          show own_F _ p e below _ Z _ _ _ _ _ (T122.setTop (mkF m 123 #[.val (.int p0), .val (.int p1), .val (.int p2), .val (.int p3), .val (.int p4), .val (.int 4), .val (.int x92), .val (.int x93), .val (.int x94), .val (.int x95), .val (.ref b96), .val (.int 0)] [(.int (own_ex x95))]))
          refine own_if S122 129 at_123 (by decide) (by decide) (fun (hc123_123 : ¬ ((own_ex x95) = (0 : Int32))) => ?_) (fun (hc123_123 : (own_ex x95) = (0 : Int32)) => ?_)
          · show own_F _ p e below _ Z _ _ _ _ _ (T122.setTop (mkF m 129 #[.val (.int p0), .val (.int p1), .val (.int p2), .val (.int p3), .val (.int p4), .val (.int 4), .val (.int x92), .val (.int x93), .val (.int x94), .val (.int x95), .val (.ref b96), .val (.int 0)] []))
            exact J T122 S122 (0 : Int32) (by simp [own_al, own_narC cx92, own_same cx92.1 cx92.2, own_narC cx93, own_same cx93.1 cx93.2, own_narC cx94, own_same cx94.1 cx94.2, own_narC cx95, own_same cx95.1 cx95.2, hc72_102, hc89_105, hc106_117, hc123_123])
          · show own_F _ p e below _ Z _ _ _ _ _ (T122.setTop (mkF m 126 #[.val (.int p0), .val (.int p1), .val (.int p2), .val (.int p3), .val (.int p4), .val (.int 4), .val (.int x92), .val (.int x93), .val (.int x94), .val (.int x95), .val (.ref b96), .val (.int 0)] []))
            refine own_F.of (fun _ => XS.iconst S122.here S122.hx rfl (S122.dec at_126)) ?_
            show own_F _ p e below _ Z _ _ _ _ _ (T122.setTop (mkF m 127 #[.val (.int p0), .val (.int p1), .val (.int p2), .val (.int p3), .val (.int p4), .val (.int 4), .val (.int x92), .val (.int x93), .val (.int x94), .val (.int x95), .val (.ref b96), .val (.int 0)] [(.int 0)]))
            refine own_F.of (fun _ => XS.istore S122.here S122.hx rfl (S122.dec at_127) rfl (l' := #[.val (.int p0), .val (.int p1), .val (.int p2), .val (.int p3), .val (.int p4), .val (.int 4), .val (.int x92), .val (.int x93), .val (.int x94), .val (.int x95), .val (.ref b96), .val (.int 0)]) rfl) ?_
            exact J T122 S122 (0 : Int32) (by simp [own_al, own_narC cx92, own_same cx92.1 cx92.2, own_narC cx93, own_same cx93.1 cx93.2, own_narC cx94, own_same cx94.1 cx94.2, own_narC cx95, own_same cx95.1 cx95.2, hc72_102, hc89_105, hc106_117, hc123_123])
    · show own_F _ p e below _ Z _ _ _ _ _ (T101.setTop (mkF m 75 #[.val (.int p0), .val (.int p1), .val (.int p2), .val (.int p3), .val (.int p4), .val (.int 4), .val (.int x92), .val (.int x93), .val (.int x94), .val (.int x95), .val (.ref b96), .val (.int 1)] []))
      refine own_F.of (fun _ => XS.iconst S101.here S101.hx rfl (S101.dec at_75)) ?_
      show own_F _ p e below _ Z _ _ _ _ _ (T101.setTop (mkF m 76 #[.val (.int p0), .val (.int p1), .val (.int p2), .val (.int p3), .val (.int p4), .val (.int 4), .val (.int x92), .val (.int x93), .val (.int x94), .val (.int x95), .val (.ref b96), .val (.int 1)] [(.int 0)]))
      refine own_F.of (fun _ => XS.istore S101.here S101.hx rfl (S101.dec at_76) rfl (l' := #[.val (.int p0), .val (.int p1), .val (.int p2), .val (.int p3), .val (.int p4), .val (.int 4), .val (.int x92), .val (.int x93), .val (.int x94), .val (.int x95), .val (.ref b96), .val (.int 0)]) rfl) ?_
      refine own_F.of (fun _ => XS.iload S101.here S101.hx rfl (S101.dec at_78) rfl) ?_
      refine own_F.of (fun _ => XS.iconst S101.here S101.hx rfl (S101.dec at_80)) ?_
      show own_F _ p e below _ Z _ _ _ _ _ (T101.setTop (mkF m 81 #[.val (.int p0), .val (.int p1), .val (.int p2), .val (.int p3), .val (.int p4), .val (.int 4), .val (.int x92), .val (.int x93), .val (.int x94), .val (.int x95), .val (.ref b96), .val (.int 0)] [(.int 2), (.int 4)]))
      refine own_icmp S101 95 at_81 (by decide) (by decide) (fun (hc81_124 : (4 : Int32) < (2 : Int32)) => False.elim (absurd hc81_124 (by decide))) (fun (hc81_124 : ¬ ((4 : Int32) < (2 : Int32))) => ?_)
      show own_F _ p e below _ Z _ _ _ _ _ (T101.setTop (mkF m 84 #[.val (.int p0), .val (.int p1), .val (.int p2), .val (.int p3), .val (.int p4), .val (.int 4), .val (.int x92), .val (.int x93), .val (.int x94), .val (.int x95), .val (.ref b96), .val (.int 0)] []))
      refine own_F.of (fun _ => XS.iload S101.here S101.hx rfl (S101.dec at_84) rfl) ?_
      show own_F _ p e below _ Z _ _ _ _ _ (T101.setTop (mkF m 86 #[.val (.int p0), .val (.int p1), .val (.int p2), .val (.int p3), .val (.int p4), .val (.int 4), .val (.int x92), .val (.int x93), .val (.int x94), .val (.int x95), .val (.ref b96), .val (.int 0)] [(.int x93)]))
      refine own_callS S101 (y := (⟨"com/example/libidem/libidem/protocol/TokenIsValidPinLaw", "ref", "(C)Z"⟩ : MethodName)) (own_w hw 50 rfl) (own_w hw 51 rfl) (own_w hw 3 rfl) (own_w hw 52 rfl) (by decide) (argsL := [(.int x93)]) (rest := []) (own_ref l Z a0 hw x93 h96 S101.old) all0 (by decide +kernel : parseMethodDescriptor "(C)Z" = some ⟨[.char], some .boolean⟩) rfl rfl rfl at_86 (by decide) (Nat.le_of_ble_eq_true rfl) (by decide) (by decide) (fun T125 h125 v125 S125 K125 q125 => ?_)
      obtain ⟨rfl, rfl⟩ := q125
      show own_F _ p e below _ Z _ _ _ _ _ (T125.setTop (mkF m 89 #[.val (.int p0), .val (.int p1), .val (.int p2), .val (.int p3), .val (.int p4), .val (.int 4), .val (.int x92), .val (.int x93), .val (.int x94), .val (.int x95), .val (.ref b96), .val (.int 0)] [(.int (own_ex x93))]))
      refine own_if S125 95 at_89 (by decide) (by decide) (fun (hc89_126 : ¬ ((own_ex x93) = (0 : Int32))) => ?_) (fun (hc89_126 : (own_ex x93) = (0 : Int32)) => ?_)
      · show own_F _ p e below _ Z _ _ _ _ _ (T125.setTop (mkF m 95 #[.val (.int p0), .val (.int p1), .val (.int p2), .val (.int p3), .val (.int p4), .val (.int 4), .val (.int x92), .val (.int x93), .val (.int x94), .val (.int x95), .val (.ref b96), .val (.int 0)] []))
        refine own_F.of (fun _ => XS.iload S125.here S125.hx rfl (S125.dec at_95) rfl) ?_
        refine own_F.of (fun _ => XS.iconst S125.here S125.hx rfl (S125.dec at_97)) ?_
        show own_F _ p e below _ Z _ _ _ _ _ (T125.setTop (mkF m 98 #[.val (.int p0), .val (.int p1), .val (.int p2), .val (.int p3), .val (.int p4), .val (.int 4), .val (.int x92), .val (.int x93), .val (.int x94), .val (.int x95), .val (.ref b96), .val (.int 0)] [(.int 3), (.int 4)]))
        refine own_icmp S125 112 at_98 (by decide) (by decide) (fun (hc98_127 : (4 : Int32) < (3 : Int32)) => False.elim (absurd hc98_127 (by decide))) (fun (hc98_127 : ¬ ((4 : Int32) < (3 : Int32))) => ?_)
        show own_F _ p e below _ Z _ _ _ _ _ (T125.setTop (mkF m 101 #[.val (.int p0), .val (.int p1), .val (.int p2), .val (.int p3), .val (.int p4), .val (.int 4), .val (.int x92), .val (.int x93), .val (.int x94), .val (.int x95), .val (.ref b96), .val (.int 0)] []))
        refine own_F.of (fun _ => XS.iload S125.here S125.hx rfl (S125.dec at_101) rfl) ?_
        show own_F _ p e below _ Z _ _ _ _ _ (T125.setTop (mkF m 103 #[.val (.int p0), .val (.int p1), .val (.int p2), .val (.int p3), .val (.int p4), .val (.int 4), .val (.int x92), .val (.int x93), .val (.int x94), .val (.int x95), .val (.ref b96), .val (.int 0)] [(.int x94)]))
        refine own_callS S125 (y := (⟨"com/example/libidem/libidem/protocol/TokenIsValidPinLaw", "ref", "(C)Z"⟩ : MethodName)) (own_w hw 50 rfl) (own_w hw 51 rfl) (own_w hw 3 rfl) (own_w hw 52 rfl) (by decide) (argsL := [(.int x94)]) (rest := []) (own_ref l Z a0 hw x94 h96 S125.old) all0 (by decide +kernel : parseMethodDescriptor "(C)Z" = some ⟨[.char], some .boolean⟩) rfl rfl rfl at_103 (by decide) (Nat.le_of_ble_eq_true rfl) (by decide) (by decide) (fun T128 h128 v128 S128 K128 q128 => ?_)
        obtain ⟨rfl, rfl⟩ := q128
        show own_F _ p e below _ Z _ _ _ _ _ (T128.setTop (mkF m 106 #[.val (.int p0), .val (.int p1), .val (.int p2), .val (.int p3), .val (.int p4), .val (.int 4), .val (.int x92), .val (.int x93), .val (.int x94), .val (.int x95), .val (.ref b96), .val (.int 0)] [(.int (own_ex x94))]))
        refine own_if S128 112 at_106 (by decide) (by decide) (fun (hc106_129 : ¬ ((own_ex x94) = (0 : Int32))) => ?_) (fun (hc106_129 : (own_ex x94) = (0 : Int32)) => ?_)
        · show own_F _ p e below _ Z _ _ _ _ _ (T128.setTop (mkF m 112 #[.val (.int p0), .val (.int p1), .val (.int p2), .val (.int p3), .val (.int p4), .val (.int 4), .val (.int x92), .val (.int x93), .val (.int x94), .val (.int x95), .val (.ref b96), .val (.int 0)] []))
          refine own_F.of (fun _ => XS.iload S128.here S128.hx rfl (S128.dec at_112) rfl) ?_
          refine own_F.of (fun _ => XS.iconst S128.here S128.hx rfl (S128.dec at_114)) ?_
          show own_F _ p e below _ Z _ _ _ _ _ (T128.setTop (mkF m 115 #[.val (.int p0), .val (.int p1), .val (.int p2), .val (.int p3), .val (.int p4), .val (.int 4), .val (.int x92), .val (.int x93), .val (.int x94), .val (.int x95), .val (.ref b96), .val (.int 0)] [(.int 4), (.int 4)]))
          refine own_icmp S128 129 at_115 (by decide) (by decide) (fun (hc115_130 : (4 : Int32) < (4 : Int32)) => False.elim (absurd hc115_130 (by decide))) (fun (hc115_130 : ¬ ((4 : Int32) < (4 : Int32))) => ?_)
          show own_F _ p e below _ Z _ _ _ _ _ (T128.setTop (mkF m 118 #[.val (.int p0), .val (.int p1), .val (.int p2), .val (.int p3), .val (.int p4), .val (.int 4), .val (.int x92), .val (.int x93), .val (.int x94), .val (.int x95), .val (.ref b96), .val (.int 0)] []))
          refine own_F.of (fun _ => XS.iload S128.here S128.hx rfl (S128.dec at_118) rfl) ?_
          show own_F _ p e below _ Z _ _ _ _ _ (T128.setTop (mkF m 120 #[.val (.int p0), .val (.int p1), .val (.int p2), .val (.int p3), .val (.int p4), .val (.int 4), .val (.int x92), .val (.int x93), .val (.int x94), .val (.int x95), .val (.ref b96), .val (.int 0)] [(.int x95)]))
          refine own_callS S128 (y := (⟨"com/example/libidem/libidem/protocol/TokenIsValidPinLaw", "ref", "(C)Z"⟩ : MethodName)) (own_w hw 50 rfl) (own_w hw 51 rfl) (own_w hw 3 rfl) (own_w hw 52 rfl) (by decide) (argsL := [(.int x95)]) (rest := []) (own_ref l Z a0 hw x95 h96 S128.old) all0 (by decide +kernel : parseMethodDescriptor "(C)Z" = some ⟨[.char], some .boolean⟩) rfl rfl rfl at_120 (by decide) (Nat.le_of_ble_eq_true rfl) (by decide) (by decide) (fun T131 h131 v131 S131 K131 q131 => ?_)
          obtain ⟨rfl, rfl⟩ := q131
          show own_F _ p e below _ Z _ _ _ _ _ (T131.setTop (mkF m 123 #[.val (.int p0), .val (.int p1), .val (.int p2), .val (.int p3), .val (.int p4), .val (.int 4), .val (.int x92), .val (.int x93), .val (.int x94), .val (.int x95), .val (.ref b96), .val (.int 0)] [(.int (own_ex x95))]))
          refine own_if S131 129 at_123 (by decide) (by decide) (fun (hc123_132 : ¬ ((own_ex x95) = (0 : Int32))) => ?_) (fun (hc123_132 : (own_ex x95) = (0 : Int32)) => ?_)
          · show own_F _ p e below _ Z _ _ _ _ _ (T131.setTop (mkF m 129 #[.val (.int p0), .val (.int p1), .val (.int p2), .val (.int p3), .val (.int p4), .val (.int 4), .val (.int x92), .val (.int x93), .val (.int x94), .val (.int x95), .val (.ref b96), .val (.int 0)] []))
            exact J T131 S131 (0 : Int32) (by simp [own_al, own_narC cx92, own_same cx92.1 cx92.2, own_narC cx93, own_same cx93.1 cx93.2, own_narC cx94, own_same cx94.1 cx94.2, own_narC cx95, own_same cx95.1 cx95.2, hc72_102, hc89_126, hc106_129, hc123_132])
          · show own_F _ p e below _ Z _ _ _ _ _ (T131.setTop (mkF m 126 #[.val (.int p0), .val (.int p1), .val (.int p2), .val (.int p3), .val (.int p4), .val (.int 4), .val (.int x92), .val (.int x93), .val (.int x94), .val (.int x95), .val (.ref b96), .val (.int 0)] []))
            refine own_F.of (fun _ => XS.iconst S131.here S131.hx rfl (S131.dec at_126)) ?_
            show own_F _ p e below _ Z _ _ _ _ _ (T131.setTop (mkF m 127 #[.val (.int p0), .val (.int p1), .val (.int p2), .val (.int p3), .val (.int p4), .val (.int 4), .val (.int x92), .val (.int x93), .val (.int x94), .val (.int x95), .val (.ref b96), .val (.int 0)] [(.int 0)]))
            refine own_F.of (fun _ => XS.istore S131.here S131.hx rfl (S131.dec at_127) rfl (l' := #[.val (.int p0), .val (.int p1), .val (.int p2), .val (.int p3), .val (.int p4), .val (.int 4), .val (.int x92), .val (.int x93), .val (.int x94), .val (.int x95), .val (.ref b96), .val (.int 0)]) rfl) ?_
            exact J T131 S131 (0 : Int32) (by simp [own_al, own_narC cx92, own_same cx92.1 cx92.2, own_narC cx93, own_same cx93.1 cx93.2, own_narC cx94, own_same cx94.1 cx94.2, own_narC cx95, own_same cx95.1 cx95.2, hc72_102, hc89_126, hc106_129, hc123_132])
        · show own_F _ p e below _ Z _ _ _ _ _ (T128.setTop (mkF m 109 #[.val (.int p0), .val (.int p1), .val (.int p2), .val (.int p3), .val (.int p4), .val (.int 4), .val (.int x92), .val (.int x93), .val (.int x94), .val (.int x95), .val (.ref b96), .val (.int 0)] []))
          refine own_F.of (fun _ => XS.iconst S128.here S128.hx rfl (S128.dec at_109)) ?_
          show own_F _ p e below _ Z _ _ _ _ _ (T128.setTop (mkF m 110 #[.val (.int p0), .val (.int p1), .val (.int p2), .val (.int p3), .val (.int p4), .val (.int 4), .val (.int x92), .val (.int x93), .val (.int x94), .val (.int x95), .val (.ref b96), .val (.int 0)] [(.int 0)]))
          refine own_F.of (fun _ => XS.istore S128.here S128.hx rfl (S128.dec at_110) rfl (l' := #[.val (.int p0), .val (.int p1), .val (.int p2), .val (.int p3), .val (.int p4), .val (.int 4), .val (.int x92), .val (.int x93), .val (.int x94), .val (.int x95), .val (.ref b96), .val (.int 0)]) rfl) ?_
          refine own_F.of (fun _ => XS.iload S128.here S128.hx rfl (S128.dec at_112) rfl) ?_
          refine own_F.of (fun _ => XS.iconst S128.here S128.hx rfl (S128.dec at_114)) ?_
          show own_F _ p e below _ Z _ _ _ _ _ (T128.setTop (mkF m 115 #[.val (.int p0), .val (.int p1), .val (.int p2), .val (.int p3), .val (.int p4), .val (.int 4), .val (.int x92), .val (.int x93), .val (.int x94), .val (.int x95), .val (.ref b96), .val (.int 0)] [(.int 4), (.int 4)]))
          refine own_icmp S128 129 at_115 (by decide) (by decide) (fun (hc115_133 : (4 : Int32) < (4 : Int32)) => False.elim (absurd hc115_133 (by decide))) (fun (hc115_133 : ¬ ((4 : Int32) < (4 : Int32))) => ?_)
          show own_F _ p e below _ Z _ _ _ _ _ (T128.setTop (mkF m 118 #[.val (.int p0), .val (.int p1), .val (.int p2), .val (.int p3), .val (.int p4), .val (.int 4), .val (.int x92), .val (.int x93), .val (.int x94), .val (.int x95), .val (.ref b96), .val (.int 0)] []))
          refine own_F.of (fun _ => XS.iload S128.here S128.hx rfl (S128.dec at_118) rfl) ?_
          show own_F _ p e below _ Z _ _ _ _ _ (T128.setTop (mkF m 120 #[.val (.int p0), .val (.int p1), .val (.int p2), .val (.int p3), .val (.int p4), .val (.int 4), .val (.int x92), .val (.int x93), .val (.int x94), .val (.int x95), .val (.ref b96), .val (.int 0)] [(.int x95)]))
          refine own_callS S128 (y := (⟨"com/example/libidem/libidem/protocol/TokenIsValidPinLaw", "ref", "(C)Z"⟩ : MethodName)) (own_w hw 50 rfl) (own_w hw 51 rfl) (own_w hw 3 rfl) (own_w hw 52 rfl) (by decide) (argsL := [(.int x95)]) (rest := []) (own_ref l Z a0 hw x95 h96 S128.old) all0 (by decide +kernel : parseMethodDescriptor "(C)Z" = some ⟨[.char], some .boolean⟩) rfl rfl rfl at_120 (by decide) (Nat.le_of_ble_eq_true rfl) (by decide) (by decide) (fun T134 h134 v134 S134 K134 q134 => ?_)
          obtain ⟨rfl, rfl⟩ := q134
          show own_F _ p e below _ Z _ _ _ _ _ (T134.setTop (mkF m 123 #[.val (.int p0), .val (.int p1), .val (.int p2), .val (.int p3), .val (.int p4), .val (.int 4), .val (.int x92), .val (.int x93), .val (.int x94), .val (.int x95), .val (.ref b96), .val (.int 0)] [(.int (own_ex x95))]))
          refine own_if S134 129 at_123 (by decide) (by decide) (fun (hc123_135 : ¬ ((own_ex x95) = (0 : Int32))) => ?_) (fun (hc123_135 : (own_ex x95) = (0 : Int32)) => ?_)
          · show own_F _ p e below _ Z _ _ _ _ _ (T134.setTop (mkF m 129 #[.val (.int p0), .val (.int p1), .val (.int p2), .val (.int p3), .val (.int p4), .val (.int 4), .val (.int x92), .val (.int x93), .val (.int x94), .val (.int x95), .val (.ref b96), .val (.int 0)] []))
            exact J T134 S134 (0 : Int32) (by simp [own_al, own_narC cx92, own_same cx92.1 cx92.2, own_narC cx93, own_same cx93.1 cx93.2, own_narC cx94, own_same cx94.1 cx94.2, own_narC cx95, own_same cx95.1 cx95.2, hc72_102, hc89_126, hc106_129, hc123_135])
          · show own_F _ p e below _ Z _ _ _ _ _ (T134.setTop (mkF m 126 #[.val (.int p0), .val (.int p1), .val (.int p2), .val (.int p3), .val (.int p4), .val (.int 4), .val (.int x92), .val (.int x93), .val (.int x94), .val (.int x95), .val (.ref b96), .val (.int 0)] []))
            refine own_F.of (fun _ => XS.iconst S134.here S134.hx rfl (S134.dec at_126)) ?_
            show own_F _ p e below _ Z _ _ _ _ _ (T134.setTop (mkF m 127 #[.val (.int p0), .val (.int p1), .val (.int p2), .val (.int p3), .val (.int p4), .val (.int 4), .val (.int x92), .val (.int x93), .val (.int x94), .val (.int x95), .val (.ref b96), .val (.int 0)] [(.int 0)]))
            refine own_F.of (fun _ => XS.istore S134.here S134.hx rfl (S134.dec at_127) rfl (l' := #[.val (.int p0), .val (.int p1), .val (.int p2), .val (.int p3), .val (.int p4), .val (.int 4), .val (.int x92), .val (.int x93), .val (.int x94), .val (.int x95), .val (.ref b96), .val (.int 0)]) rfl) ?_
            exact J T134 S134 (0 : Int32) (by simp [own_al, own_narC cx92, own_same cx92.1 cx92.2, own_narC cx93, own_same cx93.1 cx93.2, own_narC cx94, own_same cx94.1 cx94.2, own_narC cx95, own_same cx95.1 cx95.2, hc72_102, hc89_126, hc106_129, hc123_135])
      · show own_F _ p e below _ Z _ _ _ _ _ (T125.setTop (mkF m 92 #[.val (.int p0), .val (.int p1), .val (.int p2), .val (.int p3), .val (.int p4), .val (.int 4), .val (.int x92), .val (.int x93), .val (.int x94), .val (.int x95), .val (.ref b96), .val (.int 0)] []))
        refine own_F.of (fun _ => XS.iconst S125.here S125.hx rfl (S125.dec at_92)) ?_
        show own_F _ p e below _ Z _ _ _ _ _ (T125.setTop (mkF m 93 #[.val (.int p0), .val (.int p1), .val (.int p2), .val (.int p3), .val (.int p4), .val (.int 4), .val (.int x92), .val (.int x93), .val (.int x94), .val (.int x95), .val (.ref b96), .val (.int 0)] [(.int 0)]))
        refine own_F.of (fun _ => XS.istore S125.here S125.hx rfl (S125.dec at_93) rfl (l' := #[.val (.int p0), .val (.int p1), .val (.int p2), .val (.int p3), .val (.int p4), .val (.int 4), .val (.int x92), .val (.int x93), .val (.int x94), .val (.int x95), .val (.ref b96), .val (.int 0)]) rfl) ?_
        refine own_F.of (fun _ => XS.iload S125.here S125.hx rfl (S125.dec at_95) rfl) ?_
        refine own_F.of (fun _ => XS.iconst S125.here S125.hx rfl (S125.dec at_97)) ?_
        show own_F _ p e below _ Z _ _ _ _ _ (T125.setTop (mkF m 98 #[.val (.int p0), .val (.int p1), .val (.int p2), .val (.int p3), .val (.int p4), .val (.int 4), .val (.int x92), .val (.int x93), .val (.int x94), .val (.int x95), .val (.ref b96), .val (.int 0)] [(.int 3), (.int 4)]))
        refine own_icmp S125 112 at_98 (by decide) (by decide) (fun (hc98_136 : (4 : Int32) < (3 : Int32)) => False.elim (absurd hc98_136 (by decide))) (fun (hc98_136 : ¬ ((4 : Int32) < (3 : Int32))) => ?_)
        show own_F _ p e below _ Z _ _ _ _ _ (T125.setTop (mkF m 101 #[.val (.int p0), .val (.int p1), .val (.int p2), .val (.int p3), .val (.int p4), .val (.int 4), .val (.int x92), .val (.int x93), .val (.int x94), .val (.int x95), .val (.ref b96), .val (.int 0)] []))
        refine own_F.of (fun _ => XS.iload S125.here S125.hx rfl (S125.dec at_101) rfl) ?_
        show own_F _ p e below _ Z _ _ _ _ _ (T125.setTop (mkF m 103 #[.val (.int p0), .val (.int p1), .val (.int p2), .val (.int p3), .val (.int p4), .val (.int 4), .val (.int x92), .val (.int x93), .val (.int x94), .val (.int x95), .val (.ref b96), .val (.int 0)] [(.int x94)]))
        refine own_callS S125 (y := (⟨"com/example/libidem/libidem/protocol/TokenIsValidPinLaw", "ref", "(C)Z"⟩ : MethodName)) (own_w hw 50 rfl) (own_w hw 51 rfl) (own_w hw 3 rfl) (own_w hw 52 rfl) (by decide) (argsL := [(.int x94)]) (rest := []) (own_ref l Z a0 hw x94 h96 S125.old) all0 (by decide +kernel : parseMethodDescriptor "(C)Z" = some ⟨[.char], some .boolean⟩) rfl rfl rfl at_103 (by decide) (Nat.le_of_ble_eq_true rfl) (by decide) (by decide) (fun T137 h137 v137 S137 K137 q137 => ?_)
        obtain ⟨rfl, rfl⟩ := q137
        show own_F _ p e below _ Z _ _ _ _ _ (T137.setTop (mkF m 106 #[.val (.int p0), .val (.int p1), .val (.int p2), .val (.int p3), .val (.int p4), .val (.int 4), .val (.int x92), .val (.int x93), .val (.int x94), .val (.int x95), .val (.ref b96), .val (.int 0)] [(.int (own_ex x94))]))
        refine own_if S137 112 at_106 (by decide) (by decide) (fun (hc106_138 : ¬ ((own_ex x94) = (0 : Int32))) => ?_) (fun (hc106_138 : (own_ex x94) = (0 : Int32)) => ?_)
        · show own_F _ p e below _ Z _ _ _ _ _ (T137.setTop (mkF m 112 #[.val (.int p0), .val (.int p1), .val (.int p2), .val (.int p3), .val (.int p4), .val (.int 4), .val (.int x92), .val (.int x93), .val (.int x94), .val (.int x95), .val (.ref b96), .val (.int 0)] []))
          refine own_F.of (fun _ => XS.iload S137.here S137.hx rfl (S137.dec at_112) rfl) ?_
          refine own_F.of (fun _ => XS.iconst S137.here S137.hx rfl (S137.dec at_114)) ?_
          show own_F _ p e below _ Z _ _ _ _ _ (T137.setTop (mkF m 115 #[.val (.int p0), .val (.int p1), .val (.int p2), .val (.int p3), .val (.int p4), .val (.int 4), .val (.int x92), .val (.int x93), .val (.int x94), .val (.int x95), .val (.ref b96), .val (.int 0)] [(.int 4), (.int 4)]))
          refine own_icmp S137 129 at_115 (by decide) (by decide) (fun (hc115_139 : (4 : Int32) < (4 : Int32)) => False.elim (absurd hc115_139 (by decide))) (fun (hc115_139 : ¬ ((4 : Int32) < (4 : Int32))) => ?_)
          show own_F _ p e below _ Z _ _ _ _ _ (T137.setTop (mkF m 118 #[.val (.int p0), .val (.int p1), .val (.int p2), .val (.int p3), .val (.int p4), .val (.int 4), .val (.int x92), .val (.int x93), .val (.int x94), .val (.int x95), .val (.ref b96), .val (.int 0)] []))
          refine own_F.of (fun _ => XS.iload S137.here S137.hx rfl (S137.dec at_118) rfl) ?_
          show own_F _ p e below _ Z _ _ _ _ _ (T137.setTop (mkF m 120 #[.val (.int p0), .val (.int p1), .val (.int p2), .val (.int p3), .val (.int p4), .val (.int 4), .val (.int x92), .val (.int x93), .val (.int x94), .val (.int x95), .val (.ref b96), .val (.int 0)] [(.int x95)]))
          refine own_callS S137 (y := (⟨"com/example/libidem/libidem/protocol/TokenIsValidPinLaw", "ref", "(C)Z"⟩ : MethodName)) (own_w hw 50 rfl) (own_w hw 51 rfl) (own_w hw 3 rfl) (own_w hw 52 rfl) (by decide) (argsL := [(.int x95)]) (rest := []) (own_ref l Z a0 hw x95 h96 S137.old) all0 (by decide +kernel : parseMethodDescriptor "(C)Z" = some ⟨[.char], some .boolean⟩) rfl rfl rfl at_120 (by decide) (Nat.le_of_ble_eq_true rfl) (by decide) (by decide) (fun T140 h140 v140 S140 K140 q140 => ?_)
          obtain ⟨rfl, rfl⟩ := q140
          show own_F _ p e below _ Z _ _ _ _ _ (T140.setTop (mkF m 123 #[.val (.int p0), .val (.int p1), .val (.int p2), .val (.int p3), .val (.int p4), .val (.int 4), .val (.int x92), .val (.int x93), .val (.int x94), .val (.int x95), .val (.ref b96), .val (.int 0)] [(.int (own_ex x95))]))
          refine own_if S140 129 at_123 (by decide) (by decide) (fun (hc123_141 : ¬ ((own_ex x95) = (0 : Int32))) => ?_) (fun (hc123_141 : (own_ex x95) = (0 : Int32)) => ?_)
          · show own_F _ p e below _ Z _ _ _ _ _ (T140.setTop (mkF m 129 #[.val (.int p0), .val (.int p1), .val (.int p2), .val (.int p3), .val (.int p4), .val (.int 4), .val (.int x92), .val (.int x93), .val (.int x94), .val (.int x95), .val (.ref b96), .val (.int 0)] []))
            exact J T140 S140 (0 : Int32) (by simp [own_al, own_narC cx92, own_same cx92.1 cx92.2, own_narC cx93, own_same cx93.1 cx93.2, own_narC cx94, own_same cx94.1 cx94.2, own_narC cx95, own_same cx95.1 cx95.2, hc72_102, hc89_126, hc106_138, hc123_141])
          · show own_F _ p e below _ Z _ _ _ _ _ (T140.setTop (mkF m 126 #[.val (.int p0), .val (.int p1), .val (.int p2), .val (.int p3), .val (.int p4), .val (.int 4), .val (.int x92), .val (.int x93), .val (.int x94), .val (.int x95), .val (.ref b96), .val (.int 0)] []))
            refine own_F.of (fun _ => XS.iconst S140.here S140.hx rfl (S140.dec at_126)) ?_
            show own_F _ p e below _ Z _ _ _ _ _ (T140.setTop (mkF m 127 #[.val (.int p0), .val (.int p1), .val (.int p2), .val (.int p3), .val (.int p4), .val (.int 4), .val (.int x92), .val (.int x93), .val (.int x94), .val (.int x95), .val (.ref b96), .val (.int 0)] [(.int 0)]))
            refine own_F.of (fun _ => XS.istore S140.here S140.hx rfl (S140.dec at_127) rfl (l' := #[.val (.int p0), .val (.int p1), .val (.int p2), .val (.int p3), .val (.int p4), .val (.int 4), .val (.int x92), .val (.int x93), .val (.int x94), .val (.int x95), .val (.ref b96), .val (.int 0)]) rfl) ?_
            exact J T140 S140 (0 : Int32) (by simp [own_al, own_narC cx92, own_same cx92.1 cx92.2, own_narC cx93, own_same cx93.1 cx93.2, own_narC cx94, own_same cx94.1 cx94.2, own_narC cx95, own_same cx95.1 cx95.2, hc72_102, hc89_126, hc106_138, hc123_141])
        · show own_F _ p e below _ Z _ _ _ _ _ (T137.setTop (mkF m 109 #[.val (.int p0), .val (.int p1), .val (.int p2), .val (.int p3), .val (.int p4), .val (.int 4), .val (.int x92), .val (.int x93), .val (.int x94), .val (.int x95), .val (.ref b96), .val (.int 0)] []))
          refine own_F.of (fun _ => XS.iconst S137.here S137.hx rfl (S137.dec at_109)) ?_
          show own_F _ p e below _ Z _ _ _ _ _ (T137.setTop (mkF m 110 #[.val (.int p0), .val (.int p1), .val (.int p2), .val (.int p3), .val (.int p4), .val (.int 4), .val (.int x92), .val (.int x93), .val (.int x94), .val (.int x95), .val (.ref b96), .val (.int 0)] [(.int 0)]))
          refine own_F.of (fun _ => XS.istore S137.here S137.hx rfl (S137.dec at_110) rfl (l' := #[.val (.int p0), .val (.int p1), .val (.int p2), .val (.int p3), .val (.int p4), .val (.int 4), .val (.int x92), .val (.int x93), .val (.int x94), .val (.int x95), .val (.ref b96), .val (.int 0)]) rfl) ?_
          refine own_F.of (fun _ => XS.iload S137.here S137.hx rfl (S137.dec at_112) rfl) ?_
          refine own_F.of (fun _ => XS.iconst S137.here S137.hx rfl (S137.dec at_114)) ?_
          show own_F _ p e below _ Z _ _ _ _ _ (T137.setTop (mkF m 115 #[.val (.int p0), .val (.int p1), .val (.int p2), .val (.int p3), .val (.int p4), .val (.int 4), .val (.int x92), .val (.int x93), .val (.int x94), .val (.int x95), .val (.ref b96), .val (.int 0)] [(.int 4), (.int 4)]))
          refine own_icmp S137 129 at_115 (by decide) (by decide) (fun (hc115_142 : (4 : Int32) < (4 : Int32)) => False.elim (absurd hc115_142 (by decide))) (fun (hc115_142 : ¬ ((4 : Int32) < (4 : Int32))) => ?_)
          show own_F _ p e below _ Z _ _ _ _ _ (T137.setTop (mkF m 118 #[.val (.int p0), .val (.int p1), .val (.int p2), .val (.int p3), .val (.int p4), .val (.int 4), .val (.int x92), .val (.int x93), .val (.int x94), .val (.int x95), .val (.ref b96), .val (.int 0)] []))
          refine own_F.of (fun _ => XS.iload S137.here S137.hx rfl (S137.dec at_118) rfl) ?_
          show own_F _ p e below _ Z _ _ _ _ _ (T137.setTop (mkF m 120 #[.val (.int p0), .val (.int p1), .val (.int p2), .val (.int p3), .val (.int p4), .val (.int 4), .val (.int x92), .val (.int x93), .val (.int x94), .val (.int x95), .val (.ref b96), .val (.int 0)] [(.int x95)]))
          refine own_callS S137 (y := (⟨"com/example/libidem/libidem/protocol/TokenIsValidPinLaw", "ref", "(C)Z"⟩ : MethodName)) (own_w hw 50 rfl) (own_w hw 51 rfl) (own_w hw 3 rfl) (own_w hw 52 rfl) (by decide) (argsL := [(.int x95)]) (rest := []) (own_ref l Z a0 hw x95 h96 S137.old) all0 (by decide +kernel : parseMethodDescriptor "(C)Z" = some ⟨[.char], some .boolean⟩) rfl rfl rfl at_120 (by decide) (Nat.le_of_ble_eq_true rfl) (by decide) (by decide) (fun T143 h143 v143 S143 K143 q143 => ?_)
          obtain ⟨rfl, rfl⟩ := q143
          show own_F _ p e below _ Z _ _ _ _ _ (T143.setTop (mkF m 123 #[.val (.int p0), .val (.int p1), .val (.int p2), .val (.int p3), .val (.int p4), .val (.int 4), .val (.int x92), .val (.int x93), .val (.int x94), .val (.int x95), .val (.ref b96), .val (.int 0)] [(.int (own_ex x95))]))
          refine own_if S143 129 at_123 (by decide) (by decide) (fun (hc123_144 : ¬ ((own_ex x95) = (0 : Int32))) => ?_) (fun (hc123_144 : (own_ex x95) = (0 : Int32)) => ?_)
          · show own_F _ p e below _ Z _ _ _ _ _ (T143.setTop (mkF m 129 #[.val (.int p0), .val (.int p1), .val (.int p2), .val (.int p3), .val (.int p4), .val (.int 4), .val (.int x92), .val (.int x93), .val (.int x94), .val (.int x95), .val (.ref b96), .val (.int 0)] []))
            exact J T143 S143 (0 : Int32) (by simp [own_al, own_narC cx92, own_same cx92.1 cx92.2, own_narC cx93, own_same cx93.1 cx93.2, own_narC cx94, own_same cx94.1 cx94.2, own_narC cx95, own_same cx95.1 cx95.2, hc72_102, hc89_126, hc106_138, hc123_144])
          · show own_F _ p e below _ Z _ _ _ _ _ (T143.setTop (mkF m 126 #[.val (.int p0), .val (.int p1), .val (.int p2), .val (.int p3), .val (.int p4), .val (.int 4), .val (.int x92), .val (.int x93), .val (.int x94), .val (.int x95), .val (.ref b96), .val (.int 0)] []))
            refine own_F.of (fun _ => XS.iconst S143.here S143.hx rfl (S143.dec at_126)) ?_
            show own_F _ p e below _ Z _ _ _ _ _ (T143.setTop (mkF m 127 #[.val (.int p0), .val (.int p1), .val (.int p2), .val (.int p3), .val (.int p4), .val (.int 4), .val (.int x92), .val (.int x93), .val (.int x94), .val (.int x95), .val (.ref b96), .val (.int 0)] [(.int 0)]))
            refine own_F.of (fun _ => XS.istore S143.here S143.hx rfl (S143.dec at_127) rfl (l' := #[.val (.int p0), .val (.int p1), .val (.int p2), .val (.int p3), .val (.int p4), .val (.int 4), .val (.int x92), .val (.int x93), .val (.int x94), .val (.int x95), .val (.ref b96), .val (.int 0)]) rfl) ?_
            exact J T143 S143 (0 : Int32) (by simp [own_al, own_narC cx92, own_same cx92.1 cx92.2, own_narC cx93, own_same cx93.1 cx93.2, own_narC cx94, own_same cx94.1 cx94.2, own_narC cx95, own_same cx95.1 cx95.2, hc72_102, hc89_126, hc106_138, hc123_144])
set_option maxRecDepth 65536 in
set_option maxHeartbeats 40000000 in
theorem comes_1 {Post : Tables → Env → Array Value → State → Outcome → State → Prop} (hpost : ∀ tb e args s v u, (limb_1_1.after args s (.returned v) u = true ∧ limb_1_2.after args s (.returned v) u = true ∧ True) → ReturnedEndW s (.returned v) u (Jvm.fieldLocs frame_1_writes args s ++ Jvm.arrayLocs frame_1_arrays args s ++ Jvm.staticLocs frame_1_statics s) 24 1152 → Post tb e args s (.returned v) u) :
    ArmFor flags0 classFile x code maxLocals ret World_1 tables_1 room_1 Calls_1 rest_1 Pre_1 Post := by
  intro l hfl _ _ p e ha hc hk s m args below hf hA hF happ hP
  obtain ⟨hcalls, hrest, hpre⟩ := hP
  obtain ⟨-, -, -, hnamed, -, -, -, hat⟩ := (Spec.applies_iff hf).mp happ
  obtain ⟨hg, hn⟩ := and_e (Cond.before_iff.mp (show (Jvm.Cond.and given_1 narrow_1).before args s = true from hpre))
  obtain ⟨g1, g2⟩ := and_e hg
  obtain ⟨g3, g4⟩ := and_e g2
  obtain ⟨g5, g6⟩ := and_e g4
  obtain ⟨g7, g8⟩ := and_e g6
  obtain ⟨g9, g10⟩ := and_e g8
  obtain ⟨w0, w1, w2, w3, w4, rfl⟩ : ∃ w0 w1 w2 w3 w4 : Value, args = #[w0, w1, w2, w3, w4] := by
    have hs : args.size = 5 := by simpa [Cond.value, given_1] using g1
    obtain ⟨L⟩ := args
    match L, hs with
    | [w0, w1, w2, w3, w4], _ => exact ⟨w0, w1, w2, w3, w4, rfl⟩
  have hw := fun d (hd : d ∈ tables_1) => atoms_spec (ws := Jvm.Cond.code x code maxLocals ret :: tables_1) hat d (List.mem_cons_of_mem _ hd)
  have hfit : Fit s := fun {y c} hc i hi => by
    obtain ⟨ha, rfl⟩ := Array.getElem?_eq_some_iff.mp hc
    have q := List.all_eq_true.mp ((Array.all_eq_true_iff_forall_mem.mp hF) _ (Array.getElem_mem ha)) i (List.mem_range.mpr hi)
    simpa [Array.getElem?_eq_getElem hi] using q
  obtain ⟨hsets, hown0⟩ := atoms_of _ (rest_1_c_eq ▸ (show rest_1_c.before _ s = true from hrest))
  have hr0 := Cond.before_iff.mp hown0
  obtain ⟨i0, ei0⟩ := is_v g3
  obtain rfl : w0 = (.int i0) := Option.some.inj ei0
  obtain ⟨i1, ei1⟩ := is_v g5
  obtain rfl : w1 = (.int i1) := Option.some.inj ei1
  obtain ⟨i2, ei2⟩ := is_v g7
  obtain rfl : w2 = (.int i2) := Option.some.inj ei2
  obtain ⟨i3, ei3⟩ := is_v g9
  obtain rfl : w3 = (.int i3) := Option.some.inj ei3
  obtain ⟨i4, ei4⟩ := is_v g10
  obtain rfl : w4 = (.int i4) := Option.some.inj ei4
  obtain ⟨y0, hn⟩ := and_e hn
  obtain ⟨y1, hn⟩ := and_e hn
  obtain ⟨y2, hn⟩ := and_e hn
  obtain ⟨y3, hn⟩ := and_e hn
  obtain ⟨y4, hn⟩ := and_e hn
  obtain ⟨y5, hn⟩ := and_e hn
  obtain ⟨y6, hn⟩ := and_e hn
  obtain ⟨y7, hn⟩ := and_e hn
  obtain ⟨y8, hn⟩ := and_e hn
  obtain ⟨y9, hn⟩ := and_e hn
  obtain ⟨y10, hn⟩ := and_e hn
  obtain ⟨y11, hn⟩ := and_e hn
  obtain ⟨y12, hn⟩ := and_e hn
  obtain ⟨y13, hn⟩ := and_e hn
  obtain ⟨y14, hn⟩ := and_e hn
  obtain ⟨y15, hn⟩ := and_e hn
  obtain ⟨y16, hn⟩ := and_e hn
  obtain ⟨y17, hn⟩ := and_e hn
  obtain ⟨y18, hn⟩ := and_e hn
  obtain ⟨y19, hn⟩ := and_e hn
  obtain ⟨y20, hn⟩ := and_e hn
  obtain ⟨y21, hn⟩ := and_e hn
  obtain ⟨y22, hn⟩ := and_e hn
  obtain ⟨y23, hn⟩ := and_e hn
  obtain ⟨y24, hn⟩ := and_e hn
  have y25 := hn
  obtain ⟨aT, ev⟩ := arr_v y0
  have ST := Sta.start ev (Or.inr ⟨(own_w hw 32 rfl), (own_w hw 89 rfl)⟩)
  obtain ⟨cl, Ar, hl1, hl2, hat'⟩ := own_A.start ev y0 y1
  have hz : ¬ (128 : Int32) < 0 := by decide
  obtain ⟨-, hsz, -, hT⟩ := Tab.start hfit Ar (Or.inr (Or.inl rfl)) hl1 hl2 hz
  have hsz' : cl.slots.size = 128 := hsz
  have hin : ∀ j : Int32, ¬ j < 0 → j < 128 → cl.slots[j.toNatClampNeg]? = some (.int (atv cl j)) := fun j h0 h1 => hT j (fun q => q.elim h0 fun q => by have := own_lt128 h0 h1; omega)
  have z2 : ∀ j : Int32, ¬ j < 0 → j < 128 → ¬ j < 0 → j < 33 → atv cl j = 0 := fun j h0 h1 q1 q2 => by
    have u := Cond.all_elim ev hat' y2 j.toNatClampNeg (by have := own_lt128 h0 h1; omega)
    exact (or_e2 (Cond.le_ints rfl (idx_at h0)) (own_elv (idx := [j.toNatClampNeg]) ev hat' (idx_at h0) h0 (hin j h0 h1)) u).resolve_left (fun r => absurd q2 (Int32.not_lt.mpr r))
  have z3 : ∀ j : Int32, ¬ j < 0 → j < 128 → ¬ j < 33 → j < 34 → atv cl j = 1 := fun j h0 h1 q1 q2 => by
    obtain rfl : j = 33 := own_only (b := 34) (n := 33) (m := 34) rfl rfl rfl q1 q2
    exact gotT (own_elv ev hat' rfl (by decide) (hin _ (by decide) (by decide))) y3
  have z4 : ∀ j : Int32, ¬ j < 0 → j < 128 → ¬ j < 34 → j < 35 → atv cl j = 0 := fun j h0 h1 q1 q2 => by
    obtain rfl : j = 34 := own_only (b := 35) (n := 34) (m := 35) rfl rfl rfl q1 q2
    exact gotT (own_elv ev hat' rfl (by decide) (hin _ (by decide) (by decide))) y4
  have z5 : ∀ j : Int32, ¬ j < 0 → j < 128 → ¬ j < 35 → j < 40 → atv cl j = 1 := fun j h0 h1 q1 q2 => by
    have u := Cond.all_elim ev hat' y5 j.toNatClampNeg (by have := own_lt128 h0 h1; omega)
    exact ((or3 u (Cond.lt_ints (idx_at h0) rfl) (Cond.le_ints rfl (idx_at h0)) (own_elv (idx := [j.toNatClampNeg]) ev hat' (idx_at h0) h0 (hin j h0 h1))).resolve_left q1).resolve_left (fun r => r q2)
  have z6 : ∀ j : Int32, ¬ j < 0 → j < 128 → ¬ j < 40 → j < 41 → atv cl j = 0 := fun j h0 h1 q1 q2 => by
    obtain rfl : j = 40 := own_only (b := 41) (n := 40) (m := 41) rfl rfl rfl q1 q2
    exact gotT (own_elv ev hat' rfl (by decide) (hin _ (by decide) (by decide))) y6
  have z7 : ∀ j : Int32, ¬ j < 0 → j < 128 → ¬ j < 41 → j < 42 → atv cl j = 0 := fun j h0 h1 q1 q2 => by
    obtain rfl : j = 41 := own_only (b := 42) (n := 41) (m := 42) rfl rfl rfl q1 q2
    exact gotT (own_elv ev hat' rfl (by decide) (hin _ (by decide) (by decide))) y7
  have z8 : ∀ j : Int32, ¬ j < 0 → j < 128 → ¬ j < 42 → j < 43 → atv cl j = 1 := fun j h0 h1 q1 q2 => by
    obtain rfl : j = 42 := own_only (b := 43) (n := 42) (m := 43) rfl rfl rfl q1 q2
    exact gotT (own_elv ev hat' rfl (by decide) (hin _ (by decide) (by decide))) y8
  have z9 : ∀ j : Int32, ¬ j < 0 → j < 128 → ¬ j < 43 → j < 44 → atv cl j = 1 := fun j h0 h1 q1 q2 => by
    obtain rfl : j = 43 := own_only (b := 44) (n := 43) (m := 44) rfl rfl rfl q1 q2
    exact gotT (own_elv ev hat' rfl (by decide) (hin _ (by decide) (by decide))) y9
  have z10 : ∀ j : Int32, ¬ j < 0 → j < 128 → ¬ j < 44 → j < 45 → atv cl j = 0 := fun j h0 h1 q1 q2 => by
    obtain rfl : j = 44 := own_only (b := 45) (n := 44) (m := 45) rfl rfl rfl q1 q2
    exact gotT (own_elv ev hat' rfl (by decide) (hin _ (by decide) (by decide))) y10
  have z11 : ∀ j : Int32, ¬ j < 0 → j < 128 → ¬ j < 45 → j < 46 → atv cl j = 1 := fun j h0 h1 q1 q2 => by
    obtain rfl : j = 45 := own_only (b := 46) (n := 45) (m := 46) rfl rfl rfl q1 q2
    exact gotT (own_elv ev hat' rfl (by decide) (hin _ (by decide) (by decide))) y11
  have z12 : ∀ j : Int32, ¬ j < 0 → j < 128 → ¬ j < 46 → j < 47 → atv cl j = 1 := fun j h0 h1 q1 q2 => by
    obtain rfl : j = 46 := own_only (b := 47) (n := 46) (m := 47) rfl rfl rfl q1 q2
    exact gotT (own_elv ev hat' rfl (by decide) (hin _ (by decide) (by decide))) y12
  have z13 : ∀ j : Int32, ¬ j < 0 → j < 128 → ¬ j < 47 → j < 48 → atv cl j = 0 := fun j h0 h1 q1 q2 => by
    obtain rfl : j = 47 := own_only (b := 48) (n := 47) (m := 48) rfl rfl rfl q1 q2
    exact gotT (own_elv ev hat' rfl (by decide) (hin _ (by decide) (by decide))) y13
  have z14 : ∀ j : Int32, ¬ j < 0 → j < 128 → ¬ j < 48 → j < 58 → atv cl j = 1 := fun j h0 h1 q1 q2 => by
    have u := Cond.all_elim ev hat' y14 j.toNatClampNeg (by have := own_lt128 h0 h1; omega)
    exact ((or3 u (Cond.lt_ints (idx_at h0) rfl) (Cond.le_ints rfl (idx_at h0)) (own_elv (idx := [j.toNatClampNeg]) ev hat' (idx_at h0) h0 (hin j h0 h1))).resolve_left q1).resolve_left (fun r => r q2)
  have z15 : ∀ j : Int32, ¬ j < 0 → j < 128 → ¬ j < 58 → j < 65 → atv cl j = 0 := fun j h0 h1 q1 q2 => by
    have u := Cond.all_elim ev hat' y15 j.toNatClampNeg (by have := own_lt128 h0 h1; omega)
    exact ((or3 u (Cond.lt_ints (idx_at h0) rfl) (Cond.le_ints rfl (idx_at h0)) (own_elv (idx := [j.toNatClampNeg]) ev hat' (idx_at h0) h0 (hin j h0 h1))).resolve_left q1).resolve_left (fun r => r q2)
  have z16 : ∀ j : Int32, ¬ j < 0 → j < 128 → ¬ j < 65 → j < 91 → atv cl j = 1 := fun j h0 h1 q1 q2 => by
    have u := Cond.all_elim ev hat' y16 j.toNatClampNeg (by have := own_lt128 h0 h1; omega)
    exact ((or3 u (Cond.lt_ints (idx_at h0) rfl) (Cond.le_ints rfl (idx_at h0)) (own_elv (idx := [j.toNatClampNeg]) ev hat' (idx_at h0) h0 (hin j h0 h1))).resolve_left q1).resolve_left (fun r => r q2)
  have z17 : ∀ j : Int32, ¬ j < 0 → j < 128 → ¬ j < 91 → j < 92 → atv cl j = 0 := fun j h0 h1 q1 q2 => by
    obtain rfl : j = 91 := own_only (b := 92) (n := 91) (m := 92) rfl rfl rfl q1 q2
    exact gotT (own_elv ev hat' rfl (by decide) (hin _ (by decide) (by decide))) y17
  have z18 : ∀ j : Int32, ¬ j < 0 → j < 128 → ¬ j < 92 → j < 93 → atv cl j = 0 := fun j h0 h1 q1 q2 => by
    obtain rfl : j = 92 := own_only (b := 93) (n := 92) (m := 93) rfl rfl rfl q1 q2
    exact gotT (own_elv ev hat' rfl (by decide) (hin _ (by decide) (by decide))) y18
  have z19 : ∀ j : Int32, ¬ j < 0 → j < 128 → ¬ j < 93 → j < 94 → atv cl j = 0 := fun j h0 h1 q1 q2 => by
    obtain rfl : j = 93 := own_only (b := 94) (n := 93) (m := 94) rfl rfl rfl q1 q2
    exact gotT (own_elv ev hat' rfl (by decide) (hin _ (by decide) (by decide))) y19
  have z20 : ∀ j : Int32, ¬ j < 0 → j < 128 → ¬ j < 94 → j < 123 → atv cl j = 1 := fun j h0 h1 q1 q2 => by
    have u := Cond.all_elim ev hat' y20 j.toNatClampNeg (by have := own_lt128 h0 h1; omega)
    exact ((or3 u (Cond.lt_ints (idx_at h0) rfl) (Cond.le_ints rfl (idx_at h0)) (own_elv (idx := [j.toNatClampNeg]) ev hat' (idx_at h0) h0 (hin j h0 h1))).resolve_left q1).resolve_left (fun r => r q2)
  have z21 : ∀ j : Int32, ¬ j < 0 → j < 128 → ¬ j < 123 → j < 124 → atv cl j = 0 := fun j h0 h1 q1 q2 => by
    obtain rfl : j = 123 := own_only (b := 124) (n := 123) (m := 124) rfl rfl rfl q1 q2
    exact gotT (own_elv ev hat' rfl (by decide) (hin _ (by decide) (by decide))) y21
  have z22 : ∀ j : Int32, ¬ j < 0 → j < 128 → ¬ j < 124 → j < 125 → atv cl j = 1 := fun j h0 h1 q1 q2 => by
    obtain rfl : j = 124 := own_only (b := 125) (n := 124) (m := 125) rfl rfl rfl q1 q2
    exact gotT (own_elv ev hat' rfl (by decide) (hin _ (by decide) (by decide))) y22
  have z23 : ∀ j : Int32, ¬ j < 0 → j < 128 → ¬ j < 125 → j < 126 → atv cl j = 0 := fun j h0 h1 q1 q2 => by
    obtain rfl : j = 125 := own_only (b := 126) (n := 125) (m := 126) rfl rfl rfl q1 q2
    exact gotT (own_elv ev hat' rfl (by decide) (hin _ (by decide) (by decide))) y23
  have z24 : ∀ j : Int32, ¬ j < 0 → j < 128 → ¬ j < 126 → j < 127 → atv cl j = 1 := fun j h0 h1 q1 q2 => by
    obtain rfl : j = 126 := own_only (b := 127) (n := 126) (m := 127) rfl rfl rfl q1 q2
    exact gotT (own_elv ev hat' rfl (by decide) (hin _ (by decide) (by decide))) y24
  have z25 : ∀ j : Int32, ¬ j < 0 → j < 128 → ¬ j < 127 → j < 128 → atv cl j = 0 := fun j h0 h1 q1 q2 => by
    obtain rfl : j = 127 := own_only (b := 128) (n := 127) (m := 128) rfl rfl rfl q1 q2
    exact gotT (own_elv ev hat' rfl (by decide) (hin _ (by decide) (by decide))) y25
  have hall : ∀ j : Int32, ¬ j < 0 → j < 128 → atv cl j = own_ex j := fun j h0 h1 => by
    have key : ∀ i : Fin 128, own_ex (i.1.toInt32) = if i.1.toInt32 < 33 then 0 else if i.1.toInt32 < 34 then 1 else if i.1.toInt32 < 35 then 0 else if i.1.toInt32 < 40 then 1 else if i.1.toInt32 < 41 then 0 else if i.1.toInt32 < 42 then 0 else if i.1.toInt32 < 43 then 1 else if i.1.toInt32 < 44 then 1 else if i.1.toInt32 < 45 then 0 else if i.1.toInt32 < 46 then 1 else if i.1.toInt32 < 47 then 1 else if i.1.toInt32 < 48 then 0 else if i.1.toInt32 < 58 then 1 else if i.1.toInt32 < 65 then 0 else if i.1.toInt32 < 91 then 1 else if i.1.toInt32 < 92 then 0 else if i.1.toInt32 < 93 then 0 else if i.1.toInt32 < 94 then 0 else if i.1.toInt32 < 123 then 1 else if i.1.toInt32 < 124 then 0 else if i.1.toInt32 < 125 then 1 else if i.1.toInt32 < 126 then 0 else if i.1.toInt32 < 127 then 1 else 0 := by decide +kernel
    have kk := key ⟨j.toNatClampNeg, own_lt128 h0 h1⟩
    simp only [own_clamp h0] at kk
    rw [kk]
    by_cases r0 : j < 33
    · rw [if_pos r0]; exact z2 j h0 h1 h0 r0
    rw [if_neg r0]
    by_cases r1 : j < 34
    · rw [if_pos r1]; exact z3 j h0 h1 r0 r1
    rw [if_neg r1]
    by_cases r2 : j < 35
    · rw [if_pos r2]; exact z4 j h0 h1 r1 r2
    rw [if_neg r2]
    by_cases r3 : j < 40
    · rw [if_pos r3]; exact z5 j h0 h1 r2 r3
    rw [if_neg r3]
    by_cases r4 : j < 41
    · rw [if_pos r4]; exact z6 j h0 h1 r3 r4
    rw [if_neg r4]
    by_cases r5 : j < 42
    · rw [if_pos r5]; exact z7 j h0 h1 r4 r5
    rw [if_neg r5]
    by_cases r6 : j < 43
    · rw [if_pos r6]; exact z8 j h0 h1 r5 r6
    rw [if_neg r6]
    by_cases r7 : j < 44
    · rw [if_pos r7]; exact z9 j h0 h1 r6 r7
    rw [if_neg r7]
    by_cases r8 : j < 45
    · rw [if_pos r8]; exact z10 j h0 h1 r7 r8
    rw [if_neg r8]
    by_cases r9 : j < 46
    · rw [if_pos r9]; exact z11 j h0 h1 r8 r9
    rw [if_neg r9]
    by_cases r10 : j < 47
    · rw [if_pos r10]; exact z12 j h0 h1 r9 r10
    rw [if_neg r10]
    by_cases r11 : j < 48
    · rw [if_pos r11]; exact z13 j h0 h1 r10 r11
    rw [if_neg r11]
    by_cases r12 : j < 58
    · rw [if_pos r12]; exact z14 j h0 h1 r11 r12
    rw [if_neg r12]
    by_cases r13 : j < 65
    · rw [if_pos r13]; exact z15 j h0 h1 r12 r13
    rw [if_neg r13]
    by_cases r14 : j < 91
    · rw [if_pos r14]; exact z16 j h0 h1 r13 r14
    rw [if_neg r14]
    by_cases r15 : j < 92
    · rw [if_pos r15]; exact z17 j h0 h1 r14 r15
    rw [if_neg r15]
    by_cases r16 : j < 93
    · rw [if_pos r16]; exact z18 j h0 h1 r15 r16
    rw [if_neg r16]
    by_cases r17 : j < 94
    · rw [if_pos r17]; exact z19 j h0 h1 r16 r17
    rw [if_neg r17]
    by_cases r18 : j < 123
    · rw [if_pos r18]; exact z20 j h0 h1 r17 r18
    rw [if_neg r18]
    by_cases r19 : j < 124
    · rw [if_pos r19]; exact z21 j h0 h1 r18 r19
    rw [if_neg r19]
    by_cases r20 : j < 125
    · rw [if_pos r20]; exact z22 j h0 h1 r19 r20
    rw [if_neg r20]
    by_cases r21 : j < 126
    · rw [if_pos r21]; exact z23 j h0 h1 r20 r21
    rw [if_neg r21]
    by_cases r22 : j < 127
    · rw [if_pos r22]; exact z24 j h0 h1 r21 r22
    rw [if_neg r22]
    exact z25 j h0 h1 r22 h1
  have AT : own_A s s.heap aT .boolean own_tab := ⟨cl, Ar, List.ext_getElem? fun i => by
    by_cases hi : i < 128
    · have w1 : i.toInt32.toNatClampNeg = i := by simpa using Int32.toNatClampNeg_ofNat_of_lt (n := i) (by omega)
      have w0 : ¬ i.toInt32 < 0 := fun q => idx_in (n := 128) hi (by decide) (Or.inl q)
      have w2 : i.toInt32 < 128 := by have h := nat_of w0; rw [w1] at h; rw [Int32.lt_iff_toInt_lt]; have e : (128 : Int32).toInt = 128 := rfl; omega
      have u := hin _ w0 w2
      rw [w1, hall _ w0 w2] at u
      rw [own_tab_at hi, Array.getElem?_toList, u]; rfl
    · rw [List.getElem?_eq_none (by simpa [hsz'] using hi), List.getElem?_eq_none (by simpa [own_tab] using hi)], by simp [own_tab]⟩
  obtain ⟨zc, evz⟩ := is_v (Cond.before_iff.mp (hsets _ (List.mem_of_getElem? (i := 1) rfl)))
  have SZ := Sta.start evz (Or.inl (hsets _ (List.mem_of_getElem? (i := 0) rfl)))
  have hz : ¬ zc = 0 := gotF (Cond.eq_ints evz rfl) (by simpa using not_v (Cond.before_iff.mp (hsets _ (List.mem_of_getElem? (i := 2) rfl))))
  have S_as := own_staI (Cond.before_iff.mp (hsets _ (List.mem_of_getElem? (i := 12) rfl))) (Or.inl (hsets _ (List.mem_of_getElem? (i := 11) rfl)))
  have S_hi := own_staI (Cond.before_iff.mp (hsets _ (List.mem_of_getElem? (i := 15) rfl))) (Or.inl (hsets _ (List.mem_of_getElem? (i := 14) rfl)))
  have S_lo := own_staI (Cond.before_iff.mp (hsets _ (List.mem_of_getElem? (i := 18) rfl))) (Or.inl (hsets _ (List.mem_of_getElem? (i := 17) rfl)))
  obtain ⟨vF, evF, hvF⟩ := own_isRef (Cond.before_iff.mp (hsets _ (List.mem_of_getElem? (i := 8) rfl)))
  have SF := Sta.start evF (Or.inl (hsets _ (List.mem_of_getElem? (i := 7) rfl)))
  have hcw : Jvm.Lit.compactW.before _ s = true := (hsets _ (List.mem_of_getElem? (i := 2) rfl))
  have hCH : CHv s [("java/lang/String", 7)] s.vm s.heap := CHv.start (own_EW _ hw) (fun p hp => by rw [List.mem_singleton.mp hp]; exact hcalls.1 _ (List.mem_singleton.mpr rfl)) hcw (own_w hw 23 rfl) (own_w hw 9 rfl)
  obtain ⟨n, o, h1, h2, h3, _, L, rfl, ⟨N, K, rfl⟩, hq⟩ := own_law l s _ hw i0 i1 i2 i3 i4 zc vF aT s.heap (own_extRefl _) SZ hz S_as S_hi S_lo hvF SF ST AT p e ha hc hk s m _ below hf ((Spec.applies_iff_loose hf).mp happ).1 ⟨rfl, State.Warmed39.refl s, rfl, hCH⟩ trivial
  refine ⟨n, _, h1, h2, h3, hpost _ _ _ _ _ _ ⟨Cond.after_iff.mpr rfl, Cond.after_iff.mpr (eq_i res_at (Term.int_eval (1)) rfl), trivial⟩ ⟨hq.1, hq.2.1, hq.2.2.1, (hq.2.2.2.sift fun y hy => Or.inr (N y hy)).mono (by decide) (by decide)⟩⟩
theorem main_1_1 : Claimed_1_1 := comes_1 fun _ _ _ _ _ _ h hF => ⟨h.1, hF⟩
theorem main_1_2 : Claimed_1_2 := comes_1 fun _ _ _ _ _ _ h hF => ⟨h.2.1, hF⟩
end Jvm.Pilot.@@N@@
namespace Jvm.Pilot.@@N@@
open Jvm Jvm.ClassFile Sem Op Lib Jvm.Free Jvm.Stand Jvm.Pilot.@@N@@.Jvm.D
/-! MADE BY PROGRAM (witnessworld.py) out of the Statement's table words and the real class files: 22 classes; the members and pool entries that the words name. The judged class is class 1, her method 4. -/
namespace start1
open Jvm.ClassFile
def u (s : String) : CpInfo := .utf8 (stringToUtf16 s)
/-- a pool by its gaps: so many unusable entries, then the entry; so many at the end -/
def gap : Nat → List CpInfo → List CpInfo
  | 0, r => r
  | n + 1, r => .unusable :: gap n r
def poolList (es : List (Nat × CpInfo)) (last : Nat) : List CpInfo := es.foldr (fun e r => gap e.1 (e.2 :: r)) (gap last [])
def pool (es : List (Nat × CpInfo)) (last : Nat) : Array CpInfo := ⟨poolList es last⟩
def fileOf (pool : Array CpInfo) (this : Nat) (attrs : Array Attribute := #[]) (ms : Array MethodInfo := #[]) (fl : Nat := 33) (sup : Nat := 0) (ifs : Array Nat := #[]) (fds : Array FieldInfo := #[]) : ClassFile where
  minorVersion := 0
  majorVersion := 65
  constantPool := pool
  accessFlags := fl
  thisClass := this
  superClass := sup
  interfaces := ifs
  fields := fds
  methods := ms
  attributes := attrs
def plain (name : String) (sup : Option ClassId) : Class where
  name := name
  kind := .ordinary
  loader := none
  accessFlags := 33
  super := sup
  interfaces := #[]
  cf := none
  fields := #[]
  methods := #[]
  instanceTypes := #[]
  staticTypes := #[]
  resolved := #[]
  callSites := []
  init := .initialized
  statics := none
  mirror := none

def pool0 : Array CpInfo := pool [(5, u "<init>"), (0, u "()V"), (1, .class_ 10), (1, u "java/lang/Object")] 113

def k0c0 : Code := { maxStack := 0, maxLocals := 1, code := object_method_1_code, exceptionTable := #[], attributes := #[] }
def k0m0 : Method := { name := "<init>", desc := "()V", sig := { parameters := [], returnType := none }, accessFlags := 1, code := some k0c0 }
/-- java/lang/Object -/
def k0 : Class := { plain "java/lang/Object" none with
  accessFlags := 33
  interfaces := #[]
  cf := some (fileOf pool0 8 #[] #[{ accessFlags := 1, nameIndex := 5, descriptorIndex := 6, attributes := #[] }] 33 0 #[] #[])
  fields := #[]
  methods := #[k0m0]
  instanceTypes := #[]
  staticTypes := #[]
  resolved := Array.replicate 124 none
  statics := none }

def pool1 : Array CpInfo := pool [(2, .class_ 4), (1, u "java/lang/Object"), (0, u "<init>"), (0, u "()V"), (0, .integer 65535), (0, .class_ 9), (0, u "java/lang/String"), (0, .methodref 8 11), (0, .nameAndType 5 12), (0, u "([C)V"), (0, .integer 2147483647), (0, .methodref 15 16), (0, .class_ 17), (0, .nameAndType 18 19), (0, u "com/example/libidem/libidem/protocol/TokenIsValidPinLaw"), (0, u "ch"), (0, u "(I)C"), (0, .methodref 15 21), (0, .nameAndType 22 23), (0, u "str"), (0, u "(ICCCC)Ljava/lang/String;"), (0, .methodref 15 25), (0, .nameAndType 26 27), (0, u "ref"), (0, u "(C)Z"), (0, .methodref 29 30), (0, .class_ 31), (0, .nameAndType 32 33), (0, u "com/example/libidem/libidem/protocol/Token"), (0, u "isValid"), (0, u "(Ljava/lang/String;)Z"), (3, u "law"), (0, u "(IIIII)Z")] 2

def k1m0 : Method := { name := "<init>", desc := "()V", sig := { parameters := [], returnType := none }, accessFlags := 2, code := none }
def k1c1 : Code := { maxStack := 2, maxLocals := 1, code := method_2_code, exceptionTable := #[], attributes := #[] }
def k1m1 : Method := { name := "ch", desc := "(I)C", sig := { parameters := [.int], returnType := some .char }, accessFlags := 10, code := some k1c1 }
def k1c2 : Code := { maxStack := 2, maxLocals := 1, code := method_3_code, exceptionTable := #[], attributes := #[] }
def k1m2 : Method := { name := "ref", desc := "(C)Z", sig := { parameters := [.char], returnType := some .boolean }, accessFlags := 10, code := some k1c2 }
def k1c3 : Code := { maxStack := 6, maxLocals := 5, code := method_4_code, exceptionTable := #[], attributes := #[] }
def k1m3 : Method := { name := "str", desc := "(ICCCC)Ljava/lang/String;", sig := { parameters := [.int, .char, .char, .char, .char], returnType := some (.object "java/lang/String") }, accessFlags := 10, code := some k1c3 }
def k1c4 : Code := { maxStack := 5, maxLocals := 12, code := code, exceptionTable := #[], attributes := #[] }
def k1m4 : Method := { name := "law", desc := "(IIIII)Z", sig := { parameters := [.int, .int, .int, .int, .int], returnType := some .boolean }, accessFlags := 9, code := some k1c4 }
/-- com/example/libidem/libidem/protocol/TokenIsValidPinLaw -/
def k1 : Class := { plain "com/example/libidem/libidem/protocol/TokenIsValidPinLaw" (some 0) with
  accessFlags := 49
  interfaces := #[]
  cf := some (fileOf pool1 15 #[] #[{ accessFlags := 2, nameIndex := 5, descriptorIndex := 6, attributes := #[] }, { accessFlags := 10, nameIndex := 18, descriptorIndex := 19, attributes := #[] }, { accessFlags := 10, nameIndex := 26, descriptorIndex := 27, attributes := #[] }, { accessFlags := 10, nameIndex := 22, descriptorIndex := 23, attributes := #[] }, { accessFlags := 9, nameIndex := 37, descriptorIndex := 38, attributes := #[] }] 49 2 #[] #[])
  fields := #[]
  methods := #[k1m0, k1m1, k1m2, k1m3, k1m4]
  instanceTypes := #[]
  staticTypes := #[]
  resolved := Array.replicate 41 none
  statics := none }

def pool2 : Array CpInfo := pool [(1, .class_ 2), (0, u "java/io/Serializable"), (0, .class_ 4), (0, u "java/lang/Object")] 2

/-- java/io/Serializable -/
def k2 : Class := { plain "java/io/Serializable" (some 0) with
  accessFlags := 1537
  interfaces := #[]
  cf := some (fileOf pool2 1 #[] #[] 1537 3 #[] #[])
  fields := #[]
  methods := #[]
  instanceTypes := #[]
  staticTypes := #[]
  resolved := Array.replicate 7 none
  statics := none }

def pool3 : Array CpInfo := pool [(1, .class_ 2), (0, u "java/lang/Comparable"), (0, .class_ 4), (0, u "java/lang/Object")] 7

/-- java/lang/Comparable -/
def k3 : Class := { plain "java/lang/Comparable" (some 0) with
  accessFlags := 1537
  interfaces := #[]
  cf := some (fileOf pool3 1 #[] #[] 1537 3 #[] #[])
  fields := #[]
  methods := #[]
  instanceTypes := #[]
  staticTypes := #[]
  resolved := Array.replicate 12 none
  statics := none }

def pool4 : Array CpInfo := pool [(2, .class_ 4), (1, u "java/lang/CharSequence"), (42, .class_ 48), (0, u "java/lang/CharSequence$1CodePointIterator"), (10, .class_ 60), (0, u "java/lang/CharSequence$1CharIterator"), (5, .class_ 67), (0, u "java/lang/Object")] 63

/-- java/lang/CharSequence -/
def k4 : Class := { plain "java/lang/CharSequence" (some 0) with
  accessFlags := 1537
  interfaces := #[]
  cf := some (fileOf pool4 2 #[.nestMembers #[47, 59]] #[] 1537 66 #[] #[])
  fields := #[]
  methods := #[]
  instanceTypes := #[]
  staticTypes := #[]
  resolved := Array.replicate 131 none
  statics := none }

def pool5 : Array CpInfo := pool [(1, .class_ 2), (0, u "java/lang/constant/Constable"), (0, .class_ 4), (0, u "java/lang/Object")] 6

/-- java/lang/constant/Constable -/
def k5 : Class := { plain "java/lang/constant/Constable" (some 0) with
  accessFlags := 1537
  interfaces := #[]
  cf := some (fileOf pool5 1 #[] #[] 1537 3 #[] #[])
  fields := #[]
  methods := #[]
  instanceTypes := #[]
  staticTypes := #[]
  resolved := Array.replicate 11 none
  statics := none }

def pool6 : Array CpInfo := pool [(1, .class_ 2), (0, u "java/lang/constant/ConstantDesc"), (0, .class_ 4), (0, u "java/lang/Object")] 32

/-- java/lang/constant/ConstantDesc -/
def k6 : Class := { plain "java/lang/constant/ConstantDesc" (some 0) with
  accessFlags := 1537
  interfaces := #[]
  cf := some (fileOf pool6 1 #[] #[] 1537 3 #[] #[])
  fields := #[]
  methods := #[]
  instanceTypes := #[]
  staticTypes := #[]
  resolved := Array.replicate 37 none
  statics := none }

def pool7 : Array CpInfo := pool [(1, .methodref 2 3), (0, .class_ 4), (0, .nameAndType 5 6), (0, u "java/lang/Object"), (0, u "<init>"), (0, u "()V"), (0, .string 8), (0, u ""), (0, .fieldref 10 11), (0, .class_ 12), (0, .nameAndType 13 14), (0, u "java/lang/String"), (0, u "value"), (0, u "[B"), (0, .fieldref 10 16), (0, .nameAndType 17 18), (0, u "coder"), (0, u "B"), (2, u "hash"), (0, u "I"), (2, u "hashIsZero"), (0, u "Z"), (0, .methodref 10 28), (0, .nameAndType 5 29), (0, u "([CIILjava/lang/Void;)V"), (8, .fieldref 10 39), (0, .nameAndType 40 26), (0, u "COMPACT_STRINGS"), (1, .class_ 44), (1, u "java/lang/StringUTF16"), (0, u "compress"), (1, .methodref 42 48), (0, .nameAndType 49 50), (0, u "coderFromArrayLen"), (0, u "([BI)B"), (56, .class_ 109), (1, u "java/lang/StringLatin1"), (32, u "()Z"), (34, .methodref 42 178), (0, .nameAndType 45 179), (0, u "([CII)[B"), (154, u "()I"), (0, .methodref 10 336), (0, .nameAndType 17 337), (0, u "()B"), (25, u "([BI)C"), (27, u "(II)V"), (35, u "(I)C"), (64, .methodref 10 493), (0, .nameAndType 494 142), (0, u "isLatin1"), (0, .methodref 107 496), (0, .nameAndType 497 363), (0, u "charAt"), (0, .methodref 42 496), (2, u "checkIndex"), (5, u "length"), (67, .class_ 576), (0, u "java/lang/CharSequence"), (22, u "CASE_INSENSITIVE_ORDER"), (0, u "Ljava/util/Comparator;"), (91, u "isEmpty"), (317, u "([C)V"), (42, .fieldref 1054 1055), (0, .class_ 1056), (0, .nameAndType 1057 1058), (0, u "jdk/internal/util/Preconditions"), (0, u "SIOOBE_FORMATTER"), (0, u "Ljava/util/function/BiFunction;"), (0, .methodref 1054 1060), (0, .nameAndType 501 1061), (0, u "(IILjava/util/function/BiFunction;)I"), (39, u "serialPersistentFields"), (0, u "[Ljava/io/ObjectStreamField;"), (0, .class_ 1104), (0, u "java/lang/String$CaseInsensitiveComparator"), (1, .class_ 1107), (0, u "java/io/Serializable"), (0, .class_ 1109), (0, u "java/lang/Comparable"), (0, .class_ 1111), (0, u "java/lang/constant/Constable"), (0, .class_ 1113), (0, u "java/lang/constant/ConstantDesc"), (2, u "serialVersionUID"), (0, u "J"), (3, u "REPL"), (0, u "C"), (2, u "LATIN1"), (1, u "UTF16")] 323

def k7m0 : Method := { name := "<init>", desc := "()V", sig := { parameters := [], returnType := none }, accessFlags := 1, code := none }
def k7c1 : Code := { maxStack := 5, maxLocals := 2, code := jdk_42_method_3_code, exceptionTable := #[], attributes := #[] }
def k7m1 : Method := { name := "<init>", desc := "([C)V", sig := { parameters := [(.array .char)], returnType := none }, accessFlags := 1, code := some k7c1 }
def k7c2 : Code := { maxStack := 2, maxLocals := 1, code := jdk_42_method_54_code, exceptionTable := #[], attributes := #[] }
def k7m2 : Method := { name := "length", desc := "()I", sig := { parameters := [], returnType := some .int }, accessFlags := 1, code := some k7c2 }
def k7c3 : Code := { maxStack := 1, maxLocals := 1, code := jdk_42_method_55_code, exceptionTable := #[], attributes := #[] }
def k7m3 : Method := { name := "isEmpty", desc := "()Z", sig := { parameters := [], returnType := some .boolean }, accessFlags := 1, code := some k7c3 }
def k7c4 : Code := { maxStack := 2, maxLocals := 2, code := jdk_42_method_56_code, exceptionTable := #[], attributes := #[] }
def k7m4 : Method := { name := "charAt", desc := "(I)C", sig := { parameters := [.int], returnType := some .char }, accessFlags := 1, code := some k7c4 }
def k7c5 : Code := { maxStack := 4, maxLocals := 6, code := jdk_42_method_149_code, exceptionTable := #[], attributes := #[] }
def k7m5 : Method := { name := "<init>", desc := "([CIILjava/lang/Void;)V", sig := { parameters := [(.array .char), .int, .int, (.object "java/lang/Void")], returnType := none }, accessFlags := 2, code := some k7c5 }
def k7c6 : Code := { maxStack := 1, maxLocals := 1, code := jdk_42_method_152_code, exceptionTable := #[], attributes := #[] }
def k7m6 : Method := { name := "coder", desc := "()B", sig := { parameters := [], returnType := some .byte }, accessFlags := 0, code := some k7c6 }
def k7c7 : Code := { maxStack := 1, maxLocals := 1, code := jdk_42_method_154_code, exceptionTable := #[], attributes := #[] }
def k7m7 : Method := { name := "isLatin1", desc := "()Z", sig := { parameters := [], returnType := some .boolean }, accessFlags := 0, code := some k7c7 }
def k7c8 : Code := { maxStack := 3, maxLocals := 2, code := jdk_42_method_155_code, exceptionTable := #[], attributes := #[] }
def k7m8 : Method := { name := "checkIndex", desc := "(II)V", sig := { parameters := [.int, .int], returnType := none }, accessFlags := 8, code := some k7c8 }
/-- java/lang/String -/
def k7 : Class := { plain "java/lang/String" (some 0) with
  accessFlags := 49
  interfaces := #[2, 3, 4, 5, 6]
  cf := some (fileOf pool7 10 #[.nestMembers #[1103]] #[{ accessFlags := 1, nameIndex := 5, descriptorIndex := 6, attributes := #[] }, { accessFlags := 1, nameIndex := 5, descriptorIndex := 1010, attributes := #[] }, { accessFlags := 1, nameIndex := 507, descriptorIndex := 334, attributes := #[] }, { accessFlags := 1, nameIndex := 692, descriptorIndex := 142, attributes := #[] }, { accessFlags := 1, nameIndex := 497, descriptorIndex := 427, attributes := #[] }, { accessFlags := 2, nameIndex := 5, descriptorIndex := 29, attributes := #[] }, { accessFlags := 0, nameIndex := 17, descriptorIndex := 337, attributes := #[] }, { accessFlags := 0, nameIndex := 494, descriptorIndex := 142, attributes := #[] }, { accessFlags := 8, nameIndex := 501, descriptorIndex := 391, attributes := #[] }] 49 2 #[1106, 1108, 575, 1110, 1112] #[{ accessFlags := 18, nameIndex := 13, descriptorIndex := 14, attributes := #[] }, { accessFlags := 18, nameIndex := 17, descriptorIndex := 18, attributes := #[] }, { accessFlags := 2, nameIndex := 21, descriptorIndex := 22, attributes := #[] }, { accessFlags := 2, nameIndex := 25, descriptorIndex := 26, attributes := #[] }, { accessFlags := 26, nameIndex := 1116, descriptorIndex := 1117, attributes := #[] }, { accessFlags := 24, nameIndex := 40, descriptorIndex := 26, attributes := #[] }, { accessFlags := 26, nameIndex := 1101, descriptorIndex := 1102, attributes := #[] }, { accessFlags := 26, nameIndex := 1121, descriptorIndex := 1122, attributes := #[] }, { accessFlags := 25, nameIndex := 599, descriptorIndex := 600, attributes := #[] }, { accessFlags := 24, nameIndex := 1125, descriptorIndex := 18, attributes := #[] }, { accessFlags := 24, nameIndex := 1127, descriptorIndex := 18, attributes := #[] }])
  fields := #[{ name := "value", type := (.array .byte), accessFlags := 18, slot := 0, constantValue := 0 }, { name := "coder", type := .byte, accessFlags := 18, slot := 1, constantValue := 0 }, { name := "hash", type := .int, accessFlags := 2, slot := 2, constantValue := 0 }, { name := "hashIsZero", type := .boolean, accessFlags := 2, slot := 3, constantValue := 0 }, { name := "serialVersionUID", type := .long, accessFlags := 26, slot := 0, constantValue := 0 }, { name := "COMPACT_STRINGS", type := .boolean, accessFlags := 24, slot := 1, constantValue := 0 }, { name := "serialPersistentFields", type := (.array (.object "java/io/ObjectStreamField")), accessFlags := 26, slot := 2, constantValue := 0 }, { name := "REPL", type := .char, accessFlags := 26, slot := 3, constantValue := 0 }, { name := "CASE_INSENSITIVE_ORDER", type := (.object "java/util/Comparator"), accessFlags := 25, slot := 4, constantValue := 0 }, { name := "LATIN1", type := .byte, accessFlags := 24, slot := 5, constantValue := 0 }, { name := "UTF16", type := .byte, accessFlags := 24, slot := 6, constantValue := 0 }]
  methods := #[k7m0, k7m1, k7m2, k7m3, k7m4, k7m5, k7m6, k7m7, k7m8]
  instanceTypes := #[(.array .byte), .byte, .int, .boolean]
  staticTypes := #[.long, .boolean, (.array (.object "java/io/ObjectStreamField")), .char, (.object "java/util/Comparator"), .byte, .byte]
  resolved := Array.replicate 1451 none
  statics := some 0 }

def pool8 : Array CpInfo := pool [(2, .class_ 4), (1, u "java/lang/Object"), (0, u "<init>"), (0, u "()V"), (0, .methodref 8 9), (0, .class_ 10), (0, .nameAndType 11 12), (0, u "java/lang/String"), (0, u "isEmpty"), (0, u "()Z"), (0, .methodref 8 14), (0, .nameAndType 15 16), (0, u "length"), (0, u "()I"), (0, .methodref 8 18), (0, .nameAndType 19 20), (0, u "charAt"), (0, u "(I)C"), (0, .methodref 22 23), (0, .class_ 24), (0, .nameAndType 25 26), (0, u "com/example/libidem/libidem/protocol/Token"), (0, u "isTchar"), (0, u "(C)Z"), (0, .fieldref 22 28), (0, .nameAndType 29 30), (0, u "TCHAR"), (0, u "[Z"), (18, u "isValid"), (0, u "(Ljava/lang/String;)Z")] 7

def k8m0 : Method := { name := "<init>", desc := "()V", sig := { parameters := [], returnType := none }, accessFlags := 2, code := none }
def k8c1 : Code := { maxStack := 2, maxLocals := 2, code := prog_16_method_2_code, exceptionTable := #[], attributes := #[] }
def k8m1 : Method := { name := "isValid", desc := "(Ljava/lang/String;)Z", sig := { parameters := [(.object "java/lang/String")], returnType := some .boolean }, accessFlags := 9, code := some k8c1 }
def k8c2 : Code := { maxStack := 2, maxLocals := 1, code := prog_16_method_3_code, exceptionTable := #[], attributes := #[] }
def k8m2 : Method := { name := "isTchar", desc := "(C)Z", sig := { parameters := [.char], returnType := some .boolean }, accessFlags := 9, code := some k8c2 }
/-- com/example/libidem/libidem/protocol/Token -/
def k8 : Class := { plain "com/example/libidem/libidem/protocol/Token" (some 0) with
  accessFlags := 49
  interfaces := #[]
  cf := some (fileOf pool8 22 #[] #[{ accessFlags := 2, nameIndex := 5, descriptorIndex := 6, attributes := #[] }, { accessFlags := 9, nameIndex := 49, descriptorIndex := 50, attributes := #[] }, { accessFlags := 9, nameIndex := 25, descriptorIndex := 26, attributes := #[] }] 49 2 #[] #[{ accessFlags := 26, nameIndex := 29, descriptorIndex := 30, attributes := #[] }])
  fields := #[{ name := "TCHAR", type := (.array .boolean), accessFlags := 26, slot := 0, constantValue := 0 }]
  methods := #[k8m0, k8m1, k8m2]
  instanceTypes := #[]
  staticTypes := #[(.array .boolean)]
  resolved := Array.replicate 58 none
  statics := some 1 }

def pool9 : Array CpInfo := pool [(3, .class_ 4), (0, u "java/lang/String"), (1, .class_ 8), (1, u "java/lang/Object"), (0, u "<init>"), (0, u "()V"), (0, .methodref 12 13), (0, .class_ 14), (0, .nameAndType 15 16), (0, u "java/lang/StringUTF16"), (0, u "newBytesLength"), (0, u "(I)I"), (3, .integer 1073741823), (23, .fieldref 12 45), (0, .nameAndType 46 47), (0, u "$assertionsDisabled"), (0, u "Z"), (0, .methodref 12 49), (0, .nameAndType 50 51), (0, u "length"), (0, u "([B)I"), (7, .fieldref 12 60), (0, .nameAndType 61 62), (0, u "HI_BYTE_SHIFT"), (0, u "I"), (0, .fieldref 12 64), (0, .nameAndType 65 62), (0, u "LO_BYTE_SHIFT"), (1, .methodref 12 68), (0, .nameAndType 69 70), (0, u "checkIndex"), (0, u "(I[B)V"), (0, .methodref 12 72), (0, .nameAndType 73 74), (0, u "getChar"), (0, u "([BI)C"), (32, .methodref 12 108), (0, .nameAndType 109 110), (0, u "newBytesFor"), (0, u "(I)[B"), (0, .methodref 12 112), (0, .nameAndType 113 114), (0, u "putChar"), (0, u "([BII)V"), (0, .methodref 12 116), (0, .nameAndType 117 118), (0, u "compress"), (0, u "([CI[BII)I"), (0, .methodref 12 120), (0, .nameAndType 121 122), (0, u "toBytes"), (0, u "([CII)[B"), (138, u "coderFromArrayLen"), (0, u "([BI)B"), (106, .class_ 371), (1, u "java/lang/StringUTF16$LinesSpliterator"), (20, u "charAt"), (21, .methodref 3 415), (0, .nameAndType 69 416), (0, u "(II)V"), (13, u "MAX_LENGTH"), (196, .class_ 628), (0, u "java/lang/StringUTF16$CodePointsSpliterator"), (0, .class_ 630), (0, u "java/lang/StringUTF16$CharsSpliterator")] 4

def k9m0 : Method := { name := "<init>", desc := "()V", sig := { parameters := [], returnType := none }, accessFlags := 0, code := none }
def k9c1 : Code := { maxStack := 1, maxLocals := 1, code := jdk_52_method_2_code, exceptionTable := #[], attributes := #[] }
def k9m1 : Method := { name := "newBytesFor", desc := "(I)[B", sig := { parameters := [.int], returnType := some (.array .byte) }, accessFlags := 9, code := some k9c1 }
def k9c2 : Code := { maxStack := 4, maxLocals := 1, code := jdk_52_method_3_code, exceptionTable := #[], attributes := #[] }
def k9m2 : Method := { name := "newBytesLength", desc := "(I)I", sig := { parameters := [.int], returnType := some .int }, accessFlags := 9, code := some k9c2 }
def k9c3 : Code := { maxStack := 4, maxLocals := 3, code := jdk_52_method_4_code, exceptionTable := #[], attributes := #[] }
def k9m3 : Method := { name := "putChar", desc := "([BII)V", sig := { parameters := [(.array .byte), .int, .int], returnType := none }, accessFlags := 8, code := some k9c3 }
def k9c4 : Code := { maxStack := 3, maxLocals := 2, code := jdk_52_method_5_code, exceptionTable := #[], attributes := #[] }
def k9m4 : Method := { name := "getChar", desc := "([BI)C", sig := { parameters := [(.array .byte), .int], returnType := some .char }, accessFlags := 8, code := some k9c4 }
def k9c5 : Code := { maxStack := 2, maxLocals := 1, code := jdk_52_method_6_code, exceptionTable := #[], attributes := #[] }
def k9m5 : Method := { name := "length", desc := "([B)I", sig := { parameters := [(.array .byte)], returnType := some .int }, accessFlags := 9, code := some k9c5 }
def k9c6 : Code := { maxStack := 4, maxLocals := 5, code := jdk_52_method_14_code, exceptionTable := #[], attributes := #[] }
def k9m6 : Method := { name := "toBytes", desc := "([CII)[B", sig := { parameters := [(.array .char), .int, .int], returnType := some (.array .byte) }, accessFlags := 9, code := some k9c6 }
def k9c7 : Code := { maxStack := 2, maxLocals := 2, code := jdk_52_method_15_code, exceptionTable := #[], attributes := #[] }
def k9m7 : Method := { name := "coderFromArrayLen", desc := "([BI)B", sig := { parameters := [(.array .byte), .int], returnType := some .byte }, accessFlags := 8, code := some k9c7 }
def k9c8 : Code := { maxStack := 5, maxLocals := 6, code := jdk_52_method_16_code, exceptionTable := #[], attributes := #[] }
def k9m8 : Method := { name := "compress", desc := "([CII)[B", sig := { parameters := [(.array .char), .int, .int], returnType := some (.array .byte) }, accessFlags := 9, code := some k9c8 }
def k9c9 : Code := { maxStack := 3, maxLocals := 7, code := jdk_52_method_21_code, exceptionTable := #[], attributes := #[] }
def k9m9 : Method := { name := "compress", desc := "([CI[BII)I", sig := { parameters := [(.array .char), .int, (.array .byte), .int, .int], returnType := some .int }, accessFlags := 9, code := some k9c9 }
def k9c10 : Code := { maxStack := 2, maxLocals := 2, code := jdk_52_method_83_code, exceptionTable := #[], attributes := #[] }
def k9m10 : Method := { name := "charAt", desc := "([BI)C", sig := { parameters := [(.array .byte), .int], returnType := some .char }, accessFlags := 9, code := some k9c10 }
def k9c11 : Code := { maxStack := 2, maxLocals := 2, code := jdk_52_method_91_code, exceptionTable := #[], attributes := #[] }
def k9m11 : Method := { name := "checkIndex", desc := "(I[B)V", sig := { parameters := [.int, (.array .byte)], returnType := none }, accessFlags := 9, code := some k9c11 }
/-- java/lang/StringUTF16 -/
def k9 : Class := { plain "java/lang/StringUTF16" (some 0) with
  accessFlags := 48
  interfaces := #[]
  cf := some (fileOf pool9 12 #[.nestMembers #[627, 629, 369]] #[{ accessFlags := 0, nameIndex := 9, descriptorIndex := 10, attributes := #[] }, { accessFlags := 9, nameIndex := 109, descriptorIndex := 110, attributes := #[] }, { accessFlags := 9, nameIndex := 15, descriptorIndex := 16, attributes := #[] }, { accessFlags := 8, nameIndex := 113, descriptorIndex := 114, attributes := #[] }, { accessFlags := 8, nameIndex := 73, descriptorIndex := 74, attributes := #[] }, { accessFlags := 9, nameIndex := 50, descriptorIndex := 51, attributes := #[] }, { accessFlags := 9, nameIndex := 121, descriptorIndex := 122, attributes := #[] }, { accessFlags := 8, nameIndex := 261, descriptorIndex := 262, attributes := #[] }, { accessFlags := 9, nameIndex := 117, descriptorIndex := 122, attributes := #[] }, { accessFlags := 9, nameIndex := 117, descriptorIndex := 118, attributes := #[] }, { accessFlags := 9, nameIndex := 392, descriptorIndex := 74, attributes := #[] }, { accessFlags := 9, nameIndex := 69, descriptorIndex := 70, attributes := #[] }] 48 6 #[] #[{ accessFlags := 26, nameIndex := 61, descriptorIndex := 62, attributes := #[] }, { accessFlags := 26, nameIndex := 65, descriptorIndex := 62, attributes := #[] }, { accessFlags := 24, nameIndex := 430, descriptorIndex := 62, attributes := #[] }, { accessFlags := 4120, nameIndex := 46, descriptorIndex := 47, attributes := #[] }])
  fields := #[{ name := "HI_BYTE_SHIFT", type := .int, accessFlags := 26, slot := 0, constantValue := 0 }, { name := "LO_BYTE_SHIFT", type := .int, accessFlags := 26, slot := 1, constantValue := 0 }, { name := "MAX_LENGTH", type := .int, accessFlags := 24, slot := 2, constantValue := 0 }, { name := "$assertionsDisabled", type := .boolean, accessFlags := 4120, slot := 3, constantValue := 0 }]
  methods := #[k9m0, k9m1, k9m2, k9m3, k9m4, k9m5, k9m6, k9m7, k9m8, k9m9, k9m10, k9m11]
  instanceTypes := #[]
  staticTypes := #[.int, .int, .int, .boolean]
  resolved := Array.replicate 635 none
  statics := some 2 }

def pool10 : Array CpInfo := pool [(1, .class_ 2), (0, u "java/lang/String"), (1, .class_ 6), (1, u "java/lang/Object"), (0, u "<init>"), (0, u "()V"), (0, .methodref 1 10), (0, .nameAndType 11 12), (0, u "checkIndex"), (0, u "(II)V"), (1, .class_ 16), (1, u "java/lang/StringLatin1"), (36, u "([BI)C"), (67, u "$assertionsDisabled"), (0, u "Z"), (98, .class_ 223), (1, u "java/lang/StringLatin1$LinesSpliterator"), (28, u "charAt"), (137, .class_ 391), (0, u "java/lang/StringLatin1$CharsSpliterator")] 3

def k10m0 : Method := { name := "<init>", desc := "()V", sig := { parameters := [], returnType := none }, accessFlags := 0, code := none }
def k10c1 : Code := { maxStack := 2, maxLocals := 2, code := jdk_43_method_2_code, exceptionTable := #[], attributes := #[] }
def k10m1 : Method := { name := "charAt", desc := "([BI)C", sig := { parameters := [(.array .byte), .int], returnType := some .char }, accessFlags := 9, code := some k10c1 }
/-- java/lang/StringLatin1 -/
def k10 : Class := { plain "java/lang/StringLatin1" (some 0) with
  accessFlags := 48
  interfaces := #[]
  cf := some (fileOf pool10 14 #[.nestMembers #[390, 221]] #[{ accessFlags := 0, nameIndex := 7, descriptorIndex := 8, attributes := #[] }, { accessFlags := 9, nameIndex := 252, descriptorIndex := 53, attributes := #[] }] 48 4 #[] #[{ accessFlags := 4120, nameIndex := 121, descriptorIndex := 122, attributes := #[] }])
  fields := #[{ name := "$assertionsDisabled", type := .boolean, accessFlags := 4120, slot := 0, constantValue := 0 }]
  methods := #[k10m0, k10m1]
  instanceTypes := #[]
  staticTypes := #[.boolean]
  resolved := Array.replicate 395 none
  statics := none }

def pool11 : Array CpInfo := pool [(2, .class_ 4), (1, u "java/lang/Object"), (0, u "<init>"), (0, u "()V"), (17, .class_ 26), (1, u "jdk/internal/util/Preconditions"), (6, u "checkIndex"), (21, .class_ 56), (0, u "jdk/internal/util/Preconditions$4"), (57, .class_ 115), (0, u "jdk/internal/util/Preconditions$1"), (7, u "SIOOBE_FORMATTER"), (0, u "Ljava/util/function/BiFunction;"), (0, .class_ 126), (0, u "jdk/internal/util/Preconditions$2"), (3, u "AIOOBE_FORMATTER"), (0, .class_ 132), (0, u "jdk/internal/util/Preconditions$3"), (3, u "IOOBE_FORMATTER"), (41, u "(IILjava/util/function/BiFunction;)I")] 15

def k11m0 : Method := { name := "<init>", desc := "()V", sig := { parameters := [], returnType := none }, accessFlags := 1, code := none }
def k11c1 : Code := { maxStack := 3, maxLocals := 3, code := jdk_41_method_11_code, exceptionTable := #[], attributes := #[] }
def k11m1 : Method := { name := "checkIndex", desc := "(IILjava/util/function/BiFunction;)I", sig := { parameters := [.int, .int, (.object "java/util/function/BiFunction")], returnType := some .int }, accessFlags := 9, code := some k11c1 }
/-- jdk/internal/util/Preconditions -/
def k11 : Class := { plain "jdk/internal/util/Preconditions" (some 0) with
  accessFlags := 33
  interfaces := #[]
  cf := some (fileOf pool11 24 #[.nestMembers #[55, 131, 125, 114]] #[{ accessFlags := 1, nameIndex := 5, descriptorIndex := 6, attributes := #[] }, { accessFlags := 9, nameIndex := 33, descriptorIndex := 178, attributes := #[] }] 33 2 #[] #[{ accessFlags := 25, nameIndex := 123, descriptorIndex := 124, attributes := #[] }, { accessFlags := 25, nameIndex := 130, descriptorIndex := 124, attributes := #[] }, { accessFlags := 25, nameIndex := 136, descriptorIndex := 124, attributes := #[] }])
  fields := #[{ name := "SIOOBE_FORMATTER", type := (.object "java/util/function/BiFunction"), accessFlags := 25, slot := 0, constantValue := 0 }, { name := "AIOOBE_FORMATTER", type := (.object "java/util/function/BiFunction"), accessFlags := 25, slot := 1, constantValue := 0 }, { name := "IOOBE_FORMATTER", type := (.object "java/util/function/BiFunction"), accessFlags := 25, slot := 2, constantValue := 0 }]
  methods := #[k11m0, k11m1]
  instanceTypes := #[]
  staticTypes := #[(.object "java/util/function/BiFunction"), (.object "java/util/function/BiFunction"), (.object "java/util/function/BiFunction")]
  resolved := Array.replicate 194 none
  statics := some 3 }

def pool12 : Array CpInfo := pool [(9, u "<init>"), (6, .class_ 18), (1, u "java/lang/Object"), (0, u "()V"), (1, .class_ 23), (1, u "jdk/internal/util/ArraysSupport"), (0, u "LOG2_ARRAY_LONG_INDEX_SCALE"), (0, u "I"), (2, u "U"), (0, u "Ljdk/internal/misc/Unsafe;"), (8, u "BIG_ENDIAN"), (0, u "Z"), (8, u "LOG2_BYTE_BIT_SIZE"), (4, u "LOG2_ARRAY_INT_INDEX_SCALE"), (54, u "JLA"), (0, u "Ljdk/internal/access/JavaLangAccess;"), (11, u "LOG2_ARRAY_BOOLEAN_INDEX_SCALE"), (9, u "LOG2_ARRAY_BYTE_INDEX_SCALE"), (5, u "LOG2_ARRAY_CHAR_INDEX_SCALE"), (5, u "LOG2_ARRAY_SHORT_INDEX_SCALE"), (18, u "LOG2_ARRAY_FLOAT_INDEX_SCALE"), (24, u "LOG2_ARRAY_DOUBLE_INDEX_SCALE"), (89, u "T_BOOLEAN"), (2, u "T_CHAR"), (1, u "T_FLOAT"), (1, u "T_DOUBLE"), (1, u "T_BYTE"), (1, u "T_SHORT"), (1, u "T_INT"), (1, u "T_LONG"), (1, u "SOFT_MAX_ARRAY_LENGTH")] 83

def k12m0 : Method := { name := "<init>", desc := "()V", sig := { parameters := [], returnType := none }, accessFlags := 2, code := none }
/-- jdk/internal/util/ArraysSupport -/
def k12 : Class := { plain "jdk/internal/util/ArraysSupport" (some 0) with
  accessFlags := 33
  interfaces := #[]
  cf := some (fileOf pool12 21 #[] #[{ accessFlags := 2, nameIndex := 9, descriptorIndex := 19, attributes := #[] }] 33 16 #[] #[{ accessFlags := 24, nameIndex := 28, descriptorIndex := 29, attributes := #[] }, { accessFlags := 26, nameIndex := 38, descriptorIndex := 39, attributes := #[] }, { accessFlags := 25, nameIndex := 121, descriptorIndex := 25, attributes := #[] }, { accessFlags := 25, nameIndex := 131, descriptorIndex := 25, attributes := #[] }, { accessFlags := 25, nameIndex := 137, descriptorIndex := 25, attributes := #[] }, { accessFlags := 25, nameIndex := 143, descriptorIndex := 25, attributes := #[] }, { accessFlags := 25, nameIndex := 53, descriptorIndex := 25, attributes := #[] }, { accessFlags := 25, nameIndex := 24, descriptorIndex := 25, attributes := #[] }, { accessFlags := 25, nameIndex := 162, descriptorIndex := 25, attributes := #[] }, { accessFlags := 25, nameIndex := 187, descriptorIndex := 25, attributes := #[] }, { accessFlags := 26, nameIndex := 48, descriptorIndex := 25, attributes := #[] }, { accessFlags := 25, nameIndex := 277, descriptorIndex := 25, attributes := #[] }, { accessFlags := 25, nameIndex := 280, descriptorIndex := 25, attributes := #[] }, { accessFlags := 25, nameIndex := 282, descriptorIndex := 25, attributes := #[] }, { accessFlags := 25, nameIndex := 284, descriptorIndex := 25, attributes := #[] }, { accessFlags := 25, nameIndex := 286, descriptorIndex := 25, attributes := #[] }, { accessFlags := 25, nameIndex := 288, descriptorIndex := 25, attributes := #[] }, { accessFlags := 25, nameIndex := 290, descriptorIndex := 25, attributes := #[] }, { accessFlags := 25, nameIndex := 292, descriptorIndex := 25, attributes := #[] }, { accessFlags := 26, nameIndex := 108, descriptorIndex := 109, attributes := #[] }, { accessFlags := 25, nameIndex := 294, descriptorIndex := 25, attributes := #[] }])
  fields := #[{ name := "U", type := (.object "jdk/internal/misc/Unsafe"), accessFlags := 24, slot := 0, constantValue := 0 }, { name := "BIG_ENDIAN", type := .boolean, accessFlags := 26, slot := 1, constantValue := 0 }, { name := "LOG2_ARRAY_BOOLEAN_INDEX_SCALE", type := .int, accessFlags := 25, slot := 2, constantValue := 0 }, { name := "LOG2_ARRAY_BYTE_INDEX_SCALE", type := .int, accessFlags := 25, slot := 3, constantValue := 0 }, { name := "LOG2_ARRAY_CHAR_INDEX_SCALE", type := .int, accessFlags := 25, slot := 4, constantValue := 0 }, { name := "LOG2_ARRAY_SHORT_INDEX_SCALE", type := .int, accessFlags := 25, slot := 5, constantValue := 0 }, { name := "LOG2_ARRAY_INT_INDEX_SCALE", type := .int, accessFlags := 25, slot := 6, constantValue := 0 }, { name := "LOG2_ARRAY_LONG_INDEX_SCALE", type := .int, accessFlags := 25, slot := 7, constantValue := 0 }, { name := "LOG2_ARRAY_FLOAT_INDEX_SCALE", type := .int, accessFlags := 25, slot := 8, constantValue := 0 }, { name := "LOG2_ARRAY_DOUBLE_INDEX_SCALE", type := .int, accessFlags := 25, slot := 9, constantValue := 0 }, { name := "LOG2_BYTE_BIT_SIZE", type := .int, accessFlags := 26, slot := 10, constantValue := 0 }, { name := "T_BOOLEAN", type := .int, accessFlags := 25, slot := 11, constantValue := 0 }, { name := "T_CHAR", type := .int, accessFlags := 25, slot := 12, constantValue := 0 }, { name := "T_FLOAT", type := .int, accessFlags := 25, slot := 13, constantValue := 0 }, { name := "T_DOUBLE", type := .int, accessFlags := 25, slot := 14, constantValue := 0 }, { name := "T_BYTE", type := .int, accessFlags := 25, slot := 15, constantValue := 0 }, { name := "T_SHORT", type := .int, accessFlags := 25, slot := 16, constantValue := 0 }, { name := "T_INT", type := .int, accessFlags := 25, slot := 17, constantValue := 0 }, { name := "T_LONG", type := .int, accessFlags := 25, slot := 18, constantValue := 0 }, { name := "JLA", type := (.object "jdk/internal/access/JavaLangAccess"), accessFlags := 26, slot := 19, constantValue := 0 }, { name := "SOFT_MAX_ARRAY_LENGTH", type := .int, accessFlags := 25, slot := 20, constantValue := 0 }]
  methods := #[k12m0]
  instanceTypes := #[]
  staticTypes := #[(.object "jdk/internal/misc/Unsafe"), .boolean, .int, .int, .int, .int, .int, .int, .int, .int, .int, .int, .int, .int, .int, .int, .int, .int, .int, (.object "jdk/internal/access/JavaLangAccess"), .int]
  resolved := Array.replicate 378 none
  statics := none }

def pool13 : Array CpInfo := pool [(1, u "java/lang/Cloneable"), (0, .class_ 1), (0, u "java/lang/Object"), (0, .class_ 3)] 3

/-- java/lang/Cloneable -/
def k13 : Class := { plain "java/lang/Cloneable" (some 0) with
  accessFlags := 1537
  interfaces := #[]
  cf := some (fileOf pool13 2 #[] #[] 1537 4 #[] #[])
  fields := #[]
  methods := #[]
  instanceTypes := #[]
  staticTypes := #[]
  resolved := Array.replicate 8 none
  statics := none }

/-- the primitive boolean -/
def k14 : Class := { plain "boolean" none with kind := .primitive 'Z', accessFlags := 0x411 }
/-- [Z -/
def k15 : Class := { plain "[Z" (some 0) with kind := .array 14 .boolean, interfaces := #[13, 2], accessFlags := 1041 }

/-- the primitive byte -/
def k16 : Class := { plain "byte" none with kind := .primitive 'B', accessFlags := 0x411 }
/-- [B -/
def k17 : Class := { plain "[B" (some 0) with kind := .array 16 .byte, interfaces := #[13, 2], accessFlags := 1041 }

/-- the primitive char -/
def k18 : Class := { plain "char" none with kind := .primitive 'C', accessFlags := 0x411 }
/-- [C -/
def k19 : Class := { plain "[C" (some 0) with kind := .array 18 .char, interfaces := #[13, 2], accessFlags := 1041 }

/-- the primitive int -/
def k20 : Class := { plain "int" none with kind := .primitive 'I', accessFlags := 0x411 }
/-- [I -/
def k21 : Class := { plain "[I" (some 0) with kind := .array 20 .int, interfaces := #[13, 2], accessFlags := 1041 }

def heap : Heap := #[{ cls := 7, slots := #[.long 0, .int 1, .null, .int 0, .null, .int 0, .int 0], vm := .statics 7 },
  { cls := 8, slots := #[.ref 4], vm := .statics 8 },
  { cls := 9, slots := #[.int 0, .int 8, .int 0, .int 1], vm := .statics 9 },
  { cls := 11, slots := #[.null, .null, .null], vm := .statics 11 },
  { cls := 15, slots := #[.int 0, .int 0, .int 0, .int 0, .int 0, .int 0, .int 0, .int 0, .int 0, .int 0, .int 0, .int 0, .int 0, .int 0, .int 0, .int 0, .int 0, .int 0, .int 0, .int 0, .int 0, .int 0, .int 0, .int 0, .int 0, .int 0, .int 0, .int 0, .int 0, .int 0, .int 0, .int 0, .int 0, .int 1, .int 0, .int 1, .int 1, .int 1, .int 1, .int 1, .int 0, .int 0, .int 1, .int 1, .int 0, .int 1, .int 1, .int 0, .int 1, .int 1, .int 1, .int 1, .int 1, .int 1, .int 1, .int 1, .int 1, .int 1, .int 0, .int 0, .int 0, .int 0, .int 0, .int 0, .int 0, .int 1, .int 1, .int 1, .int 1, .int 1, .int 1, .int 1, .int 1, .int 1, .int 1, .int 1, .int 1, .int 1, .int 1, .int 1, .int 1, .int 1, .int 1, .int 1, .int 1, .int 1, .int 1, .int 1, .int 1, .int 1, .int 1, .int 0, .int 0, .int 0, .int 1, .int 1, .int 1, .int 1, .int 1, .int 1, .int 1, .int 1, .int 1, .int 1, .int 1, .int 1, .int 1, .int 1, .int 1, .int 1, .int 1, .int 1, .int 1, .int 1, .int 1, .int 1, .int 1, .int 1, .int 1, .int 1, .int 1, .int 1, .int 1, .int 0, .int 1, .int 0, .int 1, .int 0], vm := .none }]
def classes : Array Class := #[k0, k1, k2, k3, k4, k5, k6, k7, k8, k9, k10, k11, k12, k13, k14, k15, k16, k17, k18, k19, k20, k21]
def interned : List (Array UInt16 × Addr) := []
def slotsUsed : Nat := 143
def theMethod : MethodId := ⟨1, 4⟩
def args0 : Array Value := #[.int 7, .int 65, .int 66, .int 67, .int 68]
def aboutOver (below : List Frame) : State where
  vm := { classes := classes, interned := interned.toArray }
  heap := heap
  slotsUsed := slotsUsed
  threads := #[{ frames := .invoking theMethod args0 :: below }]
def below0 : List Frame := [.native { method := ⟨0, 0⟩, args := #[] }]
def about1 : State := aboutOver below0
def p0 : Program := .bare "" "" ""
def e0 : Env := launch0.env 0 0 0
theorem w_frames : about1.frames = Frame.invoking theMethod args0 :: below0 := rfl
set_option maxRecDepth 65536 in
theorem w_args : argsFit about1.vm theMethod args0 = true := by decide +kernel
set_option maxRecDepth 65536 in
theorem w_heap : heapFits about1 = true := by decide +kernel
set_option maxRecDepth 65536 in
theorem w_runnable : about1.curStatus? = some .runnable := by decide +kernel
set_option maxRecDepth 65536 in
theorem w_alone : about1.alone = true := by decide +kernel
set_option maxRecDepth 65536 in
theorem w_named : about1.methodNamed? x = some theMethod := by decide +kernel
set_option maxRecDepth 65536 in
theorem w_hears : about1.hears theMethod below0 = true := by decide +kernel
set_option maxRecDepth 65536 in
theorem w_ripe : about1.ripe theMethod args0 below0 = true := by decide +kernel
theorem w_running : about1.status = .running := rfl
set_option maxRecDepth 65536 in
theorem w_room : about1.hasRoom e0.platform room_1 = true :=
  launch0.hasRoom_least _ room_1 (by decide +kernel) (by decide +kernel) (by decide +kernel) (by decide +kernel) (by decide +kernel) (by decide +kernel)
theorem allAtoms_all (ts : List Jvm.Cond) (a : Array Jvm.Value) (st : Jvm.State) : (allAtoms ts).before a st = ts.all (fun c => c.before a st) := by
  induction ts with
  | nil => rfl
  | cons c t ih =>
    show (Jvm.Cond.and c (allAtoms t)).before a st = _
    rw [Jvm.Cond.before_and, ih, List.all_cons]
def words1 : List Jvm.Cond := Jvm.Cond.code x code maxLocals ret :: tables_1
/-- a 'code' word, met by the world's own term for the bytes: nothing is compared byte by byte -/
theorem code_word {y : MethodName} {bytes : ByteArray} {mx : Nat} {rt : Option FieldType} {a : Array Value} {s : State} {m : MethodId} {meth : Method} {c : Code} (h1 : s.methodNamed? y = some m) (h2 : s.vm.method? m = some meth) (h3 : meth.code = some c) (h4 : c.code = bytes)
    (h5 : (c.maxLocals == mx && c.exceptionTable.isEmpty && decide (c.maxStack ≤ mostOperands) && decide (meth.sig.returnType = rt) && !meth.locks && decide (parseMethodDescriptor y.desc = some meth.sig)) = true) : (Jvm.Cond.code y bytes mx rt).before a s = true := by
  simp only [Bool.and_eq_true, beq_iff_eq, Bool.not_eq_true', decide_eq_true_eq] at h5
  obtain ⟨⟨⟨⟨⟨g1, g2⟩, g3⟩, g4⟩, g5⟩, g6⟩ := h5
  simp [Cond.before, Cond.holds, Cond.value, h1, h2, h3, h4, g1, g2, g3, g4, g5, g6]
def isCode : Jvm.Cond → Bool
  | .code _ _ _ _ => true
  | _ => false
theorem all_split {L : List Jvm.Cond} {P : Jvm.Cond → Bool} (h1 : L.all (fun c => isCode c || P c) = true) (h2 : ∀ c ∈ L.filter isCode, P c = true) : L.all P = true := by
  refine List.all_eq_true.mpr fun c hc => ?_
  have h := List.all_eq_true.mp h1 c hc
  rcases Bool.eq_false_or_eq_true (isCode c) with hi | hi
  · exact h2 c (List.mem_filter.mpr ⟨hc, hi⟩)
  · simpa [hi] using h
set_option maxRecDepth 65536 in
theorem w_c0 : (Jvm.Cond.code x code maxLocals ret).before args0 about1 = true := code_word (m := ⟨1, 4⟩) (meth := k1m4) (c := k1c4) (by decide +kernel) rfl rfl rfl (by decide +kernel)
set_option maxRecDepth 65536 in
theorem w_c1 : (Jvm.Cond.code ({ cls := "com/example/libidem/libidem/protocol/TokenIsValidPinLaw", name := "ch", desc := "(I)C" } : Jvm.MethodName) method_2_code (1 : Nat) (Option.some Jvm.ClassFile.FieldType.char)).before args0 about1 = true := code_word (m := ⟨1, 1⟩) (meth := k1m1) (c := k1c1) (by decide +kernel) rfl rfl rfl (by decide +kernel)
set_option maxRecDepth 65536 in
theorem w_c2 : (Jvm.Cond.code ({ cls := "com/example/libidem/libidem/protocol/TokenIsValidPinLaw", name := "str", desc := "(ICCCC)Ljava/lang/String;" } : Jvm.MethodName) method_4_code (5 : Nat) (Option.some (Jvm.ClassFile.FieldType.object "java/lang/String"))).before args0 about1 = true := code_word (m := ⟨1, 3⟩) (meth := k1m3) (c := k1c3) (by decide +kernel) rfl rfl rfl (by decide +kernel)
set_option maxRecDepth 65536 in
theorem w_c3 : (Jvm.Cond.code ({ cls := "java/lang/String", name := "<init>", desc := "([C)V" } : Jvm.MethodName) jdk_42_method_3_code (2 : Nat) (Option.none : Option Jvm.ClassFile.FieldType)).before args0 about1 = true := code_word (m := ⟨7, 1⟩) (meth := k7m1) (c := k7c1) (by decide +kernel) rfl rfl rfl (by decide +kernel)
set_option maxRecDepth 65536 in
theorem w_c4 : (Jvm.Cond.code ({ cls := "java/lang/String", name := "<init>", desc := "([CIILjava/lang/Void;)V" } : Jvm.MethodName) jdk_42_method_149_code (6 : Nat) (Option.none : Option Jvm.ClassFile.FieldType)).before args0 about1 = true := code_word (m := ⟨7, 5⟩) (meth := k7m5) (c := k7c5) (by decide +kernel) rfl rfl rfl (by decide +kernel)
set_option maxRecDepth 65536 in
theorem w_c5 : (Jvm.Cond.code ({ cls := "java/lang/Object", name := "<init>", desc := "()V" } : Jvm.MethodName) object_method_1_code (1 : Nat) (Option.none : Option Jvm.ClassFile.FieldType)).before args0 about1 = true := code_word (m := ⟨0, 0⟩) (meth := k0m0) (c := k0c0) (by decide +kernel) rfl rfl rfl (by decide +kernel)
set_option maxRecDepth 65536 in
theorem w_c6 : (Jvm.Cond.code ({ cls := "com/example/libidem/libidem/protocol/Token", name := "isValid", desc := "(Ljava/lang/String;)Z" } : Jvm.MethodName) prog_16_method_2_code (2 : Nat) (Option.some Jvm.ClassFile.FieldType.boolean)).before args0 about1 = true := code_word (m := ⟨8, 1⟩) (meth := k8m1) (c := k8c1) (by decide +kernel) rfl rfl rfl (by decide +kernel)
set_option maxRecDepth 65536 in
theorem w_c7 : (Jvm.Cond.code ({ cls := "java/lang/String", name := "isEmpty", desc := "()Z" } : Jvm.MethodName) jdk_42_method_55_code (1 : Nat) (Option.some Jvm.ClassFile.FieldType.boolean)).before args0 about1 = true := code_word (m := ⟨7, 3⟩) (meth := k7m3) (c := k7c3) (by decide +kernel) rfl rfl rfl (by decide +kernel)
set_option maxRecDepth 65536 in
theorem w_c8 : (Jvm.Cond.code ({ cls := "java/lang/StringUTF16", name := "compress", desc := "([CII)[B" } : Jvm.MethodName) jdk_52_method_16_code (6 : Nat) (Option.some (Jvm.ClassFile.FieldType.array Jvm.ClassFile.FieldType.byte))).before args0 about1 = true := code_word (m := ⟨9, 8⟩) (meth := k9m8) (c := k9c8) (by decide +kernel) rfl rfl rfl (by decide +kernel)
set_option maxRecDepth 65536 in
theorem w_c9 : (Jvm.Cond.code ({ cls := "java/lang/StringUTF16", name := "compress", desc := "([CI[BII)I" } : Jvm.MethodName) jdk_52_method_21_code (7 : Nat) (Option.some Jvm.ClassFile.FieldType.int)).before args0 about1 = true := code_word (m := ⟨9, 9⟩) (meth := k9m9) (c := k9c9) (by decide +kernel) rfl rfl rfl (by decide +kernel)
set_option maxRecDepth 65536 in
theorem w_c10 : (Jvm.Cond.code ({ cls := "java/lang/StringUTF16", name := "coderFromArrayLen", desc := "([BI)B" } : Jvm.MethodName) jdk_52_method_15_code (2 : Nat) (Option.some Jvm.ClassFile.FieldType.byte)).before args0 about1 = true := code_word (m := ⟨9, 7⟩) (meth := k9m7) (c := k9c7) (by decide +kernel) rfl rfl rfl (by decide +kernel)
set_option maxRecDepth 65536 in
theorem w_c11 : (Jvm.Cond.code ({ cls := "com/example/libidem/libidem/protocol/TokenIsValidPinLaw", name := "ref", desc := "(C)Z" } : Jvm.MethodName) method_3_code (1 : Nat) (Option.some Jvm.ClassFile.FieldType.boolean)).before args0 about1 = true := code_word (m := ⟨1, 2⟩) (meth := k1m2) (c := k1c2) (by decide +kernel) rfl rfl rfl (by decide +kernel)
set_option maxRecDepth 65536 in
theorem w_c12 : (Jvm.Cond.code ({ cls := "java/lang/String", name := "length", desc := "()I" } : Jvm.MethodName) jdk_42_method_54_code (1 : Nat) (Option.some Jvm.ClassFile.FieldType.int)).before args0 about1 = true := code_word (m := ⟨7, 2⟩) (meth := k7m2) (c := k7c2) (by decide +kernel) rfl rfl rfl (by decide +kernel)
set_option maxRecDepth 65536 in
theorem w_c13 : (Jvm.Cond.code ({ cls := "java/lang/String", name := "coder", desc := "()B" } : Jvm.MethodName) jdk_42_method_152_code (1 : Nat) (Option.some Jvm.ClassFile.FieldType.byte)).before args0 about1 = true := code_word (m := ⟨7, 6⟩) (meth := k7m6) (c := k7c6) (by decide +kernel) rfl rfl rfl (by decide +kernel)
set_option maxRecDepth 65536 in
theorem w_c14 : (Jvm.Cond.code ({ cls := "java/lang/String", name := "charAt", desc := "(I)C" } : Jvm.MethodName) jdk_42_method_56_code (2 : Nat) (Option.some Jvm.ClassFile.FieldType.char)).before args0 about1 = true := code_word (m := ⟨7, 4⟩) (meth := k7m4) (c := k7c4) (by decide +kernel) rfl rfl rfl (by decide +kernel)
set_option maxRecDepth 65536 in
theorem w_c15 : (Jvm.Cond.code ({ cls := "java/lang/String", name := "isLatin1", desc := "()Z" } : Jvm.MethodName) jdk_42_method_154_code (1 : Nat) (Option.some Jvm.ClassFile.FieldType.boolean)).before args0 about1 = true := code_word (m := ⟨7, 7⟩) (meth := k7m7) (c := k7c7) (by decide +kernel) rfl rfl rfl (by decide +kernel)
set_option maxRecDepth 65536 in
theorem w_c16 : (Jvm.Cond.code ({ cls := "java/lang/StringLatin1", name := "charAt", desc := "([BI)C" } : Jvm.MethodName) jdk_43_method_2_code (2 : Nat) (Option.some Jvm.ClassFile.FieldType.char)).before args0 about1 = true := code_word (m := ⟨10, 1⟩) (meth := k10m1) (c := k10c1) (by decide +kernel) rfl rfl rfl (by decide +kernel)
set_option maxRecDepth 65536 in
theorem w_c17 : (Jvm.Cond.code ({ cls := "java/lang/String", name := "checkIndex", desc := "(II)V" } : Jvm.MethodName) jdk_42_method_155_code (2 : Nat) (Option.none : Option Jvm.ClassFile.FieldType)).before args0 about1 = true := code_word (m := ⟨7, 8⟩) (meth := k7m8) (c := k7c8) (by decide +kernel) rfl rfl rfl (by decide +kernel)
set_option maxRecDepth 65536 in
theorem w_c18 : (Jvm.Cond.code ({ cls := "jdk/internal/util/Preconditions", name := "checkIndex", desc := "(IILjava/util/function/BiFunction;)I" } : Jvm.MethodName) jdk_41_method_11_code (3 : Nat) (Option.some Jvm.ClassFile.FieldType.int)).before args0 about1 = true := code_word (m := ⟨11, 1⟩) (meth := k11m1) (c := k11c1) (by decide +kernel) rfl rfl rfl (by decide +kernel)
set_option maxRecDepth 65536 in
theorem w_c19 : (Jvm.Cond.code ({ cls := "com/example/libidem/libidem/protocol/Token", name := "isTchar", desc := "(C)Z" } : Jvm.MethodName) prog_16_method_3_code (1 : Nat) (Option.some Jvm.ClassFile.FieldType.boolean)).before args0 about1 = true := code_word (m := ⟨8, 2⟩) (meth := k8m2) (c := k8c2) (by decide +kernel) rfl rfl rfl (by decide +kernel)
set_option maxRecDepth 65536 in
theorem w_c20 : (Jvm.Cond.code ({ cls := "java/lang/StringUTF16", name := "toBytes", desc := "([CII)[B" } : Jvm.MethodName) jdk_52_method_14_code (5 : Nat) (Option.some (Jvm.ClassFile.FieldType.array Jvm.ClassFile.FieldType.byte))).before args0 about1 = true := code_word (m := ⟨9, 6⟩) (meth := k9m6) (c := k9c6) (by decide +kernel) rfl rfl rfl (by decide +kernel)
set_option maxRecDepth 65536 in
theorem w_c21 : (Jvm.Cond.code ({ cls := "java/lang/StringUTF16", name := "newBytesFor", desc := "(I)[B" } : Jvm.MethodName) jdk_52_method_2_code (1 : Nat) (Option.some (Jvm.ClassFile.FieldType.array Jvm.ClassFile.FieldType.byte))).before args0 about1 = true := code_word (m := ⟨9, 1⟩) (meth := k9m1) (c := k9c1) (by decide +kernel) rfl rfl rfl (by decide +kernel)
set_option maxRecDepth 65536 in
theorem w_c22 : (Jvm.Cond.code ({ cls := "java/lang/StringUTF16", name := "newBytesLength", desc := "(I)I" } : Jvm.MethodName) jdk_52_method_3_code (1 : Nat) (Option.some Jvm.ClassFile.FieldType.int)).before args0 about1 = true := code_word (m := ⟨9, 2⟩) (meth := k9m2) (c := k9c2) (by decide +kernel) rfl rfl rfl (by decide +kernel)
set_option maxRecDepth 65536 in
theorem w_c23 : (Jvm.Cond.code ({ cls := "java/lang/StringUTF16", name := "putChar", desc := "([BII)V" } : Jvm.MethodName) jdk_52_method_4_code (3 : Nat) (Option.none : Option Jvm.ClassFile.FieldType)).before args0 about1 = true := code_word (m := ⟨9, 3⟩) (meth := k9m3) (c := k9c3) (by decide +kernel) rfl rfl rfl (by decide +kernel)
set_option maxRecDepth 65536 in
theorem w_c24 : (Jvm.Cond.code ({ cls := "java/lang/StringUTF16", name := "getChar", desc := "([BI)C" } : Jvm.MethodName) jdk_52_method_5_code (2 : Nat) (Option.some Jvm.ClassFile.FieldType.char)).before args0 about1 = true := code_word (m := ⟨9, 4⟩) (meth := k9m4) (c := k9c4) (by decide +kernel) rfl rfl rfl (by decide +kernel)
set_option maxRecDepth 65536 in
theorem w_c25 : (Jvm.Cond.code ({ cls := "java/lang/StringUTF16", name := "charAt", desc := "([BI)C" } : Jvm.MethodName) jdk_52_method_83_code (2 : Nat) (Option.some Jvm.ClassFile.FieldType.char)).before args0 about1 = true := code_word (m := ⟨9, 10⟩) (meth := k9m10) (c := k9c10) (by decide +kernel) rfl rfl rfl (by decide +kernel)
set_option maxRecDepth 65536 in
theorem w_c26 : (Jvm.Cond.code ({ cls := "java/lang/StringUTF16", name := "checkIndex", desc := "(I[B)V" } : Jvm.MethodName) jdk_52_method_91_code (2 : Nat) (Option.none : Option Jvm.ClassFile.FieldType)).before args0 about1 = true := code_word (m := ⟨9, 11⟩) (meth := k9m11) (c := k9c11) (by decide +kernel) rfl rfl rfl (by decide +kernel)
set_option maxRecDepth 65536 in
theorem w_c27 : (Jvm.Cond.code ({ cls := "java/lang/StringUTF16", name := "length", desc := "([B)I" } : Jvm.MethodName) jdk_52_method_6_code (1 : Nat) (Option.some Jvm.ClassFile.FieldType.int)).before args0 about1 = true := code_word (m := ⟨9, 5⟩) (meth := k9m5) (c := k9c5) (by decide +kernel) rfl rfl rfl (by decide +kernel)
def codes1 : List Jvm.Cond := [Jvm.Cond.code x code maxLocals ret, Jvm.Cond.code ({ cls := "com/example/libidem/libidem/protocol/TokenIsValidPinLaw", name := "ch", desc := "(I)C" } : Jvm.MethodName) method_2_code (1 : Nat) (Option.some Jvm.ClassFile.FieldType.char), Jvm.Cond.code ({ cls := "com/example/libidem/libidem/protocol/TokenIsValidPinLaw", name := "str", desc := "(ICCCC)Ljava/lang/String;" } : Jvm.MethodName) method_4_code (5 : Nat) (Option.some (Jvm.ClassFile.FieldType.object "java/lang/String")), Jvm.Cond.code ({ cls := "java/lang/String", name := "<init>", desc := "([C)V" } : Jvm.MethodName) jdk_42_method_3_code (2 : Nat) (Option.none : Option Jvm.ClassFile.FieldType), Jvm.Cond.code ({ cls := "java/lang/String", name := "<init>", desc := "([CIILjava/lang/Void;)V" } : Jvm.MethodName) jdk_42_method_149_code (6 : Nat) (Option.none : Option Jvm.ClassFile.FieldType), Jvm.Cond.code ({ cls := "java/lang/Object", name := "<init>", desc := "()V" } : Jvm.MethodName) object_method_1_code (1 : Nat) (Option.none : Option Jvm.ClassFile.FieldType), Jvm.Cond.code ({ cls := "com/example/libidem/libidem/protocol/Token", name := "isValid", desc := "(Ljava/lang/String;)Z" } : Jvm.MethodName) prog_16_method_2_code (2 : Nat) (Option.some Jvm.ClassFile.FieldType.boolean), Jvm.Cond.code ({ cls := "java/lang/String", name := "isEmpty", desc := "()Z" } : Jvm.MethodName) jdk_42_method_55_code (1 : Nat) (Option.some Jvm.ClassFile.FieldType.boolean), Jvm.Cond.code ({ cls := "java/lang/StringUTF16", name := "compress", desc := "([CII)[B" } : Jvm.MethodName) jdk_52_method_16_code (6 : Nat) (Option.some (Jvm.ClassFile.FieldType.array Jvm.ClassFile.FieldType.byte)), Jvm.Cond.code ({ cls := "java/lang/StringUTF16", name := "compress", desc := "([CI[BII)I" } : Jvm.MethodName) jdk_52_method_21_code (7 : Nat) (Option.some Jvm.ClassFile.FieldType.int), Jvm.Cond.code ({ cls := "java/lang/StringUTF16", name := "coderFromArrayLen", desc := "([BI)B" } : Jvm.MethodName) jdk_52_method_15_code (2 : Nat) (Option.some Jvm.ClassFile.FieldType.byte), Jvm.Cond.code ({ cls := "com/example/libidem/libidem/protocol/TokenIsValidPinLaw", name := "ref", desc := "(C)Z" } : Jvm.MethodName) method_3_code (1 : Nat) (Option.some Jvm.ClassFile.FieldType.boolean), Jvm.Cond.code ({ cls := "java/lang/String", name := "length", desc := "()I" } : Jvm.MethodName) jdk_42_method_54_code (1 : Nat) (Option.some Jvm.ClassFile.FieldType.int), Jvm.Cond.code ({ cls := "java/lang/String", name := "coder", desc := "()B" } : Jvm.MethodName) jdk_42_method_152_code (1 : Nat) (Option.some Jvm.ClassFile.FieldType.byte), Jvm.Cond.code ({ cls := "java/lang/String", name := "charAt", desc := "(I)C" } : Jvm.MethodName) jdk_42_method_56_code (2 : Nat) (Option.some Jvm.ClassFile.FieldType.char), Jvm.Cond.code ({ cls := "java/lang/String", name := "isLatin1", desc := "()Z" } : Jvm.MethodName) jdk_42_method_154_code (1 : Nat) (Option.some Jvm.ClassFile.FieldType.boolean), Jvm.Cond.code ({ cls := "java/lang/StringLatin1", name := "charAt", desc := "([BI)C" } : Jvm.MethodName) jdk_43_method_2_code (2 : Nat) (Option.some Jvm.ClassFile.FieldType.char), Jvm.Cond.code ({ cls := "java/lang/String", name := "checkIndex", desc := "(II)V" } : Jvm.MethodName) jdk_42_method_155_code (2 : Nat) (Option.none : Option Jvm.ClassFile.FieldType), Jvm.Cond.code ({ cls := "jdk/internal/util/Preconditions", name := "checkIndex", desc := "(IILjava/util/function/BiFunction;)I" } : Jvm.MethodName) jdk_41_method_11_code (3 : Nat) (Option.some Jvm.ClassFile.FieldType.int), Jvm.Cond.code ({ cls := "com/example/libidem/libidem/protocol/Token", name := "isTchar", desc := "(C)Z" } : Jvm.MethodName) prog_16_method_3_code (1 : Nat) (Option.some Jvm.ClassFile.FieldType.boolean), Jvm.Cond.code ({ cls := "java/lang/StringUTF16", name := "toBytes", desc := "([CII)[B" } : Jvm.MethodName) jdk_52_method_14_code (5 : Nat) (Option.some (Jvm.ClassFile.FieldType.array Jvm.ClassFile.FieldType.byte)), Jvm.Cond.code ({ cls := "java/lang/StringUTF16", name := "newBytesFor", desc := "(I)[B" } : Jvm.MethodName) jdk_52_method_2_code (1 : Nat) (Option.some (Jvm.ClassFile.FieldType.array Jvm.ClassFile.FieldType.byte)), Jvm.Cond.code ({ cls := "java/lang/StringUTF16", name := "newBytesLength", desc := "(I)I" } : Jvm.MethodName) jdk_52_method_3_code (1 : Nat) (Option.some Jvm.ClassFile.FieldType.int), Jvm.Cond.code ({ cls := "java/lang/StringUTF16", name := "putChar", desc := "([BII)V" } : Jvm.MethodName) jdk_52_method_4_code (3 : Nat) (Option.none : Option Jvm.ClassFile.FieldType), Jvm.Cond.code ({ cls := "java/lang/StringUTF16", name := "getChar", desc := "([BI)C" } : Jvm.MethodName) jdk_52_method_5_code (2 : Nat) (Option.some Jvm.ClassFile.FieldType.char), Jvm.Cond.code ({ cls := "java/lang/StringUTF16", name := "charAt", desc := "([BI)C" } : Jvm.MethodName) jdk_52_method_83_code (2 : Nat) (Option.some Jvm.ClassFile.FieldType.char), Jvm.Cond.code ({ cls := "java/lang/StringUTF16", name := "checkIndex", desc := "(I[B)V" } : Jvm.MethodName) jdk_52_method_91_code (2 : Nat) (Option.none : Option Jvm.ClassFile.FieldType), Jvm.Cond.code ({ cls := "java/lang/StringUTF16", name := "length", desc := "([B)I" } : Jvm.MethodName) jdk_52_method_6_code (1 : Nat) (Option.some Jvm.ClassFile.FieldType.int)]
set_option maxRecDepth 65536 in
theorem codes_eq : words1.filter isCode = codes1 := rfl
theorem w_codes : ∀ c ∈ words1.filter isCode, c.before args0 about1 = true := by
  rw [codes_eq]
  intro c hc
  simp only [codes1, List.mem_cons, List.not_mem_nil, or_false] at hc
  rcases hc with rfl | rfl | rfl | rfl | rfl | rfl | rfl | rfl | rfl | rfl | rfl | rfl | rfl | rfl | rfl | rfl | rfl | rfl | rfl | rfl | rfl | rfl | rfl | rfl | rfl | rfl | rfl | rfl
  · exact w_c0
  · exact w_c1
  · exact w_c2
  · exact w_c3
  · exact w_c4
  · exact w_c5
  · exact w_c6
  · exact w_c7
  · exact w_c8
  · exact w_c9
  · exact w_c10
  · exact w_c11
  · exact w_c12
  · exact w_c13
  · exact w_c14
  · exact w_c15
  · exact w_c16
  · exact w_c17
  · exact w_c18
  · exact w_c19
  · exact w_c20
  · exact w_c21
  · exact w_c22
  · exact w_c23
  · exact w_c24
  · exact w_c25
  · exact w_c26
  · exact w_c27
set_option maxRecDepth 65536 in
theorem w_t1 : (words1.take 24).all (fun c => isCode c || c.before args0 about1) = true := by decide +kernel
set_option maxRecDepth 65536 in
theorem w_t2 : ((words1.drop 24).take 24).all (fun c => isCode c || c.before args0 about1) = true := by decide +kernel
set_option maxRecDepth 65536 in
theorem w_t3 : (((words1.drop 24).drop 24).take 24).all (fun c => isCode c || c.before args0 about1) = true := by decide +kernel
set_option maxRecDepth 65536 in
theorem w_t4 : ((((words1.drop 24).drop 24).drop 24).take 24).all (fun c => isCode c || c.before args0 about1) = true := by decide +kernel
set_option maxRecDepth 65536 in
theorem w_t5 : (((((words1.drop 24).drop 24).drop 24).drop 24).take 24).all (fun c => isCode c || c.before args0 about1) = true := by decide +kernel
set_option maxRecDepth 65536 in
theorem w_t6 : (((((words1.drop 24).drop 24).drop 24).drop 24).drop 24).all (fun c => isCode c || c.before args0 about1) = true := by decide +kernel
theorem w_tables : (allAtoms (Jvm.Cond.code x code maxLocals ret :: tables_1)).before args0 about1 = true := by
  rw [allAtoms_all]
  show words1.all (fun c => c.before args0 about1) = true
  refine all_split ?_ w_codes
  rw [← List.take_append_drop 24 words1, List.all_append, w_t1, ← List.take_append_drop 24 (words1.drop 24), List.all_append, w_t2, ← List.take_append_drop 24 ((words1.drop 24).drop 24), List.all_append, w_t3, ← List.take_append_drop 24 (((words1.drop 24).drop 24).drop 24), List.all_append, w_t4, ← List.take_append_drop 24 ((((words1.drop 24).drop 24).drop 24).drop 24), List.all_append, w_t5, w_t6]
  rfl
set_option maxRecDepth 65536 in
theorem w_rest : rest_1_c.before args0 about1 = true := by decide +kernel
set_option maxRecDepth 65536 in
theorem w_case : (Jvm.Cond.and given_1 narrow_1).before args0 about1 = true := by decide +kernel
set_option maxRecDepth 65536 in
theorem w_consts : constsHeld consts_1 about1 := Jvm.Lit.constsHeldB_iff.mp (by decide +kernel)
theorem w_applies : (headSpec (Jvm.Cond.code x code maxLocals ret :: tables_1) room_1).applies x e0.platform about1 = true :=
  (Spec.applies_iff w_frames).mpr ⟨w_running, w_runnable, w_alone, w_named, w_hears, w_ripe, w_room, w_tables⟩
theorem atStart : AtStart classFile x code maxLocals ret World_1 tables_1 room_1 Calls_1 rest_1 Pre_1 launch0 p0 e0 about1 theMethod args0 below0 :=
  ⟨lists_1, trivial, launch0.admits_env _ _ _, launch0.least_env, fairChoices_fair.cas, fairChoices_fair.clock, w_frames, w_args, w_heap, w_applies, ⟨w_consts, trivial⟩, w_rest, w_case⟩
end start1
theorem witness_1 : WitnessClaimed_1 := ⟨start1.p0, start1.e0, start1.about1, start1.theMethod, start1.args0, start1.below0, start1.atStart⟩
end Jvm.Pilot.@@N@@
