import JvmDerived
import JvmDerived.Pilot.@@N@@Statement
import JvmDerived.Pilot.@@N@@Code
set_option linter.unusedVariables false
set_option linter.unusedSimpArgs false
namespace Jvm.Pilot.@@N@@
open Jvm Jvm.ClassFile Sem Op Lib Jvm.Free Jvm.Stand Jvm.LawKit Jvm.RoadKit Bundle Jvm.Pilot.@@N@@.Jvm.D
/-! OWN PRELUDE (the same text in every proof of this seat): the walk as a goal that goes forward -/
section OwnPrelude
variable {Z : State} {hs : Heap} {W : List Addr} {own : String} {bytes : ByteArray} {maxL : Nat} {ret : Option FieldType} {nm : String}
  {p : Program} {l : Launch} {e : Env} {R : Room} {s : State} {m : MethodId} {args : Array Value} {below : List Frame} {meth : Method} {c : Code}
  {T : State} {h : Heap} {cells slots : Nat} {k n : Nat} {Q : Option Value → Heap → Prop} {a0 : Array Value} {pc : Nat} {Ls : Array Slot} {st rest : List Value}

/-- what stays the same while one body is walked -/
def own_G (Z : State) (hs : Heap) (W : List Addr) (own : String) (bytes : ByteArray) (maxL : Nat) (ret : Option FieldType) (nm : String) (p : Program) (s : State) (m : MethodId) (meth : Method) (c : Code) : Prop :=
  p.tables.exec = Jvm.exec ∧ Z.Warmed39 s.vm ∧ s.vm.findClass own = some m.cls ∧ c.code = bytes ∧ c.maxLocals = maxL ∧ meth.sig.returnType = ret ∧ meth.locks = false ∧ meth.name = nm ∧ Ext Z.heap hs ∧ ∀ a ∈ W, Z.heap.size ≤ a
/-- where the walk stands: state T, heap h, so many cells and slots made; nothing old but W was written -/
def own_S (Z : State) (hs : Heap) (W : List Addr) (own : String) (bytes : ByteArray) (maxL : Nat) (ret : Option FieldType) (nm : String) (p : Program) (l : Launch) (e : Env) (R : Room) (s : State) (m : MethodId) (args : Array Value) (below : List Frame) (meth : Method) (c : Code)
    (T : State) (h : Heap) (cells slots : Nat) : Prop :=
  own_G Z hs W own bytes maxL ret nm p s m meth c ∧ ∃ locs, Stand p l e R s m args below meth c T locs cells slots ∧ Fr Z.heap.size locs ∧ T.heap = h ∧ Keep hs h W
/-- from A the call comes to its end, and there Q holds -/
def own_F (p : Program) (e : Env) (below : List Frame) (s : State) (Z : State) (hs : Heap) (W : List Addr) (k n : Nat) (Q : Option Value → Heap → Prop) (A : State) : Prop :=
  ∃ s₂ o, Steps p.tables e below A s₂ ∧ s₂.status = .running ∧ Ended s₂ below o ∧ ∃ v L, o = .returned v ∧ (Fr Z.heap.size L ∧ Keep hs s₂.heap W ∧ Q v s₂.heap) ∧ FrameEnd s o s₂ L k n
/-- a body's contract -/
def own_C (l : Launch) (Z : State) (y : MethodName) (bytes : ByteArray) (maxL : Nat) (ret : Option FieldType) (ws : List Jvm.Cond) (rm : Room) (W : List Addr) (as' : Array Value) (h0 : Heap) (Q : Option Value → Heap → Prop) : Prop :=
  MetFree l y (head1 (Jvm.Cond.code y bytes maxL ret :: ws) rm) (fun a U => a = as' ∧ Z.Warmed39 U.vm ∧ U.heap = h0) (fun _ _ _ _ _ => True)
    (fun _ U o U' => ∃ v L, o = .returned v ∧ (Fr Z.heap.size L ∧ Keep h0 U'.heap W ∧ Q v U'.heap) ∧ FrameEnd U o U' L rm.cells rm.slots)

theorem own_C.of {y : MethodName} {ws : List Jvm.Cond} {rm : Room} {as' : Array Value} {h0 : Heap} (hpl : plainFor y = true) (hO : Ext Z.heap h0) (hW : ∀ a ∈ W, Z.heap.size ≤ a)
    (body : ∀ p e s m below meth c T, own_S Z h0 W y.cls bytes maxL ret y.name p l e rm s m as' below meth c T h0 0 0 → own_F p e below s Z h0 W rm.cells rm.slots Q (T.setTop (entryFrame m as' maxL))) :
    own_C l Z y bytes maxL ret ws rm W as' h0 Q := by
  refine MetFree.of_bodySF hpl hisR ?_
  intro p e s m args below meth c s₁ Bd hml hP hK
  obtain ⟨rfl, hZ, hh⟩ := hP
  exact body p e s m below meth c s₁ ⟨⟨Bd.exec, hZ, findClass_of_methodNamed Bd.named, Bd.bytes, hml, Bd.returns, Bd.notSynchronized, (name_of_methodNamed Bd.named Bd.method).1, hO, hW⟩, [], Stand.of_body Bd, Fr.nil _, (by rw [← hh, Bd.state]; rfl), Keep.refl _ _⟩

theorem own_F.of {A B : State} (h : ∀ t, Steps p.tables e below B t → Steps p.tables e below A t) (f : own_F p e below s Z hs W k n Q B) : own_F p e below s Z hs W k n Q A := by
  obtain ⟨s₂, o, h1, r⟩ := f
  exact ⟨s₂, o, h _ h1, r⟩
theorem own_F.to {A B : State} (h : Steps p.tables e below A B) (f : own_F p e below s Z hs W k n Q B) : own_F p e below s Z hs W k n Q A := own_F.of (fun _ => h.trans) f
theorem own_F.cast {g g' : JFrame} (q : g = g') (f : own_F p e below s Z hs W k n Q (T.setTop g')) : own_F p e below s Z hs W k n Q (T.setTop g) := q ▸ f
theorem own_F.mono {A : State} {Q' : Option Value → Heap → Prop} (f : own_F p e below s Z hs W k n Q A) (q : ∀ v h, Q v h → Q' v h) : own_F p e below s Z hs W k n Q' A := by
  obtain ⟨s₂, o, h1, h2, h3, v, L, h4, ⟨h5, h6, h7⟩, h8⟩ := f
  exact ⟨s₂, o, h1, h2, h3, v, L, h4, ⟨h5, h6, q _ _ h7⟩, h8⟩
theorem own_C.mono {y : MethodName} {ws : List Jvm.Cond} {rm : Room} {as' : Array Value} {h0 : Heap} {Q' : Option Value → Heap → Prop} (f : own_C l Z y bytes maxL ret ws rm W as' h0 Q) (q : ∀ v h, Q v h → Q' v h) : own_C l Z y bytes maxL ret ws rm W as' h0 Q' := by
  intro p e ha hc hk s m args below hf happ hP hK
  obtain ⟨n, o, h1, h2, h3, v, L, h4, ⟨h5, h6, h7⟩, h8⟩ := f p e ha hc hk s m args below hf happ hP hK
  exact ⟨n, o, h1, h2, h3, v, L, h4, ⟨h5, h6, q _ _ h7⟩, h8⟩

theorem own_S.hx (S : own_S Z hs W own bytes maxL ret nm p l e R s m args below meth c T h cells slots) : p.tables.exec = Jvm.exec := S.1.1
theorem own_S.hZ (S : own_S Z hs W own bytes maxL ret nm p l e R s m args below meth c T h cells slots) : Z.Warmed39 s.vm := S.1.2.1
theorem own_S.hown (S : own_S Z hs W own bytes maxL ret nm p l e R s m args below meth c T h cells slots) : s.vm.findClass own = some m.cls := S.1.2.2.1
theorem own_S.hby (S : own_S Z hs W own bytes maxL ret nm p l e R s m args below meth c T h cells slots) : c.code = bytes := S.1.2.2.2.1
theorem own_S.hml (S : own_S Z hs W own bytes maxL ret nm p l e R s m args below meth c T h cells slots) : c.maxLocals = maxL := S.1.2.2.2.2.1
theorem own_S.hret (S : own_S Z hs W own bytes maxL ret nm p l e R s m args below meth c T h cells slots) : meth.sig.returnType = ret := S.1.2.2.2.2.2.1
theorem own_S.hlk (S : own_S Z hs W own bytes maxL ret nm p l e R s m args below meth c T h cells slots) : meth.locks = false := S.1.2.2.2.2.2.2.1
theorem own_S.hnm (S : own_S Z hs W own bytes maxL ret nm p l e R s m args below meth c T h cells slots) : meth.name = nm := S.1.2.2.2.2.2.2.2.1
theorem own_S.hO (S : own_S Z hs W own bytes maxL ret nm p l e R s m args below meth c T h cells slots) : Ext Z.heap hs := S.1.2.2.2.2.2.2.2.2.1
theorem own_S.hW (S : own_S Z hs W own bytes maxL ret nm p l e R s m args below meth c T h cells slots) : ∀ a ∈ W, Z.heap.size ≤ a := S.1.2.2.2.2.2.2.2.2.2
theorem own_S.keep (S : own_S Z hs W own bytes maxL ret nm p l e R s m args below meth c T h cells slots) : Keep hs h W := by obtain ⟨-, _, -, -, -, K⟩ := S; exact K
theorem own_S.size (S : own_S Z hs W own bytes maxL ret nm p l e R s m args below meth c T h cells slots) : hs.size ≤ h.size := S.keep.1
theorem own_S.old (S : own_S Z hs W own bytes maxL ret nm p l e R s m args below meth c T h cells slots) : Ext Z.heap h :=
  ⟨Nat.le_trans S.hO.1 S.size, fun x cc q => S.keep.2.1 x cc (S.hO.2 x cc q) fun r => absurd (Array.getElem?_eq_some_iff.mp q).1 (Nat.not_lt.mpr (S.hW x r))⟩
theorem own_S.here (S : own_S Z hs W own bytes maxL ret nm p l e R s m args below meth c T h cells slots) : At T m c below := by obtain ⟨-, _, X, -⟩ := S; exact X.here
theorem own_S.dec (S : own_S Z hs W own bytes maxL ret nm p l e R s m args below meth c T h cells slots) {r : Except ClassFile.DecodeError (ClassFile.Instr × Nat)} (h2 : decode bytes pc = r) : decode c.code pc = r := hb S.hby h2
theorem own_S.may (S : own_S Z hs W own bytes maxL ret nm p l e R s m args below meth c T h cells slots) {a : Addr} (q : a ∈ W ∨ hs.size ≤ a) : Z.heap.size ≤ a := q.elim (S.hW a) (Nat.le_trans S.hO.1)
theorem own_S.more (S : own_S Z hs W own bytes maxL ret nm p l e R s m args below meth c T h cells slots) {k' n' : Nat} (hk : cells ≤ k') (hn : slots ≤ n') : own_S Z hs W own bytes maxL ret nm p l e R s m args below meth c T h k' n' := by
  obtain ⟨G, locs, X, r⟩ := S
  exact ⟨G, locs, X.more hk hn, r⟩

/-! the ends -/
theorem own_S.leave (S : own_S Z hs W own bytes maxL ret nm p l e R s m args below meth c T h cells slots) {A : State} {v : Option Value} (hk : cells ≤ k) (hn : slots ≤ n) (hv : ret = none → v = none) (hq : Q v h)
    (go : ∀ (locs : List Loc) (_ : Stand p l e R s m args below meth c T locs cells slots) (fs : List Frame), (∀ (f : JFrame) (acts : List Action), f.method = m → f.locked = none → f.entered = [] → (doReturn e (T.setTop f) acts v).1 = T.setFrames fs) → Steps p.tables e below A (T.setFrames fs)) : own_F p e below s Z hs W k n Q A := by
  obtain ⟨G, locs, X, N, e0, K⟩ := S
  have hlk : meth.locks = false := own_S.hlk (⟨G, locs, X, N, e0, K⟩ : own_S Z hs W own bytes maxL ret nm p l e R s m args below meth c T h cells slots)
  have hret : meth.sig.returnType = ret := own_S.hret (⟨G, locs, X, N, e0, K⟩ : own_S Z hs W own bytes maxL ret nm p l e R s m args below meth c T h cells slots)
  obtain ⟨fs, hr, hrun, hended, hW, hsame⟩ := X.leave (v := v) (fun q => hv (hret ▸ q)) hlk
  subst e0
  exact ⟨_, _, go locs X fs hr, hrun, hended, _, _, rfl, ⟨N, K, hq⟩, ⟨_, rfl⟩, hW, hsame.mono hk hn⟩
theorem own_retV (S : own_S Z hs W own bytes maxL none nm p l e R s m args below meth c T h cells slots) (hd : decode bytes pc = .ok (.return_, 1)) (hk : cells ≤ k) (hn : slots ≤ n) (hq : Q none h) : own_F p e below s Z hs W k n Q (T.setTop (mkF m pc Ls [])) :=
  S.leave hk hn (fun _ => rfl) hq fun locs X fs hr => X.returnOut S.hx S.hret (S.dec hd) hr
theorem own_retZ {t : FieldType} (S : own_S Z hs W own bytes maxL (some t) nm p l e R s m args below meth c T h cells slots) {z : Int32} (ht : t = .boolean ∨ t = .byte ∨ t = .char ∨ t = .short) (hd : decode bytes pc = .ok (.ireturn, 1)) (hk : cells ≤ k) (hn : slots ≤ n) (hq : Q (some (.int (nar t z))) h) : own_F p e below s Z hs W k n Q (T.setTop (mkF m pc Ls (.int z :: rest))) :=
  S.leave hk hn (fun q => by cases q) hq fun locs X fs hr => retN X S.hx S.hret ht (S.dec hd) hr
theorem own_retI (S : own_S Z hs W own bytes maxL (some .int) nm p l e R s m args below meth c T h cells slots) {z : Int32} (hd : decode bytes pc = .ok (.ireturn, 1)) (hk : cells ≤ k) (hn : slots ≤ n) (hq : Q (some (.int z)) h) : own_F p e below s Z hs W k n Q (T.setTop (mkF m pc Ls (.int z :: rest))) :=
  S.leave hk hn (fun q => by cases q) hq fun locs X fs hr => retOut X S.hx S.hret rfl (Or.inl ⟨rfl, Or.inl rfl, _, rfl⟩) (S.dec hd) hr
theorem own_retJ (S : own_S Z hs W own bytes maxL (some .long) nm p l e R s m args below meth c T h cells slots) {z : Int64} (hd : decode bytes pc = .ok (.lreturn, 1)) (hk : cells ≤ k) (hn : slots ≤ n) (hq : Q (some (.long z)) h) : own_F p e below s Z hs W k n Q (T.setTop (mkF m pc Ls (.long z :: rest))) :=
  S.leave hk hn (fun q => by cases q) hq fun locs X fs hr => retOut X S.hx S.hret rfl (Or.inr (Or.inl ⟨rfl, rfl, _, rfl⟩)) (S.dec hd) hr
theorem own_retD (S : own_S Z hs W own bytes maxL (some .double) nm p l e R s m args below meth c T h cells slots) {z : UInt64} (hd : decode bytes pc = .ok (.dreturn, 1)) (hk : cells ≤ k) (hn : slots ≤ n) (hq : Q (some (.double z)) h) : own_F p e below s Z hs W k n Q (T.setTop (mkF m pc Ls (.double z :: rest))) :=
  S.leave hk hn (fun q => by cases q) hq fun locs X fs hr => retOut X S.hx S.hret rfl (Or.inr (Or.inr (Or.inl ⟨rfl, rfl, _, rfl⟩))) (S.dec hd) hr
theorem own_retA {t : FieldType} (S : own_S Z hs W own bytes maxL (some t) nm p l e R s m args below meth c T h cells slots) {w : Value} (ht : t.isReference = true) (hw : w.isRef = true) (hd : decode bytes pc = .ok (.areturn, 1)) (hk : cells ≤ k) (hn : slots ≤ n) (hq : Q (some w) h) : own_F p e below s Z hs W k n Q (T.setTop (mkF m pc Ls (w :: rest))) :=
  S.leave hk hn (fun q => by cases q) hq fun locs X fs hr => retOut X S.hx S.hret (by cases w <;> simp [Value.isRef] at hw <;> cases t <;> simp [FieldType.isReference] at ht <;> rfl) (Or.inr (Or.inr (Or.inr (Or.inr ⟨rfl, ht, hw⟩)))) (S.dec hd) hr

/-! branches -/
def own_cd : ClassFile.Cond → Int32 → Int32 → Prop
  | .eq, x, y => x = y
  | .ne, x, y => ¬ x = y
  | .lt, x, y => x < y
  | .ge, x, y => ¬ x < y
  | .gt, x, y => y < x
  | .le, x, y => ¬ y < x
theorem own_cd_t {cd : ClassFile.Cond} {x y : Int32} (q : own_cd cd x y) : if_icmp.holds cd x y = true := by
  cases cd
  · exact (teq q).1
  · exact (feq q).2
  · exact (tlt q).1
  · exact (flt q).2.1
  · exact (tlt q).2.2.1
  · exact (flt q).2.2.2
def own_cn : ClassFile.Cond → Int32 → Int32 → Prop
  | .eq, x, y => ¬ x = y
  | .ne, x, y => x = y
  | .lt, x, y => ¬ x < y
  | .ge, x, y => x < y
  | .gt, x, y => ¬ y < x
  | .le, x, y => y < x
theorem own_cd_f {cd : ClassFile.Cond} {x y : Int32} (q : own_cn cd x y) : if_icmp.holds cd x y = false := by
  cases cd
  · exact (feq q).1
  · exact (teq q).2
  · exact (flt q).1
  · exact (tlt q).2.1
  · exact (flt q).2.2.1
  · exact (tlt q).2.2.2
theorem own_cd_em (cd : ClassFile.Cond) (x y : Int32) : own_cd cd x y ∨ own_cn cd x y := by
  cases cd
  · exact Classical.em (x = y)
  · exact (Classical.em (x = y)).symm
  · exact Classical.em (x < y)
  · exact (Classical.em (x < y)).symm
  · exact Classical.em (y < x)
  · exact (Classical.em (y < x)).symm
theorem own_icmp (S : own_S Z hs W own bytes maxL ret nm p l e R s m args below meth c T h cells slots) {cd : ClassFile.Cond} {o : Int} {x y : Int32} (pc' : Nat) (hd : decode bytes pc = .ok (.if_icmp cd o, 3)) (ho : 0 ≤ (pc : Int) + o) (hp : ((pc : Int) + o).toNat = pc')
    (ft : own_cd cd x y → own_F p e below s Z hs W k n Q (T.setTop (mkF m pc' Ls rest))) (ff : own_cn cd x y → own_F p e below s Z hs W k n Q (T.setTop (mkF m (pc + 3) Ls rest))) : own_F p e below s Z hs W k n Q (T.setTop (mkF m pc Ls (.int y :: .int x :: rest))) := by
  rcases own_cd_em cd x y with q | q
  · exact own_F.of (fun _ => XS.icmpYes S.here S.hx rfl (pc0 := pc) rfl (S.dec hd) rfl (own_cd_t q) ho hp) (ft q)
  · exact own_F.of (fun _ => XS.icmpNo S.here S.hx rfl (S.dec hd) rfl (own_cd_f q)) (ff q)
theorem own_if (S : own_S Z hs W own bytes maxL ret nm p l e R s m args below meth c T h cells slots) {cd : ClassFile.Cond} {o : Int} {x : Int32} (pc' : Nat) (hd : decode bytes pc = .ok (.ifCond cd o, 3)) (ho : 0 ≤ (pc : Int) + o) (hp : ((pc : Int) + o).toNat = pc')
    (ft : own_cd cd x 0 → own_F p e below s Z hs W k n Q (T.setTop (mkF m pc' Ls rest))) (ff : own_cn cd x 0 → own_F p e below s Z hs W k n Q (T.setTop (mkF m (pc + 3) Ls rest))) : own_F p e below s Z hs W k n Q (T.setTop (mkF m pc Ls (.int x :: rest))) := by
  rcases own_cd_em cd x 0 with q | q
  · exact own_F.of (fun _ => XS.ifYes S.here S.hx rfl (pc0 := pc) rfl (S.dec hd) rfl ((if0 _ _).trans (own_cd_t q)) ho hp) (ft q)
  · exact own_F.of (fun _ => XS.ifNo S.here S.hx rfl (S.dec hd) rfl ((if0 _ _).trans (own_cd_f q))) (ff q)
def own_ac : ACond → Value → Value → Prop
  | .eq, x, y => x = y
  | .ne, x, y => ¬ x = y
def own_an : ACond → Value → Value → Prop
  | .eq, x, y => ¬ x = y
  | .ne, x, y => x = y
theorem own_acmp (S : own_S Z hs W own bytes maxL ret nm p l e R s m args below meth c T h cells slots) {cd : ACond} {o : Int} {x y : Value} (h1 : x.isRef = true) (h2 : y.isRef = true) (pc' : Nat) (hd : decode bytes pc = .ok (.if_acmp cd o, 3)) (ho : 0 ≤ (pc : Int) + o) (hp : ((pc : Int) + o).toNat = pc')
    (ft : own_ac cd x y → own_F p e below s Z hs W k n Q (T.setTop (mkF m pc' Ls rest))) (ff : own_an cd x y → own_F p e below s Z hs W k n Q (T.setTop (mkF m (pc + 3) Ls rest))) : own_F p e below s Z hs W k n Q (T.setTop (mkF m pc Ls (y :: x :: rest))) := by
  obtain ⟨locs, X, -⟩ := S.2
  cases cd <;> rcases Classical.em (x = y) with q | q
  · exact own_F.of (fun _ => Jvm.RoadKit.acmp (g := mkF m pc Ls (y :: x :: rest)) X S.hx rfl h1 h2 (pc0 := pc) (pc' := pc') (same := true) rfl (S.dec hd) rfl (decide_eq_true q) ho (by simp [acV, ← hp])) (ft q)
  · exact own_F.of (fun _ => Jvm.RoadKit.acmp (g := mkF m pc Ls (y :: x :: rest)) X S.hx rfl h1 h2 (pc0 := pc) (pc' := pc + 3) (same := false) rfl (S.dec hd) rfl (decide_eq_false q) ho (by simp [acV])) (ff q)
  · exact own_F.of (fun _ => Jvm.RoadKit.acmp (g := mkF m pc Ls (y :: x :: rest)) X S.hx rfl h1 h2 (pc0 := pc) (pc' := pc + 3) (same := true) rfl (S.dec hd) rfl (decide_eq_true q) ho (by simp [acV])) (ff q)
  · exact own_F.of (fun _ => Jvm.RoadKit.acmp (g := mkF m pc Ls (y :: x :: rest)) X S.hx rfl h1 h2 (pc0 := pc) (pc' := pc') (same := false) rfl (S.dec hd) rfl (decide_eq_false q) ho (by simp [acV, ← hp])) (ft q)

/-! the heap -/
theorem own_getF (S : own_S Z hs W own bytes maxL ret nm p l e R s m args below meth c T h cells slots) {R0 O fn d host : String} {index : Nat} (w : (Jvm.Cond.fieldLink own index R0 fn d).before a0 Z = true ∨ (Jvm.Cond.fieldLinkNest own index R0 fn d host).before a0 Z = true) (via : Via Z R0 O fn d)
    {a : Addr} {v : Value} (F : Fld Z h a O fn d v) (hd : decode bytes pc = .ok (.getfield index, 3))
    (f : ∀ T', own_S Z hs W own bytes maxL ret nm p l e R s m args below meth c T' h cells slots → own_F p e below s Z hs W k n Q (T'.setTop (mkF m (pc + 3) Ls (v :: rest)))) : own_F p e below s Z hs W k n Q (T.setTop (mkF m pc Ls (.ref a :: rest))) := by
  have S' := S
  obtain ⟨G, locs, X, N, e0, K⟩ := S
  obtain ⟨T', X', e', st⟩ := getF X S'.hx S'.hZ S'.hown w via e0 F (g := mkF m pc Ls (.ref a :: rest)) rfl rfl (S'.dec hd)
  exact own_F.of st (f T' ⟨G, locs, X', N, e', K⟩)
theorem own_getS (S : own_S Z hs W own bytes maxL ret nm p l e R s m args below meth c T h cells slots) {R0 O fn d host : String} {index : Nat} (w : (Jvm.Cond.fieldLink own index R0 fn d).before a0 Z = true ∨ (Jvm.Cond.fieldLinkNest own index R0 fn d host).before a0 Z = true) (via : Via Z R0 O fn d)
    {v : Value} (F : Sta Z h O fn d v) (hd : decode bytes pc = .ok (.getstatic index, 3))
    (f : ∀ T', own_S Z hs W own bytes maxL ret nm p l e R s m args below meth c T' h cells slots → own_F p e below s Z hs W k n Q (T'.setTop (mkF m (pc + 3) Ls (v :: st)))) : own_F p e below s Z hs W k n Q (T.setTop (mkF m pc Ls st)) := by
  have S' := S
  obtain ⟨G, locs, X, N, e0, K⟩ := S
  obtain ⟨T', X', e', st⟩ := getS2 X S'.hx S'.hZ S'.hown w via e0 F (g := mkF m pc Ls st) rfl (S'.dec hd)
  exact own_F.of st (f T' ⟨G, locs, X', N, e', K⟩)
theorem own_putF (S : own_S Z hs W own bytes maxL ret nm p l e R s m args below meth c T h cells slots) {R0 O fn d host C : String} {index kk : Nat} {ty : FieldType} (w : (Jvm.Cond.fieldLink own index R0 fn d).before a0 Z = true ∨ (Jvm.Cond.fieldLinkNest own index R0 fn d host).before a0 Z = true) (via : Via Z R0 O fn d)
    {a : Addr} {v old : Value} (F : Fld Z h a O fn d old) (E : Exa Z h a C) (L : (Jvm.Cond.lays C O fn d).before a0 Z = true ∨ ((Jvm.Cond.laysFinal C O fn d).before a0 Z = true ∧ own = O ∧ nm = "<init>")) (wi : (Jvm.Cond.instantiable C kk).before a0 Z = true)
    (hty : parseFieldDescriptor d = some ty) (hn : narrow ty v = v) (hf : fits ty v = true) (hd : decode bytes pc = .ok (.putfield index, 3)) (ok : a ∈ W ∨ hs.size ≤ a)
    (f : ∀ T' h', own_S Z hs W own bytes maxL ret nm p l e R s m args below meth c T' h' cells slots → Wr h h' a (Jvm.RoadKit.slotOf Z O fn d) v → own_F p e below s Z hs W k n Q (T'.setTop (mkF m (pc + 3) Ls rest))) : own_F p e below s Z hs W k n Q (T.setTop (mkF m pc Ls (v :: .ref a :: rest))) := by
  have S' := S
  obtain ⟨G, locs, X, N, e0, K⟩ := S
  obtain ⟨T', h', X', e', Wt, st⟩ := putF X S'.hx S'.hZ S'.hown w via e0 F E (L.imp id fun q => ⟨q.1, q.2.1, S'.hnm.trans q.2.2⟩) wi hty hn hf (g := mkF m pc Ls (v :: .ref a :: rest)) rfl rfl (S'.dec hd)
  exact own_F.of st (f T' h' ⟨G, _, X', Fr.snoc X' N (S'.may ok), e', K.wr Wt ok⟩ Wt)
theorem own_new (S : own_S Z hs W own bytes maxL ret nm p l e R s m args below meth c T h cells slots) {C : String} {index sl : Nat} (w : (Jvm.Cond.classLink own index C).before a0 Z = true) (wi : (Jvm.Cond.instantiable C sl).before a0 Z = true) (wz : (Jvm.Cond.initialized C).before a0 Z = true)
    (hd : decode bytes pc = .ok (.new index, 3)) (hc : cells + 1 ≤ R.cells) (hl : slots + sl ≤ R.slots)
    (f : ∀ T' h' a, a = h.size → own_S Z hs W own bytes maxL ret nm p l e R s m args below meth c T' h' (cells + 1) (slots + sl) → Ext h h' → Exa Z h' a C → (∀ {O fn d : String} {ty : FieldType}, Laid Z a0 C O fn d → parseFieldDescriptor d = some ty → Fld Z h' a O fn d (defaultValue ty)) →
      own_F p e below s Z hs W k n Q (T'.setTop (mkF m (pc + 3) Ls (.ref a :: st)))) : own_F p e below s Z hs W k n Q (T.setTop (mkF m pc Ls st)) := by
  have S' := S
  obtain ⟨G, locs, X, N, e0, K⟩ := S
  obtain ⟨T', h', X', e', E, A, D, -, st⟩ := newO X S'.hx S'.hZ S'.hown w wi wz e0 (g := mkF m pc Ls st) rfl (S'.dec hd) hc hl
  exact own_F.of st (f T' h' _ rfl ⟨G, _, X', N, e', K.ext E⟩ E A D)
theorem own_initO (S : own_S Z hs W own bytes maxL ret nm p l e R s m args below meth c T h cells slots) {index : Nat} (w1 : (Jvm.Cond.methodLink own index Lib.objectInit).before a0 Z = true) (w2 : (Jvm.Cond.instanceMethod Lib.objectInit).before a0 Z = true)
    (w3 : (Jvm.Cond.code Lib.objectInit ⟨#[0xb1]⟩ 1 none).before a0 Z = true) {a : Addr} (hsz : Ls.size = maxL) (hd : decode bytes pc = .ok (.invokespecial index, 3)) (hf : 1 ≤ R.frames) (hl : (rest.map fun v => v.category).sum + 12 ≤ R.locals)
    (f : ∀ T', own_S Z hs W own bytes maxL ret nm p l e R s m args below meth c T' h cells slots → own_F p e below s Z hs W k n Q (T'.setTop (mkF m (pc + 3) Ls rest))) : own_F p e below s Z hs W k n Q (T.setTop (mkF m pc Ls (.ref a :: rest))) := by
  have S' := S
  obtain ⟨G, locs, X, N, e0, K⟩ := S
  obtain ⟨T', X', e', st⟩ := initO X S'.hx S'.hZ S'.hown w1 w2 w3 e0 (g := mkF m pc Ls (.ref a :: rest)) rfl (hsz.trans S'.hml.symm) rfl (S'.dec hd) hf (W := (rest.map fun v => v.category).sum) (by show 2 * 0 + _ ≤ _; omega) hl
  exact own_F.of st (f T' ⟨G, locs, X', N, e', K⟩)

/-! calls -/
variable {index : Nat} {y y' : MethodName} {bytes' : ByteArray} {maxL' : Nat} {ret' : Option FieldType} {rm : Room} {W' : List Addr} {Q' : Option Value → Heap → Prop} {argsL : List Value} {ps : List FieldType} {rt : Option FieldType}
theorem own_callS (S : own_S Z hs W own bytes maxL ret nm p l e R s m args below meth c T h cells slots)
    (w1 : (Jvm.Cond.methodLink own index y).before a0 Z = true) (w2 : (Jvm.Cond.static y).before a0 Z = true) (w3 : (Jvm.Cond.initialized y.cls).before a0 Z = true) (w4 : (Jvm.Cond.code y bytes' maxL' ret').before a0 Z = true) (hy : y.cls ≠ "java/lang/invoke/MethodHandle" ∧ y.cls ≠ "java/lang/invoke/VarHandle")
    (C : own_C l Z y bytes' maxL' ret' [] rm W' argsL.toArray h Q') (hWW : ∀ a ∈ W', a ∈ W ∨ hs.size ≤ a) (pd : parseMethodDescriptor y.desc = some ⟨ps, rt⟩) (hlen : argsL.length = ps.length) (hsz : Ls.size = maxL) (hst : st = argsL.reverse ++ rest)
    (hd : decode bytes pc = .ok (.invokestatic index, 3)) (hfr : rm.frames + 1 ≤ R.frames) (hlo : (rest.map fun v => v.category).sum + (maxL' + 11) + rm.locals ≤ R.locals) (hc : cells + rm.cells ≤ R.cells) (hsl : slots + rm.slots ≤ R.slots)
    (f : ∀ T' h' v, own_S Z hs W own bytes maxL ret nm p l e R s m args below meth c T' h' (cells + rm.cells) (slots + rm.slots) → Keep h h' W' → Q' v h' → own_F p e below s Z hs W k n Q (T'.setTop (mkF m (pc + 3) Ls (v.toList ++ rest)))) : own_F p e below s Z hs W k n Q (T.setTop (mkF m pc Ls st)) := by
  have S' := S
  obtain ⟨G, locs, X, N, e0, K⟩ := S
  obtain ⟨v, _, ⟨T', L', k', n'⟩, -, X', ⟨Lc, hQ, h1, h2, h3⟩, st⟩ := Jvm.LawKit.callS X S'.hx (y := y) S'.hown (mvT S'.hZ w1) (mvT S'.hZ w2) (mvT S'.hZ w3) (mvT S'.hZ w4) hy (backOf (W := (rest.map fun v => v.category).sum) (Q := fun v hh L => Fr Z.heap.size L ∧ Keep h hh W' ∧ Q' v hh) C S'.hZ w4 w3 hfr hlo) (g := mkF m pc Ls st) rfl (hsz.trans S'.hml.symm) (argsL := argsL) (rest := rest) (lenOf pd hlen) hst (by show 2 * 0 + _ ≤ _; omega) (S'.dec hd) (fun _ _ => ⟨rfl, e0, hc, hsl⟩)
  dsimp only [Pt.U, Pt.locs, Pt.cells, Pt.slots] at X' h1 h2 h3 st hQ
  subst h1 h2 h3
  obtain ⟨N', K', q⟩ := hQ
  exact own_F.of st (f T' T'.heap v ⟨G, _, X', Fr.app N N', rfl, K.trans K' hWW⟩ K' q)
theorem own_callI (S : own_S Z hs W own bytes maxL ret nm p l e R s m args below meth c T h cells slots) (hy1 : y.name = "<init>")
    (w1 : (Jvm.Cond.methodLink own index y).before a0 Z = true) (w2 : (Jvm.Cond.instanceMethod y).before a0 Z = true) (w3 : (Jvm.Cond.initialized y.cls).before a0 Z = true) (w4 : (Jvm.Cond.code y bytes' maxL' none).before a0 Z = true) (hy : y.cls ≠ "java/lang/invoke/MethodHandle" ∧ y.cls ≠ "java/lang/invoke/VarHandle")
    {a : Addr} (C : own_C l Z y bytes' maxL' none [] rm W' (.ref a :: argsL).toArray h Q') (hWW : ∀ a ∈ W', a ∈ W ∨ hs.size ≤ a) (pd : parseMethodDescriptor y.desc = some ⟨ps, rt⟩) (hlen : argsL.length = ps.length) (hsz : Ls.size = maxL) (hst : st = argsL.reverse ++ .ref a :: rest)
    (hd : decode bytes pc = .ok (.invokespecial index, 3)) (hfr : rm.frames + 1 ≤ R.frames) (hlo : (rest.map fun v => v.category).sum + (maxL' + 11) + rm.locals ≤ R.locals) (hc : cells + rm.cells ≤ R.cells) (hsl : slots + rm.slots ≤ R.slots)
    (f : ∀ T' h' v, own_S Z hs W own bytes maxL ret nm p l e R s m args below meth c T' h' (cells + rm.cells) (slots + rm.slots) → Keep h h' W' → Q' v h' → own_F p e below s Z hs W k n Q (T'.setTop (mkF m (pc + 3) Ls (v.toList ++ rest)))) : own_F p e below s Z hs W k n Q (T.setTop (mkF m pc Ls st)) := by
  have S' := S
  obtain ⟨G, locs, X, N, e0, K⟩ := S
  obtain ⟨v, _, ⟨T', L', k', n'⟩, -, X', ⟨Lc, hQ, h1, h2, h3⟩, st⟩ := X.specialBack S'.hx (y := y) hy1 S'.hown (mvT S'.hZ w1) (mvT S'.hZ w2) (mvT S'.hZ w4) hy (backOf (W := (rest.map fun v => v.category).sum) (Q := fun v hh L => Fr Z.heap.size L ∧ Keep h hh W' ∧ Q' v hh) C S'.hZ w4 w3 hfr hlo) (g := mkF m pc Ls st) rfl (hsz.trans S'.hml.symm) (Steps.refl _) (a := a) (argsL := argsL) (rest := rest) (lenOf pd hlen) hst (by show 2 * 0 + _ ≤ _; omega) (S'.dec hd) (fun _ _ => ⟨rfl, e0, hc, hsl⟩)
  dsimp only [Pt.U, Pt.locs, Pt.cells, Pt.slots] at X' h1 h2 h3 st hQ
  subst h1 h2 h3
  obtain ⟨N', K', q⟩ := hQ
  exact own_F.to st (f T' T'.heap v ⟨G, _, X', Fr.app N N', rfl, K.trans K' hWW⟩ K' q)
theorem own_callV (S : own_S Z hs W own bytes maxL ret nm p l e R s m args below meth c T h cells slots) {Cn : String}
    (w1 : (Jvm.Cond.methodLink own index y).before a0 Z = true) (w2 : (Jvm.Cond.declares y).before a0 Z = true) (nf : NotFace s y) (w3 : (Jvm.Cond.selects Cn y y').before a0 Z = true) (w4 : (Jvm.Cond.instanceMethod y').before a0 Z = true) (w5 : (Jvm.Cond.code y' bytes' maxL' ret').before a0 Z = true) (w6 : (Jvm.Cond.initialized y'.cls).before a0 Z = true) (hy : y.cls ≠ "java/lang/invoke/MethodHandle" ∧ y.cls ≠ "java/lang/invoke/VarHandle")
    {a : Addr} (E : Exa Z h a Cn) (C : own_C l Z y' bytes' maxL' ret' [] rm W' (.ref a :: argsL).toArray h Q') (hWW : ∀ a ∈ W', a ∈ W ∨ hs.size ≤ a) (pd : parseMethodDescriptor y.desc = some ⟨ps, rt⟩) (hlen : argsL.length = ps.length) (hsz : Ls.size = maxL) (hst : st = argsL.reverse ++ .ref a :: rest)
    (hd : decode bytes pc = .ok (.invokevirtual index, 3)) (hfr : rm.frames + 1 ≤ R.frames) (hlo : (rest.map fun v => v.category).sum + (maxL' + 11) + rm.locals ≤ R.locals) (hc : cells + rm.cells ≤ R.cells) (hsl : slots + rm.slots ≤ R.slots)
    (f : ∀ T' h' v, own_S Z hs W own bytes maxL ret nm p l e R s m args below meth c T' h' (cells + rm.cells) (slots + rm.slots) → Keep h h' W' → Q' v h' → own_F p e below s Z hs W k n Q (T'.setTop (mkF m (pc + 3) Ls (v.toList ++ rest)))) : own_F p e below s Z hs W k n Q (T.setTop (mkF m pc Ls st)) := by
  have S' := S
  obtain ⟨G, locs, X, N, e0, K⟩ := S
  obtain ⟨cq, kq, qa, qb, qc⟩ := isOf S'.hZ e0 E
  obtain ⟨v, _, ⟨T', L', k', n'⟩, -, X', ⟨Lc, hQ, h1, h2, h3⟩, st⟩ := X.virtualBack S'.hx (y := y) (z := y') S'.hown (mvT S'.hZ w1) (mvT S'.hZ w2) nf (mvT S'.hZ w3) (mvT S'.hZ w4) hy (backOf (W := (rest.map fun v => v.category).sum) (Q := fun v hh L => Fr Z.heap.size L ∧ Keep h hh W' ∧ Q' v hh) C S'.hZ w5 w6 hfr hlo) qa qc (g := mkF m pc Ls st) rfl (hsz.trans S'.hml.symm) (Steps.refl _) (argsL := argsL) (rest := rest) (lenOf pd hlen) hst (by show 2 * 0 + _ ≤ _; omega) (S'.dec hd) (fun _ _ => ⟨rfl, e0, hc, hsl⟩)
  dsimp only [Pt.U, Pt.locs, Pt.cells, Pt.slots] at X' h1 h2 h3 st hQ
  subst h1 h2 h3
  obtain ⟨N', K', q⟩ := hQ
  exact own_F.to st (f T' T'.heap v ⟨G, _, X', Fr.app N N', rfl, K.trans K' hWW⟩ K' q)
theorem own_nf (S : own_S Z hs W own bytes maxL ret nm p l e R s m args below meth c T h cells slots) {Cn : String} (w : (Jvm.Cond.selects Cn y y).before a0 Z = true) : NotFace s y := notFace_of_selects (args := #[]) (mvT S.hZ w)
theorem own_callX (S : own_S Z hs W own bytes maxL ret nm p l e R s m args below meth c T h cells slots) {Cn : String} {cnt : Nat}
    (w1 : (Jvm.Cond.methodLink own index y).before a0 Z = true) (w2 : (Jvm.Cond.declares y).before a0 Z = true) (w7 : (Jvm.Cond.interfaceMethod y.cls y.cls y.name y.desc).before a0 Z = true) (w3 : (Jvm.Cond.selects Cn y y').before a0 Z = true) (w4 : (Jvm.Cond.instanceMethod y').before a0 Z = true) (w8 : (Jvm.Cond.publicMethod y').before a0 Z = true) (w9 : (Jvm.Cond.unhidden Cn y.name y.desc).before a0 Z = true) (w10 : (Jvm.Cond.castable Cn y.cls).before a0 Z = true)
    (w5 : (Jvm.Cond.code y' bytes' maxL' ret').before a0 Z = true) (w6 : (Jvm.Cond.initialized y'.cls).before a0 Z = true) (hy : y.cls ≠ "java/lang/invoke/MethodHandle" ∧ y.cls ≠ "java/lang/invoke/VarHandle")
    {a : Addr} (E : Exa Z h a Cn) (C : own_C l Z y' bytes' maxL' ret' [] rm W' (.ref a :: argsL).toArray h Q') (hWW : ∀ a ∈ W', a ∈ W ∨ hs.size ≤ a) (pd : parseMethodDescriptor y.desc = some ⟨ps, rt⟩) (hlen : argsL.length = ps.length) (hsz : Ls.size = maxL) (hst : st = argsL.reverse ++ .ref a :: rest)
    (hd : decode bytes pc = .ok (.invokeinterface index cnt, 5)) (hfr : rm.frames + 1 ≤ R.frames) (hlo : (rest.map fun v => v.category).sum + (maxL' + 11) + rm.locals ≤ R.locals) (hc : cells + rm.cells ≤ R.cells) (hsl : slots + rm.slots ≤ R.slots)
    (f : ∀ T' h' v, own_S Z hs W own bytes maxL ret nm p l e R s m args below meth c T' h' (cells + rm.cells) (slots + rm.slots) → Keep h h' W' → Q' v h' → own_F p e below s Z hs W k n Q (T'.setTop (mkF m (pc + 5) Ls (v.toList ++ rest)))) : own_F p e below s Z hs W k n Q (T.setTop (mkF m pc Ls st)) := by
  have S' := S
  obtain ⟨G, locs, X, N, e0, K⟩ := S
  obtain ⟨cq, kq, qa, qb, qc⟩ := isOf S'.hZ e0 E
  obtain ⟨v, _, ⟨T', L', k', n'⟩, -, X', ⟨Lc, hQ, h1, h2, h3⟩, st⟩ := X.interfaceBack S'.hx (xi := y) (y := y') S'.hown (mvT S'.hZ w1) (mvT S'.hZ w2) (mvT S'.hZ w7 (by simp [Cond.onTables, Cond.keepsFace, Cond.keeps, Cond.steady, Cond.faceAtom, hy])) (mvT S'.hZ w3) (mvT S'.hZ w4) (mvT S'.hZ w8) (mvT S'.hZ w9) (mvT S'.hZ w10) hy (backOf (W := (rest.map fun v => v.category).sum) (Q := fun v hh L => Fr Z.heap.size L ∧ Keep h hh W' ∧ Q' v hh) C S'.hZ w5 w6 hfr hlo) qa qb qc (g := mkF m pc Ls st) rfl (hsz.trans S'.hml.symm) (Steps.refl _) (argsL := argsL) (rest := rest) (lenOf pd hlen) hst (by show 2 * 0 + _ ≤ _; omega) (S'.dec hd) (fun _ _ => ⟨rfl, e0, hc, hsl⟩)
  dsimp only [Pt.U, Pt.locs, Pt.cells, Pt.slots] at X' h1 h2 h3 st hQ
  subst h1 h2 h3
  obtain ⟨N', K', q⟩ := hQ
  exact own_F.to st (f T' T'.heap v ⟨G, _, X', Fr.app N N', rfl, K.trans K' hWW⟩ K' q)
theorem own_callP (S : own_S Z hs W own bytes maxL ret nm p l e R s m args below meth c T h cells slots)
    (w1 : (Jvm.Cond.methodLink own index y).before a0 Z = true) (w2 : (Jvm.Cond.instanceMethod y).before a0 Z = true) {kk : Nat} (w3 : (Jvm.Cond.instantiable y.cls kk).before a0 Z = true) (wp : (Jvm.Cond.privateMethod y).before a0 Z = true) (w5 : (Jvm.Cond.code y bytes' maxL' ret').before a0 Z = true) (w6 : (Jvm.Cond.initialized y.cls).before a0 Z = true) (hy : y.cls ≠ "java/lang/invoke/MethodHandle" ∧ y.cls ≠ "java/lang/invoke/VarHandle")
    {a : Addr} {Cn : String} (E : Exa Z h a Cn) (C : own_C l Z y bytes' maxL' ret' [] rm W' (.ref a :: argsL).toArray h Q') (hWW : ∀ a ∈ W', a ∈ W ∨ hs.size ≤ a) (pd : parseMethodDescriptor y.desc = some ⟨ps, rt⟩) (hlen : argsL.length = ps.length) (hsz : Ls.size = maxL) (hst : st = argsL.reverse ++ .ref a :: rest)
    (hd : decode bytes pc = .ok (.invokevirtual index, 3)) (hfr : rm.frames + 1 ≤ R.frames) (hlo : (rest.map fun v => v.category).sum + (maxL' + 11) + rm.locals ≤ R.locals) (hc : cells + rm.cells ≤ R.cells) (hsl : slots + rm.slots ≤ R.slots)
    (f : ∀ T' h' v, own_S Z hs W own bytes maxL ret nm p l e R s m args below meth c T' h' (cells + rm.cells) (slots + rm.slots) → Keep h h' W' → Q' v h' → own_F p e below s Z hs W k n Q (T'.setTop (mkF m (pc + 3) Ls (v.toList ++ rest)))) : own_F p e below s Z hs W k n Q (T.setTop (mkF m pc Ls st)) := by
  have S' := S
  obtain ⟨G, locs, X, N, e0, K⟩ := S
  obtain ⟨cq, qq, qq'⟩ := E.cell
  obtain ⟨ci, ki, i1, i2, i3, i4, -⟩ := Cond.instantiable_spec (mvT (args := args) S'.hZ w3)
  have hsel : (Jvm.Cond.selects y.cls y y).before args s = true := Jvm.Stand.selects_self_of_private i1 i2 (by simp only [Bool.or_eq_false_iff] at i4; exact i4.1) (Cond.privateMethod_at (mvP S'.hZ wp (args := #[]))) (mvT S'.hZ w2) hy
  obtain ⟨v, _, ⟨T', L', k', n'⟩, -, X', ⟨Lc, hQ, h1, h2, h3⟩, st⟩ := X.privateBack S'.hx (y := y) S'.hown (mvT S'.hZ w1) (mvT S'.hZ w2) hsel (Cond.privateMethod_at (mvP S'.hZ wp (args := #[]))) (mvT S'.hZ w5) hy (backOf (W := (rest.map fun v => v.category).sum) (Q := fun v hh L => Fr Z.heap.size L ∧ Keep h hh W' ∧ Q' v hh) C S'.hZ w5 w6 hfr hlo) (g := mkF m pc Ls st) rfl (hsz.trans S'.hml.symm) (Steps.refl _) (a := a) (by rw [e0]; exact qq) qq' (argsL := argsL) (rest := rest) (lenOf pd hlen) hst (by show 2 * 0 + _ ≤ _; omega) (S'.dec hd) (fun _ _ => ⟨rfl, e0, hc, hsl⟩)
  dsimp only [Pt.U, Pt.locs, Pt.cells, Pt.slots] at X' h1 h2 h3 st hQ
  subst h1 h2 h3
  obtain ⟨N', K', q⟩ := hQ
  exact own_F.to st (f T' T'.heap v ⟨G, _, X', Fr.app N N', rfl, K.trans K' hWW⟩ K' q)
theorem own_callU (S : own_S Z hs W own bytes maxL ret nm p l e R s m args below meth c T h cells slots) {Cn owner : String}
    (w1 : (Jvm.Cond.methodLink own index y).before a0 Z = true) (w2 : (Jvm.Cond.sameMethod y.cls owner y.name y.desc).before a0 Z = true) (w7 : (Jvm.Cond.declares ⟨owner, y.name, y.desc⟩).before a0 Z = true) (hy : owner ≠ "java/lang/invoke/MethodHandle" ∧ owner ≠ "java/lang/invoke/VarHandle") (w3 : (Jvm.Cond.selects Cn y y').before a0 Z = true) (w4 : (Jvm.Cond.instanceMethod y').before a0 Z = true) (w5 : (Jvm.Cond.code y' bytes' maxL' ret').before a0 Z = true) (w6 : (Jvm.Cond.initialized y'.cls).before a0 Z = true)
    {a : Addr} (E : Exa Z h a Cn) (C : own_C l Z y' bytes' maxL' ret' [] rm W' (.ref a :: argsL).toArray h Q') (hWW : ∀ a ∈ W', a ∈ W ∨ hs.size ≤ a) (pd : parseMethodDescriptor y.desc = some ⟨ps, rt⟩) (hlen : argsL.length = ps.length) (hsz : Ls.size = maxL) (hst : st = argsL.reverse ++ .ref a :: rest)
    (hd : decode bytes pc = .ok (.invokevirtual index, 3)) (hfr : rm.frames + 1 ≤ R.frames) (hlo : (rest.map fun v => v.category).sum + (maxL' + 11) + rm.locals ≤ R.locals) (hc : cells + rm.cells ≤ R.cells) (hsl : slots + rm.slots ≤ R.slots)
    (f : ∀ T' h' v, own_S Z hs W own bytes maxL ret nm p l e R s m args below meth c T' h' (cells + rm.cells) (slots + rm.slots) → Keep h h' W' → Q' v h' → own_F p e below s Z hs W k n Q (T'.setTop (mkF m (pc + 3) Ls (v.toList ++ rest)))) : own_F p e below s Z hs W k n Q (T.setTop (mkF m pc Ls st)) := by
  have S' := S
  obtain ⟨G, locs, X, N, e0, K⟩ := S
  obtain ⟨cq, kq, qa, qb, qc⟩ := isOf S'.hZ e0 E
  obtain ⟨v, _, ⟨T', L', k', n'⟩, -, X', ⟨Lc, hQ, h1, h2, h3⟩, st⟩ := X.virtualBackUp S'.hx (x := y) (y := y') S'.hown (mvT S'.hZ w1) (mvT S'.hZ w2) (mvT S'.hZ w7) hy (mvT S'.hZ w3) (mvT S'.hZ w4) (backOf (W := (rest.map fun v => v.category).sum) (Q := fun v hh L => Fr Z.heap.size L ∧ Keep h hh W' ∧ Q' v hh) C S'.hZ w5 w6 hfr hlo) qa qc (g := mkF m pc Ls st) rfl (hsz.trans S'.hml.symm) (Steps.refl _) (argsL := argsL) (rest := rest) (lenOf pd hlen) hst (by show 2 * 0 + _ ≤ _; omega) (S'.dec hd) (fun _ _ => ⟨rfl, e0, hc, hsl⟩)
  dsimp only [Pt.U, Pt.locs, Pt.cells, Pt.slots] at X' h1 h2 h3 st hQ
  subst h1 h2 h3
  obtain ⟨N', K', q⟩ := hQ
  exact own_F.to st (f T' T'.heap v ⟨G, _, X', Fr.app N N', rfl, K.trans K' hWW⟩ K' q)
/-! casts and tests of classes -/
theorem own_cast (S : own_S Z hs W own bytes maxL ret nm p l e R s m args below meth c T h cells slots) {Kn : String} {a : Addr} (w : (Jvm.Cond.classLink own index Kn).before a0 Z = true) (F : Ins Z h a Kn true) (hd : decode bytes pc = .ok (.checkcast index, 3))
    (f : ∀ T', own_S Z hs W own bytes maxL ret nm p l e R s m args below meth c T' h cells slots → own_F p e below s Z hs W k n Q (T'.setTop (mkF m (pc + 3) Ls (.ref a :: rest)))) : own_F p e below s Z hs W k n Q (T.setTop (mkF m pc Ls (.ref a :: rest))) := by
  have S' := S
  obtain ⟨G, locs, X, N, e0, K⟩ := S
  obtain ⟨T', X', e', st⟩ := castY X S'.hx S'.hZ S'.hown w e0 F (g := mkF m pc Ls (.ref a :: rest)) rfl rfl (S'.dec hd)
  exact own_F.of st (f T' ⟨G, locs, X', N, e', K⟩)
theorem own_inst (S : own_S Z hs W own bytes maxL ret nm p l e R s m args below meth c T h cells slots) {Kn : String} {a : Addr} (w : (Jvm.Cond.classLink own index Kn).before a0 Z = true) (F : Ins Z h a Kn true) (hd : decode bytes pc = .ok (.instanceof index, 3))
    (f : ∀ T', own_S Z hs W own bytes maxL ret nm p l e R s m args below meth c T' h cells slots → own_F p e below s Z hs W k n Q (T'.setTop (mkF m (pc + 3) Ls (.int (1 : Int32) :: rest)))) : own_F p e below s Z hs W k n Q (T.setTop (mkF m pc Ls (.ref a :: rest))) := by
  have S' := S
  obtain ⟨G, locs, X, N, e0, K⟩ := S
  obtain ⟨T', X', e', st⟩ := instY X S'.hx S'.hZ S'.hown w e0 F (g := mkF m pc Ls (.ref a :: rest)) rfl rfl (S'.dec hd)
  exact own_F.of st (f T' ⟨G, locs, X', N, e', K⟩)

theorem own_instN (S : own_S Z hs W own bytes maxL ret nm p l e R s m args below meth c T h cells slots) {Kn Cn : String} {a : Addr} (w : (Jvm.Cond.classLink own index Kn).before a0 Z = true) (E : Exa Z h a Cn) (F : ∃ c t, Z.vm.findClass Cn = some c ∧ Z.vm.findClass Kn = some t ∧ Z.vm.assignable c t = false) (hd : decode bytes pc = .ok (.instanceof index, 3))
    (f : ∀ T', own_S Z hs W own bytes maxL ret nm p l e R s m args below meth c T' h cells slots → own_F p e below s Z hs W k n Q (T'.setTop (mkF m (pc + 3) Ls (.int (0 : Int32) :: rest)))) : own_F p e below s Z hs W k n Q (T.setTop (mkF m pc Ls (.ref a :: rest))) := by
  have S' := S
  obtain ⟨G, locs, X, N, e0, K⟩ := S
  obtain ⟨T', X', e', st⟩ := instNo X S'.hx S'.hZ S'.hown w e0 E F (g := mkF m pc Ls (.ref a :: rest)) rfl rfl (S'.dec hd)
  exact own_F.of st (f T' ⟨G, locs, X', N, e', K⟩)
theorem own_inst0 (S : own_S Z hs W own bytes maxL ret nm p l e R s m args below meth c T h cells slots) (hd : decode bytes pc = .ok (.instanceof index, 3))
    (f : own_F p e below s Z hs W k n Q (T.setTop (mkF m (pc + 3) Ls (.int (0 : Int32) :: rest)))) : own_F p e below s Z hs W k n Q (T.setTop (mkF m pc Ls (.null :: rest))) := by
  obtain ⟨locs, X, -⟩ := S.2
  exact own_F.of (X.instanceofNull S.hx (g := mkF m pc Ls (.null :: rest)) rfl rfl (S.dec hd)) f
theorem own_cast0 (S : own_S Z hs W own bytes maxL ret nm p l e R s m args below meth c T h cells slots) (hd : decode bytes pc = .ok (.checkcast index, 3))
    (f : own_F p e below s Z hs W k n Q (T.setTop (mkF m (pc + 3) Ls (.null :: rest)))) : own_F p e below s Z hs W k n Q (T.setTop (mkF m pc Ls (.null :: rest))) := by
  obtain ⟨locs, X, -⟩ := S.2
  exact own_F.of (X.checkcastNull S.hx (g := mkF m pc Ls (.null :: rest)) rfl rfl (S.dec hd)) f
theorem own_NSroot {O Kn : String} {i : Nat} (w : (Jvm.Cond.noSuperclass O).before a0 Z = true) (wk : (Jvm.Cond.instantiable Kn i).before a0 Z = true) (hn : O ≠ Kn) : NS Z O Kn := by
  obtain ⟨cO, kO, h1, h2, h3, -⟩ := Cond.noSuperclass_spec w
  obtain ⟨t, kt, g1, -⟩ := Cond.instantiable_spec wk
  refine ⟨cO, t, h1, g1, fun fuel => ?_⟩
  cases fuel with
  | zero => rfl
  | succ f => simp [Vm.isSubclassAux, ids_ne h1 g1 hn, h2, h3]
theorem own_NSno {Cn Sn Kn : String} {i : Nat} (w : (Jvm.Cond.superclass Cn Sn).before a0 Z = true) (wk : (Jvm.Cond.instantiable Kn i).before a0 Z = true) (q : NS Z Cn Kn) (hn : Cn ≠ Kn) : ∃ c t, Z.vm.findClass Cn = some c ∧ Z.vm.findClass Kn = some t ∧ Z.vm.assignable c t = false := by
  obtain ⟨cC, t, h0, g0, n3⟩ := q
  obtain ⟨p, kC, kp, h1, h2, h3, h4, h5, -, h7⟩ := Cond.superclass_spec h0 w
  obtain ⟨t', kt, g1, g2, g3, g4, -⟩ := Cond.instantiable_spec wk
  cases g0.symm.trans g1
  have g5 : kt.isInterface = false := by simp only [Bool.or_eq_false_iff] at g4; exact g4.1
  refine ⟨cC, t, h0, g0, ?_⟩
  show Z.vm.assignableAux (255 + 1) cC t = false
  simp [Vm.assignableAux, ids_ne h0 g0 hn, h2, g2, h5, g3, g5, Vm.isSubclass, n3]

/-! more single steps -/
theorem own_irem (S : own_S Z hs W own bytes maxL ret nm p l e R s m args below meth c T h cells slots) {x y : Int32} {t : State} (hd : decode bytes pc = .ok (.irem, 1)) (hy : y ≠ 0) (k : Steps p.tables e below (T.setTop (mkF m (pc + 1) Ls (.int (x % y) :: rest))) t) : Steps p.tables e below (T.setTop (mkF m pc Ls (.int y :: .int x :: rest))) t := by
  obtain ⟨locs, X, -⟩ := S.2
  exact iremM X S.hx (g := mkF m pc Ls (.int y :: .int x :: rest)) rfl (S.dec hd) rfl hy k
theorem own_lrem (S : own_S Z hs W own bytes maxL ret nm p l e R s m args below meth c T h cells slots) {x y : Int64} {t : State} (hd : decode bytes pc = .ok (.lrem, 1)) (hy : y ≠ 0) (k : Steps p.tables e below (T.setTop (mkF m (pc + 1) Ls (.long (x % y) :: rest))) t) : Steps p.tables e below (T.setTop (mkF m pc Ls (.long y :: .long x :: rest))) t := by
  have q : x - x / y * y = x % y := lrem_mod x y
  exact XS.lrem S.here S.hx (g := mkF m pc Ls (.long y :: .long x :: rest)) rfl (S.dec hd) rfl hy (by rw [q]; exact k)
theorem own_ldcI (S : own_S Z hs W own bytes maxL ret nm p l e R s m args below meth c T h cells slots) {i : Nat} {v : Int32} (w : (Jvm.Cond.constant own i v).before a0 Z = true) (hd : decode bytes pc = .ok (.ldc i, 2)) (f : own_F p e below s Z hs W k n Q (T.setTop (mkF m (pc + 2) Ls (.int v :: st)))) : own_F p e below s Z hs W k n Q (T.setTop (mkF m pc Ls st)) := by
  obtain ⟨locs, X, -⟩ := S.2
  exact own_F.of (X.ldcInt S.hx S.hown (mvT S.hZ w) (g := mkF m pc Ls st) rfl (S.dec hd)) f
theorem own_ldcIw (S : own_S Z hs W own bytes maxL ret nm p l e R s m args below meth c T h cells slots) {i : Nat} {v : Int32} (w : (Jvm.Cond.constant own i v).before a0 Z = true) (hd : decode bytes pc = .ok (.ldc_w i, 3)) (f : own_F p e below s Z hs W k n Q (T.setTop (mkF m (pc + 3) Ls (.int v :: st)))) : own_F p e below s Z hs W k n Q (T.setTop (mkF m pc Ls st)) := by
  obtain ⟨locs, X, -⟩ := S.2
  exact own_F.of (X.ldcwInt S.hx S.hown (mvT S.hZ w) (g := mkF m pc Ls st) rfl (S.dec hd)) f
theorem own_ldcJ (S : own_S Z hs W own bytes maxL ret nm p l e R s m args below meth c T h cells slots) {i : Nat} {v : Int64} (w : (Jvm.Cond.constantLong own i v).before a0 Z = true) (hd : decode bytes pc = .ok (.ldc2_w i, 3)) (f : own_F p e below s Z hs W k n Q (T.setTop (mkF m (pc + 3) Ls (.long v :: st)))) : own_F p e below s Z hs W k n Q (T.setTop (mkF m pc Ls st)) := by
  obtain ⟨locs, X, -⟩ := S.2
  exact own_F.of (X.ldc2Long S.hx S.hown (mvT S.hZ w) (g := mkF m pc Ls st) rfl (S.dec hd)) f
theorem own_ldcD (S : own_S Z hs W own bytes maxL ret nm p l e R s m args below meth c T h cells slots) {i : Nat} {v : UInt64} (w : (Jvm.Cond.constantDouble own i v).before a0 Z = true) (hd : decode bytes pc = .ok (.ldc2_w i, 3)) (f : own_F p e below s Z hs W k n Q (T.setTop (mkF m (pc + 3) Ls (.double v :: st)))) : own_F p e below s Z hs W k n Q (T.setTop (mkF m pc Ls st)) := by
  obtain ⟨locs, X, -⟩ := S.2
  exact own_F.of (X.ldc2DoubleC S.hx S.hown (mvT S.hZ w) (g := mkF m pc Ls st) rfl (S.dec hd)) f
theorem own_tsw (S : own_S Z hs W own bytes maxL ret nm p l e R s m args below meth c T h cells slots) {dflt low high : Int} {offs : Array Int} {len : Nat} {i : Int32} (v o : Int) (pc' : Nat) (hd : decode bytes pc = .ok (.tableswitch dflt low high offs, len)) (hv : i.toInt = v) (hin : ¬ (v < low ∨ v > high)) (hoff : offs[(v - low).toNat]? = some o) (ho : 0 ≤ (pc : Int) + o) (hp : ((pc : Int) + o).toNat = pc')
    (f : own_F p e below s Z hs W k n Q (T.setTop (mkF m pc' Ls rest))) : own_F p e below s Z hs W k n Q (T.setTop (mkF m pc Ls (.int i :: rest))) := by
  subst hv
  exact own_F.of (fun _ => XS.tswIn S.here S.hx (g := mkF m pc Ls (.int i :: rest)) rfl (pc0 := pc) (pc' := pc') rfl (S.dec hd) rfl hin hoff ho hp) f
theorem own_tswO (S : own_S Z hs W own bytes maxL ret nm p l e R s m args below meth c T h cells slots) {dflt low high : Int} {offs : Array Int} {len : Nat} {i : Int32} (v : Int) (pc' : Nat) (hd : decode bytes pc = .ok (.tableswitch dflt low high offs, len)) (hv : i.toInt = v) (hout : v < low ∨ v > high) (ho : 0 ≤ (pc : Int) + dflt) (hp : ((pc : Int) + dflt).toNat = pc')
    (f : own_F p e below s Z hs W k n Q (T.setTop (mkF m pc' Ls rest))) : own_F p e below s Z hs W k n Q (T.setTop (mkF m pc Ls (.int i :: rest))) := by
  subst hv
  exact own_F.of (fun _ => XS.tswOut S.here S.hx (g := mkF m pc Ls (.int i :: rest)) rfl (pc0 := pc) (pc' := pc') rfl (S.dec hd) rfl hout ho hp) f
theorem own_narR {ty : FieldType} {v : Value} (ht : ty.isReference = true) (hv : v.isRef = true) : narrow ty v = v := by cases v <;> simp [Value.isRef] at hv <;> cases ty <;> simp [FieldType.isReference] at ht <;> rfl
theorem own_fitR {ty : FieldType} {v : Value} (ht : ty.isReference = true) (hv : v.isRef = true) : fits ty v = true := by cases v <;> simp [Value.isRef] at hv <;> cases ty <;> simp [FieldType.isReference] at ht <;> rfl

/-! from the case's words to facts of the start -/
theorem own_extRefl (h : Heap) : Ext h h := ⟨Nat.le_refl _, fun _ _ q => q⟩
theorem own_sta {C fn d K : String} (hx : (Jvm.Cond.exactly (.static C fn d) K).value a0 Z none Z [] = some true) (w1 : (Jvm.Cond.initialized C).before a0 Z = true) (w2 : (Jvm.Cond.laysStatic C fn d).before a0 Z = true) :
    ∃ a, (Term.static C fn d).eval a0 Z none [] Z = some (.ref a) ∧ Sta Z Z.heap C fn d (.ref a) ∧ Exa Z Z.heap a K := by
  obtain ⟨a, ev⟩ := exa_v hx
  exact ⟨a, ev, Sta.start ev (Or.inr ⟨w1, w2⟩), Exa.start ev hx⟩
theorem own_fldI {t : Term} {C fn d : String} {a : Addr} {v : Int32} (ev : t.eval a0 Z none [] Z = some (.ref a)) (hx : (Jvm.Cond.eq (.field t C fn d) (.int v)).value a0 Z none Z [] = some true) : Fld Z Z.heap a C fn d (.int v) := by
  obtain ⟨x, y, h1, h2, -⟩ := cmp_v (Or.inl hx)
  have h2' : y = .int v := by simpa [Term.eval] using h2.symm
  subst h2'
  have h3 : x = .int v := by
    simp only [Jvm.Cond.value, h1, h2] at hx
    cases x <;> simp at hx
    rw [hx]
  subst h3
  refine Fld.start ?_
  simpa [Term.eval, ev] using h1
end OwnPrelude
/-! OWN: arrays by their whole contents -/
section OwnArrays
variable {Z : State} {hs : Heap} {W : List Addr} {own : String} {bytes : ByteArray} {maxL : Nat} {ret : Option FieldType} {nm : String}
  {p : Program} {l : Launch} {e : Env} {R : Room} {s : State} {m : MethodId} {args : Array Value} {below : List Frame} {meth : Method} {c : Code}
  {T : State} {h h' : Heap} {cells slots : Nat} {k n : Nat} {Q : Option Value → Heap → Prop} {a0 : Array Value} {pc : Nat} {Ls : Array Slot} {st rest : List Value} {a b : Addr} {ty : FieldType} {vs : List Value} {v : Value} {j x : Int32}

def own_A (Z : State) (h : Heap) (a : Addr) (ty : FieldType) (vs : List Value) : Prop := ∃ cl : Cell, Arr Z h a cl ty ∧ cl.slots.toList = vs ∧ vs.length < 2 ^ 31
theorem own_A.lt (F : own_A Z h a ty vs) : a < h.size := by obtain ⟨_, A, -⟩ := F; exact A.lt
theorem own_A.ext (F : own_A Z h a ty vs) (E : Ext h h') : own_A Z h' a ty vs := by obtain ⟨cl, A, r⟩ := F; exact ⟨cl, A.ext E, r⟩
theorem own_A.other {sl : Nat} {w : Value} (F : own_A Z h b ty vs) (Wt : Wr h h' a sl w) (q : b ≠ a) : own_A Z h' b ty vs := by obtain ⟨cl, A, r⟩ := F; exact ⟨cl, A.other Wt q, r⟩
theorem own_A.keep {ws : List Addr} (F : own_A Z h a ty vs) (K : Keep h h' ws) (q : a ∉ ws) : own_A Z h' a ty vs := by obtain ⟨cl, A, r⟩ := F; exact ⟨cl, ⟨K.2.1 a cl A.1 q, A.2⟩, r⟩
theorem own_A.set {i : Nat} (F : own_A Z h a ty vs) (Wt : Wr h h' a i v) : own_A Z h' a ty (vs.set i v) := by
  obtain ⟨cl, A, r1, r2⟩ := F
  subst r1
  refine ⟨cl.setSlot i v, A.same Wt, ?_, by simpa using r2⟩
  simp [Cell.setSlot]
theorem own_A.inb {cl : Cell} {vs : List Value} (r1 : cl.slots.toList = vs) (h0 : ¬ j < 0) (hv : j.toNatClampNeg < vs.length) : ¬ (j < 0 ∨ cl.slots.size ≤ j.toNatClampNeg) := by
  rintro (q | q)
  · exact h0 q
  · subst r1; simp at hv; omega
theorem own_A.get {cl : Cell} {vs : List Value} {i : Nat} (r1 : cl.slots.toList = vs) (hv : vs[i]? = some v) : cl.slots[i]? = some v := by subst r1; simpa using hv
theorem own_A.ix {i : Nat} (hv : vs[i]? = some v) : i < vs.length := (List.getElem?_eq_some_iff.mp hv).1
theorem own_len (S : own_S Z hs W own bytes maxL ret nm p l e R s m args below meth c T h cells slots) (F : own_A Z h a ty vs) (hd : decode bytes pc = .ok (.arraylength, 1))
    (f : own_F p e below s Z hs W k n Q (T.setTop (mkF m (pc + 1) Ls (.int vs.length.toInt32 :: rest)))) : own_F p e below s Z hs W k n Q (T.setTop (mkF m pc Ls (.ref a :: rest))) := by
  have S' := S
  obtain ⟨G, locs, X, N, e0, K⟩ := S
  obtain ⟨cl, A, r1, r2⟩ := F
  have q : cl.slots.size = vs.length := by rw [← r1]; simp
  rw [← q] at f
  exact own_F.of (fun t => X.arraylength S'.hx (by rw [e0]; exact A.1) (State.isArrayOf_alike S'.hZ.alike A.2.1) (g := mkF m pc Ls (.ref a :: rest)) rfl rfl (S'.dec hd) t) f
theorem own_iald (S : own_S Z hs W own bytes maxL ret nm p l e R s m args below meth c T h cells slots) (F : own_A Z h a .int vs) (h0 : ¬ j < 0) (hv : vs[j.toNatClampNeg]? = some v) (hd : decode bytes pc = .ok (.iaload, 1))
    (f : own_F p e below s Z hs W k n Q (T.setTop (mkF m (pc + 1) Ls (v :: rest)))) : own_F p e below s Z hs W k n Q (T.setTop (mkF m pc Ls (.int j :: .ref a :: rest))) := by
  have S' := S
  obtain ⟨G, locs, X, N, e0, K⟩ := S
  obtain ⟨cl, A, r1, r2⟩ := F
  exact own_F.of (fun t => X.iaload S'.hx (by rw [e0]; exact A.1) (State.isArrayOf_alike S'.hZ.alike A.2.1) A.2.2 (own_A.inb r1 h0 (own_A.ix hv)) (own_A.get r1 hv) (g := mkF m pc Ls (.int j :: .ref a :: rest)) rfl rfl (S'.dec hd) t) f
theorem own_lald (S : own_S Z hs W own bytes maxL ret nm p l e R s m args below meth c T h cells slots) (F : own_A Z h a .long vs) (h0 : ¬ j < 0) (hv : vs[j.toNatClampNeg]? = some v) (hd : decode bytes pc = .ok (.laload, 1))
    (f : own_F p e below s Z hs W k n Q (T.setTop (mkF m (pc + 1) Ls (v :: rest)))) : own_F p e below s Z hs W k n Q (T.setTop (mkF m pc Ls (.int j :: .ref a :: rest))) := by
  have S' := S
  obtain ⟨G, locs, X, N, e0, K⟩ := S
  obtain ⟨cl, A, r1, r2⟩ := F
  exact own_F.of (fun t => X.laload S'.hx (by rw [e0]; exact A.1) (State.isArrayOf_alike S'.hZ.alike A.2.1) A.2.2 (own_A.inb r1 h0 (own_A.ix hv)) (own_A.get r1 hv) (g := mkF m pc Ls (.int j :: .ref a :: rest)) rfl rfl (S'.dec hd) t) f
theorem own_cald (S : own_S Z hs W own bytes maxL ret nm p l e R s m args below meth c T h cells slots) (F : own_A Z h a .char vs) (h0 : ¬ j < 0) (hv : vs[j.toNatClampNeg]? = some v) (hd : decode bytes pc = .ok (.caload, 1))
    (f : own_F p e below s Z hs W k n Q (T.setTop (mkF m (pc + 1) Ls (v :: rest)))) : own_F p e below s Z hs W k n Q (T.setTop (mkF m pc Ls (.int j :: .ref a :: rest))) := by
  have S' := S
  obtain ⟨G, locs, X, N, e0, K⟩ := S
  obtain ⟨cl, A, r1, r2⟩ := F
  exact own_F.of (fun t => X.caload S'.hx (by rw [e0]; exact A.1) (State.isArrayOf_alike S'.hZ.alike A.2.1) A.2.2 (own_A.inb r1 h0 (own_A.ix hv)) (own_A.get r1 hv) (g := mkF m pc Ls (.int j :: .ref a :: rest)) rfl rfl (S'.dec hd) t) f
theorem own_bald (S : own_S Z hs W own bytes maxL ret nm p l e R s m args below meth c T h cells slots) (F : own_A Z h a .byte vs) (h0 : ¬ j < 0) (hv : vs[j.toNatClampNeg]? = some v) (hd : decode bytes pc = .ok (.baload, 1))
    (f : own_F p e below s Z hs W k n Q (T.setTop (mkF m (pc + 1) Ls (v :: rest)))) : own_F p e below s Z hs W k n Q (T.setTop (mkF m pc Ls (.int j :: .ref a :: rest))) := by
  have S' := S
  obtain ⟨G, locs, X, N, e0, K⟩ := S
  obtain ⟨cl, A, r1, r2⟩ := F
  exact own_F.of (fun t => X.baloadBytes S'.hx (by rw [e0]; exact A.1) (State.isArrayOf_alike S'.hZ.alike A.2.1) A.2.2 (own_A.inb r1 h0 (own_A.ix hv)) (own_A.get r1 hv) (g := mkF m pc Ls (.int j :: .ref a :: rest)) rfl rfl (S'.dec hd) t) f
theorem own_zald (S : own_S Z hs W own bytes maxL ret nm p l e R s m args below meth c T h cells slots) (F : own_A Z h a .boolean vs) (h0 : ¬ j < 0) (hv : vs[j.toNatClampNeg]? = some v) (hd : decode bytes pc = .ok (.baload, 1))
    (f : own_F p e below s Z hs W k n Q (T.setTop (mkF m (pc + 1) Ls (v :: rest)))) : own_F p e below s Z hs W k n Q (T.setTop (mkF m pc Ls (.int j :: .ref a :: rest))) := by
  have S' := S
  obtain ⟨G, locs, X, N, e0, K⟩ := S
  obtain ⟨cl, A, r1, r2⟩ := F
  exact own_F.of (fun t => X.baloadBooleans S'.hx (by rw [e0]; exact A.1) (State.isArrayOf_alike S'.hZ.alike A.2.1) A.2.2 (own_A.inb r1 h0 (own_A.ix hv)) (own_A.get r1 hv) (g := mkF m pc Ls (.int j :: .ref a :: rest)) rfl rfl (S'.dec hd) t) f
theorem own_aald (S : own_S Z hs W own bytes maxL ret nm p l e R s m args below meth c T h cells slots) (F : own_A Z h a ty vs) (hty : ty.isReference = true) (h0 : ¬ j < 0) (hv : vs[j.toNatClampNeg]? = some v) (hd : decode bytes pc = .ok (.aaload, 1))
    (f : own_F p e below s Z hs W k n Q (T.setTop (mkF m (pc + 1) Ls (v :: rest)))) : own_F p e below s Z hs W k n Q (T.setTop (mkF m pc Ls (.int j :: .ref a :: rest))) := by
  have S' := S
  obtain ⟨G, locs, X, N, e0, K⟩ := S
  obtain ⟨cl, A, r1, r2⟩ := F
  exact own_F.of (fun t => X.aaload S'.hx (by rw [e0]; exact A.1) (State.isArrayOf_alike S'.hZ.alike A.2.1) hty A.2.2 (own_A.inb r1 h0 (own_A.ix hv)) (own_A.get r1 hv) (g := mkF m pc Ls (.int j :: .ref a :: rest)) rfl rfl (S'.dec hd) t) f
theorem own_ist (S : own_S Z hs W own bytes maxL ret nm p l e R s m args below meth c T h cells slots) (F : own_A Z h a .int vs) (h0 : ¬ j < 0) (hv : j.toNatClampNeg < vs.length) (hd : decode bytes pc = .ok (.iastore, 1)) (ok : a ∈ W ∨ hs.size ≤ a)
    (f : ∀ T' h', own_S Z hs W own bytes maxL ret nm p l e R s m args below meth c T' h' cells slots → Wr h h' a j.toNatClampNeg (.int x) → own_A Z h' a .int (vs.set j.toNatClampNeg (.int x)) → own_F p e below s Z hs W k n Q (T'.setTop (mkF m (pc + 1) Ls rest))) : own_F p e below s Z hs W k n Q (T.setTop (mkF m pc Ls (.int x :: .int j :: .ref a :: rest))) := by
  have S' := S; have F' := F
  obtain ⟨G, locs, X, N, e0, K⟩ := S
  obtain ⟨cl, A, r1, r2⟩ := F
  obtain ⟨T', h', X', e', Wt, stp⟩ := stI X S'.hx S'.hZ e0 A (own_A.inb r1 h0 hv) (g := mkF m pc Ls (.int x :: .int j :: .ref a :: rest)) rfl rfl (S'.dec hd)
  exact own_F.of stp (f T' h' ⟨G, _, X', Fr.snoc X' N (S'.may ok), e', K.wr Wt ok⟩ Wt (F'.set Wt))
theorem own_jst {x : Int64} (S : own_S Z hs W own bytes maxL ret nm p l e R s m args below meth c T h cells slots) (F : own_A Z h a .long vs) (h0 : ¬ j < 0) (hv : j.toNatClampNeg < vs.length) (hd : decode bytes pc = .ok (.lastore, 1)) (ok : a ∈ W ∨ hs.size ≤ a)
    (f : ∀ T' h', own_S Z hs W own bytes maxL ret nm p l e R s m args below meth c T' h' cells slots → Wr h h' a j.toNatClampNeg (.long x) → own_A Z h' a .long (vs.set j.toNatClampNeg (.long x)) → own_F p e below s Z hs W k n Q (T'.setTop (mkF m (pc + 1) Ls rest))) : own_F p e below s Z hs W k n Q (T.setTop (mkF m pc Ls (.long x :: .int j :: .ref a :: rest))) := by
  have S' := S; have F' := F
  obtain ⟨G, locs, X, N, e0, K⟩ := S
  obtain ⟨cl, A, r1, r2⟩ := F
  obtain ⟨T', h', X', e', Wt, stp⟩ := stJ X S'.hx S'.hZ e0 A (own_A.inb r1 h0 hv) (g := mkF m pc Ls (.long x :: .int j :: .ref a :: rest)) rfl rfl (S'.dec hd)
  exact own_F.of stp (f T' h' ⟨G, _, X', Fr.snoc X' N (S'.may ok), e', K.wr Wt ok⟩ Wt (F'.set Wt))
theorem own_cst (S : own_S Z hs W own bytes maxL ret nm p l e R s m args below meth c T h cells slots) (F : own_A Z h a .char vs) (h0 : ¬ j < 0) (hv : j.toNatClampNeg < vs.length) (hd : decode bytes pc = .ok (.castore, 1)) (ok : a ∈ W ∨ hs.size ≤ a)
    (f : ∀ T' h', own_S Z hs W own bytes maxL ret nm p l e R s m args below meth c T' h' cells slots → Wr h h' a j.toNatClampNeg (.int (nar .char x)) → own_A Z h' a .char (vs.set j.toNatClampNeg (.int (nar .char x))) → own_F p e below s Z hs W k n Q (T'.setTop (mkF m (pc + 1) Ls rest))) : own_F p e below s Z hs W k n Q (T.setTop (mkF m pc Ls (.int x :: .int j :: .ref a :: rest))) := by
  have S' := S; have F' := F
  obtain ⟨G, locs, X, N, e0, K⟩ := S
  obtain ⟨cl, A, r1, r2⟩ := F
  obtain ⟨T', h', X', e', Wt, stp⟩ := stC X S'.hx S'.hZ e0 A (own_A.inb r1 h0 hv) (g := mkF m pc Ls (.int x :: .int j :: .ref a :: rest)) rfl rfl (S'.dec hd)
  exact own_F.of stp (f T' h' ⟨G, _, X', Fr.snoc X' N (S'.may ok), e', K.wr Wt ok⟩ Wt (F'.set Wt))
theorem own_bst (S : own_S Z hs W own bytes maxL ret nm p l e R s m args below meth c T h cells slots) (F : own_A Z h a .byte vs) (h0 : ¬ j < 0) (hv : j.toNatClampNeg < vs.length) (hd : decode bytes pc = .ok (.bastore, 1)) (ok : a ∈ W ∨ hs.size ≤ a)
    (f : ∀ T' h', own_S Z hs W own bytes maxL ret nm p l e R s m args below meth c T' h' cells slots → Wr h h' a j.toNatClampNeg (.int (nar .byte x)) → own_A Z h' a .byte (vs.set j.toNatClampNeg (.int (nar .byte x))) → own_F p e below s Z hs W k n Q (T'.setTop (mkF m (pc + 1) Ls rest))) : own_F p e below s Z hs W k n Q (T.setTop (mkF m pc Ls (.int x :: .int j :: .ref a :: rest))) := by
  have S' := S; have F' := F
  obtain ⟨G, locs, X, N, e0, K⟩ := S
  obtain ⟨cl, A, r1, r2⟩ := F
  obtain ⟨T', h', X', e', Wt, stp⟩ := stB X S'.hx S'.hZ e0 A (own_A.inb r1 h0 hv) (g := mkF m pc Ls (.int x :: .int j :: .ref a :: rest)) rfl rfl (S'.dec hd)
  exact own_F.of stp (f T' h' ⟨G, _, X', Fr.snoc X' N (S'.may ok), e', K.wr Wt ok⟩ Wt (F'.set Wt))
theorem own_zst (S : own_S Z hs W own bytes maxL ret nm p l e R s m args below meth c T h cells slots) (F : own_A Z h a .boolean vs) (h0 : ¬ j < 0) (hv : j.toNatClampNeg < vs.length) (hd : decode bytes pc = .ok (.bastore, 1)) (ok : a ∈ W ∨ hs.size ≤ a)
    (f : ∀ T' h', own_S Z hs W own bytes maxL ret nm p l e R s m args below meth c T' h' cells slots → Wr h h' a j.toNatClampNeg (.int (nar .boolean x)) → own_A Z h' a .boolean (vs.set j.toNatClampNeg (.int (nar .boolean x))) → own_F p e below s Z hs W k n Q (T'.setTop (mkF m (pc + 1) Ls rest))) : own_F p e below s Z hs W k n Q (T.setTop (mkF m pc Ls (.int x :: .int j :: .ref a :: rest))) := by
  have S' := S; have F' := F
  obtain ⟨G, locs, X, N, e0, K⟩ := S
  obtain ⟨cl, A, r1, r2⟩ := F
  obtain ⟨T', h', X', e', Wt, stp⟩ := stZ X S'.hx S'.hZ e0 A (own_A.inb r1 h0 hv) (g := mkF m pc Ls (.int x :: .int j :: .ref a :: rest)) rfl rfl (S'.dec hd)
  exact own_F.of stp (f T' h' ⟨G, _, X', Fr.snoc X' N (S'.may ok), e', K.wr Wt ok⟩ Wt (F'.set Wt))
theorem own_newP (S : own_S Z hs W own bytes maxL ret nm p l e R s m args below meth c T h cells slots) {aty : ArrayType} {z : Int32} (w : (Jvm.Cond.arrayClass (newarray.typeOf aty)).before a0 Z = true) (hd : decode bytes pc = .ok (.newarray aty, 2)) (hz : ¬ z < 0) {cap : Nat} (hcap : z.toNatClampNeg ≤ cap) (hb : cap * 8 ≤ 536870912) (hc : cells + 1 ≤ R.cells) (hl : slots + cap ≤ R.slots)
    (f : ∀ T' h' a, a = h.size → own_S Z hs W own bytes maxL ret nm p l e R s m args below meth c T' h' (cells + 1) (slots + cap) → Ext h h' → own_A Z h' a (newarray.typeOf aty) (List.replicate z.toNatClampNeg (defaultValue (newarray.typeOf aty))) → own_F p e below s Z hs W k n Q (T'.setTop (mkF m (pc + 2) Ls (.ref a :: rest)))) : own_F p e below s Z hs W k n Q (T.setTop (mkF m pc Ls (.int z :: rest))) := by
  have S' := S
  obtain ⟨G, locs, X, N, e0, K⟩ := S
  obtain ⟨T', h', cA, X', e', E, A, stp⟩ := newP X S'.hx S'.hZ w e0 (g := mkF m pc Ls (.int z :: rest)) rfl (S'.dec hd) rfl hz hcap hb hc hl
  refine own_F.of stp (f T' h' _ rfl ⟨G, _, X', N, e', K.ext E⟩ E ⟨_, A, by simp [newA], ?_⟩)
  have := (back32 hz).2
  simpa using this
/-- an array that stands at the start -/
theorem own_A.start {t : Term} {z : Int32} (ev : t.eval a0 Z none [] Z = some (.ref a)) (hx : (Jvm.Cond.arrayOf t ty).value a0 Z none Z [] = some true) (hl : (Jvm.Cond.eq (.length t) (.int z)).value a0 Z none Z [] = some true) : ∃ cl : Cell, Arr Z Z.heap a cl ty ∧ cl.slots.size < 2 ^ 31 ∧ cl.slots.size.toInt32 = z ∧ Z.arrayAt? a = some cl := by
  obtain ⟨cl, A⟩ := Arr.start ev hx
  have q := A.fin (Vm.Alike.refl _)
  refine ⟨cl, A, ?_, ?_, q⟩
  all_goals
    obtain ⟨u, w, h1, h2, -⟩ := cmp_v (Or.inl hl)
    have h1' : (if cl.slots.size < 2 ^ 31 then some (Value.int cl.slots.size.toInt32) else none) = some u := by simpa [Term.eval, ev, q] using h1
    by_cases g : cl.slots.size < 2 ^ 31
    · first
        | exact g
        | (have e1 : u = .int cl.slots.size.toInt32 := by simpa [g] using h1'.symm
           have e2 : w = .int z := by simpa [Term.eval] using h2.symm
           subst e1 e2
           exact gotT (Cond.eq_ints h1 h2) hl)
    · simp [g] at h1'
end OwnArrays
/-! OWN: arrays of int[] -/
section OwnRows
variable {Z : State} {hs : Heap} {W : List Addr} {own : String} {bytes : ByteArray} {maxL : Nat} {ret : Option FieldType} {nm : String}
  {p : Program} {l : Launch} {e : Env} {R : Room} {s : State} {m : MethodId} {args : Array Value} {below : List Frame} {meth : Method} {c : Code}
  {T : State} {h h' : Heap} {cells slots : Nat} {k n : Nat} {Q : Option Value → Heap → Prop} {a0 : Array Value} {pc : Nat} {Ls : Array Slot} {st rest : List Value} {a b : Addr} {vs : List Value} {v : Value} {index : Nat} {z j : Int32}
def own_RA (Z : State) (h : Heap) (a : Addr) (vs : List Value) : Prop := ∃ cl : Cell, Arr Z h a cl (.array .int) ∧ OvrA Z cl.cls .int "[I" ∧ cl.slots.toList = vs ∧ vs.length < 2 ^ 31 ∧ ∀ v ∈ vs, v.isRef = true
theorem own_RA.A (F : own_RA Z h a vs) : own_A Z h a (.array .int) vs := by obtain ⟨cl, A, -, r1, r2, -⟩ := F; exact ⟨cl, A, r1, r2⟩
theorem own_RA.lt (F : own_RA Z h a vs) : a < h.size := F.A.lt
theorem own_RA.ext (F : own_RA Z h a vs) (E : Ext h h') : own_RA Z h' a vs := by obtain ⟨cl, A, O, r⟩ := F; exact ⟨cl, A.ext E, O, r⟩
theorem own_RA.other {sl : Nat} {w : Value} (F : own_RA Z h b vs) (Wt : Wr h h' a sl w) (q : b ≠ a) : own_RA Z h' b vs := by obtain ⟨cl, A, O, r⟩ := F; exact ⟨cl, A.other Wt q, O, r⟩
theorem own_RA.keep {ws : List Addr} (F : own_RA Z h a vs) (K : Keep h h' ws) (q : a ∉ ws) : own_RA Z h' a vs := by obtain ⟨cl, A, O, r⟩ := F; exact ⟨cl, ⟨K.2.1 a cl A.1 q, A.2⟩, O, r⟩
theorem own_RA.set {i : Nat} (F : own_RA Z h a vs) (Wt : Wr h h' a i v) (hv : v.isRef = true) : own_RA Z h' a (vs.set i v) := by
  obtain ⟨cl', A', r1', r2'⟩ := F.A.set Wt
  obtain ⟨cl, A, O, r1, r2, r3⟩ := F
  obtain ⟨c0, e1, -, -, rfl⟩ := Wt
  cases A.1.symm.trans e1
  have e3 := A'.1
  have hlt : a < h.size := A.lt
  simp [Array.getElem?_setIfInBounds, hlt] at e3
  exact ⟨cl', A', by rw [← e3]; exact O, r1', r2', fun u hu => (List.mem_or_eq_of_mem_set hu).elim (r3 _) (fun q => q ▸ hv)⟩
/-- two arrays of different kinds are two -/
theorem own_A.neT {t t' : FieldType} {us : List Value} (F : own_A Z h a t vs) (G : own_A Z h b t' us) (q : t ≠ t') : a ≠ b := by
  rintro rfl
  obtain ⟨cl, A, -⟩ := F; obtain ⟨cl', A', -⟩ := G
  cases A.1.symm.trans A'.1
  obtain ⟨-, ⟨-, k1, e1, c1, e2⟩, -⟩ := A; obtain ⟨-, ⟨-, k2, e3, c2, e4⟩, -⟩ := A'
  cases e1.symm.trans e3
  rw [e2] at e4; cases e4; exact q rfl
theorem own_newPE (S : own_S Z hs W own bytes maxL ret nm p l e R s m args below meth c T h cells slots) {aty : ArrayType} {z : Int32} (w : (Jvm.Cond.arrayClass (newarray.typeOf aty)).before a0 Z = true) (hd : decode bytes pc = .ok (.newarray aty, 2)) (hz : ¬ z < 0) {cap : Nat} (hcap : z.toNatClampNeg ≤ cap) (hb : cap * 8 ≤ 536870912) (hc : cells + 1 ≤ R.cells) (hl : slots + cap ≤ R.slots) {ad : String} (had : "[" ++ (newarray.typeOf aty).toString = ad)
    (f : ∀ T' h' a, a = h.size → own_S Z hs W own bytes maxL ret nm p l e R s m args below meth c T' h' (cells + 1) (slots + cap) → Ext h h' → Exa Z h' a ad → own_A Z h' a (newarray.typeOf aty) (List.replicate z.toNatClampNeg (defaultValue (newarray.typeOf aty))) → own_F p e below s Z hs W k n Q (T'.setTop (mkF m (pc + 2) Ls (.ref a :: rest)))) : own_F p e below s Z hs W k n Q (T.setTop (mkF m pc Ls (.int z :: rest))) := by
  have S' := S
  obtain ⟨G, locs, X, N, e0, K⟩ := S
  obtain ⟨T', h', cA, X', e', E, A, Ex, stp⟩ := newPE X S'.hx S'.hZ w e0 (g := mkF m pc Ls (.int z :: rest)) rfl (S'.dec hd) rfl hz hcap hb hc hl had
  refine own_F.of stp (f T' h' _ rfl ⟨G, _, X', N, e', K.ext E⟩ E Ex ⟨_, A, by simp [newA], ?_⟩)
  have := (back32 hz).2
  simpa using this
theorem own_anewI (S : own_S Z hs W own bytes maxL ret nm p l e R s m args below meth c T h cells slots) (w1 : (Jvm.Cond.classLink own index "[I").before a0 Z = true) (w2 : (Jvm.Cond.arrayOver (.array .int)).before a0 Z = true) (hd : decode bytes pc = .ok (.anewarray index, 3)) (hz : ¬ z < 0) {cap : Nat} (hcap : z.toNatClampNeg ≤ cap) (hb : cap * 8 ≤ 536870912) (hc : cells + 1 ≤ R.cells) (hl : slots + cap ≤ R.slots)
    (f : ∀ T' h' a, a = h.size → own_S Z hs W own bytes maxL ret nm p l e R s m args below meth c T' h' (cells + 1) (slots + cap) → Ext h h' → own_RA Z h' a (List.replicate z.toNatClampNeg .null) → own_F p e below s Z hs W k n Q (T'.setTop (mkF m (pc + 3) Ls (.ref a :: rest)))) : own_F p e below s Z hs W k n Q (T.setTop (mkF m pc Ls (.int z :: rest))) := by
  have S' := S
  obtain ⟨G, locs, X, N, e0, K⟩ := S
  obtain ⟨T', h', cA, X', e', E, A, Ex, O, stp⟩ := newRA X S'.hx S'.hZ (C := "[I") (ty := .int) S'.hown rfl w1 w2 e0 (g := mkF m pc Ls (.int z :: rest)) rfl (S'.dec hd) rfl hz hcap hb hc hl (ad := "[[I") rfl
  refine own_F.of stp (f T' h' _ rfl ⟨G, _, X', N, e', K.ext E⟩ E ⟨_, A, O, by simp [newA, defaultValue], ?_, fun u hu => ?_⟩)
  · have := (back32 hz).2
    simpa using this
  · rw [List.eq_of_mem_replicate hu]; rfl
theorem own_aastI (S : own_S Z hs W own bytes maxL ret nm p l e R s m args below meth c T h cells slots) (F : own_RA Z h a vs) (h0 : ¬ j < 0) (hv : j.toNatClampNeg < vs.length) (wc : (Jvm.Cond.castable "[I" "[I").before a0 Z = true) (I : Exa Z h b "[I") (hd : decode bytes pc = .ok (.aastore, 1)) (ok : a ∈ W ∨ hs.size ≤ a)
    (f : ∀ T' h', own_S Z hs W own bytes maxL ret nm p l e R s m args below meth c T' h' cells slots → Wr h h' a j.toNatClampNeg (.ref b) → own_RA Z h' a (vs.set j.toNatClampNeg (.ref b)) → own_F p e below s Z hs W k n Q (T'.setTop (mkF m (pc + 1) Ls rest))) : own_F p e below s Z hs W k n Q (T.setTop (mkF m pc Ls (.ref b :: .int j :: .ref a :: rest))) := by
  have S' := S; have F' := F
  obtain ⟨G, locs, X, N, e0, K⟩ := S
  obtain ⟨cl, A, O, r1, r2, r3⟩ := F
  obtain ⟨T', h', X', e', Wt, stp⟩ := stR X S'.hx S'.hZ e0 A (own_A.inb r1 h0 hv) rfl (Sto.ofVA A rfl O (Ins.of_exa I wc)) (g := mkF m pc Ls (.ref b :: .int j :: .ref a :: rest)) rfl rfl (S'.dec hd)
  exact own_F.of stp (f T' h' ⟨G, _, X', Fr.snoc X' N (S'.may ok), e', K.wr Wt ok⟩ Wt (F'.set Wt rfl))
end OwnRows
/-! OWN: RadixHeap's state: b n: the bucket of node n; p n: its place there; C k: what bucket k's array holds -/
def own_news (Z : State) (h : Heap) : List Addr := (List.range (h.size - Z.heap.size)).map (· + Z.heap.size)
theorem own_news_le {Z : State} {h : Heap} : ∀ a ∈ own_news Z h, Z.heap.size ≤ a := fun a ha => by
  obtain ⟨i, -, rfl⟩ := List.mem_map.mp ha
  exact Nat.le_add_left _ _
theorem own_news_may {Z : State} {h : Heap} {a : Addr} (q : Z.heap.size ≤ a) : a ∈ own_news Z h ∨ h.size ≤ a := by
  rcases Nat.lt_or_ge a h.size with r | r
  · exact Or.inl (List.mem_map.mpr ⟨a - Z.heap.size, List.mem_range.mpr (by omega), Nat.sub_add_cancel q⟩)
  · exact Or.inr r
theorem own_news_sub {Z : State} {h h' : Heap} : ∀ a ∈ own_news Z h', a ∈ own_news Z h ∨ h.size ≤ a := fun a ha => own_news_may (own_news_le a ha)
def own_up {α : Type} (f : Nat → α) (n : Nat) (x : α) : Nat → α := fun j => if j = n then x else f j
def own_enc : Option Nat → Int32
  | none => -1
  | some k => k.toInt32
def own_hm (b : Nat → Option Nat) (k : Nat) : Nat := (if b 0 = some k then 1 else 0) + (if b 1 = some k then 1 else 0) + (if b 2 = some k then 1 else 0)
def own_szL (b : Nat → Option Nat) : List Value := (List.range 64).map fun k => .int (own_hm b k).toInt32
theorem own_hm_le (b : Nat → Option Nat) (k : Nat) : own_hm b k ≤ 3 := by unfold own_hm; split <;> split <;> split <;> omega
theorem own_hm_le2 {b : Nat → Option Nat} {n : Nat} (hn : n < 3) (h : b n = none) (k : Nat) : own_hm b k ≤ 2 := by
  unfold own_hm
  match n, hn with
  | 0, _ => rw [h]; simp; split <;> split <;> omega
  | 1, _ => rw [h]; simp; split <;> split <;> omega
  | 2, _ => rw [h]; simp; split <;> split <;> omega
theorem own_hm_up {b : Nat → Option Nat} {n : Nat} (hn : n < 3) (h : b n = none) (k j : Nat) : own_hm (own_up b n (some k)) j = own_hm b j + (if j = k then 1 else 0) := by
  have u0 : ∀ x : Option Nat, own_up b n x 0 = if 0 = n then x else b 0 := fun _ => rfl
  have u1 : ∀ x : Option Nat, own_up b n x 1 = if 1 = n then x else b 1 := fun _ => rfl
  have u2 : ∀ x : Option Nat, own_up b n x 2 = if 2 = n then x else b 2 := fun _ => rfl
  unfold own_hm
  rw [u0, u1, u2]
  by_cases hj : j = k
  · subst hj
    match n, hn with
    | 0, _ => simp [h]; omega
    | 1, _ => simp [h]; omega
    | 2, _ => simp [h]
  · have e : ¬ k = j := fun z => hj z.symm
    match n, hn with
    | 0, _ => simp [h, e, hj]
    | 1, _ => simp [h, e, hj]
    | 2, _ => simp [h, e, hj]
theorem own_small {n : Nat} (h : n ≤ 16) : n.toInt32.toNatClampNeg = n ∧ ¬ n.toInt32 < 0 ∧ n.toInt32.toInt = n := by
  have e : n.toInt32.toInt = n := by
    show (Int32.ofNat n).toInt = n
    exact Int32.toInt_ofNat_of_lt (by omega)
  refine ⟨by simpa using Int32.toNatClampNeg_ofNat_of_lt (n := n) (by omega), ?_, e⟩
  rw [Int32.lt_iff_toInt_lt, e]
  have e0 : (0 : Int32).toInt = 0 := rfl
  omega
theorem own_64 {n : Nat} (h : n < 64) : n.toInt32.toNatClampNeg = n ∧ ¬ n.toInt32 < 0 ∧ n.toInt32.toInt = n := by
  have e : n.toInt32.toInt = n := by
    show (Int32.ofNat n).toInt = n
    exact Int32.toInt_ofNat_of_lt (by omega)
  refine ⟨by simpa using Int32.toNatClampNeg_ofNat_of_lt (n := n) (by omega), ?_, e⟩
  rw [Int32.lt_iff_toInt_lt, e]
  have e0 : (0 : Int32).toInt = 0 := rfl
  omega
theorem own_suc {n : Nat} (h : n ≤ 16) : n.toInt32 + 1 = (n + 1).toInt32 := by
  have a := (own_small h).2.2
  have b : (n + 1).toInt32.toInt = (n + 1 : Nat) := by show (Int32.ofNat (n + 1)).toInt = _; exact Int32.toInt_ofNat_of_lt (by omega)
  have c := c_iadd n.toInt32 1
  have r := rng32 (n.toInt32 + 1)
  have e1 : (1 : Int32).toInt = 1 := rfl
  apply Int32.toInt_inj.mp
  rw [b]; omega
theorem own_pre {n : Nat} (h : n ≤ 16) : (n + 1).toInt32 - 1 = n.toInt32 := by rw [← own_suc h]; exact Int32.add_sub_cancel _ _
theorem own_szat (b : Nat → Option Nat) {k : Nat} (hk : k < 64) : (own_szL b)[k]? = some (.int (own_hm b k).toInt32) := by simp [own_szL, hk]
theorem own_szlen (b : Nat → Option Nat) : (own_szL b).length = 64 := by simp [own_szL]
theorem own_szset {b b' : Nat → Option Nat} {k : Nat} {x : Int32} (hx : x = (own_hm b' k).toInt32) (h : ∀ j, j < 64 → j ≠ k → own_hm b' j = own_hm b j) : (own_szL b).set k (.int x) = own_szL b' := by
  apply List.ext_getElem?
  intro i
  rw [List.getElem?_set]
  by_cases hi : i < 64
  · split
    · next q => subst q; rw [own_szlen, if_pos hi, own_szat b' hi, hx]
    · next q => rw [own_szat b hi, own_szat b' hi, h i hi (fun r => q r.symm)]
  · have n1 : (own_szL b')[i]? = none := List.getElem?_eq_none (by rw [own_szlen]; omega)
    have n2 : (own_szL b)[i]? = none := List.getElem?_eq_none (by rw [own_szlen]; omega)
    rw [n1, n2]; split
    · rw [own_szlen, if_neg (by omega)]
    · rfl
/-- the buckets' arrays -/
def own_BK (Z : State) (h : Heap) (aS aO aP : Addr) (bk : List Value) (C : Nat → List Value) : Prop :=
  bk.length = 64 ∧ (∀ (k : Nat) (r : Addr), bk[k]? = some (.ref r) → own_A Z h r .int (C k) ∧ (C k).length = 16 ∧ Z.heap.size ≤ r ∧ r ≠ aS ∧ r ≠ aO ∧ r ≠ aP) ∧ ∀ (j k : Nat) (r : Addr), bk[j]? = some (.ref r) → bk[k]? = some (.ref r) → j = k
section OwnBK
variable {Z : State} {h h' : Heap} {aS aO aP : Addr} {bk : List Value} {C : Nat → List Value} {sl : Nat} {w : Value} {x : Addr}
theorem own_BK.ext (F : own_BK Z h aS aO aP bk C) (E : Ext h h') : own_BK Z h' aS aO aP bk C :=
  ⟨F.1, fun k r q => ⟨(F.2.1 k r q).1.ext E, (F.2.1 k r q).2⟩, F.2.2⟩
theorem own_BK.oth (F : own_BK Z h aS aO aP bk C) (Wt : Wr h h' x sl w) (q : ∀ (k : Nat) (r : Addr), bk[k]? = some (.ref r) → r ≠ x) : own_BK Z h' aS aO aP bk C :=
  ⟨F.1, fun k r e => ⟨(F.2.1 k r e).1.other Wt (q k r e), (F.2.1 k r e).2⟩, F.2.2⟩
theorem own_BK.oS (F : own_BK Z h aS aO aP bk C) (Wt : Wr h h' aS sl w) : own_BK Z h' aS aO aP bk C := F.oth Wt fun k r e => (F.2.1 k r e).2.2.2.1
theorem own_BK.oO (F : own_BK Z h aS aO aP bk C) (Wt : Wr h h' aO sl w) : own_BK Z h' aS aO aP bk C := F.oth Wt fun k r e => (F.2.1 k r e).2.2.2.2.1
theorem own_BK.oP (F : own_BK Z h aS aO aP bk C) (Wt : Wr h h' aP sl w) : own_BK Z h' aS aO aP bk C := F.oth Wt fun k r e => (F.2.1 k r e).2.2.2.2.2
theorem own_BK.oB {us : List Value} (F : own_BK Z h aS aO aP bk C) (G : own_RA Z h x us) (Wt : Wr h h' x sl w) : own_BK Z h' aS aO aP bk C := F.oth Wt fun k r e => (F.2.1 k r e).1.neT G.A (by decide)
theorem own_BK.oA {K : String} {i : Nat} {a0 : Array Value} (F : own_BK Z h aS aO aP bk C) (E : Exa Z h x K) (wi : (Jvm.Cond.instantiable K i).before a0 Z = true) (Wt : Wr h h' x sl w) : own_BK Z h' aS aO aP bk C :=
  F.oth Wt fun k r e => Ne.symm (by obtain ⟨⟨cl, Ar, -⟩, -⟩ := F.2.1 k r e; exact ne_arr E wi Ar)
theorem own_BK.put {k : Nat} {r : Addr} (F : own_BK Z h aS aO aP bk C) (e : bk[k]? = some (.ref r)) (Wt : Wr h h' r sl w) : own_BK Z h' aS aO aP bk (own_up C k ((C k).set sl w)) := by
  refine ⟨F.1, fun j t q => ?_, F.2.2⟩
  obtain ⟨h1, h2, h3⟩ := F.2.1 j t q
  unfold own_up
  by_cases hj : j = k
  · subst hj; cases q.symm.trans e; rw [if_pos rfl]; exact ⟨h1.set Wt, by rw [List.length_set]; exact h2, h3⟩
  · rw [if_neg hj]; exact ⟨h1.other Wt (fun z => hj (F.2.2 j k r (z ▸ q) e)), h2, h3⟩
theorem own_BK.new {k : Nat} {r aB : Addr} {us : List Value} (F : own_BK Z h aS aO aP bk C) (hk : k < 64) (A : own_A Z h r .int us) (hl : us.length = 16) (hZ : Z.heap.size ≤ r) (n1 : r ≠ aS) (n2 : r ≠ aO) (n3 : r ≠ aP) (nw : ∀ (j : Nat) (t : Addr), bk[j]? = some (.ref t) → t ≠ r) (G : own_RA Z h aB bk) (Wt : Wr h h' aB sl w) : own_BK Z h' aS aO aP (bk.set k (.ref r)) (own_up C k us) := by
  have F' := F.oB G Wt
  have A' : own_A Z h' r .int us := A.other Wt (A.neT G.A (by decide))
  refine ⟨by rw [List.length_set]; exact F.1, fun j t q => ?_, fun i j t q1 q2 => ?_⟩
  · rw [List.getElem?_set] at q
    unfold own_up
    by_cases hj : k = j
    · subst hj; rw [if_pos rfl, F.1, if_pos hk] at q; cases q; rw [if_pos rfl]; exact ⟨A', hl, hZ, n1, n2, n3⟩
    · rw [if_neg hj] at q; rw [if_neg (fun z => hj z.symm)]; exact F'.2.1 j t q
  · rw [List.getElem?_set] at q1 q2
    by_cases hi : k = i <;> by_cases hj : k = j
    · exact hi.symm.trans hj
    · rw [if_neg hj] at q2; subst hi; rw [if_pos rfl, F.1, if_pos hk] at q1; cases q1; exact absurd rfl (nw j _ q2)
    · rw [if_neg hi] at q1; subst hj; rw [if_pos rfl, F.1, if_pos hk] at q2; cases q2; exact absurd rfl (nw i _ q1)
    · rw [if_neg hi] at q1; rw [if_neg hj] at q2; exact F.2.2 i j t q1 q2
theorem own_BK.at (F : own_BK Z h aS aO aP bk C) {aB : Addr} (G : own_RA Z h aB bk) {k : Nat} (hk : k < 64) : bk[k]? = some .null ∨ ∃ r : Addr, bk[k]? = some (.ref r) := by
  have hl : k < bk.length := by rw [F.1]; exact hk
  obtain ⟨cl, -, -, -, -, g⟩ := G
  have e := List.getElem?_eq_getElem hl
  have := g _ (List.getElem_mem hl)
  cases hv : bk[k] <;> rw [hv] at this <;> simp [Value.isRef] at this
  · left; rw [e, hv]
  · right; exact ⟨_, by rw [e, hv]⟩
end OwnBK
/-- the nodes stand where b and p say -/
def own_AB (b : Nat → Option Nat) (p : Nat → Nat) (bk : List Value) (C : Nat → List Value) : Prop :=
  (∀ n k, n < 3 → b n = some k → k < 64 ∧ p n < own_hm b k ∧ (∃ r : Addr, bk[k]? = some (.ref r)) ∧ (C k)[p n]? = some (.int n.toInt32)) ∧ ∀ n m k, n < 3 → m < 3 → n ≠ m → b n = some k → b m = some k → p n ≠ p m
theorem own_AB.file {b : Nat → Option Nat} {p : Nat → Nat} {bk : List Value} {C : Nat → List Value} {n k : Nat} {r : Addr} (F : own_AB b p bk C) (hn : n < 3) (hb : b n = none) (hk : k < 64) (hr : bk[k]? = some (.ref r)) (hl : (C k).length = 16) :
    own_AB (own_up b n (some k)) (own_up p n (own_hm b k)) bk (own_up C k ((C k).set (own_hm b k) (.int n.toInt32))) := by
  have c2 := own_hm_le2 hn hb k
  constructor
  · intro m j hm e
    by_cases q : m = n
    · subst q
      have e1 : k = j := by simpa [own_up] using e
      subst e1
      have ep : own_up p m (own_hm b k) m = own_hm b k := by simp [own_up]
      refine ⟨hk, by rw [ep, own_hm_up hn hb]; simp, ⟨r, hr⟩, ?_⟩
      rw [ep]; simp [own_up, List.getElem?_set, hl]; omega
    · have e' : b m = some j := by simpa [own_up, q] using e
      obtain ⟨h1, h2, h3, h4⟩ := F.1 m j hm e'
      have ep : own_up p n (own_hm b k) m = p m := by simp [own_up, q]
      refine ⟨h1, by rw [ep, own_hm_up hn hb]; omega, h3, ?_⟩
      rw [ep]; unfold own_up
      split
      · next z => subst z; rw [List.getElem?_set_ne (by omega)]; exact h4
      · exact h4
  · intro m m' j hm hm' hne e e'
    by_cases q : m = n <;> by_cases q' : m' = n
    · exact absurd (q.trans q'.symm) hne
    · subst q
      have ek : k = j := by simpa [own_up] using e
      subst ek
      have e2 : b m' = some k := by simpa [own_up, q'] using e'
      have := (F.1 m' k hm' e2).2.1
      simp [own_up, q']; omega
    · subst q'
      have ek : k = j := by simpa [own_up] using e'
      subst ek
      have e2 : b m = some k := by simpa [own_up, q] using e
      have := (F.1 m k hm e2).2.1
      simp [own_up, q]; omega
    · have e1 : b m = some j := by simpa [own_up, q] using e
      have e2 : b m' = some j := by simpa [own_up, q'] using e'
      simpa [own_up, q, q'] using F.2 m m' j hm hm' hne e1 e2
/-- the heap object, its arrays and the law's own array, as they stand -/
def own_RH (Z : State) (h : Heap) (a aB aS aK aO aP aI : Addr) (bk : List Value) (C : Nat → List Value) (b : Nat → Option Nat) (la : Int64) (ct o0 o1 o2 q0 q1 q2 : Int32) (k0 k1 k2 : Int64) (i0 i1 i2 : Int32) : Prop :=
  (Z.heap.size ≤ a ∧ Z.heap.size ≤ aB ∧ Z.heap.size ≤ aS ∧ Z.heap.size ≤ aO ∧ Z.heap.size ≤ aP ∧ Z.heap.size ≤ aI) ∧ (aS ≠ aO ∧ aS ≠ aP ∧ aO ≠ aP) ∧
  Exa Z h a "com/example/slackweave/slackweave/paths/RadixHeap" ∧ Fld Z h a "com/example/slackweave/slackweave/paths/RadixHeap" "buckets" "[[I" (.ref aB) ∧ Fld Z h a "com/example/slackweave/slackweave/paths/RadixHeap" "sizes" "[I" (.ref aS) ∧
  Fld Z h a "com/example/slackweave/slackweave/paths/RadixHeap" "keys" "[J" (.ref aK) ∧ Fld Z h a "com/example/slackweave/slackweave/paths/RadixHeap" "bucketOf" "[I" (.ref aO) ∧ Fld Z h a "com/example/slackweave/slackweave/paths/RadixHeap" "positions" "[I" (.ref aP) ∧
  Fld Z h a "com/example/slackweave/slackweave/paths/RadixHeap" "last" "J" (.long la) ∧ Fld Z h a "com/example/slackweave/slackweave/paths/RadixHeap" "count" "I" (.int ct) ∧
  own_RA Z h aB bk ∧ own_A Z h aS .int (own_szL b) ∧ own_A Z h aK .long [.long k0, .long k1, .long k2] ∧ own_A Z h aO .int [.int o0, .int o1, .int o2] ∧ own_A Z h aP .int [.int q0, .int q1, .int q2] ∧ own_A Z h aI .boolean [.int i0, .int i1, .int i2] ∧ own_BK Z h aS aO aP bk C
theorem own_k64 {x : Int32} (h0 : ¬ x < 0) (h1 : x < 64) : ∃ k : Nat, k < 64 ∧ x = k.toInt32 := by
  have e := nat_of h0
  rw [Int32.lt_iff_toInt_lt] at h1
  have e64 : (64 : Int32).toInt = 64 := rfl
  exact ⟨x.toNatClampNeg, by omega, (back32 h0).1.symm⟩
theorem own_64r {r : Int32} (h : 1 ≤ r.toInt ∧ r.toInt ≤ 64) : ¬ (64 : Int32) - r < 0 ∧ (64 : Int32) - r < 64 := by
  have a := c_isub 64 r
  have b := rng32 ((64 : Int32) - r)
  have e : (64 : Int32).toInt = 64 := rfl
  have e0 : (0 : Int32).toInt = 0 := rfl
  rw [Int32.lt_iff_toInt_lt, Int32.lt_iff_toInt_lt]
  omega
theorem own_xor0 {x y : Int64} (h1 : ¬ x < 0) (h2 : ¬ y < 0) : ¬ x ^^^ y < 0 := by
  have e0 : (0 : Int64).toInt = 0 := rfl
  rw [Int64.lt_iff_toInt_lt] at *
  have := (c_xorSL x y).2.2.2
  omega
theorem own_ne16 {n : Nat} {us : List Value} (h : n ≤ 2) (hl : us.length = 16) (q : n.toInt32 = us.length.toInt32) : False := by
  rw [hl] at q
  have a := (own_small (n := n) (by omega)).2.2
  rw [q] at a
  have e : (16 : Nat).toInt32.toInt = 16 := rfl
  omega
theorem own_szfile {Z : State} {h : Heap} {aS : Addr} {b : Nat → Option Nat} {n k : Nat} (hn : n < 3) (hb : b n = none) (hk : k < 64) (A : own_A Z h aS .int ((own_szL b).set k.toInt32.toNatClampNeg (.int ((own_hm b k).toInt32 + 1)))) : own_A Z h aS .int (own_szL (own_up b n (some k))) := by
  rw [(own_64 hk).1, own_szset (b' := own_up b n (some k)) ?_ ?_] at A
  · exact A
  · rw [own_suc (by have := own_hm_le b k; omega), own_hm_up hn hb]; simp
  · intro j _ hj; rw [own_hm_up hn hb, if_neg hj]; rfl
theorem own_AB.fresh {b : Nat → Option Nat} {p : Nat → Nat} {bk us : List Value} {C : Nat → List Value} {k : Nat} {r : Addr} (F : own_AB b p bk C) (hv : bk[k]? = some .null) : own_AB b p (bk.set k (.ref r)) (own_up C k us) := by
  refine ⟨fun n j hn e => ?_, F.2⟩
  obtain ⟨h1, h2, ⟨t, h3⟩, h4⟩ := F.1 n j hn e
  have q : k ≠ j := fun z => by subst z; rw [hv] at h3; cases h3
  exact ⟨h1, h2, ⟨t, by rw [List.getElem?_set_ne q]; exact h3⟩, by rw [show own_up C k us j = C j from if_neg (fun z => q z.symm)]; exact h4⟩
theorem own_lwgt (x y : Int64) : 0 < lcmpW x y ↔ y < x := by rw [lw_gt]
theorem own_hm_pos {b : Nat → Option Nat} {n k : Nat} (hn : n < 3) (h : b n = some k) : 1 ≤ own_hm b k := by
  unfold own_hm
  match n, hn with
  | 0, _ => simp [h]; omega
  | 1, _ => simp [h]; omega
  | 2, _ => simp [h]
theorem own_hm_rem {b : Nat → Option Nat} {n k : Nat} (hn : n < 3) (h : b n = some k) (j : Nat) : own_hm (own_up b n none) j + (if j = k then 1 else 0) = own_hm b j := by
  have u0 : ∀ x : Option Nat, own_up b n x 0 = if 0 = n then x else b 0 := fun _ => rfl
  have u1 : ∀ x : Option Nat, own_up b n x 1 = if 1 = n then x else b 1 := fun _ => rfl
  have u2 : ∀ x : Option Nat, own_up b n x 2 = if 2 = n then x else b 2 := fun _ => rfl
  unfold own_hm
  rw [u0, u1, u2]
  by_cases hj : j = k
  · subst hj
    match n, hn with
    | 0, _ => simp [h]; omega
    | 1, _ => simp [h]; omega
    | 2, _ => simp [h]
  · have e : ¬ k = j := fun z => hj z.symm
    match n, hn with
    | 0, _ => simp [h, e, hj]
    | 1, _ => simp [h, e, hj]
    | 2, _ => simp [h, e, hj]
theorem own_szrem {Z : State} {h : Heap} {aS : Addr} {b : Nat → Option Nat} {n k c : Nat} (hn : n < 3) (hb : b n = some k) (hk : k < 64) (hc : own_hm b k = c + 1) (A : own_A Z h aS .int ((own_szL b).set k.toInt32.toNatClampNeg (.int c.toInt32))) : own_A Z h aS .int (own_szL (own_up b n none)) := by
  rw [(own_64 hk).1, own_szset (b' := own_up b n none) ?_ ?_] at A
  · exact A
  · have := own_hm_rem hn hb k; rw [if_pos rfl] at this; rw [show own_hm (own_up b n none) k = c by omega]
  · intro j _ hj; have := own_hm_rem hn hb j; rw [if_neg hj] at this; omega
/-- the last place of a bucket is some node's -/
theorem own_last {b : Nat → Option Nat} {p : Nat → Nat} {bk : List Value} {C : Nat → List Value} {k c : Nat} (F : own_AB b p bk C) (hc : own_hm b k = c + 1) : ∃ m, m < 3 ∧ b m = some k ∧ p m = c := by
  have f : ∀ n, n < 3 → b n = some k → p n < c + 1 := fun n hn e => hc ▸ (F.1 n k hn e).2.1
  have d : ∀ n m, n < 3 → m < 3 → n ≠ m → b n = some k → b m = some k → p n ≠ p m := fun n m h1 h2 h3 => F.2 n m k h1 h2 h3
  have d01 := d 0 1 (by decide) (by decide) (by decide)
  have d02 := d 0 2 (by decide) (by decide) (by decide)
  have d12 := d 1 2 (by decide) (by decide) (by decide)
  have f0 := f 0 (by decide); have f1 := f 1 (by decide); have f2 := f 2 (by decide)
  unfold own_hm at hc
  by_cases e0 : b 0 = some k <;> by_cases e1 : b 1 = some k <;> by_cases e2 : b 2 = some k <;> simp [e0, e1, e2] at hc
  all_goals
    first
    | (have q0 := f0 e0; have q1 := f1 e1; have q2 := f2 e2; have r1 := d01 e0 e1; have r2 := d02 e0 e2; have r3 := d12 e1 e2
       by_cases z0 : p 0 = c
       · exact ⟨0, by decide, e0, z0⟩
       · by_cases z1 : p 1 = c
         · exact ⟨1, by decide, e1, z1⟩
         · exact ⟨2, by decide, e2, by omega⟩)
    | (have q0 := f0 e0; have q1 := f1 e1; have r1 := d01 e0 e1
       by_cases z0 : p 0 = c
       · exact ⟨0, by decide, e0, z0⟩
       · exact ⟨1, by decide, e1, by omega⟩)
    | (have q0 := f0 e0; have q2 := f2 e2; have r2 := d02 e0 e2
       by_cases z0 : p 0 = c
       · exact ⟨0, by decide, e0, z0⟩
       · exact ⟨2, by decide, e2, by omega⟩)
    | (have q1 := f1 e1; have q2 := f2 e2; have r3 := d12 e1 e2
       by_cases z1 : p 1 = c
       · exact ⟨1, by decide, e1, z1⟩
       · exact ⟨2, by decide, e2, by omega⟩)
    | (have q0 := f0 e0; exact ⟨0, by decide, e0, by omega⟩)
    | (have q1 := f1 e1; exact ⟨1, by decide, e1, by omega⟩)
    | (have q2 := f2 e2; exact ⟨2, by decide, e2, by omega⟩)
theorem own_AB.rem {b : Nat → Option Nat} {p : Nat → Nat} {bk : List Value} {C : Nat → List Value} {n m k c : Nat} (F : own_AB b p bk C) (hn : n < 3) (hm : m < 3) (hb : b n = some k) (hbm : b m = some k) (hc : own_hm b k = c + 1) (hp : p m = c) (hl : (C k).length = 16) :
    own_AB (own_up b n none) (own_up p m (p n)) bk (own_up C k ((C k).set (p n) (.int m.toInt32))) := by
  have pn := (F.1 n k hn hb).2.1
  have up : ∀ j, own_up b n none j = if j = n then none else b j := fun _ => rfl
  have uq : ∀ j, own_up p m (p n) j = if j = m then p n else p j := fun _ => rfl
  have h3 := own_hm_le b k
  constructor
  · intro j i hj e
    rw [up] at e
    by_cases jn : j = n
    · rw [if_pos jn] at e; cases e
    rw [if_neg jn] at e
    obtain ⟨g1, g2, g3, g4⟩ := F.1 j i hj e
    have hr := own_hm_rem hn hb i
    refine ⟨g1, ?_, g3, ?_⟩
    · rw [uq]
      by_cases ik : i = k
      · subst ik; rw [if_pos rfl] at hr
        split
        · next q => subst q; have := F.2 n j i hn hj (fun z => jn z.symm) hb e; omega
        · next q => have := F.2 j m i hj hm q e hbm; omega
      · rw [if_neg ik] at hr
        have q : j ≠ m := fun z => ik (by rw [z] at e; rw [hbm] at e; cases e; rfl)
        rw [if_neg q]; omega
    · rw [uq]; unfold own_up
      by_cases ik : i = k
      · subst ik; rw [if_pos rfl]
        split
        · next q => subst q; rw [List.getElem?_set_self (by omega)]
        · next q => rw [List.getElem?_set_ne (fun z => F.2 n j i hn hj (fun y => jn y.symm) hb e z)]; exact g4
      · rw [if_neg ik]
        have q : j ≠ m := fun z => ik (by rw [z] at e; rw [hbm] at e; cases e; rfl)
        rw [if_neg q]; exact g4
  · intro j i k' hj hi hne e e'
    rw [up] at e e'
    by_cases jn : j = n
    · rw [if_pos jn] at e; cases e
    by_cases iN : i = n
    · rw [if_pos iN] at e'; cases e'
    rw [if_neg jn] at e; rw [if_neg iN] at e'
    rw [uq, uq]
    by_cases jm : j = m <;> by_cases im : i = m
    · exact absurd (jm.trans im.symm) hne
    · rw [if_pos jm, if_neg im]; subst jm; cases hbm.symm.trans e; exact F.2 n i k hn hi (fun z => iN z.symm) hb e'
    · rw [if_neg jm, if_pos im]; subst im; cases hbm.symm.trans e'; exact fun z => F.2 n j k hn hj (fun y => jn y.symm) hb e z.symm
    · rw [if_neg jm, if_neg im]; exact F.2 j i k' hj hi hne e e'
/-- who stands in bucket k, one behind the other -/
theorem own_seq {b : Nat → Option Nat} {p : Nat → Nat} {bk : List Value} {C : Nat → List Value} {k : Nat} (F : own_AB b p bk C) (h : own_hm b k ≠ 0) :
    (own_hm b k = 1 ∧ ∃ m, m < 3 ∧ b m = some k ∧ p m = 0 ∧ ∀ j, j < 3 → j ≠ m → b j ≠ some k) ∨
    (own_hm b k = 2 ∧ ∃ m n, m < 3 ∧ n < 3 ∧ m ≠ n ∧ b m = some k ∧ b n = some k ∧ p m = 0 ∧ p n = 1 ∧ ∀ j, j < 3 → j ≠ m → j ≠ n → b j ≠ some k) ∨
    (own_hm b k = 3 ∧ ∃ m n i, m < 3 ∧ n < 3 ∧ i < 3 ∧ m ≠ n ∧ m ≠ i ∧ n ≠ i ∧ b m = some k ∧ b n = some k ∧ b i = some k ∧ p m = 0 ∧ p n = 1 ∧ p i = 2) := by
  have f : ∀ n, n < 3 → b n = some k → p n < own_hm b k := fun n hn e => (F.1 n k hn e).2.1
  have d : ∀ n m, n < 3 → m < 3 → n ≠ m → b n = some k → b m = some k → p n ≠ p m := fun n m h1 h2 h3 => F.2 n m k h1 h2 h3
  have d01 := d 0 1 (by decide) (by decide) (by decide)
  have d02 := d 0 2 (by decide) (by decide) (by decide)
  have d12 := d 1 2 (by decide) (by decide) (by decide)
  have f0 := f 0 (by decide); have f1 := f 1 (by decide); have f2 := f 2 (by decide)
  have all : ∀ (P : Nat → Prop), P 0 → P 1 → P 2 → ∀ j, j < 3 → P j := fun P a0 a1 a2 j hj => by
    match j, hj with
    | 0, _ => exact a0
    | 1, _ => exact a1
    | 2, _ => exact a2
  have hm : own_hm b k = (if b 0 = some k then 1 else 0) + (if b 1 = some k then 1 else 0) + (if b 2 = some k then 1 else 0) := rfl
  by_cases e0 : b 0 = some k <;> by_cases e1 : b 1 = some k <;> by_cases e2 : b 2 = some k <;> simp only [e0, e1, e2, if_true, if_false] at hm
  · right; right; refine ⟨hm, ?_⟩
    have q0 := f0 e0; have q1 := f1 e1; have q2 := f2 e2; have r1 := d01 e0 e1; have r2 := d02 e0 e2; have r3 := d12 e1 e2
    by_cases z0 : p 0 = 0
    · by_cases z1 : p 1 = 1
      · exact ⟨0, 1, 2, by decide, by decide, by decide, by decide, by decide, by decide, e0, e1, e2, z0, z1, by omega⟩
      · exact ⟨0, 2, 1, by decide, by decide, by decide, by decide, by decide, by decide, e0, e2, e1, z0, by omega, by omega⟩
    · by_cases z1 : p 1 = 0
      · by_cases z2 : p 0 = 1
        · exact ⟨1, 0, 2, by decide, by decide, by decide, by decide, by decide, by decide, e1, e0, e2, z1, z2, by omega⟩
        · exact ⟨1, 2, 0, by decide, by decide, by decide, by decide, by decide, by decide, e1, e2, e0, z1, by omega, by omega⟩
      · by_cases z2 : p 0 = 1
        · exact ⟨2, 0, 1, by decide, by decide, by decide, by decide, by decide, by decide, e2, e0, e1, by omega, z2, by omega⟩
        · exact ⟨2, 1, 0, by decide, by decide, by decide, by decide, by decide, by decide, e2, e1, e0, by omega, by omega, by omega⟩
  · right; left; refine ⟨hm, ?_⟩
    have q0 := f0 e0; have q1 := f1 e1; have r1 := d01 e0 e1
    by_cases z0 : p 0 = 0
    · exact ⟨0, 1, by decide, by decide, by decide, e0, e1, z0, by omega, all (fun j => j ≠ 0 → j ≠ 1 → b j ≠ some k) (fun q => absurd rfl q) (fun _ q => absurd rfl q) (fun _ _ => e2)⟩
    · exact ⟨1, 0, by decide, by decide, by decide, e1, e0, by omega, by omega, all (fun j => j ≠ 1 → j ≠ 0 → b j ≠ some k) (fun _ q => absurd rfl q) (fun q => absurd rfl q) (fun _ _ => e2)⟩
  · right; left; refine ⟨hm, ?_⟩
    have q0 := f0 e0; have q2 := f2 e2; have r2 := d02 e0 e2
    by_cases z0 : p 0 = 0
    · exact ⟨0, 2, by decide, by decide, by decide, e0, e2, z0, by omega, all (fun j => j ≠ 0 → j ≠ 2 → b j ≠ some k) (fun q => absurd rfl q) (fun _ _ => e1) (fun _ q => absurd rfl q)⟩
    · exact ⟨2, 0, by decide, by decide, by decide, e2, e0, by omega, by omega, all (fun j => j ≠ 2 → j ≠ 0 → b j ≠ some k) (fun _ q => absurd rfl q) (fun _ _ => e1) (fun q => absurd rfl q)⟩
  · left; exact ⟨hm, 0, by decide, e0, by have := f0 e0; omega, all (fun j => j ≠ 0 → b j ≠ some k) (fun q => absurd rfl q) (fun _ => e1) (fun _ => e2)⟩
  · right; left; refine ⟨hm, ?_⟩
    have q1 := f1 e1; have q2 := f2 e2; have r3 := d12 e1 e2
    by_cases z1 : p 1 = 0
    · exact ⟨1, 2, by decide, by decide, by decide, e1, e2, z1, by omega, all (fun j => j ≠ 1 → j ≠ 2 → b j ≠ some k) (fun _ _ => e0) (fun q => absurd rfl q) (fun _ q => absurd rfl q)⟩
    · exact ⟨2, 1, by decide, by decide, by decide, e2, e1, by omega, by omega, all (fun j => j ≠ 2 → j ≠ 1 → b j ≠ some k) (fun _ _ => e0) (fun _ q => absurd rfl q) (fun q => absurd rfl q)⟩
  · left; exact ⟨hm, 1, by decide, e1, by have := f1 e1; omega, all (fun j => j ≠ 1 → b j ≠ some k) (fun _ => e0) (fun q => absurd rfl q) (fun _ => e2)⟩
  · left; exact ⟨hm, 2, by decide, e2, by have := f2 e2; omega, all (fun j => j ≠ 2 → b j ≠ some k) (fun _ => e0) (fun _ => e1) (fun q => absurd rfl q)⟩
  · exact absurd hm h
def own_mn (x y : Int64) : Int64 := if 0 < lcmpW x y then y else x
/-- bucket i is emptied -/
def own_clr (b : Nat → Option Nat) (i : Nat) : Nat → Option Nat := fun j => if b j = some i then none else b j
theorem own_clr_ne {b : Nat → Option Nat} {i n k : Nat} (e : own_clr b i n = some k) : b n = some k ∧ k ≠ i := by
  unfold own_clr at e
  split at e
  · cases e
  · next q => exact ⟨e, fun z => q (z ▸ e)⟩
theorem own_clr_in {b : Nat → Option Nat} {i n : Nat} (h : b n = some i) : own_clr b i n = none := if_pos h
theorem own_hm_clr (b : Nat → Option Nat) (i k : Nat) : own_hm (own_clr b i) k = if k = i then 0 else own_hm b k := by
  have key : ∀ n, (if own_clr b i n = some k then 1 else 0) = if k = i then 0 else if b n = some k then 1 else 0 := fun n => by
    unfold own_clr
    by_cases h1 : b n = some i <;> by_cases h2 : k = i
    · simp [h1, h2]
    · have : ¬ i = k := fun z => h2 z.symm
      simp [h1, h2, this]
    · subst h2; simp [h1]
    · simp [h1, h2]
  unfold own_hm
  rw [key 0, key 1, key 2]
  split <;> rfl
theorem own_AB.clr {b : Nat → Option Nat} {p : Nat → Nat} {bk : List Value} {C : Nat → List Value} (F : own_AB b p bk C) (i : Nat) : own_AB (own_clr b i) p bk C := by
  refine ⟨fun n k hn e => ?_, fun n m k hn hm hne e e' => F.2 n m k hn hm hne (own_clr_ne e).1 (own_clr_ne e').1⟩
  obtain ⟨e1, e2⟩ := own_clr_ne e
  obtain ⟨g1, g2, g3⟩ := F.1 n k hn e1
  exact ⟨g1, by rw [own_hm_clr, if_neg e2]; exact g2, g3⟩
theorem own_szclr {Z : State} {h : Heap} {aS : Addr} {b : Nat → Option Nat} {k : Nat} (hk : k < 64) (A : own_A Z h aS .int ((own_szL b).set k.toInt32.toNatClampNeg (.int 0))) : own_A Z h aS .int (own_szL (own_clr b k)) := by
  rw [(own_64 hk).1, own_szset (b' := own_clr b k) ?_ ?_] at A
  · exact A
  · rw [own_hm_clr, if_pos rfl]; rfl
  · intro j _ hj; rw [own_hm_clr, if_neg hj]
theorem own_at3 {α : Type} {f : Nat → α} {g : α → Value} {n : Nat} (hn : n < 3) : [g (f 0), g (f 1), g (f 2)][n.toInt32.toNatClampNeg]? = some (g (f n)) := by
  rw [(own_64 (n := n) (by omega)).1]
  match n, hn with
  | 0, _ => rfl
  | 1, _ => rfl
  | 2, _ => rfl
theorem own_set3 {α : Type} {f : Nat → α} {g : α → Value} {n : Nat} {x : α} (hn : n < 3) : [g (f 0), g (f 1), g (f 2)].set n.toInt32.toNatClampNeg (g x) = [g (own_up f n x 0), g (own_up f n x 1), g (own_up f n x 2)] := by
  rw [(own_64 (n := n) (by omega)).1]
  match n, hn with
  | 0, _ => rfl
  | 1, _ => rfl
  | 2, _ => rfl
theorem own_mn_le (x y : Int64) : ¬ x < own_mn x y ∧ ¬ y < own_mn x y ∧ (own_mn x y = x ∨ own_mn x y = y) := by
  unfold own_mn
  split
  · next q => rw [own_lwgt] at q; exact ⟨fun z => by rw [Int64.lt_iff_toInt_lt] at *; omega, fun z => by rw [Int64.lt_iff_toInt_lt] at *; omega, Or.inr rfl⟩
  · next q => rw [own_lwgt] at q; exact ⟨fun z => by rw [Int64.lt_iff_toInt_lt] at *; omega, q, Or.inl rfl⟩
/-- what a file leaves of the other places -/
def own_XT (bk bk' : List Value) (C C' : Nat → List Value) (k s : Nat) : Prop := ∀ (j : Nat) (t : Addr), bk[j]? = some (.ref t) → bk'[j]? = some (.ref t) ∧ ∀ x, j ≠ k ∨ x ≠ s → (C' j)[x]? = (C j)[x]?
theorem own_XT.old {bk : List Value} {C : Nat → List Value} {k s : Nat} {v : Value} : own_XT bk bk C (own_up C k ((C k).set s v)) k s := fun j t e => ⟨e, fun x h => by
  unfold own_up
  split
  · next q => subst q; rw [List.getElem?_set_ne (fun z => h.elim (fun f => f rfl) (fun f => f z.symm))]
  · rfl⟩
theorem own_XT.new {bk us : List Value} {C : Nat → List Value} {k s : Nat} {v' : List Value} {r : Addr} (hv : bk[k]? = some .null) : own_XT bk (bk.set k (.ref r)) C (own_up (own_up C k us) k v') k s := fun j t e => by
  have q : k ≠ j := fun z => by subst z; rw [hv] at e; cases e
  refine ⟨by rw [List.getElem?_set_ne q]; exact e, fun x _ => ?_⟩
  unfold own_up
  rw [if_neg (fun z => q z.symm), if_neg (fun z => q z.symm)]
theorem own_suc64 {n : Nat} (h : n < 64) : n.toInt32 + 1 = (n + 1).toInt32 := by
  have a := (own_64 h).2.2
  have b : (n + 1).toInt32.toInt = (n + 1 : Nat) := by show (Int32.ofNat (n + 1)).toInt = _; exact Int32.toInt_ofNat_of_lt (by omega)
  have c := c_iadd n.toInt32 1
  have r := rng32 (n.toInt32 + 1)
  have e1 : (1 : Int32).toInt = 1 := rfl
  apply Int32.toInt_inj.mp
  rw [b]; omega
theorem own_more {b : Nat → Option Nat} {p : Nat → Nat} {bk : List Value} {C : Nat → List Value} {i : Nat} (F : own_AB b p bk C) (h : ∀ j, j < i → own_hm b j = 0) (hp : ∃ n, n < 3 ∧ b n ≠ none) : i < 64 := by
  obtain ⟨n, hn, e⟩ := hp
  cases hb : b n with
  | none => exact absurd hb e
  | some k =>
    have h1 := (F.1 n k hn hb).1
    have h2 := own_hm_pos hn hb
    rcases Nat.lt_or_ge k i with q | q
    · have := h k q; omega
    · omega

theorem own_w {a0 : Array Value} {Z : State} (hw : ∀ d ∈ tables_1, d.before a0 Z = true) {d : Jvm.Cond} (i : Nat) (q : tables_1[i]? = some d) : d.before a0 Z = true := hw _ (List.mem_of_getElem? q)

theorem own_mayN {Z : State} {hs : Heap} {W : List Addr} {own : String} {bytes : ByteArray} {maxL : Nat} {ret : Option FieldType} {nm : String} {p : Program} {l : Launch} {e : Env} {R : Room} {s : State} {m : MethodId} {args : Array Value} {below : List Frame} {meth : Method} {c : Code} {T : State} {h : Heap} {cells slots : Nat}
    (S : own_S Z hs W own bytes maxL ret nm p l e R s m args below meth c T h cells slots) {a : Addr} (q : a ∈ W ∨ hs.size ≤ a) : Z.heap.size ≤ a := S.may q

theorem own_neA {Z : State} {h : Heap} {a b : Addr} {C : String} {k : Nat} {a0 : Array Value} {ty : FieldType} {vs : List Value} (E : Exa Z h a C) (wi : (Jvm.Cond.instantiable C k).before a0 Z = true) (A : own_A Z h b ty vs) : a ≠ b := by
  obtain ⟨cl, Ar, -⟩ := A
  exact ne_arr E wi Ar

theorem own_dupX2 {tb : Tables} [Ours tb] {e : Env} {below : List Frame} {T target : State} {m : MethodId} {c : Code} {g : JFrame} (h : At T m c below) (hx : tb.exec = Jvm.exec) (hg : g.method = m) {x y z : Value} {rest : List Value} (hd : decode c.code g.pc = .ok (.dup_x2, 1)) (hs : g.stack = x :: y :: z :: rest) (hc : x.category = 1) (hc' : y.category = 1) (hc2 : z.category = 1)
    (hr : Steps tb e below (T.setTop { g with pc := g.pc + 1, stack := x :: y :: z :: x :: rest }) target) : Steps tb e below (T.setTop g) target := by
  subst hg
  jvm_step h [h.top, hx, hd, hs, hc, hc', hc2]
  exact hr

theorem d9_0 : decode jdk_33_method_47_code 0 = .ok (.iload_n 0, 1) := by decide +kernel
theorem d9_1 : decode jdk_33_method_47_code 1 = .ok (.ifCond .gt 14, 3) := by decide +kernel
theorem d9_4 : decode jdk_33_method_47_code 4 = .ok (.iload_n 0, 1) := by decide +kernel
theorem d9_5 : decode jdk_33_method_47_code 5 = .ok (.ifCond .ne 8, 3) := by decide +kernel
theorem d9_8 : decode jdk_33_method_47_code 8 = .ok (.bipush 32, 2) := by decide +kernel
theorem d9_10 : decode jdk_33_method_47_code 10 = .ok (.goto 4, 3) := by decide +kernel
theorem d9_13 : decode jdk_33_method_47_code 13 = .ok (.iconst 0, 1) := by decide +kernel
theorem d9_14 : decode jdk_33_method_47_code 14 = .ok (.ireturn, 1) := by decide +kernel
theorem d9_15 : decode jdk_33_method_47_code 15 = .ok (.bipush 31, 2) := by decide +kernel
theorem d9_17 : decode jdk_33_method_47_code 17 = .ok (.istore_n 1, 1) := by decide +kernel
theorem d9_18 : decode jdk_33_method_47_code 18 = .ok (.iload_n 0, 1) := by decide +kernel
theorem d9_19 : decode jdk_33_method_47_code 19 = .ok (.ldc_w 264, 3) := by decide +kernel
theorem d9_22 : decode jdk_33_method_47_code 22 = .ok (.if_icmp .lt 11, 3) := by decide +kernel
theorem d9_25 : decode jdk_33_method_47_code 25 = .ok (.iinc 1 (-16), 3) := by decide +kernel
theorem d9_28 : decode jdk_33_method_47_code 28 = .ok (.iload_n 0, 1) := by decide +kernel
theorem d9_29 : decode jdk_33_method_47_code 29 = .ok (.bipush 16, 2) := by decide +kernel
theorem d9_31 : decode jdk_33_method_47_code 31 = .ok (.iushr, 1) := by decide +kernel
theorem d9_32 : decode jdk_33_method_47_code 32 = .ok (.istore_n 0, 1) := by decide +kernel
theorem d9_33 : decode jdk_33_method_47_code 33 = .ok (.iload_n 0, 1) := by decide +kernel
theorem d9_34 : decode jdk_33_method_47_code 34 = .ok (.sipush 256, 3) := by decide +kernel
theorem d9_37 : decode jdk_33_method_47_code 37 = .ok (.if_icmp .lt 11, 3) := by decide +kernel
theorem d9_40 : decode jdk_33_method_47_code 40 = .ok (.iinc 1 (-8), 3) := by decide +kernel
theorem d9_43 : decode jdk_33_method_47_code 43 = .ok (.iload_n 0, 1) := by decide +kernel
theorem d9_44 : decode jdk_33_method_47_code 44 = .ok (.bipush 8, 2) := by decide +kernel
theorem d9_46 : decode jdk_33_method_47_code 46 = .ok (.iushr, 1) := by decide +kernel
theorem d9_47 : decode jdk_33_method_47_code 47 = .ok (.istore_n 0, 1) := by decide +kernel
theorem d9_48 : decode jdk_33_method_47_code 48 = .ok (.iload_n 0, 1) := by decide +kernel
theorem d9_49 : decode jdk_33_method_47_code 49 = .ok (.bipush 16, 2) := by decide +kernel
theorem d9_51 : decode jdk_33_method_47_code 51 = .ok (.if_icmp .lt 10, 3) := by decide +kernel
theorem d9_54 : decode jdk_33_method_47_code 54 = .ok (.iinc 1 (-4), 3) := by decide +kernel
theorem d9_57 : decode jdk_33_method_47_code 57 = .ok (.iload_n 0, 1) := by decide +kernel
theorem d9_58 : decode jdk_33_method_47_code 58 = .ok (.iconst 4, 1) := by decide +kernel
theorem d9_59 : decode jdk_33_method_47_code 59 = .ok (.iushr, 1) := by decide +kernel
theorem d9_60 : decode jdk_33_method_47_code 60 = .ok (.istore_n 0, 1) := by decide +kernel
theorem d9_61 : decode jdk_33_method_47_code 61 = .ok (.iload_n 0, 1) := by decide +kernel
theorem d9_62 : decode jdk_33_method_47_code 62 = .ok (.iconst 4, 1) := by decide +kernel
theorem d9_63 : decode jdk_33_method_47_code 63 = .ok (.if_icmp .lt 10, 3) := by decide +kernel
theorem d9_66 : decode jdk_33_method_47_code 66 = .ok (.iinc 1 (-2), 3) := by decide +kernel
theorem d9_69 : decode jdk_33_method_47_code 69 = .ok (.iload_n 0, 1) := by decide +kernel
theorem d9_70 : decode jdk_33_method_47_code 70 = .ok (.iconst 2, 1) := by decide +kernel
theorem d9_71 : decode jdk_33_method_47_code 71 = .ok (.iushr, 1) := by decide +kernel
theorem d9_72 : decode jdk_33_method_47_code 72 = .ok (.istore_n 0, 1) := by decide +kernel
theorem d9_73 : decode jdk_33_method_47_code 73 = .ok (.iload_n 1, 1) := by decide +kernel
theorem d9_74 : decode jdk_33_method_47_code 74 = .ok (.iload_n 0, 1) := by decide +kernel
theorem d9_75 : decode jdk_33_method_47_code 75 = .ok (.iconst 1, 1) := by decide +kernel
theorem d9_76 : decode jdk_33_method_47_code 76 = .ok (.iushr, 1) := by decide +kernel
theorem d9_77 : decode jdk_33_method_47_code 77 = .ok (.isub, 1) := by decide +kernel
theorem d9_78 : decode jdk_33_method_47_code 78 = .ok (.ireturn, 1) := by decide +kernel
theorem pn9 : plainFor (⟨"java/lang/Integer", "numberOfLeadingZeros", "(I)I"⟩ : MethodName) = true := plainFor_of_name (by first | (simp [plainName, overriddenIn]; done) | decide +kernel)
set_option maxRecDepth 65536 in
set_option maxHeartbeats 40000000 in
theorem own_nlzI (l : Launch) (Z : State) (a0 : Array Value) (hw : ∀ d ∈ tables_1, d.before a0 Z = true) (p1 : Int32) (h0 : Heap) (hO : Ext Z.heap h0) :
    own_C l Z (⟨"java/lang/Integer", "numberOfLeadingZeros", "(I)I"⟩ : MethodName) jdk_33_method_47_code 2 (some .int) [] ({ frames := 0, cells := 0, slots := 0, locals := 0 } : Room) [] #[(.int p1)] h0 (fun v h => ∃ r : Int32, v = some (.int r) ∧ (0 ≤ r.toInt ∧ r.toInt ≤ 32) ∧ (0 < p1 → 1 ≤ r.toInt) ∧ h0 = h) := by
  refine own_C.of pn9 hO all0 ?_
  intro p e s m below meth c T0 S0
  refine own_F.cast (by first | (simp [entryFrame, mkF, argsToLocals, Value.category]; done) | rfl : entryFrame m #[(.int p1)] 2 = mkF m 0 #[.val (.int p1), .unset] []) ?_
  show own_F p e below s Z _ _ _ _ _ (T0.setTop (mkF m 0 #[.val (.int p1), .unset] []))
  refine own_F.of (fun _ => XS.iloadN S0.here S0.hx rfl (S0.dec d9_0) rfl) ?_
  show own_F p e below s Z _ _ _ _ _ (T0.setTop (mkF m 1 #[.val (.int p1), .unset] [(.int p1)]))
  refine own_if S0 15 d9_1 (by decide) (by decide) (fun (hc1_1 : (0 : Int32) < p1) => ?_) (fun (hc1_1 : ¬ ((0 : Int32) < p1)) => ?_)
  · show own_F p e below s Z _ _ _ _ _ (T0.setTop (mkF m 15 #[.val (.int p1), .unset] []))
    refine own_F.of (fun _ => XS.bipush S0.here S0.hx rfl (S0.dec d9_15)) ?_
    show own_F p e below s Z _ _ _ _ _ (T0.setTop (mkF m 17 #[.val (.int p1), .unset] [(.int 31)]))
    refine own_F.of (fun _ => XS.istoreN S0.here S0.hx rfl (S0.dec d9_17) rfl (l' := #[.val (.int p1), .val (.int 31)]) rfl) ?_
    refine own_F.of (fun _ => XS.iloadN S0.here S0.hx rfl (S0.dec d9_18) rfl) ?_
    show own_F p e below s Z _ _ _ _ _ (T0.setTop (mkF m 19 #[.val (.int p1), .val (.int 31)] [(.int p1)]))
    refine own_ldcIw S0 (own_w hw 59 rfl) d9_19 ?_
    show own_F p e below s Z _ _ _ _ _ (T0.setTop (mkF m 22 #[.val (.int p1), .val (.int 31)] [(.int 65536), (.int p1)]))
    refine own_icmp S0 33 d9_22 (by decide) (by decide) (fun (hc22_2 : p1 < (65536 : Int32)) => ?_) (fun (hc22_2 : ¬ (p1 < (65536 : Int32))) => ?_)
    · show own_F p e below s Z _ _ _ _ _ (T0.setTop (mkF m 33 #[.val (.int p1), .val (.int 31)] []))
      refine own_F.of (fun _ => XS.iloadN S0.here S0.hx rfl (S0.dec d9_33) rfl) ?_
      refine own_F.of (fun _ => XS.sipush S0.here S0.hx rfl (S0.dec d9_34)) ?_
      show own_F p e below s Z _ _ _ _ _ (T0.setTop (mkF m 37 #[.val (.int p1), .val (.int 31)] [(.int 256), (.int p1)]))
      refine own_icmp S0 48 d9_37 (by decide) (by decide) (fun (hc37_3 : p1 < (256 : Int32)) => ?_) (fun (hc37_3 : ¬ (p1 < (256 : Int32))) => ?_)
      · show own_F p e below s Z _ _ _ _ _ (T0.setTop (mkF m 48 #[.val (.int p1), .val (.int 31)] []))
        refine own_F.of (fun _ => XS.iloadN S0.here S0.hx rfl (S0.dec d9_48) rfl) ?_
        refine own_F.of (fun _ => XS.bipush S0.here S0.hx rfl (S0.dec d9_49)) ?_
        show own_F p e below s Z _ _ _ _ _ (T0.setTop (mkF m 51 #[.val (.int p1), .val (.int 31)] [(.int 16), (.int p1)]))
        refine own_icmp S0 61 d9_51 (by decide) (by decide) (fun (hc51_4 : p1 < (16 : Int32)) => ?_) (fun (hc51_4 : ¬ (p1 < (16 : Int32))) => ?_)
        · show own_F p e below s Z _ _ _ _ _ (T0.setTop (mkF m 61 #[.val (.int p1), .val (.int 31)] []))
          refine own_F.of (fun _ => XS.iloadN S0.here S0.hx rfl (S0.dec d9_61) rfl) ?_
          refine own_F.of (fun _ => XS.iconst S0.here S0.hx rfl (S0.dec d9_62)) ?_
          show own_F p e below s Z _ _ _ _ _ (T0.setTop (mkF m 63 #[.val (.int p1), .val (.int 31)] [(.int 4), (.int p1)]))
          refine own_icmp S0 73 d9_63 (by decide) (by decide) (fun (hc63_5 : p1 < (4 : Int32)) => ?_) (fun (hc63_5 : ¬ (p1 < (4 : Int32))) => ?_)
          · show own_F p e below s Z _ _ _ _ _ (T0.setTop (mkF m 73 #[.val (.int p1), .val (.int 31)] []))
            refine own_F.of (fun _ => XS.iloadN S0.here S0.hx rfl (S0.dec d9_73) rfl) ?_
            refine own_F.of (fun _ => XS.iloadN S0.here S0.hx rfl (S0.dec d9_74) rfl) ?_
            refine own_F.of (fun _ => XS.iconst S0.here S0.hx rfl (S0.dec d9_75)) ?_
            show own_F p e below s Z _ _ _ _ _ (T0.setTop (mkF m 76 #[.val (.int p1), .val (.int 31)] [(.int 1), (.int p1), (.int 31)]))
            refine own_F.of (fun _ => XS.iushr S0.here S0.hx rfl (S0.dec d9_76) rfl) ?_
            show own_F p e below s Z _ _ _ _ _ (T0.setTop (mkF m 77 #[.val (.int p1), .val (.int 31)] [(.int ((p1.toUInt32 >>> ((1 : Int32) &&& 31).toUInt32).toInt32)), (.int 31)]))
            refine own_F.of (fun _ => XS.isub S0.here S0.hx rfl (S0.dec d9_77) rfl) ?_
            show own_F p e below s Z _ _ _ _ _ (T0.setTop (mkF m 78 #[.val (.int p1), .val (.int 31)] [(.int ((31 : Int32) - ((p1.toUInt32 >>> ((1 : Int32) &&& 31).toUInt32).toInt32)))]))
            refine own_retI S0 d9_78 (by decide) (by decide) ?_
            have e0 : (0 : Int32).toInt = 0 := rfl
            have e1 : (1 : Int32).toInt = 1 := rfl
            have e4 : (4 : Int32).toInt = 4 := rfl
            have e16 : (16 : Int32).toInt = 16 := rfl
            have e31 : (31 : Int32).toInt = 31 := rfl
            have e32 : (32 : Int32).toInt = 32 := rfl
            have e256 : (256 : Int32).toInt = 256 := rfl
            have e65536 : (65536 : Int32).toInt = 65536 := rfl
            have v1 := c_iushr p1 (1 : Int32) 1 (by decide) (by decide)
            have v2 := rng32 p1
            have v3 := c_isub (31 : Int32) ((p1.toUInt32 >>> ((1 : Int32) &&& 31).toUInt32).toInt32)
            have v4 := rng32 ((31 : Int32) - ((p1.toUInt32 >>> ((1 : Int32) &&& 31).toUInt32).toInt32))
            have v5 : ((31 : Int32)).toInt = 31 := rfl
            simp only [Int32.lt_iff_toInt_lt] at hc1_1 hc22_2 hc37_3 hc51_4 hc63_5
            refine ⟨_, rfl, ⟨?_, ?_⟩, fun q => ?_, rfl⟩ <;> omega
          · show own_F p e below s Z _ _ _ _ _ (T0.setTop (mkF m 66 #[.val (.int p1), .val (.int 31)] []))
            refine own_F.of (fun _ => XS.iinc S0.here S0.hx rfl (S0.dec d9_66) rfl (l' := #[.val (.int p1), .val (.int 29)]) rfl) ?_
            show own_F p e below s Z _ _ _ _ _ (T0.setTop (mkF m 69 #[.val (.int p1), .val (.int 29)] []))
            refine own_F.of (fun _ => XS.iloadN S0.here S0.hx rfl (S0.dec d9_69) rfl) ?_
            refine own_F.of (fun _ => XS.iconst S0.here S0.hx rfl (S0.dec d9_70)) ?_
            show own_F p e below s Z _ _ _ _ _ (T0.setTop (mkF m 71 #[.val (.int p1), .val (.int 29)] [(.int 2), (.int p1)]))
            refine own_F.of (fun _ => XS.iushr S0.here S0.hx rfl (S0.dec d9_71) rfl) ?_
            show own_F p e below s Z _ _ _ _ _ (T0.setTop (mkF m 72 #[.val (.int p1), .val (.int 29)] [(.int ((p1.toUInt32 >>> ((2 : Int32) &&& 31).toUInt32).toInt32))]))
            have u6 := c_iushr p1 (2 : Int32) 2 (by decide) (by decide)
            refine own_F.of (fun _ => XS.istoreN S0.here S0.hx rfl (S0.dec d9_72) rfl (l' := #[.val (.int ((p1.toUInt32 >>> ((2 : Int32) &&& 31).toUInt32).toInt32)), .val (.int 29)]) rfl) ?_
            refine own_F.of (fun _ => XS.iloadN S0.here S0.hx rfl (S0.dec d9_73) rfl) ?_
            refine own_F.of (fun _ => XS.iloadN S0.here S0.hx rfl (S0.dec d9_74) rfl) ?_
            refine own_F.of (fun _ => XS.iconst S0.here S0.hx rfl (S0.dec d9_75)) ?_
            show own_F p e below s Z _ _ _ _ _ (T0.setTop (mkF m 76 #[.val (.int ((p1.toUInt32 >>> ((2 : Int32) &&& 31).toUInt32).toInt32)), .val (.int 29)] [(.int 1), (.int ((p1.toUInt32 >>> ((2 : Int32) &&& 31).toUInt32).toInt32)), (.int 29)]))
            refine own_F.of (fun _ => XS.iushr S0.here S0.hx rfl (S0.dec d9_76) rfl) ?_
            show own_F p e below s Z _ _ _ _ _ (T0.setTop (mkF m 77 #[.val (.int ((p1.toUInt32 >>> ((2 : Int32) &&& 31).toUInt32).toInt32)), .val (.int 29)] [(.int ((((p1.toUInt32 >>> ((2 : Int32) &&& 31).toUInt32).toInt32).toUInt32 >>> ((1 : Int32) &&& 31).toUInt32).toInt32)), (.int 29)]))
            refine own_F.of (fun _ => XS.isub S0.here S0.hx rfl (S0.dec d9_77) rfl) ?_
            show own_F p e below s Z _ _ _ _ _ (T0.setTop (mkF m 78 #[.val (.int ((p1.toUInt32 >>> ((2 : Int32) &&& 31).toUInt32).toInt32)), .val (.int 29)] [(.int ((29 : Int32) - ((((p1.toUInt32 >>> ((2 : Int32) &&& 31).toUInt32).toInt32).toUInt32 >>> ((1 : Int32) &&& 31).toUInt32).toInt32)))]))
            refine own_retI S0 d9_78 (by decide) (by decide) ?_
            have e0 : (0 : Int32).toInt = 0 := rfl
            have e1 : (1 : Int32).toInt = 1 := rfl
            have e4 : (4 : Int32).toInt = 4 := rfl
            have e16 : (16 : Int32).toInt = 16 := rfl
            have e31 : (31 : Int32).toInt = 31 := rfl
            have e32 : (32 : Int32).toInt = 32 := rfl
            have e256 : (256 : Int32).toInt = 256 := rfl
            have e65536 : (65536 : Int32).toInt = 65536 := rfl
            have v1 := c_iushr ((p1.toUInt32 >>> ((2 : Int32) &&& 31).toUInt32).toInt32) (1 : Int32) 1 (by decide) (by decide)
            have v2 := rng32 p1
            have v3 := c_isub (29 : Int32) ((((p1.toUInt32 >>> ((2 : Int32) &&& 31).toUInt32).toInt32).toUInt32 >>> ((1 : Int32) &&& 31).toUInt32).toInt32)
            have v4 := rng32 ((29 : Int32) - ((((p1.toUInt32 >>> ((2 : Int32) &&& 31).toUInt32).toInt32).toUInt32 >>> ((1 : Int32) &&& 31).toUInt32).toInt32))
            have v5 : ((29 : Int32)).toInt = 29 := rfl
            simp only [Int32.lt_iff_toInt_lt] at hc1_1 hc22_2 hc37_3 hc51_4 hc63_5
            refine ⟨_, rfl, ⟨?_, ?_⟩, fun q => ?_, rfl⟩ <;> omega
        · show own_F p e below s Z _ _ _ _ _ (T0.setTop (mkF m 54 #[.val (.int p1), .val (.int 31)] []))
          refine own_F.of (fun _ => XS.iinc S0.here S0.hx rfl (S0.dec d9_54) rfl (l' := #[.val (.int p1), .val (.int 27)]) rfl) ?_
          show own_F p e below s Z _ _ _ _ _ (T0.setTop (mkF m 57 #[.val (.int p1), .val (.int 27)] []))
          refine own_F.of (fun _ => XS.iloadN S0.here S0.hx rfl (S0.dec d9_57) rfl) ?_
          refine own_F.of (fun _ => XS.iconst S0.here S0.hx rfl (S0.dec d9_58)) ?_
          show own_F p e below s Z _ _ _ _ _ (T0.setTop (mkF m 59 #[.val (.int p1), .val (.int 27)] [(.int 4), (.int p1)]))
          refine own_F.of (fun _ => XS.iushr S0.here S0.hx rfl (S0.dec d9_59) rfl) ?_
          show own_F p e below s Z _ _ _ _ _ (T0.setTop (mkF m 60 #[.val (.int p1), .val (.int 27)] [(.int ((p1.toUInt32 >>> ((4 : Int32) &&& 31).toUInt32).toInt32))]))
          have u7 := c_iushr p1 (4 : Int32) 4 (by decide) (by decide)
          refine own_F.of (fun _ => XS.istoreN S0.here S0.hx rfl (S0.dec d9_60) rfl (l' := #[.val (.int ((p1.toUInt32 >>> ((4 : Int32) &&& 31).toUInt32).toInt32)), .val (.int 27)]) rfl) ?_
          refine own_F.of (fun _ => XS.iloadN S0.here S0.hx rfl (S0.dec d9_61) rfl) ?_
          refine own_F.of (fun _ => XS.iconst S0.here S0.hx rfl (S0.dec d9_62)) ?_
          show own_F p e below s Z _ _ _ _ _ (T0.setTop (mkF m 63 #[.val (.int ((p1.toUInt32 >>> ((4 : Int32) &&& 31).toUInt32).toInt32)), .val (.int 27)] [(.int 4), (.int ((p1.toUInt32 >>> ((4 : Int32) &&& 31).toUInt32).toInt32))]))
          refine own_icmp S0 73 d9_63 (by decide) (by decide) (fun (hc63_8 : ((p1.toUInt32 >>> ((4 : Int32) &&& 31).toUInt32).toInt32) < (4 : Int32)) => ?_) (fun (hc63_8 : ¬ (((p1.toUInt32 >>> ((4 : Int32) &&& 31).toUInt32).toInt32) < (4 : Int32))) => ?_)
          · show own_F p e below s Z _ _ _ _ _ (T0.setTop (mkF m 73 #[.val (.int ((p1.toUInt32 >>> ((4 : Int32) &&& 31).toUInt32).toInt32)), .val (.int 27)] []))
            refine own_F.of (fun _ => XS.iloadN S0.here S0.hx rfl (S0.dec d9_73) rfl) ?_
            refine own_F.of (fun _ => XS.iloadN S0.here S0.hx rfl (S0.dec d9_74) rfl) ?_
            refine own_F.of (fun _ => XS.iconst S0.here S0.hx rfl (S0.dec d9_75)) ?_
            show own_F p e below s Z _ _ _ _ _ (T0.setTop (mkF m 76 #[.val (.int ((p1.toUInt32 >>> ((4 : Int32) &&& 31).toUInt32).toInt32)), .val (.int 27)] [(.int 1), (.int ((p1.toUInt32 >>> ((4 : Int32) &&& 31).toUInt32).toInt32)), (.int 27)]))
            refine own_F.of (fun _ => XS.iushr S0.here S0.hx rfl (S0.dec d9_76) rfl) ?_
            show own_F p e below s Z _ _ _ _ _ (T0.setTop (mkF m 77 #[.val (.int ((p1.toUInt32 >>> ((4 : Int32) &&& 31).toUInt32).toInt32)), .val (.int 27)] [(.int ((((p1.toUInt32 >>> ((4 : Int32) &&& 31).toUInt32).toInt32).toUInt32 >>> ((1 : Int32) &&& 31).toUInt32).toInt32)), (.int 27)]))
            refine own_F.of (fun _ => XS.isub S0.here S0.hx rfl (S0.dec d9_77) rfl) ?_
            show own_F p e below s Z _ _ _ _ _ (T0.setTop (mkF m 78 #[.val (.int ((p1.toUInt32 >>> ((4 : Int32) &&& 31).toUInt32).toInt32)), .val (.int 27)] [(.int ((27 : Int32) - ((((p1.toUInt32 >>> ((4 : Int32) &&& 31).toUInt32).toInt32).toUInt32 >>> ((1 : Int32) &&& 31).toUInt32).toInt32)))]))
            refine own_retI S0 d9_78 (by decide) (by decide) ?_
            have e0 : (0 : Int32).toInt = 0 := rfl
            have e1 : (1 : Int32).toInt = 1 := rfl
            have e4 : (4 : Int32).toInt = 4 := rfl
            have e16 : (16 : Int32).toInt = 16 := rfl
            have e31 : (31 : Int32).toInt = 31 := rfl
            have e32 : (32 : Int32).toInt = 32 := rfl
            have e256 : (256 : Int32).toInt = 256 := rfl
            have e65536 : (65536 : Int32).toInt = 65536 := rfl
            have v1 := c_iushr ((p1.toUInt32 >>> ((4 : Int32) &&& 31).toUInt32).toInt32) (1 : Int32) 1 (by decide) (by decide)
            have v2 := rng32 p1
            have v3 := c_isub (27 : Int32) ((((p1.toUInt32 >>> ((4 : Int32) &&& 31).toUInt32).toInt32).toUInt32 >>> ((1 : Int32) &&& 31).toUInt32).toInt32)
            have v4 := rng32 ((27 : Int32) - ((((p1.toUInt32 >>> ((4 : Int32) &&& 31).toUInt32).toInt32).toUInt32 >>> ((1 : Int32) &&& 31).toUInt32).toInt32))
            have v5 : ((27 : Int32)).toInt = 27 := rfl
            simp only [Int32.lt_iff_toInt_lt] at hc1_1 hc22_2 hc37_3 hc51_4 hc63_8
            refine ⟨_, rfl, ⟨?_, ?_⟩, fun q => ?_, rfl⟩ <;> omega
          · show own_F p e below s Z _ _ _ _ _ (T0.setTop (mkF m 66 #[.val (.int ((p1.toUInt32 >>> ((4 : Int32) &&& 31).toUInt32).toInt32)), .val (.int 27)] []))
            refine own_F.of (fun _ => XS.iinc S0.here S0.hx rfl (S0.dec d9_66) rfl (l' := #[.val (.int ((p1.toUInt32 >>> ((4 : Int32) &&& 31).toUInt32).toInt32)), .val (.int 25)]) rfl) ?_
            show own_F p e below s Z _ _ _ _ _ (T0.setTop (mkF m 69 #[.val (.int ((p1.toUInt32 >>> ((4 : Int32) &&& 31).toUInt32).toInt32)), .val (.int 25)] []))
            refine own_F.of (fun _ => XS.iloadN S0.here S0.hx rfl (S0.dec d9_69) rfl) ?_
            refine own_F.of (fun _ => XS.iconst S0.here S0.hx rfl (S0.dec d9_70)) ?_
            show own_F p e below s Z _ _ _ _ _ (T0.setTop (mkF m 71 #[.val (.int ((p1.toUInt32 >>> ((4 : Int32) &&& 31).toUInt32).toInt32)), .val (.int 25)] [(.int 2), (.int ((p1.toUInt32 >>> ((4 : Int32) &&& 31).toUInt32).toInt32))]))
            refine own_F.of (fun _ => XS.iushr S0.here S0.hx rfl (S0.dec d9_71) rfl) ?_
            show own_F p e below s Z _ _ _ _ _ (T0.setTop (mkF m 72 #[.val (.int ((p1.toUInt32 >>> ((4 : Int32) &&& 31).toUInt32).toInt32)), .val (.int 25)] [(.int ((((p1.toUInt32 >>> ((4 : Int32) &&& 31).toUInt32).toInt32).toUInt32 >>> ((2 : Int32) &&& 31).toUInt32).toInt32))]))
            have u9 := c_iushr ((p1.toUInt32 >>> ((4 : Int32) &&& 31).toUInt32).toInt32) (2 : Int32) 2 (by decide) (by decide)
            refine own_F.of (fun _ => XS.istoreN S0.here S0.hx rfl (S0.dec d9_72) rfl (l' := #[.val (.int ((((p1.toUInt32 >>> ((4 : Int32) &&& 31).toUInt32).toInt32).toUInt32 >>> ((2 : Int32) &&& 31).toUInt32).toInt32)), .val (.int 25)]) rfl) ?_
            refine own_F.of (fun _ => XS.iloadN S0.here S0.hx rfl (S0.dec d9_73) rfl) ?_
            refine own_F.of (fun _ => XS.iloadN S0.here S0.hx rfl (S0.dec d9_74) rfl) ?_
            refine own_F.of (fun _ => XS.iconst S0.here S0.hx rfl (S0.dec d9_75)) ?_
            show own_F p e below s Z _ _ _ _ _ (T0.setTop (mkF m 76 #[.val (.int ((((p1.toUInt32 >>> ((4 : Int32) &&& 31).toUInt32).toInt32).toUInt32 >>> ((2 : Int32) &&& 31).toUInt32).toInt32)), .val (.int 25)] [(.int 1), (.int ((((p1.toUInt32 >>> ((4 : Int32) &&& 31).toUInt32).toInt32).toUInt32 >>> ((2 : Int32) &&& 31).toUInt32).toInt32)), (.int 25)]))
            refine own_F.of (fun _ => XS.iushr S0.here S0.hx rfl (S0.dec d9_76) rfl) ?_
            show own_F p e below s Z _ _ _ _ _ (T0.setTop (mkF m 77 #[.val (.int ((((p1.toUInt32 >>> ((4 : Int32) &&& 31).toUInt32).toInt32).toUInt32 >>> ((2 : Int32) &&& 31).toUInt32).toInt32)), .val (.int 25)] [(.int ((((((p1.toUInt32 >>> ((4 : Int32) &&& 31).toUInt32).toInt32).toUInt32 >>> ((2 : Int32) &&& 31).toUInt32).toInt32).toUInt32 >>> ((1 : Int32) &&& 31).toUInt32).toInt32)), (.int 25)]))
            refine own_F.of (fun _ => XS.isub S0.here S0.hx rfl (S0.dec d9_77) rfl) ?_
            show own_F p e below s Z _ _ _ _ _ (T0.setTop (mkF m 78 #[.val (.int ((((p1.toUInt32 >>> ((4 : Int32) &&& 31).toUInt32).toInt32).toUInt32 >>> ((2 : Int32) &&& 31).toUInt32).toInt32)), .val (.int 25)] [(.int ((25 : Int32) - ((((((p1.toUInt32 >>> ((4 : Int32) &&& 31).toUInt32).toInt32).toUInt32 >>> ((2 : Int32) &&& 31).toUInt32).toInt32).toUInt32 >>> ((1 : Int32) &&& 31).toUInt32).toInt32)))]))
            refine own_retI S0 d9_78 (by decide) (by decide) ?_
            have e0 : (0 : Int32).toInt = 0 := rfl
            have e1 : (1 : Int32).toInt = 1 := rfl
            have e4 : (4 : Int32).toInt = 4 := rfl
            have e16 : (16 : Int32).toInt = 16 := rfl
            have e31 : (31 : Int32).toInt = 31 := rfl
            have e32 : (32 : Int32).toInt = 32 := rfl
            have e256 : (256 : Int32).toInt = 256 := rfl
            have e65536 : (65536 : Int32).toInt = 65536 := rfl
            have v1 := c_iushr ((((p1.toUInt32 >>> ((4 : Int32) &&& 31).toUInt32).toInt32).toUInt32 >>> ((2 : Int32) &&& 31).toUInt32).toInt32) (1 : Int32) 1 (by decide) (by decide)
            have v2 := rng32 p1
            have v3 := c_isub (25 : Int32) ((((((p1.toUInt32 >>> ((4 : Int32) &&& 31).toUInt32).toInt32).toUInt32 >>> ((2 : Int32) &&& 31).toUInt32).toInt32).toUInt32 >>> ((1 : Int32) &&& 31).toUInt32).toInt32)
            have v4 := rng32 ((25 : Int32) - ((((((p1.toUInt32 >>> ((4 : Int32) &&& 31).toUInt32).toInt32).toUInt32 >>> ((2 : Int32) &&& 31).toUInt32).toInt32).toUInt32 >>> ((1 : Int32) &&& 31).toUInt32).toInt32))
            have v5 : ((25 : Int32)).toInt = 25 := rfl
            simp only [Int32.lt_iff_toInt_lt] at hc1_1 hc22_2 hc37_3 hc51_4 hc63_8
            refine ⟨_, rfl, ⟨?_, ?_⟩, fun q => ?_, rfl⟩ <;> omega
      · show own_F p e below s Z _ _ _ _ _ (T0.setTop (mkF m 40 #[.val (.int p1), .val (.int 31)] []))
        refine own_F.of (fun _ => XS.iinc S0.here S0.hx rfl (S0.dec d9_40) rfl (l' := #[.val (.int p1), .val (.int 23)]) rfl) ?_
        show own_F p e below s Z _ _ _ _ _ (T0.setTop (mkF m 43 #[.val (.int p1), .val (.int 23)] []))
        refine own_F.of (fun _ => XS.iloadN S0.here S0.hx rfl (S0.dec d9_43) rfl) ?_
        refine own_F.of (fun _ => XS.bipush S0.here S0.hx rfl (S0.dec d9_44)) ?_
        show own_F p e below s Z _ _ _ _ _ (T0.setTop (mkF m 46 #[.val (.int p1), .val (.int 23)] [(.int 8), (.int p1)]))
        refine own_F.of (fun _ => XS.iushr S0.here S0.hx rfl (S0.dec d9_46) rfl) ?_
        show own_F p e below s Z _ _ _ _ _ (T0.setTop (mkF m 47 #[.val (.int p1), .val (.int 23)] [(.int ((p1.toUInt32 >>> ((8 : Int32) &&& 31).toUInt32).toInt32))]))
        have u10 := c_iushr p1 (8 : Int32) 8 (by decide) (by decide)
        refine own_F.of (fun _ => XS.istoreN S0.here S0.hx rfl (S0.dec d9_47) rfl (l' := #[.val (.int ((p1.toUInt32 >>> ((8 : Int32) &&& 31).toUInt32).toInt32)), .val (.int 23)]) rfl) ?_
        refine own_F.of (fun _ => XS.iloadN S0.here S0.hx rfl (S0.dec d9_48) rfl) ?_
        refine own_F.of (fun _ => XS.bipush S0.here S0.hx rfl (S0.dec d9_49)) ?_
        show own_F p e below s Z _ _ _ _ _ (T0.setTop (mkF m 51 #[.val (.int ((p1.toUInt32 >>> ((8 : Int32) &&& 31).toUInt32).toInt32)), .val (.int 23)] [(.int 16), (.int ((p1.toUInt32 >>> ((8 : Int32) &&& 31).toUInt32).toInt32))]))
        refine own_icmp S0 61 d9_51 (by decide) (by decide) (fun (hc51_11 : ((p1.toUInt32 >>> ((8 : Int32) &&& 31).toUInt32).toInt32) < (16 : Int32)) => ?_) (fun (hc51_11 : ¬ (((p1.toUInt32 >>> ((8 : Int32) &&& 31).toUInt32).toInt32) < (16 : Int32))) => ?_)
        · show own_F p e below s Z _ _ _ _ _ (T0.setTop (mkF m 61 #[.val (.int ((p1.toUInt32 >>> ((8 : Int32) &&& 31).toUInt32).toInt32)), .val (.int 23)] []))
          refine own_F.of (fun _ => XS.iloadN S0.here S0.hx rfl (S0.dec d9_61) rfl) ?_
          refine own_F.of (fun _ => XS.iconst S0.here S0.hx rfl (S0.dec d9_62)) ?_
          show own_F p e below s Z _ _ _ _ _ (T0.setTop (mkF m 63 #[.val (.int ((p1.toUInt32 >>> ((8 : Int32) &&& 31).toUInt32).toInt32)), .val (.int 23)] [(.int 4), (.int ((p1.toUInt32 >>> ((8 : Int32) &&& 31).toUInt32).toInt32))]))
          refine own_icmp S0 73 d9_63 (by decide) (by decide) (fun (hc63_12 : ((p1.toUInt32 >>> ((8 : Int32) &&& 31).toUInt32).toInt32) < (4 : Int32)) => ?_) (fun (hc63_12 : ¬ (((p1.toUInt32 >>> ((8 : Int32) &&& 31).toUInt32).toInt32) < (4 : Int32))) => ?_)
          · show own_F p e below s Z _ _ _ _ _ (T0.setTop (mkF m 73 #[.val (.int ((p1.toUInt32 >>> ((8 : Int32) &&& 31).toUInt32).toInt32)), .val (.int 23)] []))
            refine own_F.of (fun _ => XS.iloadN S0.here S0.hx rfl (S0.dec d9_73) rfl) ?_
            refine own_F.of (fun _ => XS.iloadN S0.here S0.hx rfl (S0.dec d9_74) rfl) ?_
            refine own_F.of (fun _ => XS.iconst S0.here S0.hx rfl (S0.dec d9_75)) ?_
            show own_F p e below s Z _ _ _ _ _ (T0.setTop (mkF m 76 #[.val (.int ((p1.toUInt32 >>> ((8 : Int32) &&& 31).toUInt32).toInt32)), .val (.int 23)] [(.int 1), (.int ((p1.toUInt32 >>> ((8 : Int32) &&& 31).toUInt32).toInt32)), (.int 23)]))
            refine own_F.of (fun _ => XS.iushr S0.here S0.hx rfl (S0.dec d9_76) rfl) ?_
            show own_F p e below s Z _ _ _ _ _ (T0.setTop (mkF m 77 #[.val (.int ((p1.toUInt32 >>> ((8 : Int32) &&& 31).toUInt32).toInt32)), .val (.int 23)] [(.int ((((p1.toUInt32 >>> ((8 : Int32) &&& 31).toUInt32).toInt32).toUInt32 >>> ((1 : Int32) &&& 31).toUInt32).toInt32)), (.int 23)]))
            refine own_F.of (fun _ => XS.isub S0.here S0.hx rfl (S0.dec d9_77) rfl) ?_
            show own_F p e below s Z _ _ _ _ _ (T0.setTop (mkF m 78 #[.val (.int ((p1.toUInt32 >>> ((8 : Int32) &&& 31).toUInt32).toInt32)), .val (.int 23)] [(.int ((23 : Int32) - ((((p1.toUInt32 >>> ((8 : Int32) &&& 31).toUInt32).toInt32).toUInt32 >>> ((1 : Int32) &&& 31).toUInt32).toInt32)))]))
            refine own_retI S0 d9_78 (by decide) (by decide) ?_
            have e0 : (0 : Int32).toInt = 0 := rfl
            have e1 : (1 : Int32).toInt = 1 := rfl
            have e4 : (4 : Int32).toInt = 4 := rfl
            have e16 : (16 : Int32).toInt = 16 := rfl
            have e31 : (31 : Int32).toInt = 31 := rfl
            have e32 : (32 : Int32).toInt = 32 := rfl
            have e256 : (256 : Int32).toInt = 256 := rfl
            have e65536 : (65536 : Int32).toInt = 65536 := rfl
            have v1 := c_iushr ((p1.toUInt32 >>> ((8 : Int32) &&& 31).toUInt32).toInt32) (1 : Int32) 1 (by decide) (by decide)
            have v2 := rng32 p1
            have v3 := c_isub (23 : Int32) ((((p1.toUInt32 >>> ((8 : Int32) &&& 31).toUInt32).toInt32).toUInt32 >>> ((1 : Int32) &&& 31).toUInt32).toInt32)
            have v4 := rng32 ((23 : Int32) - ((((p1.toUInt32 >>> ((8 : Int32) &&& 31).toUInt32).toInt32).toUInt32 >>> ((1 : Int32) &&& 31).toUInt32).toInt32))
            have v5 : ((23 : Int32)).toInt = 23 := rfl
            simp only [Int32.lt_iff_toInt_lt] at hc1_1 hc22_2 hc37_3 hc51_11 hc63_12
            refine ⟨_, rfl, ⟨?_, ?_⟩, fun q => ?_, rfl⟩ <;> omega
          · show own_F p e below s Z _ _ _ _ _ (T0.setTop (mkF m 66 #[.val (.int ((p1.toUInt32 >>> ((8 : Int32) &&& 31).toUInt32).toInt32)), .val (.int 23)] []))
            refine own_F.of (fun _ => XS.iinc S0.here S0.hx rfl (S0.dec d9_66) rfl (l' := #[.val (.int ((p1.toUInt32 >>> ((8 : Int32) &&& 31).toUInt32).toInt32)), .val (.int 21)]) rfl) ?_
            show own_F p e below s Z _ _ _ _ _ (T0.setTop (mkF m 69 #[.val (.int ((p1.toUInt32 >>> ((8 : Int32) &&& 31).toUInt32).toInt32)), .val (.int 21)] []))
            refine own_F.of (fun _ => XS.iloadN S0.here S0.hx rfl (S0.dec d9_69) rfl) ?_
            refine own_F.of (fun _ => XS.iconst S0.here S0.hx rfl (S0.dec d9_70)) ?_
            show own_F p e below s Z _ _ _ _ _ (T0.setTop (mkF m 71 #[.val (.int ((p1.toUInt32 >>> ((8 : Int32) &&& 31).toUInt32).toInt32)), .val (.int 21)] [(.int 2), (.int ((p1.toUInt32 >>> ((8 : Int32) &&& 31).toUInt32).toInt32))]))
            refine own_F.of (fun _ => XS.iushr S0.here S0.hx rfl (S0.dec d9_71) rfl) ?_
            show own_F p e below s Z _ _ _ _ _ (T0.setTop (mkF m 72 #[.val (.int ((p1.toUInt32 >>> ((8 : Int32) &&& 31).toUInt32).toInt32)), .val (.int 21)] [(.int ((((p1.toUInt32 >>> ((8 : Int32) &&& 31).toUInt32).toInt32).toUInt32 >>> ((2 : Int32) &&& 31).toUInt32).toInt32))]))
            have u13 := c_iushr ((p1.toUInt32 >>> ((8 : Int32) &&& 31).toUInt32).toInt32) (2 : Int32) 2 (by decide) (by decide)
            refine own_F.of (fun _ => XS.istoreN S0.here S0.hx rfl (S0.dec d9_72) rfl (l' := #[.val (.int ((((p1.toUInt32 >>> ((8 : Int32) &&& 31).toUInt32).toInt32).toUInt32 >>> ((2 : Int32) &&& 31).toUInt32).toInt32)), .val (.int 21)]) rfl) ?_
            refine own_F.of (fun _ => XS.iloadN S0.here S0.hx rfl (S0.dec d9_73) rfl) ?_
            refine own_F.of (fun _ => XS.iloadN S0.here S0.hx rfl (S0.dec d9_74) rfl) ?_
            refine own_F.of (fun _ => XS.iconst S0.here S0.hx rfl (S0.dec d9_75)) ?_
            show own_F p e below s Z _ _ _ _ _ (T0.setTop (mkF m 76 #[.val (.int ((((p1.toUInt32 >>> ((8 : Int32) &&& 31).toUInt32).toInt32).toUInt32 >>> ((2 : Int32) &&& 31).toUInt32).toInt32)), .val (.int 21)] [(.int 1), (.int ((((p1.toUInt32 >>> ((8 : Int32) &&& 31).toUInt32).toInt32).toUInt32 >>> ((2 : Int32) &&& 31).toUInt32).toInt32)), (.int 21)]))
            refine own_F.of (fun _ => XS.iushr S0.here S0.hx rfl (S0.dec d9_76) rfl) ?_
            show own_F p e below s Z _ _ _ _ _ (T0.setTop (mkF m 77 #[.val (.int ((((p1.toUInt32 >>> ((8 : Int32) &&& 31).toUInt32).toInt32).toUInt32 >>> ((2 : Int32) &&& 31).toUInt32).toInt32)), .val (.int 21)] [(.int ((((((p1.toUInt32 >>> ((8 : Int32) &&& 31).toUInt32).toInt32).toUInt32 >>> ((2 : Int32) &&& 31).toUInt32).toInt32).toUInt32 >>> ((1 : Int32) &&& 31).toUInt32).toInt32)), (.int 21)]))
            refine own_F.of (fun _ => XS.isub S0.here S0.hx rfl (S0.dec d9_77) rfl) ?_
            show own_F p e below s Z _ _ _ _ _ (T0.setTop (mkF m 78 #[.val (.int ((((p1.toUInt32 >>> ((8 : Int32) &&& 31).toUInt32).toInt32).toUInt32 >>> ((2 : Int32) &&& 31).toUInt32).toInt32)), .val (.int 21)] [(.int ((21 : Int32) - ((((((p1.toUInt32 >>> ((8 : Int32) &&& 31).toUInt32).toInt32).toUInt32 >>> ((2 : Int32) &&& 31).toUInt32).toInt32).toUInt32 >>> ((1 : Int32) &&& 31).toUInt32).toInt32)))]))
            refine own_retI S0 d9_78 (by decide) (by decide) ?_
            have e0 : (0 : Int32).toInt = 0 := rfl
            have e1 : (1 : Int32).toInt = 1 := rfl
            have e4 : (4 : Int32).toInt = 4 := rfl
            have e16 : (16 : Int32).toInt = 16 := rfl
            have e31 : (31 : Int32).toInt = 31 := rfl
            have e32 : (32 : Int32).toInt = 32 := rfl
            have e256 : (256 : Int32).toInt = 256 := rfl
            have e65536 : (65536 : Int32).toInt = 65536 := rfl
            have v1 := c_iushr ((((p1.toUInt32 >>> ((8 : Int32) &&& 31).toUInt32).toInt32).toUInt32 >>> ((2 : Int32) &&& 31).toUInt32).toInt32) (1 : Int32) 1 (by decide) (by decide)
            have v2 := rng32 p1
            have v3 := c_isub (21 : Int32) ((((((p1.toUInt32 >>> ((8 : Int32) &&& 31).toUInt32).toInt32).toUInt32 >>> ((2 : Int32) &&& 31).toUInt32).toInt32).toUInt32 >>> ((1 : Int32) &&& 31).toUInt32).toInt32)
            have v4 := rng32 ((21 : Int32) - ((((((p1.toUInt32 >>> ((8 : Int32) &&& 31).toUInt32).toInt32).toUInt32 >>> ((2 : Int32) &&& 31).toUInt32).toInt32).toUInt32 >>> ((1 : Int32) &&& 31).toUInt32).toInt32))
            have v5 : ((21 : Int32)).toInt = 21 := rfl
            simp only [Int32.lt_iff_toInt_lt] at hc1_1 hc22_2 hc37_3 hc51_11 hc63_12
            refine ⟨_, rfl, ⟨?_, ?_⟩, fun q => ?_, rfl⟩ <;> omega
        · show own_F p e below s Z _ _ _ _ _ (T0.setTop (mkF m 54 #[.val (.int ((p1.toUInt32 >>> ((8 : Int32) &&& 31).toUInt32).toInt32)), .val (.int 23)] []))
          refine own_F.of (fun _ => XS.iinc S0.here S0.hx rfl (S0.dec d9_54) rfl (l' := #[.val (.int ((p1.toUInt32 >>> ((8 : Int32) &&& 31).toUInt32).toInt32)), .val (.int 19)]) rfl) ?_
          show own_F p e below s Z _ _ _ _ _ (T0.setTop (mkF m 57 #[.val (.int ((p1.toUInt32 >>> ((8 : Int32) &&& 31).toUInt32).toInt32)), .val (.int 19)] []))
          refine own_F.of (fun _ => XS.iloadN S0.here S0.hx rfl (S0.dec d9_57) rfl) ?_
          refine own_F.of (fun _ => XS.iconst S0.here S0.hx rfl (S0.dec d9_58)) ?_
          show own_F p e below s Z _ _ _ _ _ (T0.setTop (mkF m 59 #[.val (.int ((p1.toUInt32 >>> ((8 : Int32) &&& 31).toUInt32).toInt32)), .val (.int 19)] [(.int 4), (.int ((p1.toUInt32 >>> ((8 : Int32) &&& 31).toUInt32).toInt32))]))
          refine own_F.of (fun _ => XS.iushr S0.here S0.hx rfl (S0.dec d9_59) rfl) ?_
          show own_F p e below s Z _ _ _ _ _ (T0.setTop (mkF m 60 #[.val (.int ((p1.toUInt32 >>> ((8 : Int32) &&& 31).toUInt32).toInt32)), .val (.int 19)] [(.int ((((p1.toUInt32 >>> ((8 : Int32) &&& 31).toUInt32).toInt32).toUInt32 >>> ((4 : Int32) &&& 31).toUInt32).toInt32))]))
          have u14 := c_iushr ((p1.toUInt32 >>> ((8 : Int32) &&& 31).toUInt32).toInt32) (4 : Int32) 4 (by decide) (by decide)
          refine own_F.of (fun _ => XS.istoreN S0.here S0.hx rfl (S0.dec d9_60) rfl (l' := #[.val (.int ((((p1.toUInt32 >>> ((8 : Int32) &&& 31).toUInt32).toInt32).toUInt32 >>> ((4 : Int32) &&& 31).toUInt32).toInt32)), .val (.int 19)]) rfl) ?_
          refine own_F.of (fun _ => XS.iloadN S0.here S0.hx rfl (S0.dec d9_61) rfl) ?_
          refine own_F.of (fun _ => XS.iconst S0.here S0.hx rfl (S0.dec d9_62)) ?_
          show own_F p e below s Z _ _ _ _ _ (T0.setTop (mkF m 63 #[.val (.int ((((p1.toUInt32 >>> ((8 : Int32) &&& 31).toUInt32).toInt32).toUInt32 >>> ((4 : Int32) &&& 31).toUInt32).toInt32)), .val (.int 19)] [(.int 4), (.int ((((p1.toUInt32 >>> ((8 : Int32) &&& 31).toUInt32).toInt32).toUInt32 >>> ((4 : Int32) &&& 31).toUInt32).toInt32))]))
          refine own_icmp S0 73 d9_63 (by decide) (by decide) (fun (hc63_15 : ((((p1.toUInt32 >>> ((8 : Int32) &&& 31).toUInt32).toInt32).toUInt32 >>> ((4 : Int32) &&& 31).toUInt32).toInt32) < (4 : Int32)) => ?_) (fun (hc63_15 : ¬ (((((p1.toUInt32 >>> ((8 : Int32) &&& 31).toUInt32).toInt32).toUInt32 >>> ((4 : Int32) &&& 31).toUInt32).toInt32) < (4 : Int32))) => ?_)
          · show own_F p e below s Z _ _ _ _ _ (T0.setTop (mkF m 73 #[.val (.int ((((p1.toUInt32 >>> ((8 : Int32) &&& 31).toUInt32).toInt32).toUInt32 >>> ((4 : Int32) &&& 31).toUInt32).toInt32)), .val (.int 19)] []))
            refine own_F.of (fun _ => XS.iloadN S0.here S0.hx rfl (S0.dec d9_73) rfl) ?_
            refine own_F.of (fun _ => XS.iloadN S0.here S0.hx rfl (S0.dec d9_74) rfl) ?_
            refine own_F.of (fun _ => XS.iconst S0.here S0.hx rfl (S0.dec d9_75)) ?_
            show own_F p e below s Z _ _ _ _ _ (T0.setTop (mkF m 76 #[.val (.int ((((p1.toUInt32 >>> ((8 : Int32) &&& 31).toUInt32).toInt32).toUInt32 >>> ((4 : Int32) &&& 31).toUInt32).toInt32)), .val (.int 19)] [(.int 1), (.int ((((p1.toUInt32 >>> ((8 : Int32) &&& 31).toUInt32).toInt32).toUInt32 >>> ((4 : Int32) &&& 31).toUInt32).toInt32)), (.int 19)]))
            refine own_F.of (fun _ => XS.iushr S0.here S0.hx rfl (S0.dec d9_76) rfl) ?_
            show own_F p e below s Z _ _ _ _ _ (T0.setTop (mkF m 77 #[.val (.int ((((p1.toUInt32 >>> ((8 : Int32) &&& 31).toUInt32).toInt32).toUInt32 >>> ((4 : Int32) &&& 31).toUInt32).toInt32)), .val (.int 19)] [(.int ((((((p1.toUInt32 >>> ((8 : Int32) &&& 31).toUInt32).toInt32).toUInt32 >>> ((4 : Int32) &&& 31).toUInt32).toInt32).toUInt32 >>> ((1 : Int32) &&& 31).toUInt32).toInt32)), (.int 19)]))
            refine own_F.of (fun _ => XS.isub S0.here S0.hx rfl (S0.dec d9_77) rfl) ?_
            show own_F p e below s Z _ _ _ _ _ (T0.setTop (mkF m 78 #[.val (.int ((((p1.toUInt32 >>> ((8 : Int32) &&& 31).toUInt32).toInt32).toUInt32 >>> ((4 : Int32) &&& 31).toUInt32).toInt32)), .val (.int 19)] [(.int ((19 : Int32) - ((((((p1.toUInt32 >>> ((8 : Int32) &&& 31).toUInt32).toInt32).toUInt32 >>> ((4 : Int32) &&& 31).toUInt32).toInt32).toUInt32 >>> ((1 : Int32) &&& 31).toUInt32).toInt32)))]))
            refine own_retI S0 d9_78 (by decide) (by decide) ?_
            have e0 : (0 : Int32).toInt = 0 := rfl
            have e1 : (1 : Int32).toInt = 1 := rfl
            have e4 : (4 : Int32).toInt = 4 := rfl
            have e16 : (16 : Int32).toInt = 16 := rfl
            have e31 : (31 : Int32).toInt = 31 := rfl
            have e32 : (32 : Int32).toInt = 32 := rfl
            have e256 : (256 : Int32).toInt = 256 := rfl
            have e65536 : (65536 : Int32).toInt = 65536 := rfl
            have v1 := c_iushr ((((p1.toUInt32 >>> ((8 : Int32) &&& 31).toUInt32).toInt32).toUInt32 >>> ((4 : Int32) &&& 31).toUInt32).toInt32) (1 : Int32) 1 (by decide) (by decide)
            have v2 := rng32 p1
            have v3 := c_isub (19 : Int32) ((((((p1.toUInt32 >>> ((8 : Int32) &&& 31).toUInt32).toInt32).toUInt32 >>> ((4 : Int32) &&& 31).toUInt32).toInt32).toUInt32 >>> ((1 : Int32) &&& 31).toUInt32).toInt32)
            have v4 := rng32 ((19 : Int32) - ((((((p1.toUInt32 >>> ((8 : Int32) &&& 31).toUInt32).toInt32).toUInt32 >>> ((4 : Int32) &&& 31).toUInt32).toInt32).toUInt32 >>> ((1 : Int32) &&& 31).toUInt32).toInt32))
            have v5 : ((19 : Int32)).toInt = 19 := rfl
            simp only [Int32.lt_iff_toInt_lt] at hc1_1 hc22_2 hc37_3 hc51_11 hc63_15
            refine ⟨_, rfl, ⟨?_, ?_⟩, fun q => ?_, rfl⟩ <;> omega
          · show own_F p e below s Z _ _ _ _ _ (T0.setTop (mkF m 66 #[.val (.int ((((p1.toUInt32 >>> ((8 : Int32) &&& 31).toUInt32).toInt32).toUInt32 >>> ((4 : Int32) &&& 31).toUInt32).toInt32)), .val (.int 19)] []))
            refine own_F.of (fun _ => XS.iinc S0.here S0.hx rfl (S0.dec d9_66) rfl (l' := #[.val (.int ((((p1.toUInt32 >>> ((8 : Int32) &&& 31).toUInt32).toInt32).toUInt32 >>> ((4 : Int32) &&& 31).toUInt32).toInt32)), .val (.int 17)]) rfl) ?_
            show own_F p e below s Z _ _ _ _ _ (T0.setTop (mkF m 69 #[.val (.int ((((p1.toUInt32 >>> ((8 : Int32) &&& 31).toUInt32).toInt32).toUInt32 >>> ((4 : Int32) &&& 31).toUInt32).toInt32)), .val (.int 17)] []))
            refine own_F.of (fun _ => XS.iloadN S0.here S0.hx rfl (S0.dec d9_69) rfl) ?_
            refine own_F.of (fun _ => XS.iconst S0.here S0.hx rfl (S0.dec d9_70)) ?_
            show own_F p e below s Z _ _ _ _ _ (T0.setTop (mkF m 71 #[.val (.int ((((p1.toUInt32 >>> ((8 : Int32) &&& 31).toUInt32).toInt32).toUInt32 >>> ((4 : Int32) &&& 31).toUInt32).toInt32)), .val (.int 17)] [(.int 2), (.int ((((p1.toUInt32 >>> ((8 : Int32) &&& 31).toUInt32).toInt32).toUInt32 >>> ((4 : Int32) &&& 31).toUInt32).toInt32))]))
            refine own_F.of (fun _ => XS.iushr S0.here S0.hx rfl (S0.dec d9_71) rfl) ?_
            show own_F p e below s Z _ _ _ _ _ (T0.setTop (mkF m 72 #[.val (.int ((((p1.toUInt32 >>> ((8 : Int32) &&& 31).toUInt32).toInt32).toUInt32 >>> ((4 : Int32) &&& 31).toUInt32).toInt32)), .val (.int 17)] [(.int ((((((p1.toUInt32 >>> ((8 : Int32) &&& 31).toUInt32).toInt32).toUInt32 >>> ((4 : Int32) &&& 31).toUInt32).toInt32).toUInt32 >>> ((2 : Int32) &&& 31).toUInt32).toInt32))]))
            have u16 := c_iushr ((((p1.toUInt32 >>> ((8 : Int32) &&& 31).toUInt32).toInt32).toUInt32 >>> ((4 : Int32) &&& 31).toUInt32).toInt32) (2 : Int32) 2 (by decide) (by decide)
            refine own_F.of (fun _ => XS.istoreN S0.here S0.hx rfl (S0.dec d9_72) rfl (l' := #[.val (.int ((((((p1.toUInt32 >>> ((8 : Int32) &&& 31).toUInt32).toInt32).toUInt32 >>> ((4 : Int32) &&& 31).toUInt32).toInt32).toUInt32 >>> ((2 : Int32) &&& 31).toUInt32).toInt32)), .val (.int 17)]) rfl) ?_
            refine own_F.of (fun _ => XS.iloadN S0.here S0.hx rfl (S0.dec d9_73) rfl) ?_
            refine own_F.of (fun _ => XS.iloadN S0.here S0.hx rfl (S0.dec d9_74) rfl) ?_
            refine own_F.of (fun _ => XS.iconst S0.here S0.hx rfl (S0.dec d9_75)) ?_
            show own_F p e below s Z _ _ _ _ _ (T0.setTop (mkF m 76 #[.val (.int ((((((p1.toUInt32 >>> ((8 : Int32) &&& 31).toUInt32).toInt32).toUInt32 >>> ((4 : Int32) &&& 31).toUInt32).toInt32).toUInt32 >>> ((2 : Int32) &&& 31).toUInt32).toInt32)), .val (.int 17)] [(.int 1), (.int ((((((p1.toUInt32 >>> ((8 : Int32) &&& 31).toUInt32).toInt32).toUInt32 >>> ((4 : Int32) &&& 31).toUInt32).toInt32).toUInt32 >>> ((2 : Int32) &&& 31).toUInt32).toInt32)), (.int 17)]))
            refine own_F.of (fun _ => XS.iushr S0.here S0.hx rfl (S0.dec d9_76) rfl) ?_
            show own_F p e below s Z _ _ _ _ _ (T0.setTop (mkF m 77 #[.val (.int ((((((p1.toUInt32 >>> ((8 : Int32) &&& 31).toUInt32).toInt32).toUInt32 >>> ((4 : Int32) &&& 31).toUInt32).toInt32).toUInt32 >>> ((2 : Int32) &&& 31).toUInt32).toInt32)), .val (.int 17)] [(.int ((((((((p1.toUInt32 >>> ((8 : Int32) &&& 31).toUInt32).toInt32).toUInt32 >>> ((4 : Int32) &&& 31).toUInt32).toInt32).toUInt32 >>> ((2 : Int32) &&& 31).toUInt32).toInt32).toUInt32 >>> ((1 : Int32) &&& 31).toUInt32).toInt32)), (.int 17)]))
            refine own_F.of (fun _ => XS.isub S0.here S0.hx rfl (S0.dec d9_77) rfl) ?_
            show own_F p e below s Z _ _ _ _ _ (T0.setTop (mkF m 78 #[.val (.int ((((((p1.toUInt32 >>> ((8 : Int32) &&& 31).toUInt32).toInt32).toUInt32 >>> ((4 : Int32) &&& 31).toUInt32).toInt32).toUInt32 >>> ((2 : Int32) &&& 31).toUInt32).toInt32)), .val (.int 17)] [(.int ((17 : Int32) - ((((((((p1.toUInt32 >>> ((8 : Int32) &&& 31).toUInt32).toInt32).toUInt32 >>> ((4 : Int32) &&& 31).toUInt32).toInt32).toUInt32 >>> ((2 : Int32) &&& 31).toUInt32).toInt32).toUInt32 >>> ((1 : Int32) &&& 31).toUInt32).toInt32)))]))
            refine own_retI S0 d9_78 (by decide) (by decide) ?_
            have e0 : (0 : Int32).toInt = 0 := rfl
            have e1 : (1 : Int32).toInt = 1 := rfl
            have e4 : (4 : Int32).toInt = 4 := rfl
            have e16 : (16 : Int32).toInt = 16 := rfl
            have e31 : (31 : Int32).toInt = 31 := rfl
            have e32 : (32 : Int32).toInt = 32 := rfl
            have e256 : (256 : Int32).toInt = 256 := rfl
            have e65536 : (65536 : Int32).toInt = 65536 := rfl
            have v1 := c_iushr ((((((p1.toUInt32 >>> ((8 : Int32) &&& 31).toUInt32).toInt32).toUInt32 >>> ((4 : Int32) &&& 31).toUInt32).toInt32).toUInt32 >>> ((2 : Int32) &&& 31).toUInt32).toInt32) (1 : Int32) 1 (by decide) (by decide)
            have v2 := rng32 p1
            have v3 := c_isub (17 : Int32) ((((((((p1.toUInt32 >>> ((8 : Int32) &&& 31).toUInt32).toInt32).toUInt32 >>> ((4 : Int32) &&& 31).toUInt32).toInt32).toUInt32 >>> ((2 : Int32) &&& 31).toUInt32).toInt32).toUInt32 >>> ((1 : Int32) &&& 31).toUInt32).toInt32)
            have v4 := rng32 ((17 : Int32) - ((((((((p1.toUInt32 >>> ((8 : Int32) &&& 31).toUInt32).toInt32).toUInt32 >>> ((4 : Int32) &&& 31).toUInt32).toInt32).toUInt32 >>> ((2 : Int32) &&& 31).toUInt32).toInt32).toUInt32 >>> ((1 : Int32) &&& 31).toUInt32).toInt32))
            have v5 : ((17 : Int32)).toInt = 17 := rfl
            simp only [Int32.lt_iff_toInt_lt] at hc1_1 hc22_2 hc37_3 hc51_11 hc63_15
            refine ⟨_, rfl, ⟨?_, ?_⟩, fun q => ?_, rfl⟩ <;> omega
    · show own_F p e below s Z _ _ _ _ _ (T0.setTop (mkF m 25 #[.val (.int p1), .val (.int 31)] []))
      refine own_F.of (fun _ => XS.iinc S0.here S0.hx rfl (S0.dec d9_25) rfl (l' := #[.val (.int p1), .val (.int 15)]) rfl) ?_
      show own_F p e below s Z _ _ _ _ _ (T0.setTop (mkF m 28 #[.val (.int p1), .val (.int 15)] []))
      refine own_F.of (fun _ => XS.iloadN S0.here S0.hx rfl (S0.dec d9_28) rfl) ?_
      refine own_F.of (fun _ => XS.bipush S0.here S0.hx rfl (S0.dec d9_29)) ?_
      show own_F p e below s Z _ _ _ _ _ (T0.setTop (mkF m 31 #[.val (.int p1), .val (.int 15)] [(.int 16), (.int p1)]))
      refine own_F.of (fun _ => XS.iushr S0.here S0.hx rfl (S0.dec d9_31) rfl) ?_
      show own_F p e below s Z _ _ _ _ _ (T0.setTop (mkF m 32 #[.val (.int p1), .val (.int 15)] [(.int ((p1.toUInt32 >>> ((16 : Int32) &&& 31).toUInt32).toInt32))]))
      have u17 := c_iushr p1 (16 : Int32) 16 (by decide) (by decide)
      refine own_F.of (fun _ => XS.istoreN S0.here S0.hx rfl (S0.dec d9_32) rfl (l' := #[.val (.int ((p1.toUInt32 >>> ((16 : Int32) &&& 31).toUInt32).toInt32)), .val (.int 15)]) rfl) ?_
      refine own_F.of (fun _ => XS.iloadN S0.here S0.hx rfl (S0.dec d9_33) rfl) ?_
      refine own_F.of (fun _ => XS.sipush S0.here S0.hx rfl (S0.dec d9_34)) ?_
      show own_F p e below s Z _ _ _ _ _ (T0.setTop (mkF m 37 #[.val (.int ((p1.toUInt32 >>> ((16 : Int32) &&& 31).toUInt32).toInt32)), .val (.int 15)] [(.int 256), (.int ((p1.toUInt32 >>> ((16 : Int32) &&& 31).toUInt32).toInt32))]))
      refine own_icmp S0 48 d9_37 (by decide) (by decide) (fun (hc37_18 : ((p1.toUInt32 >>> ((16 : Int32) &&& 31).toUInt32).toInt32) < (256 : Int32)) => ?_) (fun (hc37_18 : ¬ (((p1.toUInt32 >>> ((16 : Int32) &&& 31).toUInt32).toInt32) < (256 : Int32))) => ?_)
      · show own_F p e below s Z _ _ _ _ _ (T0.setTop (mkF m 48 #[.val (.int ((p1.toUInt32 >>> ((16 : Int32) &&& 31).toUInt32).toInt32)), .val (.int 15)] []))
        refine own_F.of (fun _ => XS.iloadN S0.here S0.hx rfl (S0.dec d9_48) rfl) ?_
        refine own_F.of (fun _ => XS.bipush S0.here S0.hx rfl (S0.dec d9_49)) ?_
        show own_F p e below s Z _ _ _ _ _ (T0.setTop (mkF m 51 #[.val (.int ((p1.toUInt32 >>> ((16 : Int32) &&& 31).toUInt32).toInt32)), .val (.int 15)] [(.int 16), (.int ((p1.toUInt32 >>> ((16 : Int32) &&& 31).toUInt32).toInt32))]))
        refine own_icmp S0 61 d9_51 (by decide) (by decide) (fun (hc51_19 : ((p1.toUInt32 >>> ((16 : Int32) &&& 31).toUInt32).toInt32) < (16 : Int32)) => ?_) (fun (hc51_19 : ¬ (((p1.toUInt32 >>> ((16 : Int32) &&& 31).toUInt32).toInt32) < (16 : Int32))) => ?_)
        · show own_F p e below s Z _ _ _ _ _ (T0.setTop (mkF m 61 #[.val (.int ((p1.toUInt32 >>> ((16 : Int32) &&& 31).toUInt32).toInt32)), .val (.int 15)] []))
          refine own_F.of (fun _ => XS.iloadN S0.here S0.hx rfl (S0.dec d9_61) rfl) ?_
          refine own_F.of (fun _ => XS.iconst S0.here S0.hx rfl (S0.dec d9_62)) ?_
          show own_F p e below s Z _ _ _ _ _ (T0.setTop (mkF m 63 #[.val (.int ((p1.toUInt32 >>> ((16 : Int32) &&& 31).toUInt32).toInt32)), .val (.int 15)] [(.int 4), (.int ((p1.toUInt32 >>> ((16 : Int32) &&& 31).toUInt32).toInt32))]))
          refine own_icmp S0 73 d9_63 (by decide) (by decide) (fun (hc63_20 : ((p1.toUInt32 >>> ((16 : Int32) &&& 31).toUInt32).toInt32) < (4 : Int32)) => ?_) (fun (hc63_20 : ¬ (((p1.toUInt32 >>> ((16 : Int32) &&& 31).toUInt32).toInt32) < (4 : Int32))) => ?_)
          · show own_F p e below s Z _ _ _ _ _ (T0.setTop (mkF m 73 #[.val (.int ((p1.toUInt32 >>> ((16 : Int32) &&& 31).toUInt32).toInt32)), .val (.int 15)] []))
            refine own_F.of (fun _ => XS.iloadN S0.here S0.hx rfl (S0.dec d9_73) rfl) ?_
            refine own_F.of (fun _ => XS.iloadN S0.here S0.hx rfl (S0.dec d9_74) rfl) ?_
            refine own_F.of (fun _ => XS.iconst S0.here S0.hx rfl (S0.dec d9_75)) ?_
            show own_F p e below s Z _ _ _ _ _ (T0.setTop (mkF m 76 #[.val (.int ((p1.toUInt32 >>> ((16 : Int32) &&& 31).toUInt32).toInt32)), .val (.int 15)] [(.int 1), (.int ((p1.toUInt32 >>> ((16 : Int32) &&& 31).toUInt32).toInt32)), (.int 15)]))
            refine own_F.of (fun _ => XS.iushr S0.here S0.hx rfl (S0.dec d9_76) rfl) ?_
            show own_F p e below s Z _ _ _ _ _ (T0.setTop (mkF m 77 #[.val (.int ((p1.toUInt32 >>> ((16 : Int32) &&& 31).toUInt32).toInt32)), .val (.int 15)] [(.int ((((p1.toUInt32 >>> ((16 : Int32) &&& 31).toUInt32).toInt32).toUInt32 >>> ((1 : Int32) &&& 31).toUInt32).toInt32)), (.int 15)]))
            refine own_F.of (fun _ => XS.isub S0.here S0.hx rfl (S0.dec d9_77) rfl) ?_
            show own_F p e below s Z _ _ _ _ _ (T0.setTop (mkF m 78 #[.val (.int ((p1.toUInt32 >>> ((16 : Int32) &&& 31).toUInt32).toInt32)), .val (.int 15)] [(.int ((15 : Int32) - ((((p1.toUInt32 >>> ((16 : Int32) &&& 31).toUInt32).toInt32).toUInt32 >>> ((1 : Int32) &&& 31).toUInt32).toInt32)))]))
            refine own_retI S0 d9_78 (by decide) (by decide) ?_
            have e0 : (0 : Int32).toInt = 0 := rfl
            have e1 : (1 : Int32).toInt = 1 := rfl
            have e4 : (4 : Int32).toInt = 4 := rfl
            have e16 : (16 : Int32).toInt = 16 := rfl
            have e31 : (31 : Int32).toInt = 31 := rfl
            have e32 : (32 : Int32).toInt = 32 := rfl
            have e256 : (256 : Int32).toInt = 256 := rfl
            have e65536 : (65536 : Int32).toInt = 65536 := rfl
            have v1 := c_iushr ((p1.toUInt32 >>> ((16 : Int32) &&& 31).toUInt32).toInt32) (1 : Int32) 1 (by decide) (by decide)
            have v2 := rng32 p1
            have v3 := c_isub (15 : Int32) ((((p1.toUInt32 >>> ((16 : Int32) &&& 31).toUInt32).toInt32).toUInt32 >>> ((1 : Int32) &&& 31).toUInt32).toInt32)
            have v4 := rng32 ((15 : Int32) - ((((p1.toUInt32 >>> ((16 : Int32) &&& 31).toUInt32).toInt32).toUInt32 >>> ((1 : Int32) &&& 31).toUInt32).toInt32))
            have v5 : ((15 : Int32)).toInt = 15 := rfl
            simp only [Int32.lt_iff_toInt_lt] at hc1_1 hc22_2 hc37_18 hc51_19 hc63_20
            refine ⟨_, rfl, ⟨?_, ?_⟩, fun q => ?_, rfl⟩ <;> omega
          · show own_F p e below s Z _ _ _ _ _ (T0.setTop (mkF m 66 #[.val (.int ((p1.toUInt32 >>> ((16 : Int32) &&& 31).toUInt32).toInt32)), .val (.int 15)] []))
            refine own_F.of (fun _ => XS.iinc S0.here S0.hx rfl (S0.dec d9_66) rfl (l' := #[.val (.int ((p1.toUInt32 >>> ((16 : Int32) &&& 31).toUInt32).toInt32)), .val (.int 13)]) rfl) ?_
            show own_F p e below s Z _ _ _ _ _ (T0.setTop (mkF m 69 #[.val (.int ((p1.toUInt32 >>> ((16 : Int32) &&& 31).toUInt32).toInt32)), .val (.int 13)] []))
            refine own_F.of (fun _ => XS.iloadN S0.here S0.hx rfl (S0.dec d9_69) rfl) ?_
            refine own_F.of (fun _ => XS.iconst S0.here S0.hx rfl (S0.dec d9_70)) ?_
            show own_F p e below s Z _ _ _ _ _ (T0.setTop (mkF m 71 #[.val (.int ((p1.toUInt32 >>> ((16 : Int32) &&& 31).toUInt32).toInt32)), .val (.int 13)] [(.int 2), (.int ((p1.toUInt32 >>> ((16 : Int32) &&& 31).toUInt32).toInt32))]))
            refine own_F.of (fun _ => XS.iushr S0.here S0.hx rfl (S0.dec d9_71) rfl) ?_
            show own_F p e below s Z _ _ _ _ _ (T0.setTop (mkF m 72 #[.val (.int ((p1.toUInt32 >>> ((16 : Int32) &&& 31).toUInt32).toInt32)), .val (.int 13)] [(.int ((((p1.toUInt32 >>> ((16 : Int32) &&& 31).toUInt32).toInt32).toUInt32 >>> ((2 : Int32) &&& 31).toUInt32).toInt32))]))
            have u21 := c_iushr ((p1.toUInt32 >>> ((16 : Int32) &&& 31).toUInt32).toInt32) (2 : Int32) 2 (by decide) (by decide)
            refine own_F.of (fun _ => XS.istoreN S0.here S0.hx rfl (S0.dec d9_72) rfl (l' := #[.val (.int ((((p1.toUInt32 >>> ((16 : Int32) &&& 31).toUInt32).toInt32).toUInt32 >>> ((2 : Int32) &&& 31).toUInt32).toInt32)), .val (.int 13)]) rfl) ?_
            refine own_F.of (fun _ => XS.iloadN S0.here S0.hx rfl (S0.dec d9_73) rfl) ?_
            refine own_F.of (fun _ => XS.iloadN S0.here S0.hx rfl (S0.dec d9_74) rfl) ?_
            refine own_F.of (fun _ => XS.iconst S0.here S0.hx rfl (S0.dec d9_75)) ?_
            show own_F p e below s Z _ _ _ _ _ (T0.setTop (mkF m 76 #[.val (.int ((((p1.toUInt32 >>> ((16 : Int32) &&& 31).toUInt32).toInt32).toUInt32 >>> ((2 : Int32) &&& 31).toUInt32).toInt32)), .val (.int 13)] [(.int 1), (.int ((((p1.toUInt32 >>> ((16 : Int32) &&& 31).toUInt32).toInt32).toUInt32 >>> ((2 : Int32) &&& 31).toUInt32).toInt32)), (.int 13)]))
            refine own_F.of (fun _ => XS.iushr S0.here S0.hx rfl (S0.dec d9_76) rfl) ?_
            show own_F p e below s Z _ _ _ _ _ (T0.setTop (mkF m 77 #[.val (.int ((((p1.toUInt32 >>> ((16 : Int32) &&& 31).toUInt32).toInt32).toUInt32 >>> ((2 : Int32) &&& 31).toUInt32).toInt32)), .val (.int 13)] [(.int ((((((p1.toUInt32 >>> ((16 : Int32) &&& 31).toUInt32).toInt32).toUInt32 >>> ((2 : Int32) &&& 31).toUInt32).toInt32).toUInt32 >>> ((1 : Int32) &&& 31).toUInt32).toInt32)), (.int 13)]))
            refine own_F.of (fun _ => XS.isub S0.here S0.hx rfl (S0.dec d9_77) rfl) ?_
            show own_F p e below s Z _ _ _ _ _ (T0.setTop (mkF m 78 #[.val (.int ((((p1.toUInt32 >>> ((16 : Int32) &&& 31).toUInt32).toInt32).toUInt32 >>> ((2 : Int32) &&& 31).toUInt32).toInt32)), .val (.int 13)] [(.int ((13 : Int32) - ((((((p1.toUInt32 >>> ((16 : Int32) &&& 31).toUInt32).toInt32).toUInt32 >>> ((2 : Int32) &&& 31).toUInt32).toInt32).toUInt32 >>> ((1 : Int32) &&& 31).toUInt32).toInt32)))]))
            refine own_retI S0 d9_78 (by decide) (by decide) ?_
            have e0 : (0 : Int32).toInt = 0 := rfl
            have e1 : (1 : Int32).toInt = 1 := rfl
            have e4 : (4 : Int32).toInt = 4 := rfl
            have e16 : (16 : Int32).toInt = 16 := rfl
            have e31 : (31 : Int32).toInt = 31 := rfl
            have e32 : (32 : Int32).toInt = 32 := rfl
            have e256 : (256 : Int32).toInt = 256 := rfl
            have e65536 : (65536 : Int32).toInt = 65536 := rfl
            have v1 := c_iushr ((((p1.toUInt32 >>> ((16 : Int32) &&& 31).toUInt32).toInt32).toUInt32 >>> ((2 : Int32) &&& 31).toUInt32).toInt32) (1 : Int32) 1 (by decide) (by decide)
            have v2 := rng32 p1
            have v3 := c_isub (13 : Int32) ((((((p1.toUInt32 >>> ((16 : Int32) &&& 31).toUInt32).toInt32).toUInt32 >>> ((2 : Int32) &&& 31).toUInt32).toInt32).toUInt32 >>> ((1 : Int32) &&& 31).toUInt32).toInt32)
            have v4 := rng32 ((13 : Int32) - ((((((p1.toUInt32 >>> ((16 : Int32) &&& 31).toUInt32).toInt32).toUInt32 >>> ((2 : Int32) &&& 31).toUInt32).toInt32).toUInt32 >>> ((1 : Int32) &&& 31).toUInt32).toInt32))
            have v5 : ((13 : Int32)).toInt = 13 := rfl
            simp only [Int32.lt_iff_toInt_lt] at hc1_1 hc22_2 hc37_18 hc51_19 hc63_20
            refine ⟨_, rfl, ⟨?_, ?_⟩, fun q => ?_, rfl⟩ <;> omega
        · show own_F p e below s Z _ _ _ _ _ (T0.setTop (mkF m 54 #[.val (.int ((p1.toUInt32 >>> ((16 : Int32) &&& 31).toUInt32).toInt32)), .val (.int 15)] []))
          refine own_F.of (fun _ => XS.iinc S0.here S0.hx rfl (S0.dec d9_54) rfl (l' := #[.val (.int ((p1.toUInt32 >>> ((16 : Int32) &&& 31).toUInt32).toInt32)), .val (.int 11)]) rfl) ?_
          show own_F p e below s Z _ _ _ _ _ (T0.setTop (mkF m 57 #[.val (.int ((p1.toUInt32 >>> ((16 : Int32) &&& 31).toUInt32).toInt32)), .val (.int 11)] []))
          refine own_F.of (fun _ => XS.iloadN S0.here S0.hx rfl (S0.dec d9_57) rfl) ?_
          refine own_F.of (fun _ => XS.iconst S0.here S0.hx rfl (S0.dec d9_58)) ?_
          show own_F p e below s Z _ _ _ _ _ (T0.setTop (mkF m 59 #[.val (.int ((p1.toUInt32 >>> ((16 : Int32) &&& 31).toUInt32).toInt32)), .val (.int 11)] [(.int 4), (.int ((p1.toUInt32 >>> ((16 : Int32) &&& 31).toUInt32).toInt32))]))
          refine own_F.of (fun _ => XS.iushr S0.here S0.hx rfl (S0.dec d9_59) rfl) ?_
          show own_F p e below s Z _ _ _ _ _ (T0.setTop (mkF m 60 #[.val (.int ((p1.toUInt32 >>> ((16 : Int32) &&& 31).toUInt32).toInt32)), .val (.int 11)] [(.int ((((p1.toUInt32 >>> ((16 : Int32) &&& 31).toUInt32).toInt32).toUInt32 >>> ((4 : Int32) &&& 31).toUInt32).toInt32))]))
          have u22 := c_iushr ((p1.toUInt32 >>> ((16 : Int32) &&& 31).toUInt32).toInt32) (4 : Int32) 4 (by decide) (by decide)
          refine own_F.of (fun _ => XS.istoreN S0.here S0.hx rfl (S0.dec d9_60) rfl (l' := #[.val (.int ((((p1.toUInt32 >>> ((16 : Int32) &&& 31).toUInt32).toInt32).toUInt32 >>> ((4 : Int32) &&& 31).toUInt32).toInt32)), .val (.int 11)]) rfl) ?_
          refine own_F.of (fun _ => XS.iloadN S0.here S0.hx rfl (S0.dec d9_61) rfl) ?_
          refine own_F.of (fun _ => XS.iconst S0.here S0.hx rfl (S0.dec d9_62)) ?_
          show own_F p e below s Z _ _ _ _ _ (T0.setTop (mkF m 63 #[.val (.int ((((p1.toUInt32 >>> ((16 : Int32) &&& 31).toUInt32).toInt32).toUInt32 >>> ((4 : Int32) &&& 31).toUInt32).toInt32)), .val (.int 11)] [(.int 4), (.int ((((p1.toUInt32 >>> ((16 : Int32) &&& 31).toUInt32).toInt32).toUInt32 >>> ((4 : Int32) &&& 31).toUInt32).toInt32))]))
          refine own_icmp S0 73 d9_63 (by decide) (by decide) (fun (hc63_23 : ((((p1.toUInt32 >>> ((16 : Int32) &&& 31).toUInt32).toInt32).toUInt32 >>> ((4 : Int32) &&& 31).toUInt32).toInt32) < (4 : Int32)) => ?_) (fun (hc63_23 : ¬ (((((p1.toUInt32 >>> ((16 : Int32) &&& 31).toUInt32).toInt32).toUInt32 >>> ((4 : Int32) &&& 31).toUInt32).toInt32) < (4 : Int32))) => ?_)
          · show own_F p e below s Z _ _ _ _ _ (T0.setTop (mkF m 73 #[.val (.int ((((p1.toUInt32 >>> ((16 : Int32) &&& 31).toUInt32).toInt32).toUInt32 >>> ((4 : Int32) &&& 31).toUInt32).toInt32)), .val (.int 11)] []))
            refine own_F.of (fun _ => XS.iloadN S0.here S0.hx rfl (S0.dec d9_73) rfl) ?_
            refine own_F.of (fun _ => XS.iloadN S0.here S0.hx rfl (S0.dec d9_74) rfl) ?_
            refine own_F.of (fun _ => XS.iconst S0.here S0.hx rfl (S0.dec d9_75)) ?_
            show own_F p e below s Z _ _ _ _ _ (T0.setTop (mkF m 76 #[.val (.int ((((p1.toUInt32 >>> ((16 : Int32) &&& 31).toUInt32).toInt32).toUInt32 >>> ((4 : Int32) &&& 31).toUInt32).toInt32)), .val (.int 11)] [(.int 1), (.int ((((p1.toUInt32 >>> ((16 : Int32) &&& 31).toUInt32).toInt32).toUInt32 >>> ((4 : Int32) &&& 31).toUInt32).toInt32)), (.int 11)]))
            refine own_F.of (fun _ => XS.iushr S0.here S0.hx rfl (S0.dec d9_76) rfl) ?_
            show own_F p e below s Z _ _ _ _ _ (T0.setTop (mkF m 77 #[.val (.int ((((p1.toUInt32 >>> ((16 : Int32) &&& 31).toUInt32).toInt32).toUInt32 >>> ((4 : Int32) &&& 31).toUInt32).toInt32)), .val (.int 11)] [(.int ((((((p1.toUInt32 >>> ((16 : Int32) &&& 31).toUInt32).toInt32).toUInt32 >>> ((4 : Int32) &&& 31).toUInt32).toInt32).toUInt32 >>> ((1 : Int32) &&& 31).toUInt32).toInt32)), (.int 11)]))
            refine own_F.of (fun _ => XS.isub S0.here S0.hx rfl (S0.dec d9_77) rfl) ?_
            show own_F p e below s Z _ _ _ _ _ (T0.setTop (mkF m 78 #[.val (.int ((((p1.toUInt32 >>> ((16 : Int32) &&& 31).toUInt32).toInt32).toUInt32 >>> ((4 : Int32) &&& 31).toUInt32).toInt32)), .val (.int 11)] [(.int ((11 : Int32) - ((((((p1.toUInt32 >>> ((16 : Int32) &&& 31).toUInt32).toInt32).toUInt32 >>> ((4 : Int32) &&& 31).toUInt32).toInt32).toUInt32 >>> ((1 : Int32) &&& 31).toUInt32).toInt32)))]))
            refine own_retI S0 d9_78 (by decide) (by decide) ?_
            have e0 : (0 : Int32).toInt = 0 := rfl
            have e1 : (1 : Int32).toInt = 1 := rfl
            have e4 : (4 : Int32).toInt = 4 := rfl
            have e16 : (16 : Int32).toInt = 16 := rfl
            have e31 : (31 : Int32).toInt = 31 := rfl
            have e32 : (32 : Int32).toInt = 32 := rfl
            have e256 : (256 : Int32).toInt = 256 := rfl
            have e65536 : (65536 : Int32).toInt = 65536 := rfl
            have v1 := c_iushr ((((p1.toUInt32 >>> ((16 : Int32) &&& 31).toUInt32).toInt32).toUInt32 >>> ((4 : Int32) &&& 31).toUInt32).toInt32) (1 : Int32) 1 (by decide) (by decide)
            have v2 := rng32 p1
            have v3 := c_isub (11 : Int32) ((((((p1.toUInt32 >>> ((16 : Int32) &&& 31).toUInt32).toInt32).toUInt32 >>> ((4 : Int32) &&& 31).toUInt32).toInt32).toUInt32 >>> ((1 : Int32) &&& 31).toUInt32).toInt32)
            have v4 := rng32 ((11 : Int32) - ((((((p1.toUInt32 >>> ((16 : Int32) &&& 31).toUInt32).toInt32).toUInt32 >>> ((4 : Int32) &&& 31).toUInt32).toInt32).toUInt32 >>> ((1 : Int32) &&& 31).toUInt32).toInt32))
            have v5 : ((11 : Int32)).toInt = 11 := rfl
            simp only [Int32.lt_iff_toInt_lt] at hc1_1 hc22_2 hc37_18 hc51_19 hc63_23
            refine ⟨_, rfl, ⟨?_, ?_⟩, fun q => ?_, rfl⟩ <;> omega
          · show own_F p e below s Z _ _ _ _ _ (T0.setTop (mkF m 66 #[.val (.int ((((p1.toUInt32 >>> ((16 : Int32) &&& 31).toUInt32).toInt32).toUInt32 >>> ((4 : Int32) &&& 31).toUInt32).toInt32)), .val (.int 11)] []))
            refine own_F.of (fun _ => XS.iinc S0.here S0.hx rfl (S0.dec d9_66) rfl (l' := #[.val (.int ((((p1.toUInt32 >>> ((16 : Int32) &&& 31).toUInt32).toInt32).toUInt32 >>> ((4 : Int32) &&& 31).toUInt32).toInt32)), .val (.int 9)]) rfl) ?_
            show own_F p e below s Z _ _ _ _ _ (T0.setTop (mkF m 69 #[.val (.int ((((p1.toUInt32 >>> ((16 : Int32) &&& 31).toUInt32).toInt32).toUInt32 >>> ((4 : Int32) &&& 31).toUInt32).toInt32)), .val (.int 9)] []))
            refine own_F.of (fun _ => XS.iloadN S0.here S0.hx rfl (S0.dec d9_69) rfl) ?_
            refine own_F.of (fun _ => XS.iconst S0.here S0.hx rfl (S0.dec d9_70)) ?_
            show own_F p e below s Z _ _ _ _ _ (T0.setTop (mkF m 71 #[.val (.int ((((p1.toUInt32 >>> ((16 : Int32) &&& 31).toUInt32).toInt32).toUInt32 >>> ((4 : Int32) &&& 31).toUInt32).toInt32)), .val (.int 9)] [(.int 2), (.int ((((p1.toUInt32 >>> ((16 : Int32) &&& 31).toUInt32).toInt32).toUInt32 >>> ((4 : Int32) &&& 31).toUInt32).toInt32))]))
            refine own_F.of (fun _ => XS.iushr S0.here S0.hx rfl (S0.dec d9_71) rfl) ?_
            show own_F p e below s Z _ _ _ _ _ (T0.setTop (mkF m 72 #[.val (.int ((((p1.toUInt32 >>> ((16 : Int32) &&& 31).toUInt32).toInt32).toUInt32 >>> ((4 : Int32) &&& 31).toUInt32).toInt32)), .val (.int 9)] [(.int ((((((p1.toUInt32 >>> ((16 : Int32) &&& 31).toUInt32).toInt32).toUInt32 >>> ((4 : Int32) &&& 31).toUInt32).toInt32).toUInt32 >>> ((2 : Int32) &&& 31).toUInt32).toInt32))]))
            have u24 := c_iushr ((((p1.toUInt32 >>> ((16 : Int32) &&& 31).toUInt32).toInt32).toUInt32 >>> ((4 : Int32) &&& 31).toUInt32).toInt32) (2 : Int32) 2 (by decide) (by decide)
            refine own_F.of (fun _ => XS.istoreN S0.here S0.hx rfl (S0.dec d9_72) rfl (l' := #[.val (.int ((((((p1.toUInt32 >>> ((16 : Int32) &&& 31).toUInt32).toInt32).toUInt32 >>> ((4 : Int32) &&& 31).toUInt32).toInt32).toUInt32 >>> ((2 : Int32) &&& 31).toUInt32).toInt32)), .val (.int 9)]) rfl) ?_
            refine own_F.of (fun _ => XS.iloadN S0.here S0.hx rfl (S0.dec d9_73) rfl) ?_
            refine own_F.of (fun _ => XS.iloadN S0.here S0.hx rfl (S0.dec d9_74) rfl) ?_
            refine own_F.of (fun _ => XS.iconst S0.here S0.hx rfl (S0.dec d9_75)) ?_
            show own_F p e below s Z _ _ _ _ _ (T0.setTop (mkF m 76 #[.val (.int ((((((p1.toUInt32 >>> ((16 : Int32) &&& 31).toUInt32).toInt32).toUInt32 >>> ((4 : Int32) &&& 31).toUInt32).toInt32).toUInt32 >>> ((2 : Int32) &&& 31).toUInt32).toInt32)), .val (.int 9)] [(.int 1), (.int ((((((p1.toUInt32 >>> ((16 : Int32) &&& 31).toUInt32).toInt32).toUInt32 >>> ((4 : Int32) &&& 31).toUInt32).toInt32).toUInt32 >>> ((2 : Int32) &&& 31).toUInt32).toInt32)), (.int 9)]))
            refine own_F.of (fun _ => XS.iushr S0.here S0.hx rfl (S0.dec d9_76) rfl) ?_
            show own_F p e below s Z _ _ _ _ _ (T0.setTop (mkF m 77 #[.val (.int ((((((p1.toUInt32 >>> ((16 : Int32) &&& 31).toUInt32).toInt32).toUInt32 >>> ((4 : Int32) &&& 31).toUInt32).toInt32).toUInt32 >>> ((2 : Int32) &&& 31).toUInt32).toInt32)), .val (.int 9)] [(.int ((((((((p1.toUInt32 >>> ((16 : Int32) &&& 31).toUInt32).toInt32).toUInt32 >>> ((4 : Int32) &&& 31).toUInt32).toInt32).toUInt32 >>> ((2 : Int32) &&& 31).toUInt32).toInt32).toUInt32 >>> ((1 : Int32) &&& 31).toUInt32).toInt32)), (.int 9)]))
            refine own_F.of (fun _ => XS.isub S0.here S0.hx rfl (S0.dec d9_77) rfl) ?_
            show own_F p e below s Z _ _ _ _ _ (T0.setTop (mkF m 78 #[.val (.int ((((((p1.toUInt32 >>> ((16 : Int32) &&& 31).toUInt32).toInt32).toUInt32 >>> ((4 : Int32) &&& 31).toUInt32).toInt32).toUInt32 >>> ((2 : Int32) &&& 31).toUInt32).toInt32)), .val (.int 9)] [(.int ((9 : Int32) - ((((((((p1.toUInt32 >>> ((16 : Int32) &&& 31).toUInt32).toInt32).toUInt32 >>> ((4 : Int32) &&& 31).toUInt32).toInt32).toUInt32 >>> ((2 : Int32) &&& 31).toUInt32).toInt32).toUInt32 >>> ((1 : Int32) &&& 31).toUInt32).toInt32)))]))
            refine own_retI S0 d9_78 (by decide) (by decide) ?_
            have e0 : (0 : Int32).toInt = 0 := rfl
            have e1 : (1 : Int32).toInt = 1 := rfl
            have e4 : (4 : Int32).toInt = 4 := rfl
            have e16 : (16 : Int32).toInt = 16 := rfl
            have e31 : (31 : Int32).toInt = 31 := rfl
            have e32 : (32 : Int32).toInt = 32 := rfl
            have e256 : (256 : Int32).toInt = 256 := rfl
            have e65536 : (65536 : Int32).toInt = 65536 := rfl
            have v1 := c_iushr ((((((p1.toUInt32 >>> ((16 : Int32) &&& 31).toUInt32).toInt32).toUInt32 >>> ((4 : Int32) &&& 31).toUInt32).toInt32).toUInt32 >>> ((2 : Int32) &&& 31).toUInt32).toInt32) (1 : Int32) 1 (by decide) (by decide)
            have v2 := rng32 p1
            have v3 := c_isub (9 : Int32) ((((((((p1.toUInt32 >>> ((16 : Int32) &&& 31).toUInt32).toInt32).toUInt32 >>> ((4 : Int32) &&& 31).toUInt32).toInt32).toUInt32 >>> ((2 : Int32) &&& 31).toUInt32).toInt32).toUInt32 >>> ((1 : Int32) &&& 31).toUInt32).toInt32)
            have v4 := rng32 ((9 : Int32) - ((((((((p1.toUInt32 >>> ((16 : Int32) &&& 31).toUInt32).toInt32).toUInt32 >>> ((4 : Int32) &&& 31).toUInt32).toInt32).toUInt32 >>> ((2 : Int32) &&& 31).toUInt32).toInt32).toUInt32 >>> ((1 : Int32) &&& 31).toUInt32).toInt32))
            have v5 : ((9 : Int32)).toInt = 9 := rfl
            simp only [Int32.lt_iff_toInt_lt] at hc1_1 hc22_2 hc37_18 hc51_19 hc63_23
            refine ⟨_, rfl, ⟨?_, ?_⟩, fun q => ?_, rfl⟩ <;> omega
      · show own_F p e below s Z _ _ _ _ _ (T0.setTop (mkF m 40 #[.val (.int ((p1.toUInt32 >>> ((16 : Int32) &&& 31).toUInt32).toInt32)), .val (.int 15)] []))
        refine own_F.of (fun _ => XS.iinc S0.here S0.hx rfl (S0.dec d9_40) rfl (l' := #[.val (.int ((p1.toUInt32 >>> ((16 : Int32) &&& 31).toUInt32).toInt32)), .val (.int 7)]) rfl) ?_
        show own_F p e below s Z _ _ _ _ _ (T0.setTop (mkF m 43 #[.val (.int ((p1.toUInt32 >>> ((16 : Int32) &&& 31).toUInt32).toInt32)), .val (.int 7)] []))
        refine own_F.of (fun _ => XS.iloadN S0.here S0.hx rfl (S0.dec d9_43) rfl) ?_
        refine own_F.of (fun _ => XS.bipush S0.here S0.hx rfl (S0.dec d9_44)) ?_
        show own_F p e below s Z _ _ _ _ _ (T0.setTop (mkF m 46 #[.val (.int ((p1.toUInt32 >>> ((16 : Int32) &&& 31).toUInt32).toInt32)), .val (.int 7)] [(.int 8), (.int ((p1.toUInt32 >>> ((16 : Int32) &&& 31).toUInt32).toInt32))]))
        refine own_F.of (fun _ => XS.iushr S0.here S0.hx rfl (S0.dec d9_46) rfl) ?_
        show own_F p e below s Z _ _ _ _ _ (T0.setTop (mkF m 47 #[.val (.int ((p1.toUInt32 >>> ((16 : Int32) &&& 31).toUInt32).toInt32)), .val (.int 7)] [(.int ((((p1.toUInt32 >>> ((16 : Int32) &&& 31).toUInt32).toInt32).toUInt32 >>> ((8 : Int32) &&& 31).toUInt32).toInt32))]))
        have u25 := c_iushr ((p1.toUInt32 >>> ((16 : Int32) &&& 31).toUInt32).toInt32) (8 : Int32) 8 (by decide) (by decide)
        refine own_F.of (fun _ => XS.istoreN S0.here S0.hx rfl (S0.dec d9_47) rfl (l' := #[.val (.int ((((p1.toUInt32 >>> ((16 : Int32) &&& 31).toUInt32).toInt32).toUInt32 >>> ((8 : Int32) &&& 31).toUInt32).toInt32)), .val (.int 7)]) rfl) ?_
        refine own_F.of (fun _ => XS.iloadN S0.here S0.hx rfl (S0.dec d9_48) rfl) ?_
        refine own_F.of (fun _ => XS.bipush S0.here S0.hx rfl (S0.dec d9_49)) ?_
        show own_F p e below s Z _ _ _ _ _ (T0.setTop (mkF m 51 #[.val (.int ((((p1.toUInt32 >>> ((16 : Int32) &&& 31).toUInt32).toInt32).toUInt32 >>> ((8 : Int32) &&& 31).toUInt32).toInt32)), .val (.int 7)] [(.int 16), (.int ((((p1.toUInt32 >>> ((16 : Int32) &&& 31).toUInt32).toInt32).toUInt32 >>> ((8 : Int32) &&& 31).toUInt32).toInt32))]))
        refine own_icmp S0 61 d9_51 (by decide) (by decide) (fun (hc51_26 : ((((p1.toUInt32 >>> ((16 : Int32) &&& 31).toUInt32).toInt32).toUInt32 >>> ((8 : Int32) &&& 31).toUInt32).toInt32) < (16 : Int32)) => ?_) (fun (hc51_26 : ¬ (((((p1.toUInt32 >>> ((16 : Int32) &&& 31).toUInt32).toInt32).toUInt32 >>> ((8 : Int32) &&& 31).toUInt32).toInt32) < (16 : Int32))) => ?_)
        · show own_F p e below s Z _ _ _ _ _ (T0.setTop (mkF m 61 #[.val (.int ((((p1.toUInt32 >>> ((16 : Int32) &&& 31).toUInt32).toInt32).toUInt32 >>> ((8 : Int32) &&& 31).toUInt32).toInt32)), .val (.int 7)] []))
          refine own_F.of (fun _ => XS.iloadN S0.here S0.hx rfl (S0.dec d9_61) rfl) ?_
          refine own_F.of (fun _ => XS.iconst S0.here S0.hx rfl (S0.dec d9_62)) ?_
          show own_F p e below s Z _ _ _ _ _ (T0.setTop (mkF m 63 #[.val (.int ((((p1.toUInt32 >>> ((16 : Int32) &&& 31).toUInt32).toInt32).toUInt32 >>> ((8 : Int32) &&& 31).toUInt32).toInt32)), .val (.int 7)] [(.int 4), (.int ((((p1.toUInt32 >>> ((16 : Int32) &&& 31).toUInt32).toInt32).toUInt32 >>> ((8 : Int32) &&& 31).toUInt32).toInt32))]))
          refine own_icmp S0 73 d9_63 (by decide) (by decide) (fun (hc63_27 : ((((p1.toUInt32 >>> ((16 : Int32) &&& 31).toUInt32).toInt32).toUInt32 >>> ((8 : Int32) &&& 31).toUInt32).toInt32) < (4 : Int32)) => ?_) (fun (hc63_27 : ¬ (((((p1.toUInt32 >>> ((16 : Int32) &&& 31).toUInt32).toInt32).toUInt32 >>> ((8 : Int32) &&& 31).toUInt32).toInt32) < (4 : Int32))) => ?_)
          · show own_F p e below s Z _ _ _ _ _ (T0.setTop (mkF m 73 #[.val (.int ((((p1.toUInt32 >>> ((16 : Int32) &&& 31).toUInt32).toInt32).toUInt32 >>> ((8 : Int32) &&& 31).toUInt32).toInt32)), .val (.int 7)] []))
            refine own_F.of (fun _ => XS.iloadN S0.here S0.hx rfl (S0.dec d9_73) rfl) ?_
            refine own_F.of (fun _ => XS.iloadN S0.here S0.hx rfl (S0.dec d9_74) rfl) ?_
            refine own_F.of (fun _ => XS.iconst S0.here S0.hx rfl (S0.dec d9_75)) ?_
            show own_F p e below s Z _ _ _ _ _ (T0.setTop (mkF m 76 #[.val (.int ((((p1.toUInt32 >>> ((16 : Int32) &&& 31).toUInt32).toInt32).toUInt32 >>> ((8 : Int32) &&& 31).toUInt32).toInt32)), .val (.int 7)] [(.int 1), (.int ((((p1.toUInt32 >>> ((16 : Int32) &&& 31).toUInt32).toInt32).toUInt32 >>> ((8 : Int32) &&& 31).toUInt32).toInt32)), (.int 7)]))
            refine own_F.of (fun _ => XS.iushr S0.here S0.hx rfl (S0.dec d9_76) rfl) ?_
            show own_F p e below s Z _ _ _ _ _ (T0.setTop (mkF m 77 #[.val (.int ((((p1.toUInt32 >>> ((16 : Int32) &&& 31).toUInt32).toInt32).toUInt32 >>> ((8 : Int32) &&& 31).toUInt32).toInt32)), .val (.int 7)] [(.int ((((((p1.toUInt32 >>> ((16 : Int32) &&& 31).toUInt32).toInt32).toUInt32 >>> ((8 : Int32) &&& 31).toUInt32).toInt32).toUInt32 >>> ((1 : Int32) &&& 31).toUInt32).toInt32)), (.int 7)]))
            refine own_F.of (fun _ => XS.isub S0.here S0.hx rfl (S0.dec d9_77) rfl) ?_
            show own_F p e below s Z _ _ _ _ _ (T0.setTop (mkF m 78 #[.val (.int ((((p1.toUInt32 >>> ((16 : Int32) &&& 31).toUInt32).toInt32).toUInt32 >>> ((8 : Int32) &&& 31).toUInt32).toInt32)), .val (.int 7)] [(.int ((7 : Int32) - ((((((p1.toUInt32 >>> ((16 : Int32) &&& 31).toUInt32).toInt32).toUInt32 >>> ((8 : Int32) &&& 31).toUInt32).toInt32).toUInt32 >>> ((1 : Int32) &&& 31).toUInt32).toInt32)))]))
            refine own_retI S0 d9_78 (by decide) (by decide) ?_
            have e0 : (0 : Int32).toInt = 0 := rfl
            have e1 : (1 : Int32).toInt = 1 := rfl
            have e4 : (4 : Int32).toInt = 4 := rfl
            have e16 : (16 : Int32).toInt = 16 := rfl
            have e31 : (31 : Int32).toInt = 31 := rfl
            have e32 : (32 : Int32).toInt = 32 := rfl
            have e256 : (256 : Int32).toInt = 256 := rfl
            have e65536 : (65536 : Int32).toInt = 65536 := rfl
            have v1 := c_iushr ((((p1.toUInt32 >>> ((16 : Int32) &&& 31).toUInt32).toInt32).toUInt32 >>> ((8 : Int32) &&& 31).toUInt32).toInt32) (1 : Int32) 1 (by decide) (by decide)
            have v2 := rng32 p1
            have v3 := c_isub (7 : Int32) ((((((p1.toUInt32 >>> ((16 : Int32) &&& 31).toUInt32).toInt32).toUInt32 >>> ((8 : Int32) &&& 31).toUInt32).toInt32).toUInt32 >>> ((1 : Int32) &&& 31).toUInt32).toInt32)
            have v4 := rng32 ((7 : Int32) - ((((((p1.toUInt32 >>> ((16 : Int32) &&& 31).toUInt32).toInt32).toUInt32 >>> ((8 : Int32) &&& 31).toUInt32).toInt32).toUInt32 >>> ((1 : Int32) &&& 31).toUInt32).toInt32))
            have v5 : ((7 : Int32)).toInt = 7 := rfl
            simp only [Int32.lt_iff_toInt_lt] at hc1_1 hc22_2 hc37_18 hc51_26 hc63_27
            refine ⟨_, rfl, ⟨?_, ?_⟩, fun q => ?_, rfl⟩ <;> omega
          · show own_F p e below s Z _ _ _ _ _ (T0.setTop (mkF m 66 #[.val (.int ((((p1.toUInt32 >>> ((16 : Int32) &&& 31).toUInt32).toInt32).toUInt32 >>> ((8 : Int32) &&& 31).toUInt32).toInt32)), .val (.int 7)] []))
            refine own_F.of (fun _ => XS.iinc S0.here S0.hx rfl (S0.dec d9_66) rfl (l' := #[.val (.int ((((p1.toUInt32 >>> ((16 : Int32) &&& 31).toUInt32).toInt32).toUInt32 >>> ((8 : Int32) &&& 31).toUInt32).toInt32)), .val (.int 5)]) rfl) ?_
            show own_F p e below s Z _ _ _ _ _ (T0.setTop (mkF m 69 #[.val (.int ((((p1.toUInt32 >>> ((16 : Int32) &&& 31).toUInt32).toInt32).toUInt32 >>> ((8 : Int32) &&& 31).toUInt32).toInt32)), .val (.int 5)] []))
            refine own_F.of (fun _ => XS.iloadN S0.here S0.hx rfl (S0.dec d9_69) rfl) ?_
            refine own_F.of (fun _ => XS.iconst S0.here S0.hx rfl (S0.dec d9_70)) ?_
            show own_F p e below s Z _ _ _ _ _ (T0.setTop (mkF m 71 #[.val (.int ((((p1.toUInt32 >>> ((16 : Int32) &&& 31).toUInt32).toInt32).toUInt32 >>> ((8 : Int32) &&& 31).toUInt32).toInt32)), .val (.int 5)] [(.int 2), (.int ((((p1.toUInt32 >>> ((16 : Int32) &&& 31).toUInt32).toInt32).toUInt32 >>> ((8 : Int32) &&& 31).toUInt32).toInt32))]))
            refine own_F.of (fun _ => XS.iushr S0.here S0.hx rfl (S0.dec d9_71) rfl) ?_
            show own_F p e below s Z _ _ _ _ _ (T0.setTop (mkF m 72 #[.val (.int ((((p1.toUInt32 >>> ((16 : Int32) &&& 31).toUInt32).toInt32).toUInt32 >>> ((8 : Int32) &&& 31).toUInt32).toInt32)), .val (.int 5)] [(.int ((((((p1.toUInt32 >>> ((16 : Int32) &&& 31).toUInt32).toInt32).toUInt32 >>> ((8 : Int32) &&& 31).toUInt32).toInt32).toUInt32 >>> ((2 : Int32) &&& 31).toUInt32).toInt32))]))
            have u28 := c_iushr ((((p1.toUInt32 >>> ((16 : Int32) &&& 31).toUInt32).toInt32).toUInt32 >>> ((8 : Int32) &&& 31).toUInt32).toInt32) (2 : Int32) 2 (by decide) (by decide)
            refine own_F.of (fun _ => XS.istoreN S0.here S0.hx rfl (S0.dec d9_72) rfl (l' := #[.val (.int ((((((p1.toUInt32 >>> ((16 : Int32) &&& 31).toUInt32).toInt32).toUInt32 >>> ((8 : Int32) &&& 31).toUInt32).toInt32).toUInt32 >>> ((2 : Int32) &&& 31).toUInt32).toInt32)), .val (.int 5)]) rfl) ?_
            refine own_F.of (fun _ => XS.iloadN S0.here S0.hx rfl (S0.dec d9_73) rfl) ?_
            refine own_F.of (fun _ => XS.iloadN S0.here S0.hx rfl (S0.dec d9_74) rfl) ?_
            refine own_F.of (fun _ => XS.iconst S0.here S0.hx rfl (S0.dec d9_75)) ?_
            show own_F p e below s Z _ _ _ _ _ (T0.setTop (mkF m 76 #[.val (.int ((((((p1.toUInt32 >>> ((16 : Int32) &&& 31).toUInt32).toInt32).toUInt32 >>> ((8 : Int32) &&& 31).toUInt32).toInt32).toUInt32 >>> ((2 : Int32) &&& 31).toUInt32).toInt32)), .val (.int 5)] [(.int 1), (.int ((((((p1.toUInt32 >>> ((16 : Int32) &&& 31).toUInt32).toInt32).toUInt32 >>> ((8 : Int32) &&& 31).toUInt32).toInt32).toUInt32 >>> ((2 : Int32) &&& 31).toUInt32).toInt32)), (.int 5)]))
            refine own_F.of (fun _ => XS.iushr S0.here S0.hx rfl (S0.dec d9_76) rfl) ?_
            show own_F p e below s Z _ _ _ _ _ (T0.setTop (mkF m 77 #[.val (.int ((((((p1.toUInt32 >>> ((16 : Int32) &&& 31).toUInt32).toInt32).toUInt32 >>> ((8 : Int32) &&& 31).toUInt32).toInt32).toUInt32 >>> ((2 : Int32) &&& 31).toUInt32).toInt32)), .val (.int 5)] [(.int ((((((((p1.toUInt32 >>> ((16 : Int32) &&& 31).toUInt32).toInt32).toUInt32 >>> ((8 : Int32) &&& 31).toUInt32).toInt32).toUInt32 >>> ((2 : Int32) &&& 31).toUInt32).toInt32).toUInt32 >>> ((1 : Int32) &&& 31).toUInt32).toInt32)), (.int 5)]))
            refine own_F.of (fun _ => XS.isub S0.here S0.hx rfl (S0.dec d9_77) rfl) ?_
            show own_F p e below s Z _ _ _ _ _ (T0.setTop (mkF m 78 #[.val (.int ((((((p1.toUInt32 >>> ((16 : Int32) &&& 31).toUInt32).toInt32).toUInt32 >>> ((8 : Int32) &&& 31).toUInt32).toInt32).toUInt32 >>> ((2 : Int32) &&& 31).toUInt32).toInt32)), .val (.int 5)] [(.int ((5 : Int32) - ((((((((p1.toUInt32 >>> ((16 : Int32) &&& 31).toUInt32).toInt32).toUInt32 >>> ((8 : Int32) &&& 31).toUInt32).toInt32).toUInt32 >>> ((2 : Int32) &&& 31).toUInt32).toInt32).toUInt32 >>> ((1 : Int32) &&& 31).toUInt32).toInt32)))]))
            refine own_retI S0 d9_78 (by decide) (by decide) ?_
            have e0 : (0 : Int32).toInt = 0 := rfl
            have e1 : (1 : Int32).toInt = 1 := rfl
            have e4 : (4 : Int32).toInt = 4 := rfl
            have e16 : (16 : Int32).toInt = 16 := rfl
            have e31 : (31 : Int32).toInt = 31 := rfl
            have e32 : (32 : Int32).toInt = 32 := rfl
            have e256 : (256 : Int32).toInt = 256 := rfl
            have e65536 : (65536 : Int32).toInt = 65536 := rfl
            have v1 := c_iushr ((((((p1.toUInt32 >>> ((16 : Int32) &&& 31).toUInt32).toInt32).toUInt32 >>> ((8 : Int32) &&& 31).toUInt32).toInt32).toUInt32 >>> ((2 : Int32) &&& 31).toUInt32).toInt32) (1 : Int32) 1 (by decide) (by decide)
            have v2 := rng32 p1
            have v3 := c_isub (5 : Int32) ((((((((p1.toUInt32 >>> ((16 : Int32) &&& 31).toUInt32).toInt32).toUInt32 >>> ((8 : Int32) &&& 31).toUInt32).toInt32).toUInt32 >>> ((2 : Int32) &&& 31).toUInt32).toInt32).toUInt32 >>> ((1 : Int32) &&& 31).toUInt32).toInt32)
            have v4 := rng32 ((5 : Int32) - ((((((((p1.toUInt32 >>> ((16 : Int32) &&& 31).toUInt32).toInt32).toUInt32 >>> ((8 : Int32) &&& 31).toUInt32).toInt32).toUInt32 >>> ((2 : Int32) &&& 31).toUInt32).toInt32).toUInt32 >>> ((1 : Int32) &&& 31).toUInt32).toInt32))
            have v5 : ((5 : Int32)).toInt = 5 := rfl
            simp only [Int32.lt_iff_toInt_lt] at hc1_1 hc22_2 hc37_18 hc51_26 hc63_27
            refine ⟨_, rfl, ⟨?_, ?_⟩, fun q => ?_, rfl⟩ <;> omega
        · show own_F p e below s Z _ _ _ _ _ (T0.setTop (mkF m 54 #[.val (.int ((((p1.toUInt32 >>> ((16 : Int32) &&& 31).toUInt32).toInt32).toUInt32 >>> ((8 : Int32) &&& 31).toUInt32).toInt32)), .val (.int 7)] []))
          refine own_F.of (fun _ => XS.iinc S0.here S0.hx rfl (S0.dec d9_54) rfl (l' := #[.val (.int ((((p1.toUInt32 >>> ((16 : Int32) &&& 31).toUInt32).toInt32).toUInt32 >>> ((8 : Int32) &&& 31).toUInt32).toInt32)), .val (.int 3)]) rfl) ?_
          show own_F p e below s Z _ _ _ _ _ (T0.setTop (mkF m 57 #[.val (.int ((((p1.toUInt32 >>> ((16 : Int32) &&& 31).toUInt32).toInt32).toUInt32 >>> ((8 : Int32) &&& 31).toUInt32).toInt32)), .val (.int 3)] []))
          refine own_F.of (fun _ => XS.iloadN S0.here S0.hx rfl (S0.dec d9_57) rfl) ?_
          refine own_F.of (fun _ => XS.iconst S0.here S0.hx rfl (S0.dec d9_58)) ?_
          show own_F p e below s Z _ _ _ _ _ (T0.setTop (mkF m 59 #[.val (.int ((((p1.toUInt32 >>> ((16 : Int32) &&& 31).toUInt32).toInt32).toUInt32 >>> ((8 : Int32) &&& 31).toUInt32).toInt32)), .val (.int 3)] [(.int 4), (.int ((((p1.toUInt32 >>> ((16 : Int32) &&& 31).toUInt32).toInt32).toUInt32 >>> ((8 : Int32) &&& 31).toUInt32).toInt32))]))
          refine own_F.of (fun _ => XS.iushr S0.here S0.hx rfl (S0.dec d9_59) rfl) ?_
          show own_F p e below s Z _ _ _ _ _ (T0.setTop (mkF m 60 #[.val (.int ((((p1.toUInt32 >>> ((16 : Int32) &&& 31).toUInt32).toInt32).toUInt32 >>> ((8 : Int32) &&& 31).toUInt32).toInt32)), .val (.int 3)] [(.int ((((((p1.toUInt32 >>> ((16 : Int32) &&& 31).toUInt32).toInt32).toUInt32 >>> ((8 : Int32) &&& 31).toUInt32).toInt32).toUInt32 >>> ((4 : Int32) &&& 31).toUInt32).toInt32))]))
          have u29 := c_iushr ((((p1.toUInt32 >>> ((16 : Int32) &&& 31).toUInt32).toInt32).toUInt32 >>> ((8 : Int32) &&& 31).toUInt32).toInt32) (4 : Int32) 4 (by decide) (by decide)
          refine own_F.of (fun _ => XS.istoreN S0.here S0.hx rfl (S0.dec d9_60) rfl (l' := #[.val (.int ((((((p1.toUInt32 >>> ((16 : Int32) &&& 31).toUInt32).toInt32).toUInt32 >>> ((8 : Int32) &&& 31).toUInt32).toInt32).toUInt32 >>> ((4 : Int32) &&& 31).toUInt32).toInt32)), .val (.int 3)]) rfl) ?_
          refine own_F.of (fun _ => XS.iloadN S0.here S0.hx rfl (S0.dec d9_61) rfl) ?_
          refine own_F.of (fun _ => XS.iconst S0.here S0.hx rfl (S0.dec d9_62)) ?_
          show own_F p e below s Z _ _ _ _ _ (T0.setTop (mkF m 63 #[.val (.int ((((((p1.toUInt32 >>> ((16 : Int32) &&& 31).toUInt32).toInt32).toUInt32 >>> ((8 : Int32) &&& 31).toUInt32).toInt32).toUInt32 >>> ((4 : Int32) &&& 31).toUInt32).toInt32)), .val (.int 3)] [(.int 4), (.int ((((((p1.toUInt32 >>> ((16 : Int32) &&& 31).toUInt32).toInt32).toUInt32 >>> ((8 : Int32) &&& 31).toUInt32).toInt32).toUInt32 >>> ((4 : Int32) &&& 31).toUInt32).toInt32))]))
          refine own_icmp S0 73 d9_63 (by decide) (by decide) (fun (hc63_30 : ((((((p1.toUInt32 >>> ((16 : Int32) &&& 31).toUInt32).toInt32).toUInt32 >>> ((8 : Int32) &&& 31).toUInt32).toInt32).toUInt32 >>> ((4 : Int32) &&& 31).toUInt32).toInt32) < (4 : Int32)) => ?_) (fun (hc63_30 : ¬ (((((((p1.toUInt32 >>> ((16 : Int32) &&& 31).toUInt32).toInt32).toUInt32 >>> ((8 : Int32) &&& 31).toUInt32).toInt32).toUInt32 >>> ((4 : Int32) &&& 31).toUInt32).toInt32) < (4 : Int32))) => ?_)
          · show own_F p e below s Z _ _ _ _ _ (T0.setTop (mkF m 73 #[.val (.int ((((((p1.toUInt32 >>> ((16 : Int32) &&& 31).toUInt32).toInt32).toUInt32 >>> ((8 : Int32) &&& 31).toUInt32).toInt32).toUInt32 >>> ((4 : Int32) &&& 31).toUInt32).toInt32)), .val (.int 3)] []))
            refine own_F.of (fun _ => XS.iloadN S0.here S0.hx rfl (S0.dec d9_73) rfl) ?_
            refine own_F.of (fun _ => XS.iloadN S0.here S0.hx rfl (S0.dec d9_74) rfl) ?_
            refine own_F.of (fun _ => XS.iconst S0.here S0.hx rfl (S0.dec d9_75)) ?_
            show own_F p e below s Z _ _ _ _ _ (T0.setTop (mkF m 76 #[.val (.int ((((((p1.toUInt32 >>> ((16 : Int32) &&& 31).toUInt32).toInt32).toUInt32 >>> ((8 : Int32) &&& 31).toUInt32).toInt32).toUInt32 >>> ((4 : Int32) &&& 31).toUInt32).toInt32)), .val (.int 3)] [(.int 1), (.int ((((((p1.toUInt32 >>> ((16 : Int32) &&& 31).toUInt32).toInt32).toUInt32 >>> ((8 : Int32) &&& 31).toUInt32).toInt32).toUInt32 >>> ((4 : Int32) &&& 31).toUInt32).toInt32)), (.int 3)]))
            refine own_F.of (fun _ => XS.iushr S0.here S0.hx rfl (S0.dec d9_76) rfl) ?_
            show own_F p e below s Z _ _ _ _ _ (T0.setTop (mkF m 77 #[.val (.int ((((((p1.toUInt32 >>> ((16 : Int32) &&& 31).toUInt32).toInt32).toUInt32 >>> ((8 : Int32) &&& 31).toUInt32).toInt32).toUInt32 >>> ((4 : Int32) &&& 31).toUInt32).toInt32)), .val (.int 3)] [(.int ((((((((p1.toUInt32 >>> ((16 : Int32) &&& 31).toUInt32).toInt32).toUInt32 >>> ((8 : Int32) &&& 31).toUInt32).toInt32).toUInt32 >>> ((4 : Int32) &&& 31).toUInt32).toInt32).toUInt32 >>> ((1 : Int32) &&& 31).toUInt32).toInt32)), (.int 3)]))
            refine own_F.of (fun _ => XS.isub S0.here S0.hx rfl (S0.dec d9_77) rfl) ?_
            show own_F p e below s Z _ _ _ _ _ (T0.setTop (mkF m 78 #[.val (.int ((((((p1.toUInt32 >>> ((16 : Int32) &&& 31).toUInt32).toInt32).toUInt32 >>> ((8 : Int32) &&& 31).toUInt32).toInt32).toUInt32 >>> ((4 : Int32) &&& 31).toUInt32).toInt32)), .val (.int 3)] [(.int ((3 : Int32) - ((((((((p1.toUInt32 >>> ((16 : Int32) &&& 31).toUInt32).toInt32).toUInt32 >>> ((8 : Int32) &&& 31).toUInt32).toInt32).toUInt32 >>> ((4 : Int32) &&& 31).toUInt32).toInt32).toUInt32 >>> ((1 : Int32) &&& 31).toUInt32).toInt32)))]))
            refine own_retI S0 d9_78 (by decide) (by decide) ?_
            have e0 : (0 : Int32).toInt = 0 := rfl
            have e1 : (1 : Int32).toInt = 1 := rfl
            have e4 : (4 : Int32).toInt = 4 := rfl
            have e16 : (16 : Int32).toInt = 16 := rfl
            have e31 : (31 : Int32).toInt = 31 := rfl
            have e32 : (32 : Int32).toInt = 32 := rfl
            have e256 : (256 : Int32).toInt = 256 := rfl
            have e65536 : (65536 : Int32).toInt = 65536 := rfl
            have v1 := c_iushr ((((((p1.toUInt32 >>> ((16 : Int32) &&& 31).toUInt32).toInt32).toUInt32 >>> ((8 : Int32) &&& 31).toUInt32).toInt32).toUInt32 >>> ((4 : Int32) &&& 31).toUInt32).toInt32) (1 : Int32) 1 (by decide) (by decide)
            have v2 := rng32 p1
            have v3 := c_isub (3 : Int32) ((((((((p1.toUInt32 >>> ((16 : Int32) &&& 31).toUInt32).toInt32).toUInt32 >>> ((8 : Int32) &&& 31).toUInt32).toInt32).toUInt32 >>> ((4 : Int32) &&& 31).toUInt32).toInt32).toUInt32 >>> ((1 : Int32) &&& 31).toUInt32).toInt32)
            have v4 := rng32 ((3 : Int32) - ((((((((p1.toUInt32 >>> ((16 : Int32) &&& 31).toUInt32).toInt32).toUInt32 >>> ((8 : Int32) &&& 31).toUInt32).toInt32).toUInt32 >>> ((4 : Int32) &&& 31).toUInt32).toInt32).toUInt32 >>> ((1 : Int32) &&& 31).toUInt32).toInt32))
            have v5 : ((3 : Int32)).toInt = 3 := rfl
            simp only [Int32.lt_iff_toInt_lt] at hc1_1 hc22_2 hc37_18 hc51_26 hc63_30
            refine ⟨_, rfl, ⟨?_, ?_⟩, fun q => ?_, rfl⟩ <;> omega
          · show own_F p e below s Z _ _ _ _ _ (T0.setTop (mkF m 66 #[.val (.int ((((((p1.toUInt32 >>> ((16 : Int32) &&& 31).toUInt32).toInt32).toUInt32 >>> ((8 : Int32) &&& 31).toUInt32).toInt32).toUInt32 >>> ((4 : Int32) &&& 31).toUInt32).toInt32)), .val (.int 3)] []))
            refine own_F.of (fun _ => XS.iinc S0.here S0.hx rfl (S0.dec d9_66) rfl (l' := #[.val (.int ((((((p1.toUInt32 >>> ((16 : Int32) &&& 31).toUInt32).toInt32).toUInt32 >>> ((8 : Int32) &&& 31).toUInt32).toInt32).toUInt32 >>> ((4 : Int32) &&& 31).toUInt32).toInt32)), .val (.int 1)]) rfl) ?_
            show own_F p e below s Z _ _ _ _ _ (T0.setTop (mkF m 69 #[.val (.int ((((((p1.toUInt32 >>> ((16 : Int32) &&& 31).toUInt32).toInt32).toUInt32 >>> ((8 : Int32) &&& 31).toUInt32).toInt32).toUInt32 >>> ((4 : Int32) &&& 31).toUInt32).toInt32)), .val (.int 1)] []))
            refine own_F.of (fun _ => XS.iloadN S0.here S0.hx rfl (S0.dec d9_69) rfl) ?_
            refine own_F.of (fun _ => XS.iconst S0.here S0.hx rfl (S0.dec d9_70)) ?_
            show own_F p e below s Z _ _ _ _ _ (T0.setTop (mkF m 71 #[.val (.int ((((((p1.toUInt32 >>> ((16 : Int32) &&& 31).toUInt32).toInt32).toUInt32 >>> ((8 : Int32) &&& 31).toUInt32).toInt32).toUInt32 >>> ((4 : Int32) &&& 31).toUInt32).toInt32)), .val (.int 1)] [(.int 2), (.int ((((((p1.toUInt32 >>> ((16 : Int32) &&& 31).toUInt32).toInt32).toUInt32 >>> ((8 : Int32) &&& 31).toUInt32).toInt32).toUInt32 >>> ((4 : Int32) &&& 31).toUInt32).toInt32))]))
            refine own_F.of (fun _ => XS.iushr S0.here S0.hx rfl (S0.dec d9_71) rfl) ?_
            show own_F p e below s Z _ _ _ _ _ (T0.setTop (mkF m 72 #[.val (.int ((((((p1.toUInt32 >>> ((16 : Int32) &&& 31).toUInt32).toInt32).toUInt32 >>> ((8 : Int32) &&& 31).toUInt32).toInt32).toUInt32 >>> ((4 : Int32) &&& 31).toUInt32).toInt32)), .val (.int 1)] [(.int ((((((((p1.toUInt32 >>> ((16 : Int32) &&& 31).toUInt32).toInt32).toUInt32 >>> ((8 : Int32) &&& 31).toUInt32).toInt32).toUInt32 >>> ((4 : Int32) &&& 31).toUInt32).toInt32).toUInt32 >>> ((2 : Int32) &&& 31).toUInt32).toInt32))]))
            have u31 := c_iushr ((((((p1.toUInt32 >>> ((16 : Int32) &&& 31).toUInt32).toInt32).toUInt32 >>> ((8 : Int32) &&& 31).toUInt32).toInt32).toUInt32 >>> ((4 : Int32) &&& 31).toUInt32).toInt32) (2 : Int32) 2 (by decide) (by decide)
            refine own_F.of (fun _ => XS.istoreN S0.here S0.hx rfl (S0.dec d9_72) rfl (l' := #[.val (.int ((((((((p1.toUInt32 >>> ((16 : Int32) &&& 31).toUInt32).toInt32).toUInt32 >>> ((8 : Int32) &&& 31).toUInt32).toInt32).toUInt32 >>> ((4 : Int32) &&& 31).toUInt32).toInt32).toUInt32 >>> ((2 : Int32) &&& 31).toUInt32).toInt32)), .val (.int 1)]) rfl) ?_
            refine own_F.of (fun _ => XS.iloadN S0.here S0.hx rfl (S0.dec d9_73) rfl) ?_
            refine own_F.of (fun _ => XS.iloadN S0.here S0.hx rfl (S0.dec d9_74) rfl) ?_
            refine own_F.of (fun _ => XS.iconst S0.here S0.hx rfl (S0.dec d9_75)) ?_
            show own_F p e below s Z _ _ _ _ _ (T0.setTop (mkF m 76 #[.val (.int ((((((((p1.toUInt32 >>> ((16 : Int32) &&& 31).toUInt32).toInt32).toUInt32 >>> ((8 : Int32) &&& 31).toUInt32).toInt32).toUInt32 >>> ((4 : Int32) &&& 31).toUInt32).toInt32).toUInt32 >>> ((2 : Int32) &&& 31).toUInt32).toInt32)), .val (.int 1)] [(.int 1), (.int ((((((((p1.toUInt32 >>> ((16 : Int32) &&& 31).toUInt32).toInt32).toUInt32 >>> ((8 : Int32) &&& 31).toUInt32).toInt32).toUInt32 >>> ((4 : Int32) &&& 31).toUInt32).toInt32).toUInt32 >>> ((2 : Int32) &&& 31).toUInt32).toInt32)), (.int 1)]))
            refine own_F.of (fun _ => XS.iushr S0.here S0.hx rfl (S0.dec d9_76) rfl) ?_
            show own_F p e below s Z _ _ _ _ _ (T0.setTop (mkF m 77 #[.val (.int ((((((((p1.toUInt32 >>> ((16 : Int32) &&& 31).toUInt32).toInt32).toUInt32 >>> ((8 : Int32) &&& 31).toUInt32).toInt32).toUInt32 >>> ((4 : Int32) &&& 31).toUInt32).toInt32).toUInt32 >>> ((2 : Int32) &&& 31).toUInt32).toInt32)), .val (.int 1)] [(.int ((((((((((p1.toUInt32 >>> ((16 : Int32) &&& 31).toUInt32).toInt32).toUInt32 >>> ((8 : Int32) &&& 31).toUInt32).toInt32).toUInt32 >>> ((4 : Int32) &&& 31).toUInt32).toInt32).toUInt32 >>> ((2 : Int32) &&& 31).toUInt32).toInt32).toUInt32 >>> ((1 : Int32) &&& 31).toUInt32).toInt32)), (.int 1)]))
            refine own_F.of (fun _ => XS.isub S0.here S0.hx rfl (S0.dec d9_77) rfl) ?_
            show own_F p e below s Z _ _ _ _ _ (T0.setTop (mkF m 78 #[.val (.int ((((((((p1.toUInt32 >>> ((16 : Int32) &&& 31).toUInt32).toInt32).toUInt32 >>> ((8 : Int32) &&& 31).toUInt32).toInt32).toUInt32 >>> ((4 : Int32) &&& 31).toUInt32).toInt32).toUInt32 >>> ((2 : Int32) &&& 31).toUInt32).toInt32)), .val (.int 1)] [(.int ((1 : Int32) - ((((((((((p1.toUInt32 >>> ((16 : Int32) &&& 31).toUInt32).toInt32).toUInt32 >>> ((8 : Int32) &&& 31).toUInt32).toInt32).toUInt32 >>> ((4 : Int32) &&& 31).toUInt32).toInt32).toUInt32 >>> ((2 : Int32) &&& 31).toUInt32).toInt32).toUInt32 >>> ((1 : Int32) &&& 31).toUInt32).toInt32)))]))
            refine own_retI S0 d9_78 (by decide) (by decide) ?_
            have e0 : (0 : Int32).toInt = 0 := rfl
            have e1 : (1 : Int32).toInt = 1 := rfl
            have e4 : (4 : Int32).toInt = 4 := rfl
            have e16 : (16 : Int32).toInt = 16 := rfl
            have e31 : (31 : Int32).toInt = 31 := rfl
            have e32 : (32 : Int32).toInt = 32 := rfl
            have e256 : (256 : Int32).toInt = 256 := rfl
            have e65536 : (65536 : Int32).toInt = 65536 := rfl
            have v1 := c_iushr ((((((((p1.toUInt32 >>> ((16 : Int32) &&& 31).toUInt32).toInt32).toUInt32 >>> ((8 : Int32) &&& 31).toUInt32).toInt32).toUInt32 >>> ((4 : Int32) &&& 31).toUInt32).toInt32).toUInt32 >>> ((2 : Int32) &&& 31).toUInt32).toInt32) (1 : Int32) 1 (by decide) (by decide)
            have v2 := rng32 p1
            have v3 := c_isub (1 : Int32) ((((((((((p1.toUInt32 >>> ((16 : Int32) &&& 31).toUInt32).toInt32).toUInt32 >>> ((8 : Int32) &&& 31).toUInt32).toInt32).toUInt32 >>> ((4 : Int32) &&& 31).toUInt32).toInt32).toUInt32 >>> ((2 : Int32) &&& 31).toUInt32).toInt32).toUInt32 >>> ((1 : Int32) &&& 31).toUInt32).toInt32)
            have v4 := rng32 ((1 : Int32) - ((((((((((p1.toUInt32 >>> ((16 : Int32) &&& 31).toUInt32).toInt32).toUInt32 >>> ((8 : Int32) &&& 31).toUInt32).toInt32).toUInt32 >>> ((4 : Int32) &&& 31).toUInt32).toInt32).toUInt32 >>> ((2 : Int32) &&& 31).toUInt32).toInt32).toUInt32 >>> ((1 : Int32) &&& 31).toUInt32).toInt32))
            have v5 : ((1 : Int32)).toInt = 1 := rfl
            simp only [Int32.lt_iff_toInt_lt] at hc1_1 hc22_2 hc37_18 hc51_26 hc63_30
            refine ⟨_, rfl, ⟨?_, ?_⟩, fun q => ?_, rfl⟩ <;> omega
  · show own_F p e below s Z _ _ _ _ _ (T0.setTop (mkF m 4 #[.val (.int p1), .unset] []))
    refine own_F.of (fun _ => XS.iloadN S0.here S0.hx rfl (S0.dec d9_4) rfl) ?_
    show own_F p e below s Z _ _ _ _ _ (T0.setTop (mkF m 5 #[.val (.int p1), .unset] [(.int p1)]))
    refine own_if S0 13 d9_5 (by decide) (by decide) (fun (hc5_32 : ¬ (p1 = (0 : Int32))) => ?_) (fun (hc5_32 : p1 = (0 : Int32)) => ?_)
    · show own_F p e below s Z _ _ _ _ _ (T0.setTop (mkF m 13 #[.val (.int p1), .unset] []))
      refine own_F.of (fun _ => XS.iconst S0.here S0.hx rfl (S0.dec d9_13)) ?_
      show own_F p e below s Z _ _ _ _ _ (T0.setTop (mkF m 14 #[.val (.int p1), .unset] [(.int 0)]))
      refine own_retI S0 d9_14 (by decide) (by decide) ?_
      refine ⟨_, rfl, ⟨by decide, by decide⟩, fun q => absurd q hc1_1, rfl⟩
    · show own_F p e below s Z _ _ _ _ _ (T0.setTop (mkF m 8 #[.val (.int p1), .unset] []))
      refine own_F.of (fun _ => XS.bipush S0.here S0.hx rfl (S0.dec d9_8)) ?_
      show own_F p e below s Z _ _ _ _ _ (T0.setTop (mkF m 10 #[.val (.int p1), .unset] [(.int 32)]))
      refine own_F.of (fun _ => XS.goto S0.here S0.hx rfl (pc0 := 10) (pc' := 14) rfl (S0.dec d9_10) (by decide) (by decide)) ?_
      show own_F p e below s Z _ _ _ _ _ (T0.setTop (mkF m 14 #[.val (.int p1), .unset] [(.int 32)]))
      refine own_retI S0 d9_14 (by decide) (by decide) ?_
      refine ⟨_, rfl, ⟨by decide, by decide⟩, fun q => absurd q hc1_1, rfl⟩
theorem d8_0 : decode jdk_35_method_48_code 0 = .ok (.lload_n 0, 1) := by decide +kernel
theorem d8_1 : decode jdk_35_method_48_code 1 = .ok (.bipush 32, 2) := by decide +kernel
theorem d8_3 : decode jdk_35_method_48_code 3 = .ok (.lushr, 1) := by decide +kernel
theorem d8_4 : decode jdk_35_method_48_code 4 = .ok (.l2i, 1) := by decide +kernel
theorem d8_5 : decode jdk_35_method_48_code 5 = .ok (.istore_n 2, 1) := by decide +kernel
theorem d8_6 : decode jdk_35_method_48_code 6 = .ok (.iload_n 2, 1) := by decide +kernel
theorem d8_7 : decode jdk_35_method_48_code 7 = .ok (.ifCond .ne 14, 3) := by decide +kernel
theorem d8_10 : decode jdk_35_method_48_code 10 = .ok (.bipush 32, 2) := by decide +kernel
theorem d8_12 : decode jdk_35_method_48_code 12 = .ok (.lload_n 0, 1) := by decide +kernel
theorem d8_13 : decode jdk_35_method_48_code 13 = .ok (.l2i, 1) := by decide +kernel
theorem d8_14 : decode jdk_35_method_48_code 14 = .ok (.invokestatic 308, 3) := by decide +kernel
theorem d8_17 : decode jdk_35_method_48_code 17 = .ok (.iadd, 1) := by decide +kernel
theorem d8_18 : decode jdk_35_method_48_code 18 = .ok (.goto 7, 3) := by decide +kernel
theorem d8_21 : decode jdk_35_method_48_code 21 = .ok (.iload_n 2, 1) := by decide +kernel
theorem d8_22 : decode jdk_35_method_48_code 22 = .ok (.invokestatic 308, 3) := by decide +kernel
theorem d8_25 : decode jdk_35_method_48_code 25 = .ok (.ireturn, 1) := by decide +kernel
theorem pn8 : plainFor (⟨"java/lang/Long", "numberOfLeadingZeros", "(J)I"⟩ : MethodName) = true := plainFor_of_name (by first | (simp [plainName, overriddenIn]; done) | decide +kernel)
theorem own_hi {p1 : Int64} (hp : ¬ p1 < 0) (hx : ¬ (((p1.toUInt64 >>> ((32 : Int32) &&& 0x3f).toInt64.toUInt64).toInt64).toInt32) = 0) : 0 < (((p1.toUInt64 >>> ((32 : Int32) &&& 0x3f).toInt64.toUInt64).toInt64).toInt32) := by
  have a := c_lushr p1 32 32 (by decide) (by decide)
  have r := rng64 p1
  rw [Int64.lt_iff_toInt_lt] at hp
  have e0 : (0 : Int64).toInt = 0 := rfl
  generalize (p1.toUInt64 >>> ((32 : Int32) &&& 0x3f).toInt64.toUInt64).toInt64 = y at *
  have c1 := c_l2i y
  have r2 := rng32 y.toInt32
  have e1 : (0 : Int32).toInt = 0 := rfl
  have n : y.toInt32.toInt ≠ 0 := fun q => hx (Int32.toInt_inj.mp (by rw [q, e1]))
  rw [Int32.lt_iff_toInt_lt]
  omega
theorem own_lo32 {r : Int32} (h : 0 ≤ r.toInt ∧ r.toInt ≤ 32) : 1 ≤ ((32 : Int32) + r).toInt ∧ ((32 : Int32) + r).toInt ≤ 64 := by
  have a := c_iadd 32 r
  have b := rng32 ((32 : Int32) + r)
  have e : (32 : Int32).toInt = 32 := rfl
  omega

set_option maxRecDepth 65536 in
set_option maxHeartbeats 40000000 in
theorem own_nlzL (l : Launch) (Z : State) (a0 : Array Value) (hw : ∀ d ∈ tables_1, d.before a0 Z = true) (p1 : Int64) (h0 : Heap) (hO : Ext Z.heap h0) (hp : ¬ p1 < 0) :
    own_C l Z (⟨"java/lang/Long", "numberOfLeadingZeros", "(J)I"⟩ : MethodName) jdk_35_method_48_code 3 (some .int) [] ({ frames := 1, cells := 0, slots := 0, locals := 14 } : Room) [] #[(.long p1)] h0 (fun v h => ∃ r : Int32, v = some (.int r) ∧ (1 ≤ r.toInt ∧ r.toInt ≤ 64) ∧ h0 = h) := by
  refine own_C.of pn8 hO all0 ?_
  intro p e s m below meth c T0 S0
  refine own_F.cast (by first | (simp [entryFrame, mkF, argsToLocals, Value.category]; done) | rfl : entryFrame m #[(.long p1)] 3 = mkF m 0 #[.val (.long p1), .second, .unset] []) ?_
  show own_F p e below s Z _ _ _ _ _ (T0.setTop (mkF m 0 #[.val (.long p1), .second, .unset] []))
  refine own_F.of (fun _ => XS.lloadN S0.here S0.hx rfl (S0.dec d8_0) rfl) ?_
  refine own_F.of (fun _ => XS.bipush S0.here S0.hx rfl (S0.dec d8_1)) ?_
  show own_F p e below s Z _ _ _ _ _ (T0.setTop (mkF m 3 #[.val (.long p1), .second, .unset] [(.int 32), (.long p1)]))
  refine own_F.of (fun _ => XS.lushr S0.here S0.hx rfl (S0.dec d8_3) rfl) ?_
  show own_F p e below s Z _ _ _ _ _ (T0.setTop (mkF m 4 #[.val (.long p1), .second, .unset] [(.long ((p1.toUInt64 >>> ((32 : Int32) &&& 0x3f).toInt64.toUInt64).toInt64))]))
  refine own_F.of (fun _ => XS.l2i S0.here S0.hx rfl (S0.dec d8_4) rfl) ?_
  show own_F p e below s Z _ _ _ _ _ (T0.setTop (mkF m 5 #[.val (.long p1), .second, .unset] [(.int (((p1.toUInt64 >>> ((32 : Int32) &&& 0x3f).toInt64.toUInt64).toInt64).toInt32))]))
  refine own_F.of (fun _ => XS.istoreN S0.here S0.hx rfl (S0.dec d8_5) rfl (l' := #[.val (.long p1), .second, .val (.int (((p1.toUInt64 >>> ((32 : Int32) &&& 0x3f).toInt64.toUInt64).toInt64).toInt32))]) rfl) ?_
  refine own_F.of (fun _ => XS.iloadN S0.here S0.hx rfl (S0.dec d8_6) rfl) ?_
  show own_F p e below s Z _ _ _ _ _ (T0.setTop (mkF m 7 #[.val (.long p1), .second, .val (.int (((p1.toUInt64 >>> ((32 : Int32) &&& 0x3f).toInt64.toUInt64).toInt64).toInt32))] [(.int (((p1.toUInt64 >>> ((32 : Int32) &&& 0x3f).toInt64.toUInt64).toInt64).toInt32))]))
  refine own_if S0 21 d8_7 (by decide) (by decide) (fun (hc7_1 : ¬ ((((p1.toUInt64 >>> ((32 : Int32) &&& 0x3f).toInt64.toUInt64).toInt64).toInt32) = (0 : Int32))) => ?_) (fun (hc7_1 : (((p1.toUInt64 >>> ((32 : Int32) &&& 0x3f).toInt64.toUInt64).toInt64).toInt32) = (0 : Int32)) => ?_)
  · show own_F p e below s Z _ _ _ _ _ (T0.setTop (mkF m 21 #[.val (.long p1), .second, .val (.int (((p1.toUInt64 >>> ((32 : Int32) &&& 0x3f).toInt64.toUInt64).toInt64).toInt32))] []))
    refine own_F.of (fun _ => XS.iloadN S0.here S0.hx rfl (S0.dec d8_21) rfl) ?_
    show own_F p e below s Z _ _ _ _ _ (T0.setTop (mkF m 22 #[.val (.long p1), .second, .val (.int (((p1.toUInt64 >>> ((32 : Int32) &&& 0x3f).toInt64.toUInt64).toInt64).toInt32))] [(.int (((p1.toUInt64 >>> ((32 : Int32) &&& 0x3f).toInt64.toUInt64).toInt64).toInt32))]))
    refine own_callS S0 (y := (⟨"java/lang/Integer", "numberOfLeadingZeros", "(I)I"⟩ : MethodName)) (own_w hw 55 rfl) (own_w hw 56 rfl) (own_w hw 57 rfl) (own_w hw 58 rfl) (by decide) (argsL := [(.int (((p1.toUInt64 >>> ((32 : Int32) &&& 0x3f).toInt64.toUInt64).toInt64).toInt32))]) (rest := []) (own_nlzI l Z a0 hw (((p1.toUInt64 >>> ((32 : Int32) &&& 0x3f).toInt64.toUInt64).toInt64).toInt32) h0 S0.old) all0 (by decide +kernel : parseMethodDescriptor "(I)I" = some ⟨[.int], some .int⟩) rfl rfl rfl d8_22 (by decide) (Nat.le_of_ble_eq_true rfl) (by decide) (by decide) (fun T2 h2 v2 S2 K2 q2 => ?_)
    obtain ⟨r2, rfl, g2, k2, rfl⟩ := q2
    show own_F p e below s Z _ _ _ _ _ (T2.setTop (mkF m 25 #[.val (.long p1), .second, .val (.int (((p1.toUInt64 >>> ((32 : Int32) &&& 0x3f).toInt64.toUInt64).toInt64).toInt32))] [(.int r2)]))
    refine own_retI S2 d8_25 (by decide) (by decide) ?_
    exact ⟨_, rfl, ⟨k2 (own_hi hp hc7_1), Int.le_trans g2.2 (by decide)⟩, rfl⟩
  · show own_F p e below s Z _ _ _ _ _ (T0.setTop (mkF m 10 #[.val (.long p1), .second, .val (.int (((p1.toUInt64 >>> ((32 : Int32) &&& 0x3f).toInt64.toUInt64).toInt64).toInt32))] []))
    refine own_F.of (fun _ => XS.bipush S0.here S0.hx rfl (S0.dec d8_10)) ?_
    refine own_F.of (fun _ => XS.lloadN S0.here S0.hx rfl (S0.dec d8_12) rfl) ?_
    show own_F p e below s Z _ _ _ _ _ (T0.setTop (mkF m 13 #[.val (.long p1), .second, .val (.int (((p1.toUInt64 >>> ((32 : Int32) &&& 0x3f).toInt64.toUInt64).toInt64).toInt32))] [(.long p1), (.int 32)]))
    refine own_F.of (fun _ => XS.l2i S0.here S0.hx rfl (S0.dec d8_13) rfl) ?_
    show own_F p e below s Z _ _ _ _ _ (T0.setTop (mkF m 14 #[.val (.long p1), .second, .val (.int (((p1.toUInt64 >>> ((32 : Int32) &&& 0x3f).toInt64.toUInt64).toInt64).toInt32))] [(.int (p1.toInt32)), (.int 32)]))
    refine own_callS S0 (y := (⟨"java/lang/Integer", "numberOfLeadingZeros", "(I)I"⟩ : MethodName)) (own_w hw 55 rfl) (own_w hw 56 rfl) (own_w hw 57 rfl) (own_w hw 58 rfl) (by decide) (argsL := [(.int (p1.toInt32))]) (rest := [(.int (32 : Int32))]) (own_nlzI l Z a0 hw (p1.toInt32) h0 S0.old) all0 (by decide +kernel : parseMethodDescriptor "(I)I" = some ⟨[.int], some .int⟩) rfl rfl rfl d8_14 (by decide) (Nat.le_of_ble_eq_true rfl) (by decide) (by decide) (fun T3 h3 v3 S3 K3 q3 => ?_)
    obtain ⟨r3, rfl, g3, k3, rfl⟩ := q3
    show own_F p e below s Z _ _ _ _ _ (T3.setTop (mkF m 17 #[.val (.long p1), .second, .val (.int (((p1.toUInt64 >>> ((32 : Int32) &&& 0x3f).toInt64.toUInt64).toInt64).toInt32))] [(.int r3), (.int 32)]))
    refine own_F.of (fun _ => XS.iadd S3.here S3.hx rfl (S3.dec d8_17) rfl) ?_
    show own_F p e below s Z _ _ _ _ _ (T3.setTop (mkF m 18 #[.val (.long p1), .second, .val (.int (((p1.toUInt64 >>> ((32 : Int32) &&& 0x3f).toInt64.toUInt64).toInt64).toInt32))] [(.int ((32 : Int32) + r3))]))
    refine own_F.of (fun _ => XS.goto S3.here S3.hx rfl (pc0 := 18) (pc' := 25) rfl (S3.dec d8_18) (by decide) (by decide)) ?_
    show own_F p e below s Z _ _ _ _ _ (T3.setTop (mkF m 25 #[.val (.long p1), .second, .val (.int (((p1.toUInt64 >>> ((32 : Int32) &&& 0x3f).toInt64.toUInt64).toInt64).toInt32))] [(.int ((32 : Int32) + r3))]))
    refine own_retI S3 d8_25 (by decide) (by decide) ?_
    exact ⟨_, rfl, own_lo32 g3, rfl⟩
theorem d12_0 : decode jdk_29_method_70_code 0 = .ok (.lload_n 0, 1) := by decide +kernel
theorem d12_1 : decode jdk_29_method_70_code 1 = .ok (.lload_n 2, 1) := by decide +kernel
theorem d12_2 : decode jdk_29_method_70_code 2 = .ok (.lcmp, 1) := by decide +kernel
theorem d12_3 : decode jdk_29_method_70_code 3 = .ok (.ifCond .gt 7, 3) := by decide +kernel
theorem d12_6 : decode jdk_29_method_70_code 6 = .ok (.lload_n 0, 1) := by decide +kernel
theorem d12_7 : decode jdk_29_method_70_code 7 = .ok (.goto 4, 3) := by decide +kernel
theorem d12_10 : decode jdk_29_method_70_code 10 = .ok (.lload_n 2, 1) := by decide +kernel
theorem d12_11 : decode jdk_29_method_70_code 11 = .ok (.lreturn, 1) := by decide +kernel
theorem pn12 : plainFor (⟨"java/lang/Math", "min", "(JJ)J"⟩ : MethodName) = true := Jvm.Free.JP.mathPlain rfl (by decide +kernel)
set_option maxRecDepth 65536 in
set_option maxHeartbeats 40000000 in
theorem own_min (l : Launch) (Z : State) (a0 : Array Value) (hw : ∀ d ∈ tables_1, d.before a0 Z = true) (p1 p2 : Int64) (h0 : Heap) (hO : Ext Z.heap h0) :
    own_C l Z (⟨"java/lang/Math", "min", "(JJ)J"⟩ : MethodName) jdk_29_method_70_code 4 (some .long) [] ({ frames := 0, cells := 0, slots := 0, locals := 0 } : Room) [] #[(.long p1), (.long p2)] h0 (fun v h => v = some (.long (own_mn p1 p2)) ∧ h0 = h) := by
  refine own_C.of pn12 hO all0 ?_
  intro p e s m below meth c T0 S0
  refine own_F.cast (by first | (simp [entryFrame, mkF, argsToLocals, Value.category]; done) | rfl : entryFrame m #[(.long p1), (.long p2)] 4 = mkF m 0 #[.val (.long p1), .second, .val (.long p2), .second] []) ?_
  show own_F p e below s Z _ _ _ _ _ (T0.setTop (mkF m 0 #[.val (.long p1), .second, .val (.long p2), .second] []))
  refine own_F.of (fun _ => XS.lloadN S0.here S0.hx rfl (S0.dec d12_0) rfl) ?_
  refine own_F.of (fun _ => XS.lloadN S0.here S0.hx rfl (S0.dec d12_1) rfl) ?_
  show own_F p e below s Z _ _ _ _ _ (T0.setTop (mkF m 2 #[.val (.long p1), .second, .val (.long p2), .second] [(.long p2), (.long p1)]))
  refine own_F.of (fun _ => XS.lcmp S0.here S0.hx rfl (S0.dec d12_2) rfl) ?_
  show own_F p e below s Z _ _ _ _ _ (T0.setTop (mkF m 3 #[.val (.long p1), .second, .val (.long p2), .second] [(.int (lcmpW p1 p2))]))
  refine own_if S0 10 d12_3 (by decide) (by decide) (fun (hc3_1 : (0 : Int32) < (lcmpW p1 p2)) => ?_) (fun (hc3_1 : ¬ ((0 : Int32) < (lcmpW p1 p2))) => ?_)
  · show own_F p e below s Z _ _ _ _ _ (T0.setTop (mkF m 10 #[.val (.long p1), .second, .val (.long p2), .second] []))
    refine own_F.of (fun _ => XS.lloadN S0.here S0.hx rfl (S0.dec d12_10) rfl) ?_
    show own_F p e below s Z _ _ _ _ _ (T0.setTop (mkF m 11 #[.val (.long p1), .second, .val (.long p2), .second] [(.long p2)]))
    refine own_retJ S0 d12_11 (by decide) (by decide) ?_
    have hh : own_mn p1 p2 = p2 := by simp [own_mn, hc3_1]
    rw [hh]; exact ⟨rfl, rfl⟩
  · show own_F p e below s Z _ _ _ _ _ (T0.setTop (mkF m 6 #[.val (.long p1), .second, .val (.long p2), .second] []))
    refine own_F.of (fun _ => XS.lloadN S0.here S0.hx rfl (S0.dec d12_6) rfl) ?_
    show own_F p e below s Z _ _ _ _ _ (T0.setTop (mkF m 7 #[.val (.long p1), .second, .val (.long p2), .second] [(.long p1)]))
    refine own_F.of (fun _ => XS.goto S0.here S0.hx rfl (pc0 := 7) (pc' := 11) rfl (S0.dec d12_7) (by decide) (by decide)) ?_
    show own_F p e below s Z _ _ _ _ _ (T0.setTop (mkF m 11 #[.val (.long p1), .second, .val (.long p2), .second] [(.long p1)]))
    refine own_retJ S0 d12_11 (by decide) (by decide) ?_
    have hh : own_mn p1 p2 = p1 := by simp [own_mn, hc3_1]
    rw [hh]; exact ⟨rfl, rfl⟩
theorem d4_0 : decode prog_77_method_2_code 0 = .ok (.aload_n 0, 1) := by decide +kernel
theorem d4_1 : decode prog_77_method_2_code 1 = .ok (.getfield 34, 3) := by decide +kernel
theorem d4_4 : decode prog_77_method_2_code 4 = .ok (.ifCond .ne 7, 3) := by decide +kernel
theorem d4_7 : decode prog_77_method_2_code 7 = .ok (.iconst 1, 1) := by decide +kernel
theorem d4_8 : decode prog_77_method_2_code 8 = .ok (.goto 4, 3) := by decide +kernel
theorem d4_11 : decode prog_77_method_2_code 11 = .ok (.iconst 0, 1) := by decide +kernel
theorem d4_12 : decode prog_77_method_2_code 12 = .ok (.ireturn, 1) := by decide +kernel
theorem pn4 : plainFor (⟨"com/example/slackweave/slackweave/paths/RadixHeap", "isEmpty", "()Z"⟩ : MethodName) = true := plainFor_of_name (by first | (simp [plainName, overriddenIn]; done) | decide +kernel)
set_option maxRecDepth 65536 in
set_option maxHeartbeats 40000000 in
theorem own_isE (l : Launch) (Z : State) (a0 : Array Value) (hw : ∀ d ∈ tables_1, d.before a0 Z = true) (a1 : Addr) (ct : Int32) (h0 : Heap) (hO : Ext Z.heap h0) (F_c : Fld Z h0 a1 "com/example/slackweave/slackweave/paths/RadixHeap" "count" "I" (.int ct)) :
    own_C l Z (⟨"com/example/slackweave/slackweave/paths/RadixHeap", "isEmpty", "()Z"⟩ : MethodName) prog_77_method_2_code 1 (some .boolean) [] ({ frames := 0, cells := 0, slots := 0, locals := 0 } : Room) [] #[(.ref a1)] h0 (fun v h => v = some (.int (if ct = 0 then 1 else 0)) ∧ h0 = h) := by
  refine own_C.of pn4 hO all0 ?_
  intro p e s m below meth c T0 S0
  refine own_F.cast (by first | (simp [entryFrame, mkF, argsToLocals, Value.category]; done) | rfl : entryFrame m #[(.ref a1)] 1 = mkF m 0 #[.val (.ref a1)] []) ?_
  show own_F p e below s Z _ _ _ _ _ (T0.setTop (mkF m 0 #[.val (.ref a1)] []))
  refine own_F.of (fun _ => XS.aloadN S0.here S0.hx rfl (S0.dec d4_0) rfl rfl) ?_
  show own_F p e below s Z _ _ _ _ _ (T0.setTop (mkF m 1 #[.val (.ref a1)] [(.ref a1)]))
  refine own_getF S0 (host := "") (Or.inl (own_w hw 34 rfl)) Via.refl F_c d4_1 (fun T1 S1 => ?_)
  show own_F p e below s Z _ _ _ _ _ (T1.setTop (mkF m 4 #[.val (.ref a1)] [(.int ct)]))
  refine own_if S1 11 d4_4 (by decide) (by decide) (fun (hc4_2 : ¬ (ct = (0 : Int32))) => ?_) (fun (hc4_2 : ct = (0 : Int32)) => ?_)
  · show own_F p e below s Z _ _ _ _ _ (T1.setTop (mkF m 11 #[.val (.ref a1)] []))
    refine own_F.of (fun _ => XS.iconst S1.here S1.hx rfl (S1.dec d4_11)) ?_
    show own_F p e below s Z _ _ _ _ _ (T1.setTop (mkF m 12 #[.val (.ref a1)] [(.int 0)]))
    refine own_retZ S1 (by simp) d4_12 (by decide) (by decide) ?_
    have hh : (if ct = 0 then (1 : Int32) else 0) = (0 : Int32) := by simp [hc4_2]
    rw [hh]; exact ⟨rfl, rfl⟩
  · show own_F p e below s Z _ _ _ _ _ (T1.setTop (mkF m 7 #[.val (.ref a1)] []))
    refine own_F.of (fun _ => XS.iconst S1.here S1.hx rfl (S1.dec d4_7)) ?_
    show own_F p e below s Z _ _ _ _ _ (T1.setTop (mkF m 8 #[.val (.ref a1)] [(.int 1)]))
    refine own_F.of (fun _ => XS.goto S1.here S1.hx rfl (pc0 := 8) (pc' := 12) rfl (S1.dec d4_8) (by decide) (by decide)) ?_
    show own_F p e below s Z _ _ _ _ _ (T1.setTop (mkF m 12 #[.val (.ref a1)] [(.int 1)]))
    refine own_retZ S1 (by simp) d4_12 (by decide) (by decide) ?_
    have hh : (if ct = 0 then (1 : Int32) else 0) = (1 : Int32) := by simp [hc4_2]
    rw [hh]; exact ⟨rfl, rfl⟩
theorem d7_0 : decode prog_77_method_6_code 0 = .ok (.aload_n 0, 1) := by decide +kernel
theorem d7_1 : decode prog_77_method_6_code 1 = .ok (.getfield 18, 3) := by decide +kernel
theorem d7_4 : decode prog_77_method_6_code 4 = .ok (.iload_n 1, 1) := by decide +kernel
theorem d7_5 : decode prog_77_method_6_code 5 = .ok (.laload, 1) := by decide +kernel
theorem d7_6 : decode prog_77_method_6_code 6 = .ok (.lstore_n 2, 1) := by decide +kernel
theorem d7_7 : decode prog_77_method_6_code 7 = .ok (.lload_n 2, 1) := by decide +kernel
theorem d7_8 : decode prog_77_method_6_code 8 = .ok (.aload_n 0, 1) := by decide +kernel
theorem d7_9 : decode prog_77_method_6_code 9 = .ok (.getfield 45, 3) := by decide +kernel
theorem d7_12 : decode prog_77_method_6_code 12 = .ok (.lcmp, 1) := by decide +kernel
theorem d7_13 : decode prog_77_method_6_code 13 = .ok (.ifCond .gt 7, 3) := by decide +kernel
theorem d7_16 : decode prog_77_method_6_code 16 = .ok (.iconst 0, 1) := by decide +kernel
theorem d7_17 : decode prog_77_method_6_code 17 = .ok (.goto 15, 3) := by decide +kernel
theorem d7_20 : decode prog_77_method_6_code 20 = .ok (.bipush 64, 2) := by decide +kernel
theorem d7_22 : decode prog_77_method_6_code 22 = .ok (.lload_n 2, 1) := by decide +kernel
theorem d7_23 : decode prog_77_method_6_code 23 = .ok (.aload_n 0, 1) := by decide +kernel
theorem d7_24 : decode prog_77_method_6_code 24 = .ok (.getfield 45, 3) := by decide +kernel
theorem d7_27 : decode prog_77_method_6_code 27 = .ok (.lxor, 1) := by decide +kernel
theorem d7_28 : decode prog_77_method_6_code 28 = .ok (.invokestatic 57, 3) := by decide +kernel
theorem d7_31 : decode prog_77_method_6_code 31 = .ok (.isub, 1) := by decide +kernel
theorem d7_32 : decode prog_77_method_6_code 32 = .ok (.istore 4, 2) := by decide +kernel
theorem d7_34 : decode prog_77_method_6_code 34 = .ok (.aload_n 0, 1) := by decide +kernel
theorem d7_35 : decode prog_77_method_6_code 35 = .ok (.getfield 15, 3) := by decide +kernel
theorem d7_38 : decode prog_77_method_6_code 38 = .ok (.iload 4, 2) := by decide +kernel
theorem d7_40 : decode prog_77_method_6_code 40 = .ok (.iaload, 1) := by decide +kernel
theorem d7_41 : decode prog_77_method_6_code 41 = .ok (.istore 5, 2) := by decide +kernel
theorem d7_43 : decode prog_77_method_6_code 43 = .ok (.aload_n 0, 1) := by decide +kernel
theorem d7_44 : decode prog_77_method_6_code 44 = .ok (.getfield 11, 3) := by decide +kernel
theorem d7_47 : decode prog_77_method_6_code 47 = .ok (.iload 4, 2) := by decide +kernel
theorem d7_49 : decode prog_77_method_6_code 49 = .ok (.aaload, 1) := by decide +kernel
theorem d7_50 : decode prog_77_method_6_code 50 = .ok (.ifnonnull 17, 3) := by decide +kernel
theorem d7_53 : decode prog_77_method_6_code 53 = .ok (.aload_n 0, 1) := by decide +kernel
theorem d7_54 : decode prog_77_method_6_code 54 = .ok (.getfield 11, 3) := by decide +kernel
theorem d7_57 : decode prog_77_method_6_code 57 = .ok (.iload 4, 2) := by decide +kernel
theorem d7_59 : decode prog_77_method_6_code 59 = .ok (.bipush 16, 2) := by decide +kernel
theorem d7_61 : decode prog_77_method_6_code 61 = .ok (.newarray .int, 2) := by decide +kernel
theorem d7_63 : decode prog_77_method_6_code 63 = .ok (.aastore, 1) := by decide +kernel
theorem d7_64 : decode prog_77_method_6_code 64 = .ok (.goto 37, 3) := by decide +kernel
theorem d7_67 : decode prog_77_method_6_code 67 = .ok (.iload 5, 2) := by decide +kernel
theorem d7_69 : decode prog_77_method_6_code 69 = .ok (.aload_n 0, 1) := by decide +kernel
theorem d7_70 : decode prog_77_method_6_code 70 = .ok (.getfield 11, 3) := by decide +kernel
theorem d7_73 : decode prog_77_method_6_code 73 = .ok (.iload 4, 2) := by decide +kernel
theorem d7_75 : decode prog_77_method_6_code 75 = .ok (.aaload, 1) := by decide +kernel
theorem d7_76 : decode prog_77_method_6_code 76 = .ok (.arraylength, 1) := by decide +kernel
theorem d7_77 : decode prog_77_method_6_code 77 = .ok (.if_icmp .ne 24, 3) := by decide +kernel
theorem d7_80 : decode prog_77_method_6_code 80 = .ok (.aload_n 0, 1) := by decide +kernel
theorem d7_81 : decode prog_77_method_6_code 81 = .ok (.getfield 11, 3) := by decide +kernel
theorem d7_84 : decode prog_77_method_6_code 84 = .ok (.iload 4, 2) := by decide +kernel
theorem d7_86 : decode prog_77_method_6_code 86 = .ok (.aload_n 0, 1) := by decide +kernel
theorem d7_87 : decode prog_77_method_6_code 87 = .ok (.getfield 11, 3) := by decide +kernel
theorem d7_90 : decode prog_77_method_6_code 90 = .ok (.iload 4, 2) := by decide +kernel
theorem d7_92 : decode prog_77_method_6_code 92 = .ok (.aaload, 1) := by decide +kernel
theorem d7_93 : decode prog_77_method_6_code 93 = .ok (.iconst 2, 1) := by decide +kernel
theorem d7_94 : decode prog_77_method_6_code 94 = .ok (.iload 5, 2) := by decide +kernel
theorem d7_96 : decode prog_77_method_6_code 96 = .ok (.imul, 1) := by decide +kernel
theorem d7_97 : decode prog_77_method_6_code 97 = .ok (.invokestatic 61, 3) := by decide +kernel
theorem d7_100 : decode prog_77_method_6_code 100 = .ok (.aastore, 1) := by decide +kernel
theorem d7_101 : decode prog_77_method_6_code 101 = .ok (.aload_n 0, 1) := by decide +kernel
theorem d7_102 : decode prog_77_method_6_code 102 = .ok (.getfield 11, 3) := by decide +kernel
theorem d7_105 : decode prog_77_method_6_code 105 = .ok (.iload 4, 2) := by decide +kernel
theorem d7_107 : decode prog_77_method_6_code 107 = .ok (.aaload, 1) := by decide +kernel
theorem d7_108 : decode prog_77_method_6_code 108 = .ok (.iload 5, 2) := by decide +kernel
theorem d7_110 : decode prog_77_method_6_code 110 = .ok (.iload_n 1, 1) := by decide +kernel
theorem d7_111 : decode prog_77_method_6_code 111 = .ok (.iastore, 1) := by decide +kernel
theorem d7_112 : decode prog_77_method_6_code 112 = .ok (.aload_n 0, 1) := by decide +kernel
theorem d7_113 : decode prog_77_method_6_code 113 = .ok (.getfield 15, 3) := by decide +kernel
theorem d7_116 : decode prog_77_method_6_code 116 = .ok (.iload 4, 2) := by decide +kernel
theorem d7_118 : decode prog_77_method_6_code 118 = .ok (.iload 5, 2) := by decide +kernel
theorem d7_120 : decode prog_77_method_6_code 120 = .ok (.iconst 1, 1) := by decide +kernel
theorem d7_121 : decode prog_77_method_6_code 121 = .ok (.iadd, 1) := by decide +kernel
theorem d7_122 : decode prog_77_method_6_code 122 = .ok (.iastore, 1) := by decide +kernel
theorem d7_123 : decode prog_77_method_6_code 123 = .ok (.aload_n 0, 1) := by decide +kernel
theorem d7_124 : decode prog_77_method_6_code 124 = .ok (.getfield 22, 3) := by decide +kernel
theorem d7_127 : decode prog_77_method_6_code 127 = .ok (.iload_n 1, 1) := by decide +kernel
theorem d7_128 : decode prog_77_method_6_code 128 = .ok (.iload 4, 2) := by decide +kernel
theorem d7_130 : decode prog_77_method_6_code 130 = .ok (.iastore, 1) := by decide +kernel
theorem d7_131 : decode prog_77_method_6_code 131 = .ok (.aload_n 0, 1) := by decide +kernel
theorem d7_132 : decode prog_77_method_6_code 132 = .ok (.getfield 31, 3) := by decide +kernel
theorem d7_135 : decode prog_77_method_6_code 135 = .ok (.iload_n 1, 1) := by decide +kernel
theorem d7_136 : decode prog_77_method_6_code 136 = .ok (.iload 5, 2) := by decide +kernel
theorem d7_138 : decode prog_77_method_6_code 138 = .ok (.iastore, 1) := by decide +kernel
theorem d7_139 : decode prog_77_method_6_code 139 = .ok (.return_, 1) := by decide +kernel
theorem pn7 : plainFor (⟨"com/example/slackweave/slackweave/paths/RadixHeap", "file", "(I)V"⟩ : MethodName) = true := plainFor_of_name (by first | (simp [plainName, overriddenIn]; done) | decide +kernel)
theorem own_kz {k : Nat} (h : k < 64) (q : k.toInt32 = 0) : k = 0 := by
  have a := (own_64 h).1
  rw [q] at a; exact a.symm

set_option maxRecDepth 65536 in
set_option maxHeartbeats 40000000 in
theorem own_file0 (l : Launch) (Z : State) (a0 : Array Value) (hw : ∀ d ∈ tables_1, d.before a0 Z = true) (a1 aB aS aK aO aP aI : Addr) (bk : List Value) (Cf : Nat → List Value) (bf : Nat → Option Nat) (pf : Nat → Nat) (la : Int64) (ct o0 o1 o2 z0 z1 z2 : Int32) (y0 y1 y2 : Int64) (i0 i1 i2 : Int32) (h0 : Heap) (hO : Ext Z.heap h0) (H : own_RH Z h0 a1 aB aS aK aO aP aI bk Cf bf la ct o0 o1 o2 z0 z1 z2 y0 y1 y2 i0 i1 i2) (AB : own_AB bf pf bk Cf) (hb : bf 0 = none) (hla : ¬ la < 0) (hy : ¬ y0 < 0) :
    own_C l Z (⟨"com/example/slackweave/slackweave/paths/RadixHeap", "file", "(I)V"⟩ : MethodName) prog_77_method_6_code 6 none [] ({ frames := 2, cells := 1, slots := 16, locals := 29 } : Room) (own_news Z h0) #[(.ref a1), (.int (0 : Int32))] h0 (fun v h => v = none ∧ ∃ (k : Nat) (bk' : List Value) (C' : Nat → List Value), k < 64 ∧ (¬ la < y0 → k = 0) ∧ own_RH Z h a1 aB aS aK aO aP aI bk' C' (own_up bf 0 (some k)) la ct k.toInt32 o1 o2 (own_hm bf k).toInt32 z1 z2 y0 y1 y2 i0 i1 i2 ∧ own_AB (own_up bf 0 (some k)) (own_up pf 0 (own_hm bf k)) bk' C' ∧ own_XT bk bk' Cf C' k (own_hm bf k)) := by
  refine own_C.of pn7 hO own_news_le ?_
  intro p e s m below meth c T0 S0
  refine own_F.cast (by first | (simp [entryFrame, mkF, argsToLocals, Value.category]; done) | rfl : entryFrame m #[(.ref a1), (.int (0 : Int32))] 6 = mkF m 0 #[.val (.ref a1), .val (.int (0 : Int32)), .unset, .unset, .unset, .unset] []) ?_
  obtain ⟨⟨ga, gB, gS, gO, gP, gI⟩, ⟨nSO, nSP, nOP⟩, E_a1, F_buckets, F_sizes, F_keys, F_bucketOf, F_positions, F_last, F_count, RB, AS, AK, AO, AP, AI, BK⟩ := H
  have n1aB := own_neA E_a1 (own_w hw 3 rfl) RB.A
  have naBaS := own_A.neT RB.A AS (by decide)
  have naBaK := own_A.neT RB.A AK (by decide)
  have naBaO := own_A.neT RB.A AO (by decide)
  have naBaP := own_A.neT RB.A AP (by decide)
  have naBaI := own_A.neT RB.A AI (by decide)
  have n1aS := own_neA E_a1 (own_w hw 3 rfl) AS
  have naSaK := own_A.neT AS AK (by decide)
  have naSaI := own_A.neT AS AI (by decide)
  have n1aK := own_neA E_a1 (own_w hw 3 rfl) AK
  have naKaO := own_A.neT AK AO (by decide)
  have naKaP := own_A.neT AK AP (by decide)
  have naKaI := own_A.neT AK AI (by decide)
  have n1aO := own_neA E_a1 (own_w hw 3 rfl) AO
  have naOaI := own_A.neT AO AI (by decide)
  have n1aP := own_neA E_a1 (own_w hw 3 rfl) AP
  have naPaI := own_A.neT AP AI (by decide)
  have n1aI := own_neA E_a1 (own_w hw 3 rfl) AI
  have J : ∀ (TJ : State) (SJ : own_S Z h0 (own_news Z h0) (⟨"com/example/slackweave/slackweave/paths/RadixHeap", "file", "(I)V"⟩ : MethodName).cls prog_77_method_6_code 6 none (⟨"com/example/slackweave/slackweave/paths/RadixHeap", "file", "(I)V"⟩ : MethodName).name p l e ({ frames := 2, cells := 1, slots := 16, locals := 29 } : Room) s m #[.ref a1, .int (0 : Int32)] below meth c TJ h0 0 0) (kJ : Int32), ¬ kJ < 0 → kJ < 64 → (¬ la < y0 → kJ = 0) → own_F p e below s Z h0 (own_news Z h0) ({ frames := 2, cells := 1, slots := 16, locals := 29 } : Room).cells ({ frames := 2, cells := 1, slots := 16, locals := 29 } : Room).slots (fun v h => v = none ∧ ∃ (k : Nat) (bk' : List Value) (C' : Nat → List Value), k < 64 ∧ (¬ la < y0 → k = 0) ∧ own_RH Z h a1 aB aS aK aO aP aI bk' C' (own_up bf 0 (some k)) la ct k.toInt32 o1 o2 (own_hm bf k).toInt32 z1 z2 y0 y1 y2 i0 i1 i2 ∧ own_AB (own_up bf 0 (some k)) (own_up pf 0 (own_hm bf k)) bk' C' ∧ own_XT bk bk' Cf C' k (own_hm bf k)) (TJ.setTop (mkF m 34 #[.val (.ref a1), .val (.int (0 : Int32)), .val (.long y0), .second, .val (.int kJ), .unset] [])) := by
    intro TJ SJ kJ hJ0 hJ1 hJ2
    obtain ⟨kn, hkn, rfl⟩ := own_k64 hJ0 hJ1
    have h2 := own_hm_le2 (n := 0) (by decide) hb kn
    have sm := own_small (n := (own_hm bf kn)) (by omega)
    show own_F p e below s Z _ _ _ _ _ (TJ.setTop (mkF m 34 #[.val (.ref a1), .val (.int 0), .val (.long y0), .second, .val (.int kn.toInt32), .unset] []))
    refine own_F.of (fun _ => XS.aloadN SJ.here SJ.hx rfl (SJ.dec d7_34) rfl rfl) ?_
    show own_F p e below s Z _ _ _ _ _ (TJ.setTop (mkF m 35 #[.val (.ref a1), .val (.int 0), .val (.long y0), .second, .val (.int kn.toInt32), .unset] [(.ref a1)]))
    refine own_getF SJ (host := "") (Or.inl (own_w hw 16 rfl)) Via.refl F_sizes d7_35 (fun T1 S1 => ?_)
    show own_F p e below s Z _ _ _ _ _ (T1.setTop (mkF m 38 #[.val (.ref a1), .val (.int 0), .val (.long y0), .second, .val (.int kn.toInt32), .unset] [(.ref aS)]))
    refine own_F.of (fun _ => XS.iload S1.here S1.hx rfl (S1.dec d7_38) rfl) ?_
    show own_F p e below s Z _ _ _ _ _ (T1.setTop (mkF m 40 #[.val (.ref a1), .val (.int 0), .val (.long y0), .second, .val (.int kn.toInt32), .unset] [(.int kn.toInt32), (.ref aS)]))
    refine own_iald S1 AS (own_64 hkn).2.1 (by rw [(own_64 hkn).1]; exact own_szat bf hkn) d7_40 ?_
    show own_F p e below s Z _ _ _ _ _ (T1.setTop (mkF m 41 #[.val (.ref a1), .val (.int 0), .val (.long y0), .second, .val (.int kn.toInt32), .unset] [(.int (own_hm bf kn).toInt32)]))
    refine own_F.of (fun _ => XS.istore S1.here S1.hx rfl (S1.dec d7_41) rfl (l' := #[.val (.ref a1), .val (.int 0), .val (.long y0), .second, .val (.int kn.toInt32), .val (.int (own_hm bf kn).toInt32)]) rfl) ?_
    refine own_F.of (fun _ => XS.aloadN S1.here S1.hx rfl (S1.dec d7_43) rfl rfl) ?_
    show own_F p e below s Z _ _ _ _ _ (T1.setTop (mkF m 44 #[.val (.ref a1), .val (.int 0), .val (.long y0), .second, .val (.int kn.toInt32), .val (.int (own_hm bf kn).toInt32)] [(.ref a1)]))
    refine own_getF S1 (host := "") (Or.inl (own_w hw 13 rfl)) Via.refl F_buckets d7_44 (fun T2 S2 => ?_)
    show own_F p e below s Z _ _ _ _ _ (T2.setTop (mkF m 47 #[.val (.ref a1), .val (.int 0), .val (.long y0), .second, .val (.int kn.toInt32), .val (.int (own_hm bf kn).toInt32)] [(.ref aB)]))
    refine own_F.of (fun _ => XS.iload S2.here S2.hx rfl (S2.dec d7_47) rfl) ?_
    show own_F p e below s Z _ _ _ _ _ (T2.setTop (mkF m 49 #[.val (.ref a1), .val (.int 0), .val (.long y0), .second, .val (.int kn.toInt32), .val (.int (own_hm bf kn).toInt32)] [(.int kn.toInt32), (.ref aB)]))
    rcases BK.at RB hkn with hv | ⟨r, hv⟩
    · show own_F p e below s Z _ _ _ _ _ (T2.setTop (mkF m 49 #[.val (.ref a1), .val (.int 0), .val (.long y0), .second, .val (.int kn.toInt32), .val (.int (own_hm bf kn).toInt32)] [(.int kn.toInt32), (.ref aB)]))
      refine own_aald S2 RB.A rfl (own_64 hkn).2.1 (by rw [(own_64 hkn).1]; exact hv) d7_49 ?_
      show own_F p e below s Z _ _ _ _ _ (T2.setTop (mkF m 50 #[.val (.ref a1), .val (.int 0), .val (.long y0), .second, .val (.int kn.toInt32), .val (.int (own_hm bf kn).toInt32)] [.null]))
      refine own_F.of (fun _ => XS.ifnonnullNo S2.here S2.hx rfl (S2.dec d7_50) rfl) ?_
      show own_F p e below s Z _ _ _ _ _ (T2.setTop (mkF m 53 #[.val (.ref a1), .val (.int 0), .val (.long y0), .second, .val (.int kn.toInt32), .val (.int (own_hm bf kn).toInt32)] []))
      refine own_F.of (fun _ => XS.aloadN S2.here S2.hx rfl (S2.dec d7_53) rfl rfl) ?_
      show own_F p e below s Z _ _ _ _ _ (T2.setTop (mkF m 54 #[.val (.ref a1), .val (.int 0), .val (.long y0), .second, .val (.int kn.toInt32), .val (.int (own_hm bf kn).toInt32)] [(.ref a1)]))
      refine own_getF S2 (host := "") (Or.inl (own_w hw 13 rfl)) Via.refl F_buckets d7_54 (fun T3 S3 => ?_)
      show own_F p e below s Z _ _ _ _ _ (T3.setTop (mkF m 57 #[.val (.ref a1), .val (.int 0), .val (.long y0), .second, .val (.int kn.toInt32), .val (.int (own_hm bf kn).toInt32)] [(.ref aB)]))
      refine own_F.of (fun _ => XS.iload S3.here S3.hx rfl (S3.dec d7_57) rfl) ?_
      refine own_F.of (fun _ => XS.bipush S3.here S3.hx rfl (S3.dec d7_59)) ?_
      show own_F p e below s Z _ _ _ _ _ (T3.setTop (mkF m 61 #[.val (.ref a1), .val (.int 0), .val (.long y0), .second, .val (.int kn.toInt32), .val (.int (own_hm bf kn).toInt32)] [(.int 16), (.int kn.toInt32), (.ref aB)]))
      refine own_newPE S3 (own_w hw 15 rfl) d7_61 (by decide) (cap := 16) (by decide) (by decide) (by decide) (by decide) (ad := "[I") rfl (fun T4 h4 b4 g4 S4 E4 X4 A4 => ?_)
      show own_F p e below s Z _ _ _ _ _ (T4.setTop (mkF m 63 #[.val (.ref a1), .val (.int 0), .val (.long y0), .second, .val (.int kn.toInt32), .val (.int (own_hm bf kn).toInt32)] [(.ref b4), (.int kn.toInt32), (.ref aB)]))
      have fq5 := (RB.ext E4)
      have fq6 := (BK.ext E4)
      refine own_aastI S4 fq5 (own_64 hkn).2.1 (by rw [(own_64 hkn).1, fq6.1]; exact hkn) (own_w hw 60 rfl) X4 d7_63 (own_news_may gB) (fun T7 h7 S7 W7 A7 => ?_)
      have D7 := own_BK.new fq6 hkn A4 (by rw [List.length_replicate]; rfl) (by rw [g4]; exact S3.old.1) (Ne.symm (Nat.ne_of_lt (by rw [g4]; exact (AS).lt))) (Ne.symm (Nat.ne_of_lt (by rw [g4]; exact (AO).lt))) (Ne.symm (Nat.ne_of_lt (by rw [g4]; exact (AP).lt))) (fun j t e => Nat.ne_of_lt (by rw [g4]; exact (BK.2.1 j t e).1.lt)) fq5 W7
      rw [(own_64 hkn).1] at A7
      have hs7 : (bk.set kn (.ref b4))[kn]? = some (.ref b4) := List.getElem?_set_self (by rw [fq6.1]; exact hkn)
      have ab7 := AB.fresh (r := b4) (us := List.replicate (16 : Int32).toNatClampNeg (defaultValue (newarray.typeOf .int))) hv
      have m8aS := (D7.2.1 _ _ hs7).2.2.2.1
      have m8aO := (D7.2.1 _ _ hs7).2.2.2.2.1
      have m8aP := (D7.2.1 _ _ hs7).2.2.2.2.2
      have m8aB := own_A.neT (D7.2.1 _ _ hs7).1 A7.A (by decide)
      have fq9 := ((AK.ext E4).other W7 (Ne.symm naBaK))
      have m8aK := own_A.neT (D7.2.1 _ _ hs7).1 fq9 (by decide)
      have fq10 := ((AI.ext E4).other W7 (Ne.symm naBaI))
      have m8aI := own_A.neT (D7.2.1 _ _ hs7).1 fq10 (by decide)
      have fq11 := ((E_a1.ext E4).wr W7)
      have m8a1 := own_neA fq11 (own_w hw 3 rfl) (D7.2.1 _ _ hs7).1
      show own_F p e below s Z _ _ _ _ _ (T7.setTop (mkF m 64 #[.val (.ref a1), .val (.int 0), .val (.long y0), .second, .val (.int kn.toInt32), .val (.int (own_hm bf kn).toInt32)] []))
      refine own_F.of (fun _ => XS.goto S7.here S7.hx rfl (pc0 := 64) (pc' := 101) rfl (S7.dec d7_64) (by decide) (by decide)) ?_
      show own_F p e below s Z _ _ _ _ _ (T7.setTop (mkF m 101 #[.val (.ref a1), .val (.int 0), .val (.long y0), .second, .val (.int kn.toInt32), .val (.int (own_hm bf kn).toInt32)] []))
      refine own_F.of (fun _ => XS.aloadN S7.here S7.hx rfl (S7.dec d7_101) rfl rfl) ?_
      show own_F p e below s Z _ _ _ _ _ (T7.setTop (mkF m 102 #[.val (.ref a1), .val (.int 0), .val (.long y0), .second, .val (.int kn.toInt32), .val (.int (own_hm bf kn).toInt32)] [(.ref a1)]))
      have fq12 := ((F_buckets.ext E4).other W7 (Or.inl n1aB))
      refine own_getF S7 (host := "") (Or.inl (own_w hw 13 rfl)) Via.refl fq12 d7_102 (fun T13 S13 => ?_)
      show own_F p e below s Z _ _ _ _ _ (T13.setTop (mkF m 105 #[.val (.ref a1), .val (.int 0), .val (.long y0), .second, .val (.int kn.toInt32), .val (.int (own_hm bf kn).toInt32)] [(.ref aB)]))
      refine own_F.of (fun _ => XS.iload S13.here S13.hx rfl (S13.dec d7_105) rfl) ?_
      show own_F p e below s Z _ _ _ _ _ (T13.setTop (mkF m 107 #[.val (.ref a1), .val (.int 0), .val (.long y0), .second, .val (.int kn.toInt32), .val (.int (own_hm bf kn).toInt32)] [(.int kn.toInt32), (.ref aB)]))
      refine own_aald S13 A7.A rfl (own_64 hkn).2.1 (by rw [(own_64 hkn).1]; exact hs7) d7_107 ?_
      show own_F p e below s Z _ _ _ _ _ (T13.setTop (mkF m 108 #[.val (.ref a1), .val (.int 0), .val (.long y0), .second, .val (.int kn.toInt32), .val (.int (own_hm bf kn).toInt32)] [(.ref b4)]))
      refine own_F.of (fun _ => XS.iload S13.here S13.hx rfl (S13.dec d7_108) rfl) ?_
      refine own_F.of (fun _ => XS.iloadN S13.here S13.hx rfl (S13.dec d7_110) rfl) ?_
      show own_F p e below s Z _ _ _ _ _ (T13.setTop (mkF m 111 #[.val (.ref a1), .val (.int 0), .val (.long y0), .second, .val (.int kn.toInt32), .val (.int (own_hm bf kn).toInt32)] [(.int 0), (.int (own_hm bf kn).toInt32), (.ref b4)]))
      refine own_ist S13 (D7.2.1 _ _ hs7).1 sm.2.1 (by rw [sm.1, (D7.2.1 _ _ hs7).2.1]; omega) d7_111 (own_news_may (D7.2.1 _ _ hs7).2.2.1) (fun T14 h14 S14 W14 A14 => ?_)
      have D14 := own_BK.put D7 hs7 W14
      rw [sm.1] at D14
      have ac14 := own_AB.file ab7 (n := 0) (by decide) hb hkn hs7 (D7.2.1 _ _ hs7).2.1
      show own_F p e below s Z _ _ _ _ _ (T14.setTop (mkF m 112 #[.val (.ref a1), .val (.int 0), .val (.long y0), .second, .val (.int kn.toInt32), .val (.int (own_hm bf kn).toInt32)] []))
      refine own_F.of (fun _ => XS.aloadN S14.here S14.hx rfl (S14.dec d7_112) rfl rfl) ?_
      show own_F p e below s Z _ _ _ _ _ (T14.setTop (mkF m 113 #[.val (.ref a1), .val (.int 0), .val (.long y0), .second, .val (.int kn.toInt32), .val (.int (own_hm bf kn).toInt32)] [(.ref a1)]))
      have fq15 := (((F_sizes.ext E4).other W7 (Or.inl n1aB)).other W14 (Or.inl m8a1))
      refine own_getF S14 (host := "") (Or.inl (own_w hw 16 rfl)) Via.refl fq15 d7_113 (fun T16 S16 => ?_)
      show own_F p e below s Z _ _ _ _ _ (T16.setTop (mkF m 116 #[.val (.ref a1), .val (.int 0), .val (.long y0), .second, .val (.int kn.toInt32), .val (.int (own_hm bf kn).toInt32)] [(.ref aS)]))
      refine own_F.of (fun _ => XS.iload S16.here S16.hx rfl (S16.dec d7_116) rfl) ?_
      refine own_F.of (fun _ => XS.iload S16.here S16.hx rfl (S16.dec d7_118) rfl) ?_
      refine own_F.of (fun _ => XS.iconst S16.here S16.hx rfl (S16.dec d7_120)) ?_
      show own_F p e below s Z _ _ _ _ _ (T16.setTop (mkF m 121 #[.val (.ref a1), .val (.int 0), .val (.long y0), .second, .val (.int kn.toInt32), .val (.int (own_hm bf kn).toInt32)] [(.int 1), (.int (own_hm bf kn).toInt32), (.int kn.toInt32), (.ref aS)]))
      refine own_F.of (fun _ => XS.iadd S16.here S16.hx rfl (S16.dec d7_121) rfl) ?_
      show own_F p e below s Z _ _ _ _ _ (T16.setTop (mkF m 122 #[.val (.ref a1), .val (.int 0), .val (.long y0), .second, .val (.int kn.toInt32), .val (.int (own_hm bf kn).toInt32)] [(.int ((own_hm bf kn).toInt32 + (1 : Int32))), (.int kn.toInt32), (.ref aS)]))
      have fq17 := (((AS.ext E4).other W7 (Ne.symm naBaS)).other W14 (Ne.symm m8aS))
      refine own_ist S16 fq17 (own_64 hkn).2.1 (by rw [(own_64 hkn).1, own_szlen]; exact hkn) d7_122 (own_news_may gS) (fun T18 h18 S18 W18 A18 => ?_)
      have B18 := own_szfile (n := 0) (by decide) hb hkn A18
      show own_F p e below s Z _ _ _ _ _ (T18.setTop (mkF m 123 #[.val (.ref a1), .val (.int 0), .val (.long y0), .second, .val (.int kn.toInt32), .val (.int (own_hm bf kn).toInt32)] []))
      refine own_F.of (fun _ => XS.aloadN S18.here S18.hx rfl (S18.dec d7_123) rfl rfl) ?_
      show own_F p e below s Z _ _ _ _ _ (T18.setTop (mkF m 124 #[.val (.ref a1), .val (.int 0), .val (.long y0), .second, .val (.int kn.toInt32), .val (.int (own_hm bf kn).toInt32)] [(.ref a1)]))
      have fq19 := ((((F_bucketOf.ext E4).other W7 (Or.inl n1aB)).other W14 (Or.inl m8a1)).other W18 (Or.inl n1aS))
      refine own_getF S18 (host := "") (Or.inl (own_w hw 20 rfl)) Via.refl fq19 d7_124 (fun T20 S20 => ?_)
      show own_F p e below s Z _ _ _ _ _ (T20.setTop (mkF m 127 #[.val (.ref a1), .val (.int 0), .val (.long y0), .second, .val (.int kn.toInt32), .val (.int (own_hm bf kn).toInt32)] [(.ref aO)]))
      refine own_F.of (fun _ => XS.iloadN S20.here S20.hx rfl (S20.dec d7_127) rfl) ?_
      refine own_F.of (fun _ => XS.iload S20.here S20.hx rfl (S20.dec d7_128) rfl) ?_
      show own_F p e below s Z _ _ _ _ _ (T20.setTop (mkF m 130 #[.val (.ref a1), .val (.int 0), .val (.long y0), .second, .val (.int kn.toInt32), .val (.int (own_hm bf kn).toInt32)] [(.int kn.toInt32), (.int 0), (.ref aO)]))
      have fq21 := ((((AO.ext E4).other W7 (Ne.symm naBaO)).other W14 (Ne.symm m8aO)).other W18 (Ne.symm nSO))
      refine own_ist S20 fq21 (by decide) (Nat.le_of_ble_eq_true rfl) d7_130 (own_news_may gO) (fun T22 h22 S22 W22 A22 => ?_)
      have V23 : own_A Z h22 aO .int [(.int kn.toInt32), (.int o1), (.int o2)] := A22
      show own_F p e below s Z _ _ _ _ _ (T22.setTop (mkF m 131 #[.val (.ref a1), .val (.int 0), .val (.long y0), .second, .val (.int kn.toInt32), .val (.int (own_hm bf kn).toInt32)] []))
      refine own_F.of (fun _ => XS.aloadN S22.here S22.hx rfl (S22.dec d7_131) rfl rfl) ?_
      show own_F p e below s Z _ _ _ _ _ (T22.setTop (mkF m 132 #[.val (.ref a1), .val (.int 0), .val (.long y0), .second, .val (.int kn.toInt32), .val (.int (own_hm bf kn).toInt32)] [(.ref a1)]))
      have fq24 := (((((F_positions.ext E4).other W7 (Or.inl n1aB)).other W14 (Or.inl m8a1)).other W18 (Or.inl n1aS)).other W22 (Or.inl n1aO))
      refine own_getF S22 (host := "") (Or.inl (own_w hw 26 rfl)) Via.refl fq24 d7_132 (fun T25 S25 => ?_)
      show own_F p e below s Z _ _ _ _ _ (T25.setTop (mkF m 135 #[.val (.ref a1), .val (.int 0), .val (.long y0), .second, .val (.int kn.toInt32), .val (.int (own_hm bf kn).toInt32)] [(.ref aP)]))
      refine own_F.of (fun _ => XS.iloadN S25.here S25.hx rfl (S25.dec d7_135) rfl) ?_
      refine own_F.of (fun _ => XS.iload S25.here S25.hx rfl (S25.dec d7_136) rfl) ?_
      show own_F p e below s Z _ _ _ _ _ (T25.setTop (mkF m 138 #[.val (.ref a1), .val (.int 0), .val (.long y0), .second, .val (.int kn.toInt32), .val (.int (own_hm bf kn).toInt32)] [(.int (own_hm bf kn).toInt32), (.int 0), (.ref aP)]))
      have fq26 := (((((AP.ext E4).other W7 (Ne.symm naBaP)).other W14 (Ne.symm m8aP)).other W18 (Ne.symm nSP)).other W22 (Ne.symm nOP))
      refine own_ist S25 fq26 (by decide) (Nat.le_of_ble_eq_true rfl) d7_138 (own_news_may gP) (fun T27 h27 S27 W27 A27 => ?_)
      have V28 : own_A Z h27 aP .int [(.int (own_hm bf kn).toInt32), (.int z1), (.int z2)] := A27
      show own_F p e below s Z _ _ _ _ _ (T27.setTop (mkF m 139 #[.val (.ref a1), .val (.int 0), .val (.long y0), .second, .val (.int kn.toInt32), .val (.int (own_hm bf kn).toInt32)] []))
      have fq29 := ((((fq11.wr W14).wr W18).wr W22).wr W27)
      have fq30 := ((((fq12.other W14 (Or.inl m8a1)).other W18 (Or.inl n1aS)).other W22 (Or.inl n1aO)).other W27 (Or.inl n1aP))
      have fq31 := (((fq15.other W18 (Or.inl n1aS)).other W22 (Or.inl n1aO)).other W27 (Or.inl n1aP))
      have fq32 := ((((((F_keys.ext E4).other W7 (Or.inl n1aB)).other W14 (Or.inl m8a1)).other W18 (Or.inl n1aS)).other W22 (Or.inl n1aO)).other W27 (Or.inl n1aP))
      have fq33 := ((fq19.other W22 (Or.inl n1aO)).other W27 (Or.inl n1aP))
      have fq34 := (fq24.other W27 (Or.inl n1aP))
      have fq35 := ((((((F_last.ext E4).other W7 (Or.inl n1aB)).other W14 (Or.inl m8a1)).other W18 (Or.inl n1aS)).other W22 (Or.inl n1aO)).other W27 (Or.inl n1aP))
      have fq36 := ((((((F_count.ext E4).other W7 (Or.inl n1aB)).other W14 (Or.inl m8a1)).other W18 (Or.inl n1aS)).other W22 (Or.inl n1aO)).other W27 (Or.inl n1aP))
      have fq37 := ((((A7.other W14 (Ne.symm m8aB)).other W18 naBaS).other W22 naBaO).other W27 naBaP)
      have fq38 := ((B18.other W22 nSO).other W27 nSP)
      have fq39 := ((((fq9.other W14 (Ne.symm m8aK)).other W18 (Ne.symm naSaK)).other W22 naKaO).other W27 naKaP)
      have fq40 := (V23.other W27 nOP)
      have fq41 := ((((fq10.other W14 (Ne.symm m8aI)).other W18 (Ne.symm naSaI)).other W22 (Ne.symm naOaI)).other W27 (Ne.symm naPaI))
      have fq42 := (((D14.oS W18).oO W22).oP W27)
      refine own_retV S27 d7_139 (by decide) (by decide) ?_
      exact ⟨rfl, kn, _, _, hkn, (fun q => own_kz hkn (hJ2 q)), ⟨⟨ga, gB, gS, gO, gP, gI⟩, ⟨nSO, nSP, nOP⟩, fq29, fq30, fq31, fq32, fq33, fq34, fq35, fq36, fq37, fq38, fq39, fq40, V28, fq41, fq42⟩, ac14, own_XT.new hv⟩
    · show own_F p e below s Z _ _ _ _ _ (T2.setTop (mkF m 49 #[.val (.ref a1), .val (.int 0), .val (.long y0), .second, .val (.int kn.toInt32), .val (.int (own_hm bf kn).toInt32)] [(.int kn.toInt32), (.ref aB)]))
      have m43aS := (BK.2.1 _ _ hv).2.2.2.1
      have m43aO := (BK.2.1 _ _ hv).2.2.2.2.1
      have m43aP := (BK.2.1 _ _ hv).2.2.2.2.2
      have m43aB := own_A.neT (BK.2.1 _ _ hv).1 RB.A (by decide)
      have m43aK := own_A.neT (BK.2.1 _ _ hv).1 AK (by decide)
      have m43aI := own_A.neT (BK.2.1 _ _ hv).1 AI (by decide)
      have m43a1 := own_neA E_a1 (own_w hw 3 rfl) (BK.2.1 _ _ hv).1
      refine own_aald S2 RB.A rfl (own_64 hkn).2.1 (by rw [(own_64 hkn).1]; exact hv) d7_49 ?_
      show own_F p e below s Z _ _ _ _ _ (T2.setTop (mkF m 50 #[.val (.ref a1), .val (.int 0), .val (.long y0), .second, .val (.int kn.toInt32), .val (.int (own_hm bf kn).toInt32)] [(.ref r)]))
      refine own_F.of (fun _ => XS.ifnonnullYes S2.here S2.hx rfl (pc0 := 50) (pc' := 67) rfl (S2.dec d7_50) rfl (by decide) (by decide)) ?_
      show own_F p e below s Z _ _ _ _ _ (T2.setTop (mkF m 67 #[.val (.ref a1), .val (.int 0), .val (.long y0), .second, .val (.int kn.toInt32), .val (.int (own_hm bf kn).toInt32)] []))
      refine own_F.of (fun _ => XS.iload S2.here S2.hx rfl (S2.dec d7_67) rfl) ?_
      refine own_F.of (fun _ => XS.aloadN S2.here S2.hx rfl (S2.dec d7_69) rfl rfl) ?_
      show own_F p e below s Z _ _ _ _ _ (T2.setTop (mkF m 70 #[.val (.ref a1), .val (.int 0), .val (.long y0), .second, .val (.int kn.toInt32), .val (.int (own_hm bf kn).toInt32)] [(.ref a1), (.int (own_hm bf kn).toInt32)]))
      refine own_getF S2 (host := "") (Or.inl (own_w hw 13 rfl)) Via.refl F_buckets d7_70 (fun T44 S44 => ?_)
      show own_F p e below s Z _ _ _ _ _ (T44.setTop (mkF m 73 #[.val (.ref a1), .val (.int 0), .val (.long y0), .second, .val (.int kn.toInt32), .val (.int (own_hm bf kn).toInt32)] [(.ref aB), (.int (own_hm bf kn).toInt32)]))
      refine own_F.of (fun _ => XS.iload S44.here S44.hx rfl (S44.dec d7_73) rfl) ?_
      show own_F p e below s Z _ _ _ _ _ (T44.setTop (mkF m 75 #[.val (.ref a1), .val (.int 0), .val (.long y0), .second, .val (.int kn.toInt32), .val (.int (own_hm bf kn).toInt32)] [(.int kn.toInt32), (.ref aB), (.int (own_hm bf kn).toInt32)]))
      refine own_aald S44 RB.A rfl (own_64 hkn).2.1 (by rw [(own_64 hkn).1]; exact hv) d7_75 ?_
      show own_F p e below s Z _ _ _ _ _ (T44.setTop (mkF m 76 #[.val (.ref a1), .val (.int 0), .val (.long y0), .second, .val (.int kn.toInt32), .val (.int (own_hm bf kn).toInt32)] [(.ref r), (.int (own_hm bf kn).toInt32)]))
      refine own_len S44 (BK.2.1 _ _ hv).1 d7_76 ?_
      show own_F p e below s Z _ _ _ _ _ (T44.setTop (mkF m 77 #[.val (.ref a1), .val (.int 0), .val (.long y0), .second, .val (.int kn.toInt32), .val (.int (own_hm bf kn).toInt32)] [(.int (Cf kn).length.toInt32), (.int (own_hm bf kn).toInt32)]))
      refine own_icmp S44 101 d7_77 (by decide) (by decide) (fun (hc77_45 : ¬ ((own_hm bf kn).toInt32 = (Cf kn).length.toInt32)) => ?_) (fun (hc77_45 : (own_hm bf kn).toInt32 = (Cf kn).length.toInt32) => False.elim (own_ne16 h2 (BK.2.1 _ _ hv).2.1 hc77_45))
      show own_F p e below s Z _ _ _ _ _ (T44.setTop (mkF m 101 #[.val (.ref a1), .val (.int 0), .val (.long y0), .second, .val (.int kn.toInt32), .val (.int (own_hm bf kn).toInt32)] []))
      refine own_F.of (fun _ => XS.aloadN S44.here S44.hx rfl (S44.dec d7_101) rfl rfl) ?_
      show own_F p e below s Z _ _ _ _ _ (T44.setTop (mkF m 102 #[.val (.ref a1), .val (.int 0), .val (.long y0), .second, .val (.int kn.toInt32), .val (.int (own_hm bf kn).toInt32)] [(.ref a1)]))
      refine own_getF S44 (host := "") (Or.inl (own_w hw 13 rfl)) Via.refl F_buckets d7_102 (fun T46 S46 => ?_)
      show own_F p e below s Z _ _ _ _ _ (T46.setTop (mkF m 105 #[.val (.ref a1), .val (.int 0), .val (.long y0), .second, .val (.int kn.toInt32), .val (.int (own_hm bf kn).toInt32)] [(.ref aB)]))
      refine own_F.of (fun _ => XS.iload S46.here S46.hx rfl (S46.dec d7_105) rfl) ?_
      show own_F p e below s Z _ _ _ _ _ (T46.setTop (mkF m 107 #[.val (.ref a1), .val (.int 0), .val (.long y0), .second, .val (.int kn.toInt32), .val (.int (own_hm bf kn).toInt32)] [(.int kn.toInt32), (.ref aB)]))
      refine own_aald S46 RB.A rfl (own_64 hkn).2.1 (by rw [(own_64 hkn).1]; exact hv) d7_107 ?_
      show own_F p e below s Z _ _ _ _ _ (T46.setTop (mkF m 108 #[.val (.ref a1), .val (.int 0), .val (.long y0), .second, .val (.int kn.toInt32), .val (.int (own_hm bf kn).toInt32)] [(.ref r)]))
      refine own_F.of (fun _ => XS.iload S46.here S46.hx rfl (S46.dec d7_108) rfl) ?_
      refine own_F.of (fun _ => XS.iloadN S46.here S46.hx rfl (S46.dec d7_110) rfl) ?_
      show own_F p e below s Z _ _ _ _ _ (T46.setTop (mkF m 111 #[.val (.ref a1), .val (.int 0), .val (.long y0), .second, .val (.int kn.toInt32), .val (.int (own_hm bf kn).toInt32)] [(.int 0), (.int (own_hm bf kn).toInt32), (.ref r)]))
      refine own_ist S46 (BK.2.1 _ _ hv).1 sm.2.1 (by rw [sm.1, (BK.2.1 _ _ hv).2.1]; omega) d7_111 (own_news_may (BK.2.1 _ _ hv).2.2.1) (fun T47 h47 S47 W47 A47 => ?_)
      have D47 := own_BK.put BK hv W47
      rw [sm.1] at D47
      have ac47 := own_AB.file AB (n := 0) (by decide) hb hkn hv (BK.2.1 _ _ hv).2.1
      show own_F p e below s Z _ _ _ _ _ (T47.setTop (mkF m 112 #[.val (.ref a1), .val (.int 0), .val (.long y0), .second, .val (.int kn.toInt32), .val (.int (own_hm bf kn).toInt32)] []))
      refine own_F.of (fun _ => XS.aloadN S47.here S47.hx rfl (S47.dec d7_112) rfl rfl) ?_
      show own_F p e below s Z _ _ _ _ _ (T47.setTop (mkF m 113 #[.val (.ref a1), .val (.int 0), .val (.long y0), .second, .val (.int kn.toInt32), .val (.int (own_hm bf kn).toInt32)] [(.ref a1)]))
      have fq48 := (F_sizes.other W47 (Or.inl m43a1))
      refine own_getF S47 (host := "") (Or.inl (own_w hw 16 rfl)) Via.refl fq48 d7_113 (fun T49 S49 => ?_)
      show own_F p e below s Z _ _ _ _ _ (T49.setTop (mkF m 116 #[.val (.ref a1), .val (.int 0), .val (.long y0), .second, .val (.int kn.toInt32), .val (.int (own_hm bf kn).toInt32)] [(.ref aS)]))
      refine own_F.of (fun _ => XS.iload S49.here S49.hx rfl (S49.dec d7_116) rfl) ?_
      refine own_F.of (fun _ => XS.iload S49.here S49.hx rfl (S49.dec d7_118) rfl) ?_
      refine own_F.of (fun _ => XS.iconst S49.here S49.hx rfl (S49.dec d7_120)) ?_
      show own_F p e below s Z _ _ _ _ _ (T49.setTop (mkF m 121 #[.val (.ref a1), .val (.int 0), .val (.long y0), .second, .val (.int kn.toInt32), .val (.int (own_hm bf kn).toInt32)] [(.int 1), (.int (own_hm bf kn).toInt32), (.int kn.toInt32), (.ref aS)]))
      refine own_F.of (fun _ => XS.iadd S49.here S49.hx rfl (S49.dec d7_121) rfl) ?_
      show own_F p e below s Z _ _ _ _ _ (T49.setTop (mkF m 122 #[.val (.ref a1), .val (.int 0), .val (.long y0), .second, .val (.int kn.toInt32), .val (.int (own_hm bf kn).toInt32)] [(.int ((own_hm bf kn).toInt32 + (1 : Int32))), (.int kn.toInt32), (.ref aS)]))
      have fq50 := (AS.other W47 (Ne.symm m43aS))
      refine own_ist S49 fq50 (own_64 hkn).2.1 (by rw [(own_64 hkn).1, own_szlen]; exact hkn) d7_122 (own_news_may gS) (fun T51 h51 S51 W51 A51 => ?_)
      have B51 := own_szfile (n := 0) (by decide) hb hkn A51
      show own_F p e below s Z _ _ _ _ _ (T51.setTop (mkF m 123 #[.val (.ref a1), .val (.int 0), .val (.long y0), .second, .val (.int kn.toInt32), .val (.int (own_hm bf kn).toInt32)] []))
      refine own_F.of (fun _ => XS.aloadN S51.here S51.hx rfl (S51.dec d7_123) rfl rfl) ?_
      show own_F p e below s Z _ _ _ _ _ (T51.setTop (mkF m 124 #[.val (.ref a1), .val (.int 0), .val (.long y0), .second, .val (.int kn.toInt32), .val (.int (own_hm bf kn).toInt32)] [(.ref a1)]))
      have fq52 := ((F_bucketOf.other W47 (Or.inl m43a1)).other W51 (Or.inl n1aS))
      refine own_getF S51 (host := "") (Or.inl (own_w hw 20 rfl)) Via.refl fq52 d7_124 (fun T53 S53 => ?_)
      show own_F p e below s Z _ _ _ _ _ (T53.setTop (mkF m 127 #[.val (.ref a1), .val (.int 0), .val (.long y0), .second, .val (.int kn.toInt32), .val (.int (own_hm bf kn).toInt32)] [(.ref aO)]))
      refine own_F.of (fun _ => XS.iloadN S53.here S53.hx rfl (S53.dec d7_127) rfl) ?_
      refine own_F.of (fun _ => XS.iload S53.here S53.hx rfl (S53.dec d7_128) rfl) ?_
      show own_F p e below s Z _ _ _ _ _ (T53.setTop (mkF m 130 #[.val (.ref a1), .val (.int 0), .val (.long y0), .second, .val (.int kn.toInt32), .val (.int (own_hm bf kn).toInt32)] [(.int kn.toInt32), (.int 0), (.ref aO)]))
      have fq54 := ((AO.other W47 (Ne.symm m43aO)).other W51 (Ne.symm nSO))
      refine own_ist S53 fq54 (by decide) (Nat.le_of_ble_eq_true rfl) d7_130 (own_news_may gO) (fun T55 h55 S55 W55 A55 => ?_)
      have V56 : own_A Z h55 aO .int [(.int kn.toInt32), (.int o1), (.int o2)] := A55
      show own_F p e below s Z _ _ _ _ _ (T55.setTop (mkF m 131 #[.val (.ref a1), .val (.int 0), .val (.long y0), .second, .val (.int kn.toInt32), .val (.int (own_hm bf kn).toInt32)] []))
      refine own_F.of (fun _ => XS.aloadN S55.here S55.hx rfl (S55.dec d7_131) rfl rfl) ?_
      show own_F p e below s Z _ _ _ _ _ (T55.setTop (mkF m 132 #[.val (.ref a1), .val (.int 0), .val (.long y0), .second, .val (.int kn.toInt32), .val (.int (own_hm bf kn).toInt32)] [(.ref a1)]))
      have fq57 := (((F_positions.other W47 (Or.inl m43a1)).other W51 (Or.inl n1aS)).other W55 (Or.inl n1aO))
      refine own_getF S55 (host := "") (Or.inl (own_w hw 26 rfl)) Via.refl fq57 d7_132 (fun T58 S58 => ?_)
      show own_F p e below s Z _ _ _ _ _ (T58.setTop (mkF m 135 #[.val (.ref a1), .val (.int 0), .val (.long y0), .second, .val (.int kn.toInt32), .val (.int (own_hm bf kn).toInt32)] [(.ref aP)]))
      refine own_F.of (fun _ => XS.iloadN S58.here S58.hx rfl (S58.dec d7_135) rfl) ?_
      refine own_F.of (fun _ => XS.iload S58.here S58.hx rfl (S58.dec d7_136) rfl) ?_
      show own_F p e below s Z _ _ _ _ _ (T58.setTop (mkF m 138 #[.val (.ref a1), .val (.int 0), .val (.long y0), .second, .val (.int kn.toInt32), .val (.int (own_hm bf kn).toInt32)] [(.int (own_hm bf kn).toInt32), (.int 0), (.ref aP)]))
      have fq59 := (((AP.other W47 (Ne.symm m43aP)).other W51 (Ne.symm nSP)).other W55 (Ne.symm nOP))
      refine own_ist S58 fq59 (by decide) (Nat.le_of_ble_eq_true rfl) d7_138 (own_news_may gP) (fun T60 h60 S60 W60 A60 => ?_)
      have V61 : own_A Z h60 aP .int [(.int (own_hm bf kn).toInt32), (.int z1), (.int z2)] := A60
      show own_F p e below s Z _ _ _ _ _ (T60.setTop (mkF m 139 #[.val (.ref a1), .val (.int 0), .val (.long y0), .second, .val (.int kn.toInt32), .val (.int (own_hm bf kn).toInt32)] []))
      have fq62 := ((((E_a1.wr W47).wr W51).wr W55).wr W60)
      have fq63 := ((((F_buckets.other W47 (Or.inl m43a1)).other W51 (Or.inl n1aS)).other W55 (Or.inl n1aO)).other W60 (Or.inl n1aP))
      have fq64 := (((fq48.other W51 (Or.inl n1aS)).other W55 (Or.inl n1aO)).other W60 (Or.inl n1aP))
      have fq65 := ((((F_keys.other W47 (Or.inl m43a1)).other W51 (Or.inl n1aS)).other W55 (Or.inl n1aO)).other W60 (Or.inl n1aP))
      have fq66 := ((fq52.other W55 (Or.inl n1aO)).other W60 (Or.inl n1aP))
      have fq67 := (fq57.other W60 (Or.inl n1aP))
      have fq68 := ((((F_last.other W47 (Or.inl m43a1)).other W51 (Or.inl n1aS)).other W55 (Or.inl n1aO)).other W60 (Or.inl n1aP))
      have fq69 := ((((F_count.other W47 (Or.inl m43a1)).other W51 (Or.inl n1aS)).other W55 (Or.inl n1aO)).other W60 (Or.inl n1aP))
      have fq70 := ((((RB.other W47 (Ne.symm m43aB)).other W51 naBaS).other W55 naBaO).other W60 naBaP)
      have fq71 := ((B51.other W55 nSO).other W60 nSP)
      have fq72 := ((((AK.other W47 (Ne.symm m43aK)).other W51 (Ne.symm naSaK)).other W55 naKaO).other W60 naKaP)
      have fq73 := (V56.other W60 nOP)
      have fq74 := ((((AI.other W47 (Ne.symm m43aI)).other W51 (Ne.symm naSaI)).other W55 (Ne.symm naOaI)).other W60 (Ne.symm naPaI))
      have fq75 := (((D47.oS W51).oO W55).oP W60)
      refine own_retV S60 d7_139 (by decide) (by decide) ?_
      exact ⟨rfl, kn, _, _, hkn, (fun q => own_kz hkn (hJ2 q)), ⟨⟨ga, gB, gS, gO, gP, gI⟩, ⟨nSO, nSP, nOP⟩, fq62, fq63, fq64, fq65, fq66, fq67, fq68, fq69, fq70, fq71, fq72, fq73, V61, fq74, fq75⟩, ac47, own_XT.old⟩
  show own_F p e below s Z _ _ _ _ _ (T0.setTop (mkF m 0 #[.val (.ref a1), .val (.int 0), .unset, .unset, .unset, .unset] []))
  refine own_F.of (fun _ => XS.aloadN S0.here S0.hx rfl (S0.dec d7_0) rfl rfl) ?_
  show own_F p e below s Z _ _ _ _ _ (T0.setTop (mkF m 1 #[.val (.ref a1), .val (.int 0), .unset, .unset, .unset, .unset] [(.ref a1)]))
  refine own_getF S0 (host := "") (Or.inl (own_w hw 18 rfl)) Via.refl F_keys d7_1 (fun T76 S76 => ?_)
  show own_F p e below s Z _ _ _ _ _ (T76.setTop (mkF m 4 #[.val (.ref a1), .val (.int 0), .unset, .unset, .unset, .unset] [(.ref aK)]))
  refine own_F.of (fun _ => XS.iloadN S76.here S76.hx rfl (S76.dec d7_4) rfl) ?_
  show own_F p e below s Z _ _ _ _ _ (T76.setTop (mkF m 5 #[.val (.ref a1), .val (.int 0), .unset, .unset, .unset, .unset] [(.int 0), (.ref aK)]))
  refine own_lald S76 AK (by decide) rfl d7_5 ?_
  show own_F p e below s Z _ _ _ _ _ (T76.setTop (mkF m 6 #[.val (.ref a1), .val (.int 0), .unset, .unset, .unset, .unset] [(.long y0)]))
  refine own_F.of (fun _ => XS.lstoreN S76.here S76.hx rfl (S76.dec d7_6) rfl (l' := #[.val (.ref a1), .val (.int 0), .val (.long y0), .second, .unset, .unset]) rfl) ?_
  refine own_F.of (fun _ => XS.lloadN S76.here S76.hx rfl (S76.dec d7_7) rfl) ?_
  refine own_F.of (fun _ => XS.aloadN S76.here S76.hx rfl (S76.dec d7_8) rfl rfl) ?_
  show own_F p e below s Z _ _ _ _ _ (T76.setTop (mkF m 9 #[.val (.ref a1), .val (.int 0), .val (.long y0), .second, .unset, .unset] [(.ref a1), (.long y0)]))
  refine own_getF S76 (host := "") (Or.inl (own_w hw 49 rfl)) Via.refl F_last d7_9 (fun T77 S77 => ?_)
  show own_F p e below s Z _ _ _ _ _ (T77.setTop (mkF m 12 #[.val (.ref a1), .val (.int 0), .val (.long y0), .second, .unset, .unset] [(.long la), (.long y0)]))
  refine own_F.of (fun _ => XS.lcmp S77.here S77.hx rfl (S77.dec d7_12) rfl) ?_
  show own_F p e below s Z _ _ _ _ _ (T77.setTop (mkF m 13 #[.val (.ref a1), .val (.int 0), .val (.long y0), .second, .unset, .unset] [(.int (lcmpW y0 la))]))
  refine own_if S77 20 d7_13 (by decide) (by decide) (fun (hc13_78 : (0 : Int32) < (lcmpW y0 la)) => ?_) (fun (hc13_78 : ¬ ((0 : Int32) < (lcmpW y0 la))) => ?_)
  · show own_F p e below s Z _ _ _ _ _ (T77.setTop (mkF m 20 #[.val (.ref a1), .val (.int 0), .val (.long y0), .second, .unset, .unset] []))
    refine own_F.of (fun _ => XS.bipush S77.here S77.hx rfl (S77.dec d7_20)) ?_
    refine own_F.of (fun _ => XS.lloadN S77.here S77.hx rfl (S77.dec d7_22) rfl) ?_
    refine own_F.of (fun _ => XS.aloadN S77.here S77.hx rfl (S77.dec d7_23) rfl rfl) ?_
    show own_F p e below s Z _ _ _ _ _ (T77.setTop (mkF m 24 #[.val (.ref a1), .val (.int 0), .val (.long y0), .second, .unset, .unset] [(.ref a1), (.long y0), (.int 64)]))
    refine own_getF S77 (host := "") (Or.inl (own_w hw 49 rfl)) Via.refl F_last d7_24 (fun T79 S79 => ?_)
    show own_F p e below s Z _ _ _ _ _ (T79.setTop (mkF m 27 #[.val (.ref a1), .val (.int 0), .val (.long y0), .second, .unset, .unset] [(.long la), (.long y0), (.int 64)]))
    refine own_F.of (fun _ => XS.lxor S79.here S79.hx rfl (S79.dec d7_27) rfl) ?_
    show own_F p e below s Z _ _ _ _ _ (T79.setTop (mkF m 28 #[.val (.ref a1), .val (.int 0), .val (.long y0), .second, .unset, .unset] [(.long (y0 ^^^ la)), (.int 64)]))
    refine own_callS S79 (y := (⟨"java/lang/Long", "numberOfLeadingZeros", "(J)I"⟩ : MethodName)) (own_w hw 51 rfl) (own_w hw 52 rfl) (own_w hw 53 rfl) (own_w hw 54 rfl) (by decide) (argsL := [(.long (y0 ^^^ la))]) (rest := [(.int (64 : Int32))]) (own_nlzL l Z a0 hw (y0 ^^^ la) h0 S79.old (own_xor0 hy hla)) all0 (by decide +kernel : parseMethodDescriptor "(J)I" = some ⟨[.long], some .int⟩) rfl rfl rfl d7_28 (by decide) (Nat.le_of_ble_eq_true rfl) (by decide) (by decide) (fun T80 h80 v80 S80 K80 q80 => ?_)
    obtain ⟨r80, rfl, g80, rfl⟩ := q80
    show own_F p e below s Z _ _ _ _ _ (T80.setTop (mkF m 31 #[.val (.ref a1), .val (.int 0), .val (.long y0), .second, .unset, .unset] [(.int r80), (.int 64)]))
    refine own_F.of (fun _ => XS.isub S80.here S80.hx rfl (S80.dec d7_31) rfl) ?_
    show own_F p e below s Z _ _ _ _ _ (T80.setTop (mkF m 32 #[.val (.ref a1), .val (.int 0), .val (.long y0), .second, .unset, .unset] [(.int ((64 : Int32) - r80))]))
    refine own_F.of (fun _ => XS.istore S80.here S80.hx rfl (S80.dec d7_32) rfl (l' := #[.val (.ref a1), .val (.int 0), .val (.long y0), .second, .val (.int ((64 : Int32) - r80)), .unset]) rfl) ?_
    exact J T80 S80 ((64 : Int32) - r80) (own_64r g80).1 (own_64r g80).2 (fun q => absurd ((own_lwgt _ _).mp hc13_78) q)
  · show own_F p e below s Z _ _ _ _ _ (T77.setTop (mkF m 16 #[.val (.ref a1), .val (.int 0), .val (.long y0), .second, .unset, .unset] []))
    refine own_F.of (fun _ => XS.iconst S77.here S77.hx rfl (S77.dec d7_16)) ?_
    show own_F p e below s Z _ _ _ _ _ (T77.setTop (mkF m 17 #[.val (.ref a1), .val (.int 0), .val (.long y0), .second, .unset, .unset] [(.int 0)]))
    refine own_F.of (fun _ => XS.goto S77.here S77.hx rfl (pc0 := 17) (pc' := 32) rfl (S77.dec d7_17) (by decide) (by decide)) ?_
    show own_F p e below s Z _ _ _ _ _ (T77.setTop (mkF m 32 #[.val (.ref a1), .val (.int 0), .val (.long y0), .second, .unset, .unset] [(.int 0)]))
    refine own_F.of (fun _ => XS.istore S77.here S77.hx rfl (S77.dec d7_32) rfl (l' := #[.val (.ref a1), .val (.int 0), .val (.long y0), .second, .val (.int 0), .unset]) rfl) ?_
    exact J T77 S77 (0 : Int32) (by decide) (by decide) (fun _ => rfl)
set_option maxRecDepth 65536 in
set_option maxHeartbeats 40000000 in
theorem own_file1 (l : Launch) (Z : State) (a0 : Array Value) (hw : ∀ d ∈ tables_1, d.before a0 Z = true) (a1 aB aS aK aO aP aI : Addr) (bk : List Value) (Cf : Nat → List Value) (bf : Nat → Option Nat) (pf : Nat → Nat) (la : Int64) (ct o0 o1 o2 z0 z1 z2 : Int32) (y0 y1 y2 : Int64) (i0 i1 i2 : Int32) (h0 : Heap) (hO : Ext Z.heap h0) (H : own_RH Z h0 a1 aB aS aK aO aP aI bk Cf bf la ct o0 o1 o2 z0 z1 z2 y0 y1 y2 i0 i1 i2) (AB : own_AB bf pf bk Cf) (hb : bf 1 = none) (hla : ¬ la < 0) (hy : ¬ y1 < 0) :
    own_C l Z (⟨"com/example/slackweave/slackweave/paths/RadixHeap", "file", "(I)V"⟩ : MethodName) prog_77_method_6_code 6 none [] ({ frames := 2, cells := 1, slots := 16, locals := 29 } : Room) (own_news Z h0) #[(.ref a1), (.int (1 : Int32))] h0 (fun v h => v = none ∧ ∃ (k : Nat) (bk' : List Value) (C' : Nat → List Value), k < 64 ∧ (¬ la < y1 → k = 0) ∧ own_RH Z h a1 aB aS aK aO aP aI bk' C' (own_up bf 1 (some k)) la ct o0 k.toInt32 o2 z0 (own_hm bf k).toInt32 z2 y0 y1 y2 i0 i1 i2 ∧ own_AB (own_up bf 1 (some k)) (own_up pf 1 (own_hm bf k)) bk' C' ∧ own_XT bk bk' Cf C' k (own_hm bf k)) := by
  refine own_C.of pn7 hO own_news_le ?_
  intro p e s m below meth c T0 S0
  refine own_F.cast (by first | (simp [entryFrame, mkF, argsToLocals, Value.category]; done) | rfl : entryFrame m #[(.ref a1), (.int (1 : Int32))] 6 = mkF m 0 #[.val (.ref a1), .val (.int (1 : Int32)), .unset, .unset, .unset, .unset] []) ?_
  obtain ⟨⟨ga, gB, gS, gO, gP, gI⟩, ⟨nSO, nSP, nOP⟩, E_a1, F_buckets, F_sizes, F_keys, F_bucketOf, F_positions, F_last, F_count, RB, AS, AK, AO, AP, AI, BK⟩ := H
  have n1aB := own_neA E_a1 (own_w hw 3 rfl) RB.A
  have naBaS := own_A.neT RB.A AS (by decide)
  have naBaK := own_A.neT RB.A AK (by decide)
  have naBaO := own_A.neT RB.A AO (by decide)
  have naBaP := own_A.neT RB.A AP (by decide)
  have naBaI := own_A.neT RB.A AI (by decide)
  have n1aS := own_neA E_a1 (own_w hw 3 rfl) AS
  have naSaK := own_A.neT AS AK (by decide)
  have naSaI := own_A.neT AS AI (by decide)
  have n1aK := own_neA E_a1 (own_w hw 3 rfl) AK
  have naKaO := own_A.neT AK AO (by decide)
  have naKaP := own_A.neT AK AP (by decide)
  have naKaI := own_A.neT AK AI (by decide)
  have n1aO := own_neA E_a1 (own_w hw 3 rfl) AO
  have naOaI := own_A.neT AO AI (by decide)
  have n1aP := own_neA E_a1 (own_w hw 3 rfl) AP
  have naPaI := own_A.neT AP AI (by decide)
  have n1aI := own_neA E_a1 (own_w hw 3 rfl) AI
  have J : ∀ (TJ : State) (SJ : own_S Z h0 (own_news Z h0) (⟨"com/example/slackweave/slackweave/paths/RadixHeap", "file", "(I)V"⟩ : MethodName).cls prog_77_method_6_code 6 none (⟨"com/example/slackweave/slackweave/paths/RadixHeap", "file", "(I)V"⟩ : MethodName).name p l e ({ frames := 2, cells := 1, slots := 16, locals := 29 } : Room) s m #[.ref a1, .int (1 : Int32)] below meth c TJ h0 0 0) (kJ : Int32), ¬ kJ < 0 → kJ < 64 → (¬ la < y1 → kJ = 0) → own_F p e below s Z h0 (own_news Z h0) ({ frames := 2, cells := 1, slots := 16, locals := 29 } : Room).cells ({ frames := 2, cells := 1, slots := 16, locals := 29 } : Room).slots (fun v h => v = none ∧ ∃ (k : Nat) (bk' : List Value) (C' : Nat → List Value), k < 64 ∧ (¬ la < y1 → k = 0) ∧ own_RH Z h a1 aB aS aK aO aP aI bk' C' (own_up bf 1 (some k)) la ct o0 k.toInt32 o2 z0 (own_hm bf k).toInt32 z2 y0 y1 y2 i0 i1 i2 ∧ own_AB (own_up bf 1 (some k)) (own_up pf 1 (own_hm bf k)) bk' C' ∧ own_XT bk bk' Cf C' k (own_hm bf k)) (TJ.setTop (mkF m 34 #[.val (.ref a1), .val (.int (1 : Int32)), .val (.long y1), .second, .val (.int kJ), .unset] [])) := by
    intro TJ SJ kJ hJ0 hJ1 hJ2
    obtain ⟨kn, hkn, rfl⟩ := own_k64 hJ0 hJ1
    have h2 := own_hm_le2 (n := 1) (by decide) hb kn
    have sm := own_small (n := (own_hm bf kn)) (by omega)
    show own_F p e below s Z _ _ _ _ _ (TJ.setTop (mkF m 34 #[.val (.ref a1), .val (.int 1), .val (.long y1), .second, .val (.int kn.toInt32), .unset] []))
    refine own_F.of (fun _ => XS.aloadN SJ.here SJ.hx rfl (SJ.dec d7_34) rfl rfl) ?_
    show own_F p e below s Z _ _ _ _ _ (TJ.setTop (mkF m 35 #[.val (.ref a1), .val (.int 1), .val (.long y1), .second, .val (.int kn.toInt32), .unset] [(.ref a1)]))
    refine own_getF SJ (host := "") (Or.inl (own_w hw 16 rfl)) Via.refl F_sizes d7_35 (fun T1 S1 => ?_)
    show own_F p e below s Z _ _ _ _ _ (T1.setTop (mkF m 38 #[.val (.ref a1), .val (.int 1), .val (.long y1), .second, .val (.int kn.toInt32), .unset] [(.ref aS)]))
    refine own_F.of (fun _ => XS.iload S1.here S1.hx rfl (S1.dec d7_38) rfl) ?_
    show own_F p e below s Z _ _ _ _ _ (T1.setTop (mkF m 40 #[.val (.ref a1), .val (.int 1), .val (.long y1), .second, .val (.int kn.toInt32), .unset] [(.int kn.toInt32), (.ref aS)]))
    refine own_iald S1 AS (own_64 hkn).2.1 (by rw [(own_64 hkn).1]; exact own_szat bf hkn) d7_40 ?_
    show own_F p e below s Z _ _ _ _ _ (T1.setTop (mkF m 41 #[.val (.ref a1), .val (.int 1), .val (.long y1), .second, .val (.int kn.toInt32), .unset] [(.int (own_hm bf kn).toInt32)]))
    refine own_F.of (fun _ => XS.istore S1.here S1.hx rfl (S1.dec d7_41) rfl (l' := #[.val (.ref a1), .val (.int 1), .val (.long y1), .second, .val (.int kn.toInt32), .val (.int (own_hm bf kn).toInt32)]) rfl) ?_
    refine own_F.of (fun _ => XS.aloadN S1.here S1.hx rfl (S1.dec d7_43) rfl rfl) ?_
    show own_F p e below s Z _ _ _ _ _ (T1.setTop (mkF m 44 #[.val (.ref a1), .val (.int 1), .val (.long y1), .second, .val (.int kn.toInt32), .val (.int (own_hm bf kn).toInt32)] [(.ref a1)]))
    refine own_getF S1 (host := "") (Or.inl (own_w hw 13 rfl)) Via.refl F_buckets d7_44 (fun T2 S2 => ?_)
    show own_F p e below s Z _ _ _ _ _ (T2.setTop (mkF m 47 #[.val (.ref a1), .val (.int 1), .val (.long y1), .second, .val (.int kn.toInt32), .val (.int (own_hm bf kn).toInt32)] [(.ref aB)]))
    refine own_F.of (fun _ => XS.iload S2.here S2.hx rfl (S2.dec d7_47) rfl) ?_
    show own_F p e below s Z _ _ _ _ _ (T2.setTop (mkF m 49 #[.val (.ref a1), .val (.int 1), .val (.long y1), .second, .val (.int kn.toInt32), .val (.int (own_hm bf kn).toInt32)] [(.int kn.toInt32), (.ref aB)]))
    rcases BK.at RB hkn with hv | ⟨r, hv⟩
    · show own_F p e below s Z _ _ _ _ _ (T2.setTop (mkF m 49 #[.val (.ref a1), .val (.int 1), .val (.long y1), .second, .val (.int kn.toInt32), .val (.int (own_hm bf kn).toInt32)] [(.int kn.toInt32), (.ref aB)]))
      refine own_aald S2 RB.A rfl (own_64 hkn).2.1 (by rw [(own_64 hkn).1]; exact hv) d7_49 ?_
      show own_F p e below s Z _ _ _ _ _ (T2.setTop (mkF m 50 #[.val (.ref a1), .val (.int 1), .val (.long y1), .second, .val (.int kn.toInt32), .val (.int (own_hm bf kn).toInt32)] [.null]))
      refine own_F.of (fun _ => XS.ifnonnullNo S2.here S2.hx rfl (S2.dec d7_50) rfl) ?_
      show own_F p e below s Z _ _ _ _ _ (T2.setTop (mkF m 53 #[.val (.ref a1), .val (.int 1), .val (.long y1), .second, .val (.int kn.toInt32), .val (.int (own_hm bf kn).toInt32)] []))
      refine own_F.of (fun _ => XS.aloadN S2.here S2.hx rfl (S2.dec d7_53) rfl rfl) ?_
      show own_F p e below s Z _ _ _ _ _ (T2.setTop (mkF m 54 #[.val (.ref a1), .val (.int 1), .val (.long y1), .second, .val (.int kn.toInt32), .val (.int (own_hm bf kn).toInt32)] [(.ref a1)]))
      refine own_getF S2 (host := "") (Or.inl (own_w hw 13 rfl)) Via.refl F_buckets d7_54 (fun T3 S3 => ?_)
      show own_F p e below s Z _ _ _ _ _ (T3.setTop (mkF m 57 #[.val (.ref a1), .val (.int 1), .val (.long y1), .second, .val (.int kn.toInt32), .val (.int (own_hm bf kn).toInt32)] [(.ref aB)]))
      refine own_F.of (fun _ => XS.iload S3.here S3.hx rfl (S3.dec d7_57) rfl) ?_
      refine own_F.of (fun _ => XS.bipush S3.here S3.hx rfl (S3.dec d7_59)) ?_
      show own_F p e below s Z _ _ _ _ _ (T3.setTop (mkF m 61 #[.val (.ref a1), .val (.int 1), .val (.long y1), .second, .val (.int kn.toInt32), .val (.int (own_hm bf kn).toInt32)] [(.int 16), (.int kn.toInt32), (.ref aB)]))
      refine own_newPE S3 (own_w hw 15 rfl) d7_61 (by decide) (cap := 16) (by decide) (by decide) (by decide) (by decide) (ad := "[I") rfl (fun T4 h4 b4 g4 S4 E4 X4 A4 => ?_)
      show own_F p e below s Z _ _ _ _ _ (T4.setTop (mkF m 63 #[.val (.ref a1), .val (.int 1), .val (.long y1), .second, .val (.int kn.toInt32), .val (.int (own_hm bf kn).toInt32)] [(.ref b4), (.int kn.toInt32), (.ref aB)]))
      have fq5 := (RB.ext E4)
      have fq6 := (BK.ext E4)
      refine own_aastI S4 fq5 (own_64 hkn).2.1 (by rw [(own_64 hkn).1, fq6.1]; exact hkn) (own_w hw 60 rfl) X4 d7_63 (own_news_may gB) (fun T7 h7 S7 W7 A7 => ?_)
      have D7 := own_BK.new fq6 hkn A4 (by rw [List.length_replicate]; rfl) (by rw [g4]; exact S3.old.1) (Ne.symm (Nat.ne_of_lt (by rw [g4]; exact (AS).lt))) (Ne.symm (Nat.ne_of_lt (by rw [g4]; exact (AO).lt))) (Ne.symm (Nat.ne_of_lt (by rw [g4]; exact (AP).lt))) (fun j t e => Nat.ne_of_lt (by rw [g4]; exact (BK.2.1 j t e).1.lt)) fq5 W7
      rw [(own_64 hkn).1] at A7
      have hs7 : (bk.set kn (.ref b4))[kn]? = some (.ref b4) := List.getElem?_set_self (by rw [fq6.1]; exact hkn)
      have ab7 := AB.fresh (r := b4) (us := List.replicate (16 : Int32).toNatClampNeg (defaultValue (newarray.typeOf .int))) hv
      have m8aS := (D7.2.1 _ _ hs7).2.2.2.1
      have m8aO := (D7.2.1 _ _ hs7).2.2.2.2.1
      have m8aP := (D7.2.1 _ _ hs7).2.2.2.2.2
      have m8aB := own_A.neT (D7.2.1 _ _ hs7).1 A7.A (by decide)
      have fq9 := ((AK.ext E4).other W7 (Ne.symm naBaK))
      have m8aK := own_A.neT (D7.2.1 _ _ hs7).1 fq9 (by decide)
      have fq10 := ((AI.ext E4).other W7 (Ne.symm naBaI))
      have m8aI := own_A.neT (D7.2.1 _ _ hs7).1 fq10 (by decide)
      have fq11 := ((E_a1.ext E4).wr W7)
      have m8a1 := own_neA fq11 (own_w hw 3 rfl) (D7.2.1 _ _ hs7).1
      show own_F p e below s Z _ _ _ _ _ (T7.setTop (mkF m 64 #[.val (.ref a1), .val (.int 1), .val (.long y1), .second, .val (.int kn.toInt32), .val (.int (own_hm bf kn).toInt32)] []))
      refine own_F.of (fun _ => XS.goto S7.here S7.hx rfl (pc0 := 64) (pc' := 101) rfl (S7.dec d7_64) (by decide) (by decide)) ?_
      show own_F p e below s Z _ _ _ _ _ (T7.setTop (mkF m 101 #[.val (.ref a1), .val (.int 1), .val (.long y1), .second, .val (.int kn.toInt32), .val (.int (own_hm bf kn).toInt32)] []))
      refine own_F.of (fun _ => XS.aloadN S7.here S7.hx rfl (S7.dec d7_101) rfl rfl) ?_
      show own_F p e below s Z _ _ _ _ _ (T7.setTop (mkF m 102 #[.val (.ref a1), .val (.int 1), .val (.long y1), .second, .val (.int kn.toInt32), .val (.int (own_hm bf kn).toInt32)] [(.ref a1)]))
      have fq12 := ((F_buckets.ext E4).other W7 (Or.inl n1aB))
      refine own_getF S7 (host := "") (Or.inl (own_w hw 13 rfl)) Via.refl fq12 d7_102 (fun T13 S13 => ?_)
      show own_F p e below s Z _ _ _ _ _ (T13.setTop (mkF m 105 #[.val (.ref a1), .val (.int 1), .val (.long y1), .second, .val (.int kn.toInt32), .val (.int (own_hm bf kn).toInt32)] [(.ref aB)]))
      refine own_F.of (fun _ => XS.iload S13.here S13.hx rfl (S13.dec d7_105) rfl) ?_
      show own_F p e below s Z _ _ _ _ _ (T13.setTop (mkF m 107 #[.val (.ref a1), .val (.int 1), .val (.long y1), .second, .val (.int kn.toInt32), .val (.int (own_hm bf kn).toInt32)] [(.int kn.toInt32), (.ref aB)]))
      refine own_aald S13 A7.A rfl (own_64 hkn).2.1 (by rw [(own_64 hkn).1]; exact hs7) d7_107 ?_
      show own_F p e below s Z _ _ _ _ _ (T13.setTop (mkF m 108 #[.val (.ref a1), .val (.int 1), .val (.long y1), .second, .val (.int kn.toInt32), .val (.int (own_hm bf kn).toInt32)] [(.ref b4)]))
      refine own_F.of (fun _ => XS.iload S13.here S13.hx rfl (S13.dec d7_108) rfl) ?_
      refine own_F.of (fun _ => XS.iloadN S13.here S13.hx rfl (S13.dec d7_110) rfl) ?_
      show own_F p e below s Z _ _ _ _ _ (T13.setTop (mkF m 111 #[.val (.ref a1), .val (.int 1), .val (.long y1), .second, .val (.int kn.toInt32), .val (.int (own_hm bf kn).toInt32)] [(.int 1), (.int (own_hm bf kn).toInt32), (.ref b4)]))
      refine own_ist S13 (D7.2.1 _ _ hs7).1 sm.2.1 (by rw [sm.1, (D7.2.1 _ _ hs7).2.1]; omega) d7_111 (own_news_may (D7.2.1 _ _ hs7).2.2.1) (fun T14 h14 S14 W14 A14 => ?_)
      have D14 := own_BK.put D7 hs7 W14
      rw [sm.1] at D14
      have ac14 := own_AB.file ab7 (n := 1) (by decide) hb hkn hs7 (D7.2.1 _ _ hs7).2.1
      show own_F p e below s Z _ _ _ _ _ (T14.setTop (mkF m 112 #[.val (.ref a1), .val (.int 1), .val (.long y1), .second, .val (.int kn.toInt32), .val (.int (own_hm bf kn).toInt32)] []))
      refine own_F.of (fun _ => XS.aloadN S14.here S14.hx rfl (S14.dec d7_112) rfl rfl) ?_
      show own_F p e below s Z _ _ _ _ _ (T14.setTop (mkF m 113 #[.val (.ref a1), .val (.int 1), .val (.long y1), .second, .val (.int kn.toInt32), .val (.int (own_hm bf kn).toInt32)] [(.ref a1)]))
      have fq15 := (((F_sizes.ext E4).other W7 (Or.inl n1aB)).other W14 (Or.inl m8a1))
      refine own_getF S14 (host := "") (Or.inl (own_w hw 16 rfl)) Via.refl fq15 d7_113 (fun T16 S16 => ?_)
      show own_F p e below s Z _ _ _ _ _ (T16.setTop (mkF m 116 #[.val (.ref a1), .val (.int 1), .val (.long y1), .second, .val (.int kn.toInt32), .val (.int (own_hm bf kn).toInt32)] [(.ref aS)]))
      refine own_F.of (fun _ => XS.iload S16.here S16.hx rfl (S16.dec d7_116) rfl) ?_
      refine own_F.of (fun _ => XS.iload S16.here S16.hx rfl (S16.dec d7_118) rfl) ?_
      refine own_F.of (fun _ => XS.iconst S16.here S16.hx rfl (S16.dec d7_120)) ?_
      show own_F p e below s Z _ _ _ _ _ (T16.setTop (mkF m 121 #[.val (.ref a1), .val (.int 1), .val (.long y1), .second, .val (.int kn.toInt32), .val (.int (own_hm bf kn).toInt32)] [(.int 1), (.int (own_hm bf kn).toInt32), (.int kn.toInt32), (.ref aS)]))
      refine own_F.of (fun _ => XS.iadd S16.here S16.hx rfl (S16.dec d7_121) rfl) ?_
      show own_F p e below s Z _ _ _ _ _ (T16.setTop (mkF m 122 #[.val (.ref a1), .val (.int 1), .val (.long y1), .second, .val (.int kn.toInt32), .val (.int (own_hm bf kn).toInt32)] [(.int ((own_hm bf kn).toInt32 + (1 : Int32))), (.int kn.toInt32), (.ref aS)]))
      have fq17 := (((AS.ext E4).other W7 (Ne.symm naBaS)).other W14 (Ne.symm m8aS))
      refine own_ist S16 fq17 (own_64 hkn).2.1 (by rw [(own_64 hkn).1, own_szlen]; exact hkn) d7_122 (own_news_may gS) (fun T18 h18 S18 W18 A18 => ?_)
      have B18 := own_szfile (n := 1) (by decide) hb hkn A18
      show own_F p e below s Z _ _ _ _ _ (T18.setTop (mkF m 123 #[.val (.ref a1), .val (.int 1), .val (.long y1), .second, .val (.int kn.toInt32), .val (.int (own_hm bf kn).toInt32)] []))
      refine own_F.of (fun _ => XS.aloadN S18.here S18.hx rfl (S18.dec d7_123) rfl rfl) ?_
      show own_F p e below s Z _ _ _ _ _ (T18.setTop (mkF m 124 #[.val (.ref a1), .val (.int 1), .val (.long y1), .second, .val (.int kn.toInt32), .val (.int (own_hm bf kn).toInt32)] [(.ref a1)]))
      have fq19 := ((((F_bucketOf.ext E4).other W7 (Or.inl n1aB)).other W14 (Or.inl m8a1)).other W18 (Or.inl n1aS))
      refine own_getF S18 (host := "") (Or.inl (own_w hw 20 rfl)) Via.refl fq19 d7_124 (fun T20 S20 => ?_)
      show own_F p e below s Z _ _ _ _ _ (T20.setTop (mkF m 127 #[.val (.ref a1), .val (.int 1), .val (.long y1), .second, .val (.int kn.toInt32), .val (.int (own_hm bf kn).toInt32)] [(.ref aO)]))
      refine own_F.of (fun _ => XS.iloadN S20.here S20.hx rfl (S20.dec d7_127) rfl) ?_
      refine own_F.of (fun _ => XS.iload S20.here S20.hx rfl (S20.dec d7_128) rfl) ?_
      show own_F p e below s Z _ _ _ _ _ (T20.setTop (mkF m 130 #[.val (.ref a1), .val (.int 1), .val (.long y1), .second, .val (.int kn.toInt32), .val (.int (own_hm bf kn).toInt32)] [(.int kn.toInt32), (.int 1), (.ref aO)]))
      have fq21 := ((((AO.ext E4).other W7 (Ne.symm naBaO)).other W14 (Ne.symm m8aO)).other W18 (Ne.symm nSO))
      refine own_ist S20 fq21 (by decide) (Nat.le_of_ble_eq_true rfl) d7_130 (own_news_may gO) (fun T22 h22 S22 W22 A22 => ?_)
      have V23 : own_A Z h22 aO .int [(.int o0), (.int kn.toInt32), (.int o2)] := A22
      show own_F p e below s Z _ _ _ _ _ (T22.setTop (mkF m 131 #[.val (.ref a1), .val (.int 1), .val (.long y1), .second, .val (.int kn.toInt32), .val (.int (own_hm bf kn).toInt32)] []))
      refine own_F.of (fun _ => XS.aloadN S22.here S22.hx rfl (S22.dec d7_131) rfl rfl) ?_
      show own_F p e below s Z _ _ _ _ _ (T22.setTop (mkF m 132 #[.val (.ref a1), .val (.int 1), .val (.long y1), .second, .val (.int kn.toInt32), .val (.int (own_hm bf kn).toInt32)] [(.ref a1)]))
      have fq24 := (((((F_positions.ext E4).other W7 (Or.inl n1aB)).other W14 (Or.inl m8a1)).other W18 (Or.inl n1aS)).other W22 (Or.inl n1aO))
      refine own_getF S22 (host := "") (Or.inl (own_w hw 26 rfl)) Via.refl fq24 d7_132 (fun T25 S25 => ?_)
      show own_F p e below s Z _ _ _ _ _ (T25.setTop (mkF m 135 #[.val (.ref a1), .val (.int 1), .val (.long y1), .second, .val (.int kn.toInt32), .val (.int (own_hm bf kn).toInt32)] [(.ref aP)]))
      refine own_F.of (fun _ => XS.iloadN S25.here S25.hx rfl (S25.dec d7_135) rfl) ?_
      refine own_F.of (fun _ => XS.iload S25.here S25.hx rfl (S25.dec d7_136) rfl) ?_
      show own_F p e below s Z _ _ _ _ _ (T25.setTop (mkF m 138 #[.val (.ref a1), .val (.int 1), .val (.long y1), .second, .val (.int kn.toInt32), .val (.int (own_hm bf kn).toInt32)] [(.int (own_hm bf kn).toInt32), (.int 1), (.ref aP)]))
      have fq26 := (((((AP.ext E4).other W7 (Ne.symm naBaP)).other W14 (Ne.symm m8aP)).other W18 (Ne.symm nSP)).other W22 (Ne.symm nOP))
      refine own_ist S25 fq26 (by decide) (Nat.le_of_ble_eq_true rfl) d7_138 (own_news_may gP) (fun T27 h27 S27 W27 A27 => ?_)
      have V28 : own_A Z h27 aP .int [(.int z0), (.int (own_hm bf kn).toInt32), (.int z2)] := A27
      show own_F p e below s Z _ _ _ _ _ (T27.setTop (mkF m 139 #[.val (.ref a1), .val (.int 1), .val (.long y1), .second, .val (.int kn.toInt32), .val (.int (own_hm bf kn).toInt32)] []))
      have fq29 := ((((fq11.wr W14).wr W18).wr W22).wr W27)
      have fq30 := ((((fq12.other W14 (Or.inl m8a1)).other W18 (Or.inl n1aS)).other W22 (Or.inl n1aO)).other W27 (Or.inl n1aP))
      have fq31 := (((fq15.other W18 (Or.inl n1aS)).other W22 (Or.inl n1aO)).other W27 (Or.inl n1aP))
      have fq32 := ((((((F_keys.ext E4).other W7 (Or.inl n1aB)).other W14 (Or.inl m8a1)).other W18 (Or.inl n1aS)).other W22 (Or.inl n1aO)).other W27 (Or.inl n1aP))
      have fq33 := ((fq19.other W22 (Or.inl n1aO)).other W27 (Or.inl n1aP))
      have fq34 := (fq24.other W27 (Or.inl n1aP))
      have fq35 := ((((((F_last.ext E4).other W7 (Or.inl n1aB)).other W14 (Or.inl m8a1)).other W18 (Or.inl n1aS)).other W22 (Or.inl n1aO)).other W27 (Or.inl n1aP))
      have fq36 := ((((((F_count.ext E4).other W7 (Or.inl n1aB)).other W14 (Or.inl m8a1)).other W18 (Or.inl n1aS)).other W22 (Or.inl n1aO)).other W27 (Or.inl n1aP))
      have fq37 := ((((A7.other W14 (Ne.symm m8aB)).other W18 naBaS).other W22 naBaO).other W27 naBaP)
      have fq38 := ((B18.other W22 nSO).other W27 nSP)
      have fq39 := ((((fq9.other W14 (Ne.symm m8aK)).other W18 (Ne.symm naSaK)).other W22 naKaO).other W27 naKaP)
      have fq40 := (V23.other W27 nOP)
      have fq41 := ((((fq10.other W14 (Ne.symm m8aI)).other W18 (Ne.symm naSaI)).other W22 (Ne.symm naOaI)).other W27 (Ne.symm naPaI))
      have fq42 := (((D14.oS W18).oO W22).oP W27)
      refine own_retV S27 d7_139 (by decide) (by decide) ?_
      exact ⟨rfl, kn, _, _, hkn, (fun q => own_kz hkn (hJ2 q)), ⟨⟨ga, gB, gS, gO, gP, gI⟩, ⟨nSO, nSP, nOP⟩, fq29, fq30, fq31, fq32, fq33, fq34, fq35, fq36, fq37, fq38, fq39, fq40, V28, fq41, fq42⟩, ac14, own_XT.new hv⟩
    · show own_F p e below s Z _ _ _ _ _ (T2.setTop (mkF m 49 #[.val (.ref a1), .val (.int 1), .val (.long y1), .second, .val (.int kn.toInt32), .val (.int (own_hm bf kn).toInt32)] [(.int kn.toInt32), (.ref aB)]))
      have m43aS := (BK.2.1 _ _ hv).2.2.2.1
      have m43aO := (BK.2.1 _ _ hv).2.2.2.2.1
      have m43aP := (BK.2.1 _ _ hv).2.2.2.2.2
      have m43aB := own_A.neT (BK.2.1 _ _ hv).1 RB.A (by decide)
      have m43aK := own_A.neT (BK.2.1 _ _ hv).1 AK (by decide)
      have m43aI := own_A.neT (BK.2.1 _ _ hv).1 AI (by decide)
      have m43a1 := own_neA E_a1 (own_w hw 3 rfl) (BK.2.1 _ _ hv).1
      refine own_aald S2 RB.A rfl (own_64 hkn).2.1 (by rw [(own_64 hkn).1]; exact hv) d7_49 ?_
      show own_F p e below s Z _ _ _ _ _ (T2.setTop (mkF m 50 #[.val (.ref a1), .val (.int 1), .val (.long y1), .second, .val (.int kn.toInt32), .val (.int (own_hm bf kn).toInt32)] [(.ref r)]))
      refine own_F.of (fun _ => XS.ifnonnullYes S2.here S2.hx rfl (pc0 := 50) (pc' := 67) rfl (S2.dec d7_50) rfl (by decide) (by decide)) ?_
      show own_F p e below s Z _ _ _ _ _ (T2.setTop (mkF m 67 #[.val (.ref a1), .val (.int 1), .val (.long y1), .second, .val (.int kn.toInt32), .val (.int (own_hm bf kn).toInt32)] []))
      refine own_F.of (fun _ => XS.iload S2.here S2.hx rfl (S2.dec d7_67) rfl) ?_
      refine own_F.of (fun _ => XS.aloadN S2.here S2.hx rfl (S2.dec d7_69) rfl rfl) ?_
      show own_F p e below s Z _ _ _ _ _ (T2.setTop (mkF m 70 #[.val (.ref a1), .val (.int 1), .val (.long y1), .second, .val (.int kn.toInt32), .val (.int (own_hm bf kn).toInt32)] [(.ref a1), (.int (own_hm bf kn).toInt32)]))
      refine own_getF S2 (host := "") (Or.inl (own_w hw 13 rfl)) Via.refl F_buckets d7_70 (fun T44 S44 => ?_)
      show own_F p e below s Z _ _ _ _ _ (T44.setTop (mkF m 73 #[.val (.ref a1), .val (.int 1), .val (.long y1), .second, .val (.int kn.toInt32), .val (.int (own_hm bf kn).toInt32)] [(.ref aB), (.int (own_hm bf kn).toInt32)]))
      refine own_F.of (fun _ => XS.iload S44.here S44.hx rfl (S44.dec d7_73) rfl) ?_
      show own_F p e below s Z _ _ _ _ _ (T44.setTop (mkF m 75 #[.val (.ref a1), .val (.int 1), .val (.long y1), .second, .val (.int kn.toInt32), .val (.int (own_hm bf kn).toInt32)] [(.int kn.toInt32), (.ref aB), (.int (own_hm bf kn).toInt32)]))
      refine own_aald S44 RB.A rfl (own_64 hkn).2.1 (by rw [(own_64 hkn).1]; exact hv) d7_75 ?_
      show own_F p e below s Z _ _ _ _ _ (T44.setTop (mkF m 76 #[.val (.ref a1), .val (.int 1), .val (.long y1), .second, .val (.int kn.toInt32), .val (.int (own_hm bf kn).toInt32)] [(.ref r), (.int (own_hm bf kn).toInt32)]))
      refine own_len S44 (BK.2.1 _ _ hv).1 d7_76 ?_
      show own_F p e below s Z _ _ _ _ _ (T44.setTop (mkF m 77 #[.val (.ref a1), .val (.int 1), .val (.long y1), .second, .val (.int kn.toInt32), .val (.int (own_hm bf kn).toInt32)] [(.int (Cf kn).length.toInt32), (.int (own_hm bf kn).toInt32)]))
      refine own_icmp S44 101 d7_77 (by decide) (by decide) (fun (hc77_45 : ¬ ((own_hm bf kn).toInt32 = (Cf kn).length.toInt32)) => ?_) (fun (hc77_45 : (own_hm bf kn).toInt32 = (Cf kn).length.toInt32) => False.elim (own_ne16 h2 (BK.2.1 _ _ hv).2.1 hc77_45))
      show own_F p e below s Z _ _ _ _ _ (T44.setTop (mkF m 101 #[.val (.ref a1), .val (.int 1), .val (.long y1), .second, .val (.int kn.toInt32), .val (.int (own_hm bf kn).toInt32)] []))
      refine own_F.of (fun _ => XS.aloadN S44.here S44.hx rfl (S44.dec d7_101) rfl rfl) ?_
      show own_F p e below s Z _ _ _ _ _ (T44.setTop (mkF m 102 #[.val (.ref a1), .val (.int 1), .val (.long y1), .second, .val (.int kn.toInt32), .val (.int (own_hm bf kn).toInt32)] [(.ref a1)]))
      refine own_getF S44 (host := "") (Or.inl (own_w hw 13 rfl)) Via.refl F_buckets d7_102 (fun T46 S46 => ?_)
      show own_F p e below s Z _ _ _ _ _ (T46.setTop (mkF m 105 #[.val (.ref a1), .val (.int 1), .val (.long y1), .second, .val (.int kn.toInt32), .val (.int (own_hm bf kn).toInt32)] [(.ref aB)]))
      refine own_F.of (fun _ => XS.iload S46.here S46.hx rfl (S46.dec d7_105) rfl) ?_
      show own_F p e below s Z _ _ _ _ _ (T46.setTop (mkF m 107 #[.val (.ref a1), .val (.int 1), .val (.long y1), .second, .val (.int kn.toInt32), .val (.int (own_hm bf kn).toInt32)] [(.int kn.toInt32), (.ref aB)]))
      refine own_aald S46 RB.A rfl (own_64 hkn).2.1 (by rw [(own_64 hkn).1]; exact hv) d7_107 ?_
      show own_F p e below s Z _ _ _ _ _ (T46.setTop (mkF m 108 #[.val (.ref a1), .val (.int 1), .val (.long y1), .second, .val (.int kn.toInt32), .val (.int (own_hm bf kn).toInt32)] [(.ref r)]))
      refine own_F.of (fun _ => XS.iload S46.here S46.hx rfl (S46.dec d7_108) rfl) ?_
      refine own_F.of (fun _ => XS.iloadN S46.here S46.hx rfl (S46.dec d7_110) rfl) ?_
      show own_F p e below s Z _ _ _ _ _ (T46.setTop (mkF m 111 #[.val (.ref a1), .val (.int 1), .val (.long y1), .second, .val (.int kn.toInt32), .val (.int (own_hm bf kn).toInt32)] [(.int 1), (.int (own_hm bf kn).toInt32), (.ref r)]))
      refine own_ist S46 (BK.2.1 _ _ hv).1 sm.2.1 (by rw [sm.1, (BK.2.1 _ _ hv).2.1]; omega) d7_111 (own_news_may (BK.2.1 _ _ hv).2.2.1) (fun T47 h47 S47 W47 A47 => ?_)
      have D47 := own_BK.put BK hv W47
      rw [sm.1] at D47
      have ac47 := own_AB.file AB (n := 1) (by decide) hb hkn hv (BK.2.1 _ _ hv).2.1
      show own_F p e below s Z _ _ _ _ _ (T47.setTop (mkF m 112 #[.val (.ref a1), .val (.int 1), .val (.long y1), .second, .val (.int kn.toInt32), .val (.int (own_hm bf kn).toInt32)] []))
      refine own_F.of (fun _ => XS.aloadN S47.here S47.hx rfl (S47.dec d7_112) rfl rfl) ?_
      show own_F p e below s Z _ _ _ _ _ (T47.setTop (mkF m 113 #[.val (.ref a1), .val (.int 1), .val (.long y1), .second, .val (.int kn.toInt32), .val (.int (own_hm bf kn).toInt32)] [(.ref a1)]))
      have fq48 := (F_sizes.other W47 (Or.inl m43a1))
      refine own_getF S47 (host := "") (Or.inl (own_w hw 16 rfl)) Via.refl fq48 d7_113 (fun T49 S49 => ?_)
      show own_F p e below s Z _ _ _ _ _ (T49.setTop (mkF m 116 #[.val (.ref a1), .val (.int 1), .val (.long y1), .second, .val (.int kn.toInt32), .val (.int (own_hm bf kn).toInt32)] [(.ref aS)]))
      refine own_F.of (fun _ => XS.iload S49.here S49.hx rfl (S49.dec d7_116) rfl) ?_
      refine own_F.of (fun _ => XS.iload S49.here S49.hx rfl (S49.dec d7_118) rfl) ?_
      refine own_F.of (fun _ => XS.iconst S49.here S49.hx rfl (S49.dec d7_120)) ?_
      show own_F p e below s Z _ _ _ _ _ (T49.setTop (mkF m 121 #[.val (.ref a1), .val (.int 1), .val (.long y1), .second, .val (.int kn.toInt32), .val (.int (own_hm bf kn).toInt32)] [(.int 1), (.int (own_hm bf kn).toInt32), (.int kn.toInt32), (.ref aS)]))
      refine own_F.of (fun _ => XS.iadd S49.here S49.hx rfl (S49.dec d7_121) rfl) ?_
      show own_F p e below s Z _ _ _ _ _ (T49.setTop (mkF m 122 #[.val (.ref a1), .val (.int 1), .val (.long y1), .second, .val (.int kn.toInt32), .val (.int (own_hm bf kn).toInt32)] [(.int ((own_hm bf kn).toInt32 + (1 : Int32))), (.int kn.toInt32), (.ref aS)]))
      have fq50 := (AS.other W47 (Ne.symm m43aS))
      refine own_ist S49 fq50 (own_64 hkn).2.1 (by rw [(own_64 hkn).1, own_szlen]; exact hkn) d7_122 (own_news_may gS) (fun T51 h51 S51 W51 A51 => ?_)
      have B51 := own_szfile (n := 1) (by decide) hb hkn A51
      show own_F p e below s Z _ _ _ _ _ (T51.setTop (mkF m 123 #[.val (.ref a1), .val (.int 1), .val (.long y1), .second, .val (.int kn.toInt32), .val (.int (own_hm bf kn).toInt32)] []))
      refine own_F.of (fun _ => XS.aloadN S51.here S51.hx rfl (S51.dec d7_123) rfl rfl) ?_
      show own_F p e below s Z _ _ _ _ _ (T51.setTop (mkF m 124 #[.val (.ref a1), .val (.int 1), .val (.long y1), .second, .val (.int kn.toInt32), .val (.int (own_hm bf kn).toInt32)] [(.ref a1)]))
      have fq52 := ((F_bucketOf.other W47 (Or.inl m43a1)).other W51 (Or.inl n1aS))
      refine own_getF S51 (host := "") (Or.inl (own_w hw 20 rfl)) Via.refl fq52 d7_124 (fun T53 S53 => ?_)
      show own_F p e below s Z _ _ _ _ _ (T53.setTop (mkF m 127 #[.val (.ref a1), .val (.int 1), .val (.long y1), .second, .val (.int kn.toInt32), .val (.int (own_hm bf kn).toInt32)] [(.ref aO)]))
      refine own_F.of (fun _ => XS.iloadN S53.here S53.hx rfl (S53.dec d7_127) rfl) ?_
      refine own_F.of (fun _ => XS.iload S53.here S53.hx rfl (S53.dec d7_128) rfl) ?_
      show own_F p e below s Z _ _ _ _ _ (T53.setTop (mkF m 130 #[.val (.ref a1), .val (.int 1), .val (.long y1), .second, .val (.int kn.toInt32), .val (.int (own_hm bf kn).toInt32)] [(.int kn.toInt32), (.int 1), (.ref aO)]))
      have fq54 := ((AO.other W47 (Ne.symm m43aO)).other W51 (Ne.symm nSO))
      refine own_ist S53 fq54 (by decide) (Nat.le_of_ble_eq_true rfl) d7_130 (own_news_may gO) (fun T55 h55 S55 W55 A55 => ?_)
      have V56 : own_A Z h55 aO .int [(.int o0), (.int kn.toInt32), (.int o2)] := A55
      show own_F p e below s Z _ _ _ _ _ (T55.setTop (mkF m 131 #[.val (.ref a1), .val (.int 1), .val (.long y1), .second, .val (.int kn.toInt32), .val (.int (own_hm bf kn).toInt32)] []))
      refine own_F.of (fun _ => XS.aloadN S55.here S55.hx rfl (S55.dec d7_131) rfl rfl) ?_
      show own_F p e below s Z _ _ _ _ _ (T55.setTop (mkF m 132 #[.val (.ref a1), .val (.int 1), .val (.long y1), .second, .val (.int kn.toInt32), .val (.int (own_hm bf kn).toInt32)] [(.ref a1)]))
      have fq57 := (((F_positions.other W47 (Or.inl m43a1)).other W51 (Or.inl n1aS)).other W55 (Or.inl n1aO))
      refine own_getF S55 (host := "") (Or.inl (own_w hw 26 rfl)) Via.refl fq57 d7_132 (fun T58 S58 => ?_)
      show own_F p e below s Z _ _ _ _ _ (T58.setTop (mkF m 135 #[.val (.ref a1), .val (.int 1), .val (.long y1), .second, .val (.int kn.toInt32), .val (.int (own_hm bf kn).toInt32)] [(.ref aP)]))
      refine own_F.of (fun _ => XS.iloadN S58.here S58.hx rfl (S58.dec d7_135) rfl) ?_
      refine own_F.of (fun _ => XS.iload S58.here S58.hx rfl (S58.dec d7_136) rfl) ?_
      show own_F p e below s Z _ _ _ _ _ (T58.setTop (mkF m 138 #[.val (.ref a1), .val (.int 1), .val (.long y1), .second, .val (.int kn.toInt32), .val (.int (own_hm bf kn).toInt32)] [(.int (own_hm bf kn).toInt32), (.int 1), (.ref aP)]))
      have fq59 := (((AP.other W47 (Ne.symm m43aP)).other W51 (Ne.symm nSP)).other W55 (Ne.symm nOP))
      refine own_ist S58 fq59 (by decide) (Nat.le_of_ble_eq_true rfl) d7_138 (own_news_may gP) (fun T60 h60 S60 W60 A60 => ?_)
      have V61 : own_A Z h60 aP .int [(.int z0), (.int (own_hm bf kn).toInt32), (.int z2)] := A60
      show own_F p e below s Z _ _ _ _ _ (T60.setTop (mkF m 139 #[.val (.ref a1), .val (.int 1), .val (.long y1), .second, .val (.int kn.toInt32), .val (.int (own_hm bf kn).toInt32)] []))
      have fq62 := ((((E_a1.wr W47).wr W51).wr W55).wr W60)
      have fq63 := ((((F_buckets.other W47 (Or.inl m43a1)).other W51 (Or.inl n1aS)).other W55 (Or.inl n1aO)).other W60 (Or.inl n1aP))
      have fq64 := (((fq48.other W51 (Or.inl n1aS)).other W55 (Or.inl n1aO)).other W60 (Or.inl n1aP))
      have fq65 := ((((F_keys.other W47 (Or.inl m43a1)).other W51 (Or.inl n1aS)).other W55 (Or.inl n1aO)).other W60 (Or.inl n1aP))
      have fq66 := ((fq52.other W55 (Or.inl n1aO)).other W60 (Or.inl n1aP))
      have fq67 := (fq57.other W60 (Or.inl n1aP))
      have fq68 := ((((F_last.other W47 (Or.inl m43a1)).other W51 (Or.inl n1aS)).other W55 (Or.inl n1aO)).other W60 (Or.inl n1aP))
      have fq69 := ((((F_count.other W47 (Or.inl m43a1)).other W51 (Or.inl n1aS)).other W55 (Or.inl n1aO)).other W60 (Or.inl n1aP))
      have fq70 := ((((RB.other W47 (Ne.symm m43aB)).other W51 naBaS).other W55 naBaO).other W60 naBaP)
      have fq71 := ((B51.other W55 nSO).other W60 nSP)
      have fq72 := ((((AK.other W47 (Ne.symm m43aK)).other W51 (Ne.symm naSaK)).other W55 naKaO).other W60 naKaP)
      have fq73 := (V56.other W60 nOP)
      have fq74 := ((((AI.other W47 (Ne.symm m43aI)).other W51 (Ne.symm naSaI)).other W55 (Ne.symm naOaI)).other W60 (Ne.symm naPaI))
      have fq75 := (((D47.oS W51).oO W55).oP W60)
      refine own_retV S60 d7_139 (by decide) (by decide) ?_
      exact ⟨rfl, kn, _, _, hkn, (fun q => own_kz hkn (hJ2 q)), ⟨⟨ga, gB, gS, gO, gP, gI⟩, ⟨nSO, nSP, nOP⟩, fq62, fq63, fq64, fq65, fq66, fq67, fq68, fq69, fq70, fq71, fq72, fq73, V61, fq74, fq75⟩, ac47, own_XT.old⟩
  show own_F p e below s Z _ _ _ _ _ (T0.setTop (mkF m 0 #[.val (.ref a1), .val (.int 1), .unset, .unset, .unset, .unset] []))
  refine own_F.of (fun _ => XS.aloadN S0.here S0.hx rfl (S0.dec d7_0) rfl rfl) ?_
  show own_F p e below s Z _ _ _ _ _ (T0.setTop (mkF m 1 #[.val (.ref a1), .val (.int 1), .unset, .unset, .unset, .unset] [(.ref a1)]))
  refine own_getF S0 (host := "") (Or.inl (own_w hw 18 rfl)) Via.refl F_keys d7_1 (fun T76 S76 => ?_)
  show own_F p e below s Z _ _ _ _ _ (T76.setTop (mkF m 4 #[.val (.ref a1), .val (.int 1), .unset, .unset, .unset, .unset] [(.ref aK)]))
  refine own_F.of (fun _ => XS.iloadN S76.here S76.hx rfl (S76.dec d7_4) rfl) ?_
  show own_F p e below s Z _ _ _ _ _ (T76.setTop (mkF m 5 #[.val (.ref a1), .val (.int 1), .unset, .unset, .unset, .unset] [(.int 1), (.ref aK)]))
  refine own_lald S76 AK (by decide) rfl d7_5 ?_
  show own_F p e below s Z _ _ _ _ _ (T76.setTop (mkF m 6 #[.val (.ref a1), .val (.int 1), .unset, .unset, .unset, .unset] [(.long y1)]))
  refine own_F.of (fun _ => XS.lstoreN S76.here S76.hx rfl (S76.dec d7_6) rfl (l' := #[.val (.ref a1), .val (.int 1), .val (.long y1), .second, .unset, .unset]) rfl) ?_
  refine own_F.of (fun _ => XS.lloadN S76.here S76.hx rfl (S76.dec d7_7) rfl) ?_
  refine own_F.of (fun _ => XS.aloadN S76.here S76.hx rfl (S76.dec d7_8) rfl rfl) ?_
  show own_F p e below s Z _ _ _ _ _ (T76.setTop (mkF m 9 #[.val (.ref a1), .val (.int 1), .val (.long y1), .second, .unset, .unset] [(.ref a1), (.long y1)]))
  refine own_getF S76 (host := "") (Or.inl (own_w hw 49 rfl)) Via.refl F_last d7_9 (fun T77 S77 => ?_)
  show own_F p e below s Z _ _ _ _ _ (T77.setTop (mkF m 12 #[.val (.ref a1), .val (.int 1), .val (.long y1), .second, .unset, .unset] [(.long la), (.long y1)]))
  refine own_F.of (fun _ => XS.lcmp S77.here S77.hx rfl (S77.dec d7_12) rfl) ?_
  show own_F p e below s Z _ _ _ _ _ (T77.setTop (mkF m 13 #[.val (.ref a1), .val (.int 1), .val (.long y1), .second, .unset, .unset] [(.int (lcmpW y1 la))]))
  refine own_if S77 20 d7_13 (by decide) (by decide) (fun (hc13_78 : (0 : Int32) < (lcmpW y1 la)) => ?_) (fun (hc13_78 : ¬ ((0 : Int32) < (lcmpW y1 la))) => ?_)
  · show own_F p e below s Z _ _ _ _ _ (T77.setTop (mkF m 20 #[.val (.ref a1), .val (.int 1), .val (.long y1), .second, .unset, .unset] []))
    refine own_F.of (fun _ => XS.bipush S77.here S77.hx rfl (S77.dec d7_20)) ?_
    refine own_F.of (fun _ => XS.lloadN S77.here S77.hx rfl (S77.dec d7_22) rfl) ?_
    refine own_F.of (fun _ => XS.aloadN S77.here S77.hx rfl (S77.dec d7_23) rfl rfl) ?_
    show own_F p e below s Z _ _ _ _ _ (T77.setTop (mkF m 24 #[.val (.ref a1), .val (.int 1), .val (.long y1), .second, .unset, .unset] [(.ref a1), (.long y1), (.int 64)]))
    refine own_getF S77 (host := "") (Or.inl (own_w hw 49 rfl)) Via.refl F_last d7_24 (fun T79 S79 => ?_)
    show own_F p e below s Z _ _ _ _ _ (T79.setTop (mkF m 27 #[.val (.ref a1), .val (.int 1), .val (.long y1), .second, .unset, .unset] [(.long la), (.long y1), (.int 64)]))
    refine own_F.of (fun _ => XS.lxor S79.here S79.hx rfl (S79.dec d7_27) rfl) ?_
    show own_F p e below s Z _ _ _ _ _ (T79.setTop (mkF m 28 #[.val (.ref a1), .val (.int 1), .val (.long y1), .second, .unset, .unset] [(.long (y1 ^^^ la)), (.int 64)]))
    refine own_callS S79 (y := (⟨"java/lang/Long", "numberOfLeadingZeros", "(J)I"⟩ : MethodName)) (own_w hw 51 rfl) (own_w hw 52 rfl) (own_w hw 53 rfl) (own_w hw 54 rfl) (by decide) (argsL := [(.long (y1 ^^^ la))]) (rest := [(.int (64 : Int32))]) (own_nlzL l Z a0 hw (y1 ^^^ la) h0 S79.old (own_xor0 hy hla)) all0 (by decide +kernel : parseMethodDescriptor "(J)I" = some ⟨[.long], some .int⟩) rfl rfl rfl d7_28 (by decide) (Nat.le_of_ble_eq_true rfl) (by decide) (by decide) (fun T80 h80 v80 S80 K80 q80 => ?_)
    obtain ⟨r80, rfl, g80, rfl⟩ := q80
    show own_F p e below s Z _ _ _ _ _ (T80.setTop (mkF m 31 #[.val (.ref a1), .val (.int 1), .val (.long y1), .second, .unset, .unset] [(.int r80), (.int 64)]))
    refine own_F.of (fun _ => XS.isub S80.here S80.hx rfl (S80.dec d7_31) rfl) ?_
    show own_F p e below s Z _ _ _ _ _ (T80.setTop (mkF m 32 #[.val (.ref a1), .val (.int 1), .val (.long y1), .second, .unset, .unset] [(.int ((64 : Int32) - r80))]))
    refine own_F.of (fun _ => XS.istore S80.here S80.hx rfl (S80.dec d7_32) rfl (l' := #[.val (.ref a1), .val (.int 1), .val (.long y1), .second, .val (.int ((64 : Int32) - r80)), .unset]) rfl) ?_
    exact J T80 S80 ((64 : Int32) - r80) (own_64r g80).1 (own_64r g80).2 (fun q => absurd ((own_lwgt _ _).mp hc13_78) q)
  · show own_F p e below s Z _ _ _ _ _ (T77.setTop (mkF m 16 #[.val (.ref a1), .val (.int 1), .val (.long y1), .second, .unset, .unset] []))
    refine own_F.of (fun _ => XS.iconst S77.here S77.hx rfl (S77.dec d7_16)) ?_
    show own_F p e below s Z _ _ _ _ _ (T77.setTop (mkF m 17 #[.val (.ref a1), .val (.int 1), .val (.long y1), .second, .unset, .unset] [(.int 0)]))
    refine own_F.of (fun _ => XS.goto S77.here S77.hx rfl (pc0 := 17) (pc' := 32) rfl (S77.dec d7_17) (by decide) (by decide)) ?_
    show own_F p e below s Z _ _ _ _ _ (T77.setTop (mkF m 32 #[.val (.ref a1), .val (.int 1), .val (.long y1), .second, .unset, .unset] [(.int 0)]))
    refine own_F.of (fun _ => XS.istore S77.here S77.hx rfl (S77.dec d7_32) rfl (l' := #[.val (.ref a1), .val (.int 1), .val (.long y1), .second, .val (.int 0), .unset]) rfl) ?_
    exact J T77 S77 (0 : Int32) (by decide) (by decide) (fun _ => rfl)
set_option maxRecDepth 65536 in
set_option maxHeartbeats 40000000 in
theorem own_file2 (l : Launch) (Z : State) (a0 : Array Value) (hw : ∀ d ∈ tables_1, d.before a0 Z = true) (a1 aB aS aK aO aP aI : Addr) (bk : List Value) (Cf : Nat → List Value) (bf : Nat → Option Nat) (pf : Nat → Nat) (la : Int64) (ct o0 o1 o2 z0 z1 z2 : Int32) (y0 y1 y2 : Int64) (i0 i1 i2 : Int32) (h0 : Heap) (hO : Ext Z.heap h0) (H : own_RH Z h0 a1 aB aS aK aO aP aI bk Cf bf la ct o0 o1 o2 z0 z1 z2 y0 y1 y2 i0 i1 i2) (AB : own_AB bf pf bk Cf) (hb : bf 2 = none) (hla : ¬ la < 0) (hy : ¬ y2 < 0) :
    own_C l Z (⟨"com/example/slackweave/slackweave/paths/RadixHeap", "file", "(I)V"⟩ : MethodName) prog_77_method_6_code 6 none [] ({ frames := 2, cells := 1, slots := 16, locals := 29 } : Room) (own_news Z h0) #[(.ref a1), (.int (2 : Int32))] h0 (fun v h => v = none ∧ ∃ (k : Nat) (bk' : List Value) (C' : Nat → List Value), k < 64 ∧ (¬ la < y2 → k = 0) ∧ own_RH Z h a1 aB aS aK aO aP aI bk' C' (own_up bf 2 (some k)) la ct o0 o1 k.toInt32 z0 z1 (own_hm bf k).toInt32 y0 y1 y2 i0 i1 i2 ∧ own_AB (own_up bf 2 (some k)) (own_up pf 2 (own_hm bf k)) bk' C' ∧ own_XT bk bk' Cf C' k (own_hm bf k)) := by
  refine own_C.of pn7 hO own_news_le ?_
  intro p e s m below meth c T0 S0
  refine own_F.cast (by first | (simp [entryFrame, mkF, argsToLocals, Value.category]; done) | rfl : entryFrame m #[(.ref a1), (.int (2 : Int32))] 6 = mkF m 0 #[.val (.ref a1), .val (.int (2 : Int32)), .unset, .unset, .unset, .unset] []) ?_
  obtain ⟨⟨ga, gB, gS, gO, gP, gI⟩, ⟨nSO, nSP, nOP⟩, E_a1, F_buckets, F_sizes, F_keys, F_bucketOf, F_positions, F_last, F_count, RB, AS, AK, AO, AP, AI, BK⟩ := H
  have n1aB := own_neA E_a1 (own_w hw 3 rfl) RB.A
  have naBaS := own_A.neT RB.A AS (by decide)
  have naBaK := own_A.neT RB.A AK (by decide)
  have naBaO := own_A.neT RB.A AO (by decide)
  have naBaP := own_A.neT RB.A AP (by decide)
  have naBaI := own_A.neT RB.A AI (by decide)
  have n1aS := own_neA E_a1 (own_w hw 3 rfl) AS
  have naSaK := own_A.neT AS AK (by decide)
  have naSaI := own_A.neT AS AI (by decide)
  have n1aK := own_neA E_a1 (own_w hw 3 rfl) AK
  have naKaO := own_A.neT AK AO (by decide)
  have naKaP := own_A.neT AK AP (by decide)
  have naKaI := own_A.neT AK AI (by decide)
  have n1aO := own_neA E_a1 (own_w hw 3 rfl) AO
  have naOaI := own_A.neT AO AI (by decide)
  have n1aP := own_neA E_a1 (own_w hw 3 rfl) AP
  have naPaI := own_A.neT AP AI (by decide)
  have n1aI := own_neA E_a1 (own_w hw 3 rfl) AI
  have J : ∀ (TJ : State) (SJ : own_S Z h0 (own_news Z h0) (⟨"com/example/slackweave/slackweave/paths/RadixHeap", "file", "(I)V"⟩ : MethodName).cls prog_77_method_6_code 6 none (⟨"com/example/slackweave/slackweave/paths/RadixHeap", "file", "(I)V"⟩ : MethodName).name p l e ({ frames := 2, cells := 1, slots := 16, locals := 29 } : Room) s m #[.ref a1, .int (2 : Int32)] below meth c TJ h0 0 0) (kJ : Int32), ¬ kJ < 0 → kJ < 64 → (¬ la < y2 → kJ = 0) → own_F p e below s Z h0 (own_news Z h0) ({ frames := 2, cells := 1, slots := 16, locals := 29 } : Room).cells ({ frames := 2, cells := 1, slots := 16, locals := 29 } : Room).slots (fun v h => v = none ∧ ∃ (k : Nat) (bk' : List Value) (C' : Nat → List Value), k < 64 ∧ (¬ la < y2 → k = 0) ∧ own_RH Z h a1 aB aS aK aO aP aI bk' C' (own_up bf 2 (some k)) la ct o0 o1 k.toInt32 z0 z1 (own_hm bf k).toInt32 y0 y1 y2 i0 i1 i2 ∧ own_AB (own_up bf 2 (some k)) (own_up pf 2 (own_hm bf k)) bk' C' ∧ own_XT bk bk' Cf C' k (own_hm bf k)) (TJ.setTop (mkF m 34 #[.val (.ref a1), .val (.int (2 : Int32)), .val (.long y2), .second, .val (.int kJ), .unset] [])) := by
    intro TJ SJ kJ hJ0 hJ1 hJ2
    obtain ⟨kn, hkn, rfl⟩ := own_k64 hJ0 hJ1
    have h2 := own_hm_le2 (n := 2) (by decide) hb kn
    have sm := own_small (n := (own_hm bf kn)) (by omega)
    show own_F p e below s Z _ _ _ _ _ (TJ.setTop (mkF m 34 #[.val (.ref a1), .val (.int 2), .val (.long y2), .second, .val (.int kn.toInt32), .unset] []))
    refine own_F.of (fun _ => XS.aloadN SJ.here SJ.hx rfl (SJ.dec d7_34) rfl rfl) ?_
    show own_F p e below s Z _ _ _ _ _ (TJ.setTop (mkF m 35 #[.val (.ref a1), .val (.int 2), .val (.long y2), .second, .val (.int kn.toInt32), .unset] [(.ref a1)]))
    refine own_getF SJ (host := "") (Or.inl (own_w hw 16 rfl)) Via.refl F_sizes d7_35 (fun T1 S1 => ?_)
    show own_F p e below s Z _ _ _ _ _ (T1.setTop (mkF m 38 #[.val (.ref a1), .val (.int 2), .val (.long y2), .second, .val (.int kn.toInt32), .unset] [(.ref aS)]))
    refine own_F.of (fun _ => XS.iload S1.here S1.hx rfl (S1.dec d7_38) rfl) ?_
    show own_F p e below s Z _ _ _ _ _ (T1.setTop (mkF m 40 #[.val (.ref a1), .val (.int 2), .val (.long y2), .second, .val (.int kn.toInt32), .unset] [(.int kn.toInt32), (.ref aS)]))
    refine own_iald S1 AS (own_64 hkn).2.1 (by rw [(own_64 hkn).1]; exact own_szat bf hkn) d7_40 ?_
    show own_F p e below s Z _ _ _ _ _ (T1.setTop (mkF m 41 #[.val (.ref a1), .val (.int 2), .val (.long y2), .second, .val (.int kn.toInt32), .unset] [(.int (own_hm bf kn).toInt32)]))
    refine own_F.of (fun _ => XS.istore S1.here S1.hx rfl (S1.dec d7_41) rfl (l' := #[.val (.ref a1), .val (.int 2), .val (.long y2), .second, .val (.int kn.toInt32), .val (.int (own_hm bf kn).toInt32)]) rfl) ?_
    refine own_F.of (fun _ => XS.aloadN S1.here S1.hx rfl (S1.dec d7_43) rfl rfl) ?_
    show own_F p e below s Z _ _ _ _ _ (T1.setTop (mkF m 44 #[.val (.ref a1), .val (.int 2), .val (.long y2), .second, .val (.int kn.toInt32), .val (.int (own_hm bf kn).toInt32)] [(.ref a1)]))
    refine own_getF S1 (host := "") (Or.inl (own_w hw 13 rfl)) Via.refl F_buckets d7_44 (fun T2 S2 => ?_)
    show own_F p e below s Z _ _ _ _ _ (T2.setTop (mkF m 47 #[.val (.ref a1), .val (.int 2), .val (.long y2), .second, .val (.int kn.toInt32), .val (.int (own_hm bf kn).toInt32)] [(.ref aB)]))
    refine own_F.of (fun _ => XS.iload S2.here S2.hx rfl (S2.dec d7_47) rfl) ?_
    show own_F p e below s Z _ _ _ _ _ (T2.setTop (mkF m 49 #[.val (.ref a1), .val (.int 2), .val (.long y2), .second, .val (.int kn.toInt32), .val (.int (own_hm bf kn).toInt32)] [(.int kn.toInt32), (.ref aB)]))
    rcases BK.at RB hkn with hv | ⟨r, hv⟩
    · show own_F p e below s Z _ _ _ _ _ (T2.setTop (mkF m 49 #[.val (.ref a1), .val (.int 2), .val (.long y2), .second, .val (.int kn.toInt32), .val (.int (own_hm bf kn).toInt32)] [(.int kn.toInt32), (.ref aB)]))
      refine own_aald S2 RB.A rfl (own_64 hkn).2.1 (by rw [(own_64 hkn).1]; exact hv) d7_49 ?_
      show own_F p e below s Z _ _ _ _ _ (T2.setTop (mkF m 50 #[.val (.ref a1), .val (.int 2), .val (.long y2), .second, .val (.int kn.toInt32), .val (.int (own_hm bf kn).toInt32)] [.null]))
      refine own_F.of (fun _ => XS.ifnonnullNo S2.here S2.hx rfl (S2.dec d7_50) rfl) ?_
      show own_F p e below s Z _ _ _ _ _ (T2.setTop (mkF m 53 #[.val (.ref a1), .val (.int 2), .val (.long y2), .second, .val (.int kn.toInt32), .val (.int (own_hm bf kn).toInt32)] []))
      refine own_F.of (fun _ => XS.aloadN S2.here S2.hx rfl (S2.dec d7_53) rfl rfl) ?_
      show own_F p e below s Z _ _ _ _ _ (T2.setTop (mkF m 54 #[.val (.ref a1), .val (.int 2), .val (.long y2), .second, .val (.int kn.toInt32), .val (.int (own_hm bf kn).toInt32)] [(.ref a1)]))
      refine own_getF S2 (host := "") (Or.inl (own_w hw 13 rfl)) Via.refl F_buckets d7_54 (fun T3 S3 => ?_)
      show own_F p e below s Z _ _ _ _ _ (T3.setTop (mkF m 57 #[.val (.ref a1), .val (.int 2), .val (.long y2), .second, .val (.int kn.toInt32), .val (.int (own_hm bf kn).toInt32)] [(.ref aB)]))
      refine own_F.of (fun _ => XS.iload S3.here S3.hx rfl (S3.dec d7_57) rfl) ?_
      refine own_F.of (fun _ => XS.bipush S3.here S3.hx rfl (S3.dec d7_59)) ?_
      show own_F p e below s Z _ _ _ _ _ (T3.setTop (mkF m 61 #[.val (.ref a1), .val (.int 2), .val (.long y2), .second, .val (.int kn.toInt32), .val (.int (own_hm bf kn).toInt32)] [(.int 16), (.int kn.toInt32), (.ref aB)]))
      refine own_newPE S3 (own_w hw 15 rfl) d7_61 (by decide) (cap := 16) (by decide) (by decide) (by decide) (by decide) (ad := "[I") rfl (fun T4 h4 b4 g4 S4 E4 X4 A4 => ?_)
      show own_F p e below s Z _ _ _ _ _ (T4.setTop (mkF m 63 #[.val (.ref a1), .val (.int 2), .val (.long y2), .second, .val (.int kn.toInt32), .val (.int (own_hm bf kn).toInt32)] [(.ref b4), (.int kn.toInt32), (.ref aB)]))
      have fq5 := (RB.ext E4)
      have fq6 := (BK.ext E4)
      refine own_aastI S4 fq5 (own_64 hkn).2.1 (by rw [(own_64 hkn).1, fq6.1]; exact hkn) (own_w hw 60 rfl) X4 d7_63 (own_news_may gB) (fun T7 h7 S7 W7 A7 => ?_)
      have D7 := own_BK.new fq6 hkn A4 (by rw [List.length_replicate]; rfl) (by rw [g4]; exact S3.old.1) (Ne.symm (Nat.ne_of_lt (by rw [g4]; exact (AS).lt))) (Ne.symm (Nat.ne_of_lt (by rw [g4]; exact (AO).lt))) (Ne.symm (Nat.ne_of_lt (by rw [g4]; exact (AP).lt))) (fun j t e => Nat.ne_of_lt (by rw [g4]; exact (BK.2.1 j t e).1.lt)) fq5 W7
      rw [(own_64 hkn).1] at A7
      have hs7 : (bk.set kn (.ref b4))[kn]? = some (.ref b4) := List.getElem?_set_self (by rw [fq6.1]; exact hkn)
      have ab7 := AB.fresh (r := b4) (us := List.replicate (16 : Int32).toNatClampNeg (defaultValue (newarray.typeOf .int))) hv
      have m8aS := (D7.2.1 _ _ hs7).2.2.2.1
      have m8aO := (D7.2.1 _ _ hs7).2.2.2.2.1
      have m8aP := (D7.2.1 _ _ hs7).2.2.2.2.2
      have m8aB := own_A.neT (D7.2.1 _ _ hs7).1 A7.A (by decide)
      have fq9 := ((AK.ext E4).other W7 (Ne.symm naBaK))
      have m8aK := own_A.neT (D7.2.1 _ _ hs7).1 fq9 (by decide)
      have fq10 := ((AI.ext E4).other W7 (Ne.symm naBaI))
      have m8aI := own_A.neT (D7.2.1 _ _ hs7).1 fq10 (by decide)
      have fq11 := ((E_a1.ext E4).wr W7)
      have m8a1 := own_neA fq11 (own_w hw 3 rfl) (D7.2.1 _ _ hs7).1
      show own_F p e below s Z _ _ _ _ _ (T7.setTop (mkF m 64 #[.val (.ref a1), .val (.int 2), .val (.long y2), .second, .val (.int kn.toInt32), .val (.int (own_hm bf kn).toInt32)] []))
      refine own_F.of (fun _ => XS.goto S7.here S7.hx rfl (pc0 := 64) (pc' := 101) rfl (S7.dec d7_64) (by decide) (by decide)) ?_
      show own_F p e below s Z _ _ _ _ _ (T7.setTop (mkF m 101 #[.val (.ref a1), .val (.int 2), .val (.long y2), .second, .val (.int kn.toInt32), .val (.int (own_hm bf kn).toInt32)] []))
      refine own_F.of (fun _ => XS.aloadN S7.here S7.hx rfl (S7.dec d7_101) rfl rfl) ?_
      show own_F p e below s Z _ _ _ _ _ (T7.setTop (mkF m 102 #[.val (.ref a1), .val (.int 2), .val (.long y2), .second, .val (.int kn.toInt32), .val (.int (own_hm bf kn).toInt32)] [(.ref a1)]))
      have fq12 := ((F_buckets.ext E4).other W7 (Or.inl n1aB))
      refine own_getF S7 (host := "") (Or.inl (own_w hw 13 rfl)) Via.refl fq12 d7_102 (fun T13 S13 => ?_)
      show own_F p e below s Z _ _ _ _ _ (T13.setTop (mkF m 105 #[.val (.ref a1), .val (.int 2), .val (.long y2), .second, .val (.int kn.toInt32), .val (.int (own_hm bf kn).toInt32)] [(.ref aB)]))
      refine own_F.of (fun _ => XS.iload S13.here S13.hx rfl (S13.dec d7_105) rfl) ?_
      show own_F p e below s Z _ _ _ _ _ (T13.setTop (mkF m 107 #[.val (.ref a1), .val (.int 2), .val (.long y2), .second, .val (.int kn.toInt32), .val (.int (own_hm bf kn).toInt32)] [(.int kn.toInt32), (.ref aB)]))
      refine own_aald S13 A7.A rfl (own_64 hkn).2.1 (by rw [(own_64 hkn).1]; exact hs7) d7_107 ?_
      show own_F p e below s Z _ _ _ _ _ (T13.setTop (mkF m 108 #[.val (.ref a1), .val (.int 2), .val (.long y2), .second, .val (.int kn.toInt32), .val (.int (own_hm bf kn).toInt32)] [(.ref b4)]))
      refine own_F.of (fun _ => XS.iload S13.here S13.hx rfl (S13.dec d7_108) rfl) ?_
      refine own_F.of (fun _ => XS.iloadN S13.here S13.hx rfl (S13.dec d7_110) rfl) ?_
      show own_F p e below s Z _ _ _ _ _ (T13.setTop (mkF m 111 #[.val (.ref a1), .val (.int 2), .val (.long y2), .second, .val (.int kn.toInt32), .val (.int (own_hm bf kn).toInt32)] [(.int 2), (.int (own_hm bf kn).toInt32), (.ref b4)]))
      refine own_ist S13 (D7.2.1 _ _ hs7).1 sm.2.1 (by rw [sm.1, (D7.2.1 _ _ hs7).2.1]; omega) d7_111 (own_news_may (D7.2.1 _ _ hs7).2.2.1) (fun T14 h14 S14 W14 A14 => ?_)
      have D14 := own_BK.put D7 hs7 W14
      rw [sm.1] at D14
      have ac14 := own_AB.file ab7 (n := 2) (by decide) hb hkn hs7 (D7.2.1 _ _ hs7).2.1
      show own_F p e below s Z _ _ _ _ _ (T14.setTop (mkF m 112 #[.val (.ref a1), .val (.int 2), .val (.long y2), .second, .val (.int kn.toInt32), .val (.int (own_hm bf kn).toInt32)] []))
      refine own_F.of (fun _ => XS.aloadN S14.here S14.hx rfl (S14.dec d7_112) rfl rfl) ?_
      show own_F p e below s Z _ _ _ _ _ (T14.setTop (mkF m 113 #[.val (.ref a1), .val (.int 2), .val (.long y2), .second, .val (.int kn.toInt32), .val (.int (own_hm bf kn).toInt32)] [(.ref a1)]))
      have fq15 := (((F_sizes.ext E4).other W7 (Or.inl n1aB)).other W14 (Or.inl m8a1))
      refine own_getF S14 (host := "") (Or.inl (own_w hw 16 rfl)) Via.refl fq15 d7_113 (fun T16 S16 => ?_)
      show own_F p e below s Z _ _ _ _ _ (T16.setTop (mkF m 116 #[.val (.ref a1), .val (.int 2), .val (.long y2), .second, .val (.int kn.toInt32), .val (.int (own_hm bf kn).toInt32)] [(.ref aS)]))
      refine own_F.of (fun _ => XS.iload S16.here S16.hx rfl (S16.dec d7_116) rfl) ?_
      refine own_F.of (fun _ => XS.iload S16.here S16.hx rfl (S16.dec d7_118) rfl) ?_
      refine own_F.of (fun _ => XS.iconst S16.here S16.hx rfl (S16.dec d7_120)) ?_
      show own_F p e below s Z _ _ _ _ _ (T16.setTop (mkF m 121 #[.val (.ref a1), .val (.int 2), .val (.long y2), .second, .val (.int kn.toInt32), .val (.int (own_hm bf kn).toInt32)] [(.int 1), (.int (own_hm bf kn).toInt32), (.int kn.toInt32), (.ref aS)]))
      refine own_F.of (fun _ => XS.iadd S16.here S16.hx rfl (S16.dec d7_121) rfl) ?_
      show own_F p e below s Z _ _ _ _ _ (T16.setTop (mkF m 122 #[.val (.ref a1), .val (.int 2), .val (.long y2), .second, .val (.int kn.toInt32), .val (.int (own_hm bf kn).toInt32)] [(.int ((own_hm bf kn).toInt32 + (1 : Int32))), (.int kn.toInt32), (.ref aS)]))
      have fq17 := (((AS.ext E4).other W7 (Ne.symm naBaS)).other W14 (Ne.symm m8aS))
      refine own_ist S16 fq17 (own_64 hkn).2.1 (by rw [(own_64 hkn).1, own_szlen]; exact hkn) d7_122 (own_news_may gS) (fun T18 h18 S18 W18 A18 => ?_)
      have B18 := own_szfile (n := 2) (by decide) hb hkn A18
      show own_F p e below s Z _ _ _ _ _ (T18.setTop (mkF m 123 #[.val (.ref a1), .val (.int 2), .val (.long y2), .second, .val (.int kn.toInt32), .val (.int (own_hm bf kn).toInt32)] []))
      refine own_F.of (fun _ => XS.aloadN S18.here S18.hx rfl (S18.dec d7_123) rfl rfl) ?_
      show own_F p e below s Z _ _ _ _ _ (T18.setTop (mkF m 124 #[.val (.ref a1), .val (.int 2), .val (.long y2), .second, .val (.int kn.toInt32), .val (.int (own_hm bf kn).toInt32)] [(.ref a1)]))
      have fq19 := ((((F_bucketOf.ext E4).other W7 (Or.inl n1aB)).other W14 (Or.inl m8a1)).other W18 (Or.inl n1aS))
      refine own_getF S18 (host := "") (Or.inl (own_w hw 20 rfl)) Via.refl fq19 d7_124 (fun T20 S20 => ?_)
      show own_F p e below s Z _ _ _ _ _ (T20.setTop (mkF m 127 #[.val (.ref a1), .val (.int 2), .val (.long y2), .second, .val (.int kn.toInt32), .val (.int (own_hm bf kn).toInt32)] [(.ref aO)]))
      refine own_F.of (fun _ => XS.iloadN S20.here S20.hx rfl (S20.dec d7_127) rfl) ?_
      refine own_F.of (fun _ => XS.iload S20.here S20.hx rfl (S20.dec d7_128) rfl) ?_
      show own_F p e below s Z _ _ _ _ _ (T20.setTop (mkF m 130 #[.val (.ref a1), .val (.int 2), .val (.long y2), .second, .val (.int kn.toInt32), .val (.int (own_hm bf kn).toInt32)] [(.int kn.toInt32), (.int 2), (.ref aO)]))
      have fq21 := ((((AO.ext E4).other W7 (Ne.symm naBaO)).other W14 (Ne.symm m8aO)).other W18 (Ne.symm nSO))
      refine own_ist S20 fq21 (by decide) (Nat.le_of_ble_eq_true rfl) d7_130 (own_news_may gO) (fun T22 h22 S22 W22 A22 => ?_)
      have V23 : own_A Z h22 aO .int [(.int o0), (.int o1), (.int kn.toInt32)] := A22
      show own_F p e below s Z _ _ _ _ _ (T22.setTop (mkF m 131 #[.val (.ref a1), .val (.int 2), .val (.long y2), .second, .val (.int kn.toInt32), .val (.int (own_hm bf kn).toInt32)] []))
      refine own_F.of (fun _ => XS.aloadN S22.here S22.hx rfl (S22.dec d7_131) rfl rfl) ?_
      show own_F p e below s Z _ _ _ _ _ (T22.setTop (mkF m 132 #[.val (.ref a1), .val (.int 2), .val (.long y2), .second, .val (.int kn.toInt32), .val (.int (own_hm bf kn).toInt32)] [(.ref a1)]))
      have fq24 := (((((F_positions.ext E4).other W7 (Or.inl n1aB)).other W14 (Or.inl m8a1)).other W18 (Or.inl n1aS)).other W22 (Or.inl n1aO))
      refine own_getF S22 (host := "") (Or.inl (own_w hw 26 rfl)) Via.refl fq24 d7_132 (fun T25 S25 => ?_)
      show own_F p e below s Z _ _ _ _ _ (T25.setTop (mkF m 135 #[.val (.ref a1), .val (.int 2), .val (.long y2), .second, .val (.int kn.toInt32), .val (.int (own_hm bf kn).toInt32)] [(.ref aP)]))
      refine own_F.of (fun _ => XS.iloadN S25.here S25.hx rfl (S25.dec d7_135) rfl) ?_
      refine own_F.of (fun _ => XS.iload S25.here S25.hx rfl (S25.dec d7_136) rfl) ?_
      show own_F p e below s Z _ _ _ _ _ (T25.setTop (mkF m 138 #[.val (.ref a1), .val (.int 2), .val (.long y2), .second, .val (.int kn.toInt32), .val (.int (own_hm bf kn).toInt32)] [(.int (own_hm bf kn).toInt32), (.int 2), (.ref aP)]))
      have fq26 := (((((AP.ext E4).other W7 (Ne.symm naBaP)).other W14 (Ne.symm m8aP)).other W18 (Ne.symm nSP)).other W22 (Ne.symm nOP))
      refine own_ist S25 fq26 (by decide) (Nat.le_of_ble_eq_true rfl) d7_138 (own_news_may gP) (fun T27 h27 S27 W27 A27 => ?_)
      have V28 : own_A Z h27 aP .int [(.int z0), (.int z1), (.int (own_hm bf kn).toInt32)] := A27
      show own_F p e below s Z _ _ _ _ _ (T27.setTop (mkF m 139 #[.val (.ref a1), .val (.int 2), .val (.long y2), .second, .val (.int kn.toInt32), .val (.int (own_hm bf kn).toInt32)] []))
      have fq29 := ((((fq11.wr W14).wr W18).wr W22).wr W27)
      have fq30 := ((((fq12.other W14 (Or.inl m8a1)).other W18 (Or.inl n1aS)).other W22 (Or.inl n1aO)).other W27 (Or.inl n1aP))
      have fq31 := (((fq15.other W18 (Or.inl n1aS)).other W22 (Or.inl n1aO)).other W27 (Or.inl n1aP))
      have fq32 := ((((((F_keys.ext E4).other W7 (Or.inl n1aB)).other W14 (Or.inl m8a1)).other W18 (Or.inl n1aS)).other W22 (Or.inl n1aO)).other W27 (Or.inl n1aP))
      have fq33 := ((fq19.other W22 (Or.inl n1aO)).other W27 (Or.inl n1aP))
      have fq34 := (fq24.other W27 (Or.inl n1aP))
      have fq35 := ((((((F_last.ext E4).other W7 (Or.inl n1aB)).other W14 (Or.inl m8a1)).other W18 (Or.inl n1aS)).other W22 (Or.inl n1aO)).other W27 (Or.inl n1aP))
      have fq36 := ((((((F_count.ext E4).other W7 (Or.inl n1aB)).other W14 (Or.inl m8a1)).other W18 (Or.inl n1aS)).other W22 (Or.inl n1aO)).other W27 (Or.inl n1aP))
      have fq37 := ((((A7.other W14 (Ne.symm m8aB)).other W18 naBaS).other W22 naBaO).other W27 naBaP)
      have fq38 := ((B18.other W22 nSO).other W27 nSP)
      have fq39 := ((((fq9.other W14 (Ne.symm m8aK)).other W18 (Ne.symm naSaK)).other W22 naKaO).other W27 naKaP)
      have fq40 := (V23.other W27 nOP)
      have fq41 := ((((fq10.other W14 (Ne.symm m8aI)).other W18 (Ne.symm naSaI)).other W22 (Ne.symm naOaI)).other W27 (Ne.symm naPaI))
      have fq42 := (((D14.oS W18).oO W22).oP W27)
      refine own_retV S27 d7_139 (by decide) (by decide) ?_
      exact ⟨rfl, kn, _, _, hkn, (fun q => own_kz hkn (hJ2 q)), ⟨⟨ga, gB, gS, gO, gP, gI⟩, ⟨nSO, nSP, nOP⟩, fq29, fq30, fq31, fq32, fq33, fq34, fq35, fq36, fq37, fq38, fq39, fq40, V28, fq41, fq42⟩, ac14, own_XT.new hv⟩
    · show own_F p e below s Z _ _ _ _ _ (T2.setTop (mkF m 49 #[.val (.ref a1), .val (.int 2), .val (.long y2), .second, .val (.int kn.toInt32), .val (.int (own_hm bf kn).toInt32)] [(.int kn.toInt32), (.ref aB)]))
      have m43aS := (BK.2.1 _ _ hv).2.2.2.1
      have m43aO := (BK.2.1 _ _ hv).2.2.2.2.1
      have m43aP := (BK.2.1 _ _ hv).2.2.2.2.2
      have m43aB := own_A.neT (BK.2.1 _ _ hv).1 RB.A (by decide)
      have m43aK := own_A.neT (BK.2.1 _ _ hv).1 AK (by decide)
      have m43aI := own_A.neT (BK.2.1 _ _ hv).1 AI (by decide)
      have m43a1 := own_neA E_a1 (own_w hw 3 rfl) (BK.2.1 _ _ hv).1
      refine own_aald S2 RB.A rfl (own_64 hkn).2.1 (by rw [(own_64 hkn).1]; exact hv) d7_49 ?_
      show own_F p e below s Z _ _ _ _ _ (T2.setTop (mkF m 50 #[.val (.ref a1), .val (.int 2), .val (.long y2), .second, .val (.int kn.toInt32), .val (.int (own_hm bf kn).toInt32)] [(.ref r)]))
      refine own_F.of (fun _ => XS.ifnonnullYes S2.here S2.hx rfl (pc0 := 50) (pc' := 67) rfl (S2.dec d7_50) rfl (by decide) (by decide)) ?_
      show own_F p e below s Z _ _ _ _ _ (T2.setTop (mkF m 67 #[.val (.ref a1), .val (.int 2), .val (.long y2), .second, .val (.int kn.toInt32), .val (.int (own_hm bf kn).toInt32)] []))
      refine own_F.of (fun _ => XS.iload S2.here S2.hx rfl (S2.dec d7_67) rfl) ?_
      refine own_F.of (fun _ => XS.aloadN S2.here S2.hx rfl (S2.dec d7_69) rfl rfl) ?_
      show own_F p e below s Z _ _ _ _ _ (T2.setTop (mkF m 70 #[.val (.ref a1), .val (.int 2), .val (.long y2), .second, .val (.int kn.toInt32), .val (.int (own_hm bf kn).toInt32)] [(.ref a1), (.int (own_hm bf kn).toInt32)]))
      refine own_getF S2 (host := "") (Or.inl (own_w hw 13 rfl)) Via.refl F_buckets d7_70 (fun T44 S44 => ?_)
      show own_F p e below s Z _ _ _ _ _ (T44.setTop (mkF m 73 #[.val (.ref a1), .val (.int 2), .val (.long y2), .second, .val (.int kn.toInt32), .val (.int (own_hm bf kn).toInt32)] [(.ref aB), (.int (own_hm bf kn).toInt32)]))
      refine own_F.of (fun _ => XS.iload S44.here S44.hx rfl (S44.dec d7_73) rfl) ?_
      show own_F p e below s Z _ _ _ _ _ (T44.setTop (mkF m 75 #[.val (.ref a1), .val (.int 2), .val (.long y2), .second, .val (.int kn.toInt32), .val (.int (own_hm bf kn).toInt32)] [(.int kn.toInt32), (.ref aB), (.int (own_hm bf kn).toInt32)]))
      refine own_aald S44 RB.A rfl (own_64 hkn).2.1 (by rw [(own_64 hkn).1]; exact hv) d7_75 ?_
      show own_F p e below s Z _ _ _ _ _ (T44.setTop (mkF m 76 #[.val (.ref a1), .val (.int 2), .val (.long y2), .second, .val (.int kn.toInt32), .val (.int (own_hm bf kn).toInt32)] [(.ref r), (.int (own_hm bf kn).toInt32)]))
      refine own_len S44 (BK.2.1 _ _ hv).1 d7_76 ?_
      show own_F p e below s Z _ _ _ _ _ (T44.setTop (mkF m 77 #[.val (.ref a1), .val (.int 2), .val (.long y2), .second, .val (.int kn.toInt32), .val (.int (own_hm bf kn).toInt32)] [(.int (Cf kn).length.toInt32), (.int (own_hm bf kn).toInt32)]))
      refine own_icmp S44 101 d7_77 (by decide) (by decide) (fun (hc77_45 : ¬ ((own_hm bf kn).toInt32 = (Cf kn).length.toInt32)) => ?_) (fun (hc77_45 : (own_hm bf kn).toInt32 = (Cf kn).length.toInt32) => False.elim (own_ne16 h2 (BK.2.1 _ _ hv).2.1 hc77_45))
      show own_F p e below s Z _ _ _ _ _ (T44.setTop (mkF m 101 #[.val (.ref a1), .val (.int 2), .val (.long y2), .second, .val (.int kn.toInt32), .val (.int (own_hm bf kn).toInt32)] []))
      refine own_F.of (fun _ => XS.aloadN S44.here S44.hx rfl (S44.dec d7_101) rfl rfl) ?_
      show own_F p e below s Z _ _ _ _ _ (T44.setTop (mkF m 102 #[.val (.ref a1), .val (.int 2), .val (.long y2), .second, .val (.int kn.toInt32), .val (.int (own_hm bf kn).toInt32)] [(.ref a1)]))
      refine own_getF S44 (host := "") (Or.inl (own_w hw 13 rfl)) Via.refl F_buckets d7_102 (fun T46 S46 => ?_)
      show own_F p e below s Z _ _ _ _ _ (T46.setTop (mkF m 105 #[.val (.ref a1), .val (.int 2), .val (.long y2), .second, .val (.int kn.toInt32), .val (.int (own_hm bf kn).toInt32)] [(.ref aB)]))
      refine own_F.of (fun _ => XS.iload S46.here S46.hx rfl (S46.dec d7_105) rfl) ?_
      show own_F p e below s Z _ _ _ _ _ (T46.setTop (mkF m 107 #[.val (.ref a1), .val (.int 2), .val (.long y2), .second, .val (.int kn.toInt32), .val (.int (own_hm bf kn).toInt32)] [(.int kn.toInt32), (.ref aB)]))
      refine own_aald S46 RB.A rfl (own_64 hkn).2.1 (by rw [(own_64 hkn).1]; exact hv) d7_107 ?_
      show own_F p e below s Z _ _ _ _ _ (T46.setTop (mkF m 108 #[.val (.ref a1), .val (.int 2), .val (.long y2), .second, .val (.int kn.toInt32), .val (.int (own_hm bf kn).toInt32)] [(.ref r)]))
      refine own_F.of (fun _ => XS.iload S46.here S46.hx rfl (S46.dec d7_108) rfl) ?_
      refine own_F.of (fun _ => XS.iloadN S46.here S46.hx rfl (S46.dec d7_110) rfl) ?_
      show own_F p e below s Z _ _ _ _ _ (T46.setTop (mkF m 111 #[.val (.ref a1), .val (.int 2), .val (.long y2), .second, .val (.int kn.toInt32), .val (.int (own_hm bf kn).toInt32)] [(.int 2), (.int (own_hm bf kn).toInt32), (.ref r)]))
      refine own_ist S46 (BK.2.1 _ _ hv).1 sm.2.1 (by rw [sm.1, (BK.2.1 _ _ hv).2.1]; omega) d7_111 (own_news_may (BK.2.1 _ _ hv).2.2.1) (fun T47 h47 S47 W47 A47 => ?_)
      have D47 := own_BK.put BK hv W47
      rw [sm.1] at D47
      have ac47 := own_AB.file AB (n := 2) (by decide) hb hkn hv (BK.2.1 _ _ hv).2.1
      show own_F p e below s Z _ _ _ _ _ (T47.setTop (mkF m 112 #[.val (.ref a1), .val (.int 2), .val (.long y2), .second, .val (.int kn.toInt32), .val (.int (own_hm bf kn).toInt32)] []))
      refine own_F.of (fun _ => XS.aloadN S47.here S47.hx rfl (S47.dec d7_112) rfl rfl) ?_
      show own_F p e below s Z _ _ _ _ _ (T47.setTop (mkF m 113 #[.val (.ref a1), .val (.int 2), .val (.long y2), .second, .val (.int kn.toInt32), .val (.int (own_hm bf kn).toInt32)] [(.ref a1)]))
      have fq48 := (F_sizes.other W47 (Or.inl m43a1))
      refine own_getF S47 (host := "") (Or.inl (own_w hw 16 rfl)) Via.refl fq48 d7_113 (fun T49 S49 => ?_)
      show own_F p e below s Z _ _ _ _ _ (T49.setTop (mkF m 116 #[.val (.ref a1), .val (.int 2), .val (.long y2), .second, .val (.int kn.toInt32), .val (.int (own_hm bf kn).toInt32)] [(.ref aS)]))
      refine own_F.of (fun _ => XS.iload S49.here S49.hx rfl (S49.dec d7_116) rfl) ?_
      refine own_F.of (fun _ => XS.iload S49.here S49.hx rfl (S49.dec d7_118) rfl) ?_
      refine own_F.of (fun _ => XS.iconst S49.here S49.hx rfl (S49.dec d7_120)) ?_
      show own_F p e below s Z _ _ _ _ _ (T49.setTop (mkF m 121 #[.val (.ref a1), .val (.int 2), .val (.long y2), .second, .val (.int kn.toInt32), .val (.int (own_hm bf kn).toInt32)] [(.int 1), (.int (own_hm bf kn).toInt32), (.int kn.toInt32), (.ref aS)]))
      refine own_F.of (fun _ => XS.iadd S49.here S49.hx rfl (S49.dec d7_121) rfl) ?_
      show own_F p e below s Z _ _ _ _ _ (T49.setTop (mkF m 122 #[.val (.ref a1), .val (.int 2), .val (.long y2), .second, .val (.int kn.toInt32), .val (.int (own_hm bf kn).toInt32)] [(.int ((own_hm bf kn).toInt32 + (1 : Int32))), (.int kn.toInt32), (.ref aS)]))
      have fq50 := (AS.other W47 (Ne.symm m43aS))
      refine own_ist S49 fq50 (own_64 hkn).2.1 (by rw [(own_64 hkn).1, own_szlen]; exact hkn) d7_122 (own_news_may gS) (fun T51 h51 S51 W51 A51 => ?_)
      have B51 := own_szfile (n := 2) (by decide) hb hkn A51
      show own_F p e below s Z _ _ _ _ _ (T51.setTop (mkF m 123 #[.val (.ref a1), .val (.int 2), .val (.long y2), .second, .val (.int kn.toInt32), .val (.int (own_hm bf kn).toInt32)] []))
      refine own_F.of (fun _ => XS.aloadN S51.here S51.hx rfl (S51.dec d7_123) rfl rfl) ?_
      show own_F p e below s Z _ _ _ _ _ (T51.setTop (mkF m 124 #[.val (.ref a1), .val (.int 2), .val (.long y2), .second, .val (.int kn.toInt32), .val (.int (own_hm bf kn).toInt32)] [(.ref a1)]))
      have fq52 := ((F_bucketOf.other W47 (Or.inl m43a1)).other W51 (Or.inl n1aS))
      refine own_getF S51 (host := "") (Or.inl (own_w hw 20 rfl)) Via.refl fq52 d7_124 (fun T53 S53 => ?_)
      show own_F p e below s Z _ _ _ _ _ (T53.setTop (mkF m 127 #[.val (.ref a1), .val (.int 2), .val (.long y2), .second, .val (.int kn.toInt32), .val (.int (own_hm bf kn).toInt32)] [(.ref aO)]))
      refine own_F.of (fun _ => XS.iloadN S53.here S53.hx rfl (S53.dec d7_127) rfl) ?_
      refine own_F.of (fun _ => XS.iload S53.here S53.hx rfl (S53.dec d7_128) rfl) ?_
      show own_F p e below s Z _ _ _ _ _ (T53.setTop (mkF m 130 #[.val (.ref a1), .val (.int 2), .val (.long y2), .second, .val (.int kn.toInt32), .val (.int (own_hm bf kn).toInt32)] [(.int kn.toInt32), (.int 2), (.ref aO)]))
      have fq54 := ((AO.other W47 (Ne.symm m43aO)).other W51 (Ne.symm nSO))
      refine own_ist S53 fq54 (by decide) (Nat.le_of_ble_eq_true rfl) d7_130 (own_news_may gO) (fun T55 h55 S55 W55 A55 => ?_)
      have V56 : own_A Z h55 aO .int [(.int o0), (.int o1), (.int kn.toInt32)] := A55
      show own_F p e below s Z _ _ _ _ _ (T55.setTop (mkF m 131 #[.val (.ref a1), .val (.int 2), .val (.long y2), .second, .val (.int kn.toInt32), .val (.int (own_hm bf kn).toInt32)] []))
      refine own_F.of (fun _ => XS.aloadN S55.here S55.hx rfl (S55.dec d7_131) rfl rfl) ?_
      show own_F p e below s Z _ _ _ _ _ (T55.setTop (mkF m 132 #[.val (.ref a1), .val (.int 2), .val (.long y2), .second, .val (.int kn.toInt32), .val (.int (own_hm bf kn).toInt32)] [(.ref a1)]))
      have fq57 := (((F_positions.other W47 (Or.inl m43a1)).other W51 (Or.inl n1aS)).other W55 (Or.inl n1aO))
      refine own_getF S55 (host := "") (Or.inl (own_w hw 26 rfl)) Via.refl fq57 d7_132 (fun T58 S58 => ?_)
      show own_F p e below s Z _ _ _ _ _ (T58.setTop (mkF m 135 #[.val (.ref a1), .val (.int 2), .val (.long y2), .second, .val (.int kn.toInt32), .val (.int (own_hm bf kn).toInt32)] [(.ref aP)]))
      refine own_F.of (fun _ => XS.iloadN S58.here S58.hx rfl (S58.dec d7_135) rfl) ?_
      refine own_F.of (fun _ => XS.iload S58.here S58.hx rfl (S58.dec d7_136) rfl) ?_
      show own_F p e below s Z _ _ _ _ _ (T58.setTop (mkF m 138 #[.val (.ref a1), .val (.int 2), .val (.long y2), .second, .val (.int kn.toInt32), .val (.int (own_hm bf kn).toInt32)] [(.int (own_hm bf kn).toInt32), (.int 2), (.ref aP)]))
      have fq59 := (((AP.other W47 (Ne.symm m43aP)).other W51 (Ne.symm nSP)).other W55 (Ne.symm nOP))
      refine own_ist S58 fq59 (by decide) (Nat.le_of_ble_eq_true rfl) d7_138 (own_news_may gP) (fun T60 h60 S60 W60 A60 => ?_)
      have V61 : own_A Z h60 aP .int [(.int z0), (.int z1), (.int (own_hm bf kn).toInt32)] := A60
      show own_F p e below s Z _ _ _ _ _ (T60.setTop (mkF m 139 #[.val (.ref a1), .val (.int 2), .val (.long y2), .second, .val (.int kn.toInt32), .val (.int (own_hm bf kn).toInt32)] []))
      have fq62 := ((((E_a1.wr W47).wr W51).wr W55).wr W60)
      have fq63 := ((((F_buckets.other W47 (Or.inl m43a1)).other W51 (Or.inl n1aS)).other W55 (Or.inl n1aO)).other W60 (Or.inl n1aP))
      have fq64 := (((fq48.other W51 (Or.inl n1aS)).other W55 (Or.inl n1aO)).other W60 (Or.inl n1aP))
      have fq65 := ((((F_keys.other W47 (Or.inl m43a1)).other W51 (Or.inl n1aS)).other W55 (Or.inl n1aO)).other W60 (Or.inl n1aP))
      have fq66 := ((fq52.other W55 (Or.inl n1aO)).other W60 (Or.inl n1aP))
      have fq67 := (fq57.other W60 (Or.inl n1aP))
      have fq68 := ((((F_last.other W47 (Or.inl m43a1)).other W51 (Or.inl n1aS)).other W55 (Or.inl n1aO)).other W60 (Or.inl n1aP))
      have fq69 := ((((F_count.other W47 (Or.inl m43a1)).other W51 (Or.inl n1aS)).other W55 (Or.inl n1aO)).other W60 (Or.inl n1aP))
      have fq70 := ((((RB.other W47 (Ne.symm m43aB)).other W51 naBaS).other W55 naBaO).other W60 naBaP)
      have fq71 := ((B51.other W55 nSO).other W60 nSP)
      have fq72 := ((((AK.other W47 (Ne.symm m43aK)).other W51 (Ne.symm naSaK)).other W55 naKaO).other W60 naKaP)
      have fq73 := (V56.other W60 nOP)
      have fq74 := ((((AI.other W47 (Ne.symm m43aI)).other W51 (Ne.symm naSaI)).other W55 (Ne.symm naOaI)).other W60 (Ne.symm naPaI))
      have fq75 := (((D47.oS W51).oO W55).oP W60)
      refine own_retV S60 d7_139 (by decide) (by decide) ?_
      exact ⟨rfl, kn, _, _, hkn, (fun q => own_kz hkn (hJ2 q)), ⟨⟨ga, gB, gS, gO, gP, gI⟩, ⟨nSO, nSP, nOP⟩, fq62, fq63, fq64, fq65, fq66, fq67, fq68, fq69, fq70, fq71, fq72, fq73, V61, fq74, fq75⟩, ac47, own_XT.old⟩
  show own_F p e below s Z _ _ _ _ _ (T0.setTop (mkF m 0 #[.val (.ref a1), .val (.int 2), .unset, .unset, .unset, .unset] []))
  refine own_F.of (fun _ => XS.aloadN S0.here S0.hx rfl (S0.dec d7_0) rfl rfl) ?_
  show own_F p e below s Z _ _ _ _ _ (T0.setTop (mkF m 1 #[.val (.ref a1), .val (.int 2), .unset, .unset, .unset, .unset] [(.ref a1)]))
  refine own_getF S0 (host := "") (Or.inl (own_w hw 18 rfl)) Via.refl F_keys d7_1 (fun T76 S76 => ?_)
  show own_F p e below s Z _ _ _ _ _ (T76.setTop (mkF m 4 #[.val (.ref a1), .val (.int 2), .unset, .unset, .unset, .unset] [(.ref aK)]))
  refine own_F.of (fun _ => XS.iloadN S76.here S76.hx rfl (S76.dec d7_4) rfl) ?_
  show own_F p e below s Z _ _ _ _ _ (T76.setTop (mkF m 5 #[.val (.ref a1), .val (.int 2), .unset, .unset, .unset, .unset] [(.int 2), (.ref aK)]))
  refine own_lald S76 AK (by decide) rfl d7_5 ?_
  show own_F p e below s Z _ _ _ _ _ (T76.setTop (mkF m 6 #[.val (.ref a1), .val (.int 2), .unset, .unset, .unset, .unset] [(.long y2)]))
  refine own_F.of (fun _ => XS.lstoreN S76.here S76.hx rfl (S76.dec d7_6) rfl (l' := #[.val (.ref a1), .val (.int 2), .val (.long y2), .second, .unset, .unset]) rfl) ?_
  refine own_F.of (fun _ => XS.lloadN S76.here S76.hx rfl (S76.dec d7_7) rfl) ?_
  refine own_F.of (fun _ => XS.aloadN S76.here S76.hx rfl (S76.dec d7_8) rfl rfl) ?_
  show own_F p e below s Z _ _ _ _ _ (T76.setTop (mkF m 9 #[.val (.ref a1), .val (.int 2), .val (.long y2), .second, .unset, .unset] [(.ref a1), (.long y2)]))
  refine own_getF S76 (host := "") (Or.inl (own_w hw 49 rfl)) Via.refl F_last d7_9 (fun T77 S77 => ?_)
  show own_F p e below s Z _ _ _ _ _ (T77.setTop (mkF m 12 #[.val (.ref a1), .val (.int 2), .val (.long y2), .second, .unset, .unset] [(.long la), (.long y2)]))
  refine own_F.of (fun _ => XS.lcmp S77.here S77.hx rfl (S77.dec d7_12) rfl) ?_
  show own_F p e below s Z _ _ _ _ _ (T77.setTop (mkF m 13 #[.val (.ref a1), .val (.int 2), .val (.long y2), .second, .unset, .unset] [(.int (lcmpW y2 la))]))
  refine own_if S77 20 d7_13 (by decide) (by decide) (fun (hc13_78 : (0 : Int32) < (lcmpW y2 la)) => ?_) (fun (hc13_78 : ¬ ((0 : Int32) < (lcmpW y2 la))) => ?_)
  · show own_F p e below s Z _ _ _ _ _ (T77.setTop (mkF m 20 #[.val (.ref a1), .val (.int 2), .val (.long y2), .second, .unset, .unset] []))
    refine own_F.of (fun _ => XS.bipush S77.here S77.hx rfl (S77.dec d7_20)) ?_
    refine own_F.of (fun _ => XS.lloadN S77.here S77.hx rfl (S77.dec d7_22) rfl) ?_
    refine own_F.of (fun _ => XS.aloadN S77.here S77.hx rfl (S77.dec d7_23) rfl rfl) ?_
    show own_F p e below s Z _ _ _ _ _ (T77.setTop (mkF m 24 #[.val (.ref a1), .val (.int 2), .val (.long y2), .second, .unset, .unset] [(.ref a1), (.long y2), (.int 64)]))
    refine own_getF S77 (host := "") (Or.inl (own_w hw 49 rfl)) Via.refl F_last d7_24 (fun T79 S79 => ?_)
    show own_F p e below s Z _ _ _ _ _ (T79.setTop (mkF m 27 #[.val (.ref a1), .val (.int 2), .val (.long y2), .second, .unset, .unset] [(.long la), (.long y2), (.int 64)]))
    refine own_F.of (fun _ => XS.lxor S79.here S79.hx rfl (S79.dec d7_27) rfl) ?_
    show own_F p e below s Z _ _ _ _ _ (T79.setTop (mkF m 28 #[.val (.ref a1), .val (.int 2), .val (.long y2), .second, .unset, .unset] [(.long (y2 ^^^ la)), (.int 64)]))
    refine own_callS S79 (y := (⟨"java/lang/Long", "numberOfLeadingZeros", "(J)I"⟩ : MethodName)) (own_w hw 51 rfl) (own_w hw 52 rfl) (own_w hw 53 rfl) (own_w hw 54 rfl) (by decide) (argsL := [(.long (y2 ^^^ la))]) (rest := [(.int (64 : Int32))]) (own_nlzL l Z a0 hw (y2 ^^^ la) h0 S79.old (own_xor0 hy hla)) all0 (by decide +kernel : parseMethodDescriptor "(J)I" = some ⟨[.long], some .int⟩) rfl rfl rfl d7_28 (by decide) (Nat.le_of_ble_eq_true rfl) (by decide) (by decide) (fun T80 h80 v80 S80 K80 q80 => ?_)
    obtain ⟨r80, rfl, g80, rfl⟩ := q80
    show own_F p e below s Z _ _ _ _ _ (T80.setTop (mkF m 31 #[.val (.ref a1), .val (.int 2), .val (.long y2), .second, .unset, .unset] [(.int r80), (.int 64)]))
    refine own_F.of (fun _ => XS.isub S80.here S80.hx rfl (S80.dec d7_31) rfl) ?_
    show own_F p e below s Z _ _ _ _ _ (T80.setTop (mkF m 32 #[.val (.ref a1), .val (.int 2), .val (.long y2), .second, .unset, .unset] [(.int ((64 : Int32) - r80))]))
    refine own_F.of (fun _ => XS.istore S80.here S80.hx rfl (S80.dec d7_32) rfl (l' := #[.val (.ref a1), .val (.int 2), .val (.long y2), .second, .val (.int ((64 : Int32) - r80)), .unset]) rfl) ?_
    exact J T80 S80 ((64 : Int32) - r80) (own_64r g80).1 (own_64r g80).2 (fun q => absurd ((own_lwgt _ _).mp hc13_78) q)
  · show own_F p e below s Z _ _ _ _ _ (T77.setTop (mkF m 16 #[.val (.ref a1), .val (.int 2), .val (.long y2), .second, .unset, .unset] []))
    refine own_F.of (fun _ => XS.iconst S77.here S77.hx rfl (S77.dec d7_16)) ?_
    show own_F p e below s Z _ _ _ _ _ (T77.setTop (mkF m 17 #[.val (.ref a1), .val (.int 2), .val (.long y2), .second, .unset, .unset] [(.int 0)]))
    refine own_F.of (fun _ => XS.goto S77.here S77.hx rfl (pc0 := 17) (pc' := 32) rfl (S77.dec d7_17) (by decide) (by decide)) ?_
    show own_F p e below s Z _ _ _ _ _ (T77.setTop (mkF m 32 #[.val (.ref a1), .val (.int 2), .val (.long y2), .second, .unset, .unset] [(.int 0)]))
    refine own_F.of (fun _ => XS.istore S77.here S77.hx rfl (S77.dec d7_32) rfl (l' := #[.val (.ref a1), .val (.int 2), .val (.long y2), .second, .val (.int 0), .unset]) rfl) ?_
    exact J T77 S77 (0 : Int32) (by decide) (by decide) (fun _ => rfl)
set_option maxRecDepth 65536 in
set_option maxHeartbeats 40000000 in
theorem own_fileG (l : Launch) (Z : State) (a0 : Array Value) (hw : ∀ d ∈ tables_1, d.before a0 Z = true) (n : Nat) (hn : n < 3) (a1 aB aS aK aO aP aI : Addr) (bk : List Value) (Cf : Nat → List Value) (bf : Nat → Option Nat) (pf : Nat → Nat) (la : Int64) (ct : Int32) (of zf : Nat → Int32) (yf : Nat → Int64) (i0 i1 i2 : Int32) (h0 : Heap) (hO : Ext Z.heap h0) (H : own_RH Z h0 a1 aB aS aK aO aP aI bk Cf bf la ct (of 0) (of 1) (of 2) (zf 0) (zf 1) (zf 2) (yf 0) (yf 1) (yf 2) i0 i1 i2) (AB : own_AB bf pf bk Cf) (hb : bf n = none) (hla : ¬ la < 0) (hy : ¬ yf n < 0) :
    own_C l Z (⟨"com/example/slackweave/slackweave/paths/RadixHeap", "file", "(I)V"⟩ : MethodName) prog_77_method_6_code 6 none [] ({ frames := 2, cells := 1, slots := 16, locals := 29 } : Room) (own_news Z h0) #[(.ref a1), (.int n.toInt32)] h0 (fun v h => v = none ∧ ∃ (k : Nat) (bk' : List Value) (C' : Nat → List Value), k < 64 ∧ (¬ la < yf n → k = 0) ∧ own_RH Z h a1 aB aS aK aO aP aI bk' C' (own_up bf n (some k)) la ct ((own_up of n k.toInt32) 0) ((own_up of n k.toInt32) 1) ((own_up of n k.toInt32) 2) ((own_up zf n (own_hm bf k).toInt32) 0) ((own_up zf n (own_hm bf k).toInt32) 1) ((own_up zf n (own_hm bf k).toInt32) 2) (yf 0) (yf 1) (yf 2) i0 i1 i2 ∧ own_AB (own_up bf n (some k)) (own_up pf n (own_hm bf k)) bk' C' ∧ own_XT bk bk' Cf C' k (own_hm bf k)) := by
  match n, hn, hb, hy with
  | 0, _, hb, hy => exact own_file0 l Z a0 hw a1 aB aS aK aO aP aI bk Cf bf pf la ct (of 0) (of 1) (of 2) (zf 0) (zf 1) (zf 2) (yf 0) (yf 1) (yf 2) i0 i1 i2 h0 hO H AB hb hla hy
  | 1, _, hb, hy => exact own_file1 l Z a0 hw a1 aB aS aK aO aP aI bk Cf bf pf la ct (of 0) (of 1) (of 2) (zf 0) (zf 1) (zf 2) (yf 0) (yf 1) (yf 2) i0 i1 i2 h0 hO H AB hb hla hy
  | 2, _, hb, hy => exact own_file2 l Z a0 hw a1 aB aS aK aO aP aI bk Cf bf pf la ct (of 0) (of 1) (of 2) (zf 0) (zf 1) (zf 2) (yf 0) (yf 1) (yf 2) i0 i1 i2 h0 hO H AB hb hla hy
theorem own_kne {k : Nat} (h : k < 64) (q : k.toInt32 = -1) : False := by
  have a := (own_64 h).2.2
  rw [q] at a
  have e : (-1 : Int32).toInt = -1 := rfl
  omega
theorem own_up2 {α : Type} (f : Nat → α) (n : Nat) (x y : α) : own_up (own_up f n x) n y = own_up f n y := by
  funext j; unfold own_up; split <;> rfl

theorem d6_0 : decode prog_77_method_3_code 0 = .ok (.aload_n 0, 1) := by decide +kernel
theorem d6_1 : decode prog_77_method_3_code 1 = .ok (.getfield 22, 3) := by decide +kernel
theorem d6_4 : decode prog_77_method_3_code 4 = .ok (.iload_n 1, 1) := by decide +kernel
theorem d6_5 : decode prog_77_method_3_code 5 = .ok (.iaload, 1) := by decide +kernel
theorem d6_6 : decode prog_77_method_3_code 6 = .ok (.istore_n 2, 1) := by decide +kernel
theorem d6_7 : decode prog_77_method_3_code 7 = .ok (.iload_n 2, 1) := by decide +kernel
theorem d6_8 : decode prog_77_method_3_code 8 = .ok (.iconst (-1), 1) := by decide +kernel
theorem d6_9 : decode prog_77_method_3_code 9 = .ok (.if_icmp .ne 16, 3) := by decide +kernel
theorem d6_12 : decode prog_77_method_3_code 12 = .ok (.aload_n 0, 1) := by decide +kernel
theorem d6_13 : decode prog_77_method_3_code 13 = .ok (.dup, 1) := by decide +kernel
theorem d6_14 : decode prog_77_method_3_code 14 = .ok (.getfield 34, 3) := by decide +kernel
theorem d6_17 : decode prog_77_method_3_code 17 = .ok (.iconst 1, 1) := by decide +kernel
theorem d6_18 : decode prog_77_method_3_code 18 = .ok (.iadd, 1) := by decide +kernel
theorem d6_19 : decode prog_77_method_3_code 19 = .ok (.putfield 34, 3) := by decide +kernel
theorem d6_22 : decode prog_77_method_3_code 22 = .ok (.goto 48, 3) := by decide +kernel
theorem d6_25 : decode prog_77_method_3_code 25 = .ok (.aload_n 0, 1) := by decide +kernel
theorem d6_26 : decode prog_77_method_3_code 26 = .ok (.getfield 11, 3) := by decide +kernel
theorem d6_29 : decode prog_77_method_3_code 29 = .ok (.iload_n 2, 1) := by decide +kernel
theorem d6_30 : decode prog_77_method_3_code 30 = .ok (.aaload, 1) := by decide +kernel
theorem d6_31 : decode prog_77_method_3_code 31 = .ok (.aload_n 0, 1) := by decide +kernel
theorem d6_32 : decode prog_77_method_3_code 32 = .ok (.getfield 15, 3) := by decide +kernel
theorem d6_35 : decode prog_77_method_3_code 35 = .ok (.iload_n 2, 1) := by decide +kernel
theorem d6_36 : decode prog_77_method_3_code 36 = .ok (.dup2, 1) := by decide +kernel
theorem d6_37 : decode prog_77_method_3_code 37 = .ok (.iaload, 1) := by decide +kernel
theorem d6_38 : decode prog_77_method_3_code 38 = .ok (.iconst 1, 1) := by decide +kernel
theorem d6_39 : decode prog_77_method_3_code 39 = .ok (.isub, 1) := by decide +kernel
theorem d6_40 : decode prog_77_method_3_code 40 = .ok (.dup_x2, 1) := by decide +kernel
theorem d6_41 : decode prog_77_method_3_code 41 = .ok (.iastore, 1) := by decide +kernel
theorem d6_42 : decode prog_77_method_3_code 42 = .ok (.iaload, 1) := by decide +kernel
theorem d6_43 : decode prog_77_method_3_code 43 = .ok (.istore_n 3, 1) := by decide +kernel
theorem d6_44 : decode prog_77_method_3_code 44 = .ok (.aload_n 0, 1) := by decide +kernel
theorem d6_45 : decode prog_77_method_3_code 45 = .ok (.getfield 11, 3) := by decide +kernel
theorem d6_48 : decode prog_77_method_3_code 48 = .ok (.iload_n 2, 1) := by decide +kernel
theorem d6_49 : decode prog_77_method_3_code 49 = .ok (.aaload, 1) := by decide +kernel
theorem d6_50 : decode prog_77_method_3_code 50 = .ok (.aload_n 0, 1) := by decide +kernel
theorem d6_51 : decode prog_77_method_3_code 51 = .ok (.getfield 31, 3) := by decide +kernel
theorem d6_54 : decode prog_77_method_3_code 54 = .ok (.iload_n 1, 1) := by decide +kernel
theorem d6_55 : decode prog_77_method_3_code 55 = .ok (.iaload, 1) := by decide +kernel
theorem d6_56 : decode prog_77_method_3_code 56 = .ok (.iload_n 3, 1) := by decide +kernel
theorem d6_57 : decode prog_77_method_3_code 57 = .ok (.iastore, 1) := by decide +kernel
theorem d6_58 : decode prog_77_method_3_code 58 = .ok (.aload_n 0, 1) := by decide +kernel
theorem d6_59 : decode prog_77_method_3_code 59 = .ok (.getfield 31, 3) := by decide +kernel
theorem d6_62 : decode prog_77_method_3_code 62 = .ok (.iload_n 3, 1) := by decide +kernel
theorem d6_63 : decode prog_77_method_3_code 63 = .ok (.aload_n 0, 1) := by decide +kernel
theorem d6_64 : decode prog_77_method_3_code 64 = .ok (.getfield 31, 3) := by decide +kernel
theorem d6_67 : decode prog_77_method_3_code 67 = .ok (.iload_n 1, 1) := by decide +kernel
theorem d6_68 : decode prog_77_method_3_code 68 = .ok (.iaload, 1) := by decide +kernel
theorem d6_69 : decode prog_77_method_3_code 69 = .ok (.iastore, 1) := by decide +kernel
theorem d6_70 : decode prog_77_method_3_code 70 = .ok (.aload_n 0, 1) := by decide +kernel
theorem d6_71 : decode prog_77_method_3_code 71 = .ok (.iload_n 1, 1) := by decide +kernel
theorem d6_72 : decode prog_77_method_3_code 72 = .ok (.invokevirtual 38, 3) := by decide +kernel
theorem d6_75 : decode prog_77_method_3_code 75 = .ok (.return_, 1) := by decide +kernel
theorem pn6 : plainFor (⟨"com/example/slackweave/slackweave/paths/RadixHeap", "push", "(I)V"⟩ : MethodName) = true := plainFor_of_name (by first | (simp [plainName, overriddenIn]; done) | decide +kernel)
set_option maxRecDepth 65536 in
set_option maxHeartbeats 40000000 in
theorem own_pushA0 (l : Launch) (Z : State) (a0 : Array Value) (hw : ∀ d ∈ tables_1, d.before a0 Z = true) (a1 aB aS aK aO aP aI : Addr) (bk : List Value) (Cf : Nat → List Value) (bf : Nat → Option Nat) (pf : Nat → Nat) (la : Int64) (ct : Int32) (y0 y1 y2 : Int64) (i0 i1 i2 : Int32) (h0 : Heap) (hO : Ext Z.heap h0) (H : own_RH Z h0 a1 aB aS aK aO aP aI bk Cf bf la ct (-1 : Int32) (own_enc (bf 1)) (own_enc (bf 2)) (pf 0).toInt32 (pf 1).toInt32 (pf 2).toInt32 y0 y1 y2 i0 i1 i2) (AB : own_AB bf pf bk Cf) (hb : bf 0 = none) (hla : ¬ la < 0) (hy : ¬ y0 < 0) :
    own_C l Z (⟨"com/example/slackweave/slackweave/paths/RadixHeap", "push", "(I)V"⟩ : MethodName) prog_77_method_3_code 4 none [] ({ frames := 3, cells := 1, slots := 16, locals := 46 } : Room) (own_news Z h0) #[(.ref a1), (.int (0 : Int32))] h0 (fun v h => v = none ∧ ∃ (k : Nat) (bk' : List Value) (C' : Nat → List Value) (p' : Nat → Nat), k < 64 ∧ own_RH Z h a1 aB aS aK aO aP aI bk' C' (own_up bf 0 (some k)) la (ct + (1 : Int32)) (own_enc ((own_up bf 0 (some k)) 0)) (own_enc ((own_up bf 0 (some k)) 1)) (own_enc ((own_up bf 0 (some k)) 2)) (p' 0).toInt32 (p' 1).toInt32 (p' 2).toInt32 y0 y1 y2 i0 i1 i2 ∧ own_AB (own_up bf 0 (some k)) p' bk' C') := by
  refine own_C.of pn6 hO own_news_le ?_
  intro p e s m below meth c T0 S0
  refine own_F.cast (by first | (simp [entryFrame, mkF, argsToLocals, Value.category]; done) | rfl : entryFrame m #[(.ref a1), (.int (0 : Int32))] 4 = mkF m 0 #[.val (.ref a1), .val (.int (0 : Int32)), .unset, .unset] []) ?_
  obtain ⟨⟨ga, gB, gS, gO, gP, gI⟩, ⟨nSO, nSP, nOP⟩, E_a1, F_buckets, F_sizes, F_keys, F_bucketOf, F_positions, F_last, F_count, RB, AS, AK, AO, AP, AI, BK⟩ := H
  have n1aB := own_neA E_a1 (own_w hw 3 rfl) RB.A
  have naBaS := own_A.neT RB.A AS (by decide)
  have naBaK := own_A.neT RB.A AK (by decide)
  have naBaO := own_A.neT RB.A AO (by decide)
  have naBaP := own_A.neT RB.A AP (by decide)
  have naBaI := own_A.neT RB.A AI (by decide)
  have n1aS := own_neA E_a1 (own_w hw 3 rfl) AS
  have naSaK := own_A.neT AS AK (by decide)
  have naSaI := own_A.neT AS AI (by decide)
  have n1aK := own_neA E_a1 (own_w hw 3 rfl) AK
  have naKaO := own_A.neT AK AO (by decide)
  have naKaP := own_A.neT AK AP (by decide)
  have naKaI := own_A.neT AK AI (by decide)
  have n1aO := own_neA E_a1 (own_w hw 3 rfl) AO
  have naOaI := own_A.neT AO AI (by decide)
  have n1aP := own_neA E_a1 (own_w hw 3 rfl) AP
  have naPaI := own_A.neT AP AI (by decide)
  have n1aI := own_neA E_a1 (own_w hw 3 rfl) AI
  show own_F p e below s Z _ _ _ _ _ (T0.setTop (mkF m 0 #[.val (.ref a1), .val (.int 0), .unset, .unset] []))
  refine own_F.of (fun _ => XS.aloadN S0.here S0.hx rfl (S0.dec d6_0) rfl rfl) ?_
  show own_F p e below s Z _ _ _ _ _ (T0.setTop (mkF m 1 #[.val (.ref a1), .val (.int 0), .unset, .unset] [(.ref a1)]))
  refine own_getF S0 (host := "") (Or.inl (own_w hw 20 rfl)) Via.refl F_bucketOf d6_1 (fun T1 S1 => ?_)
  show own_F p e below s Z _ _ _ _ _ (T1.setTop (mkF m 4 #[.val (.ref a1), .val (.int 0), .unset, .unset] [(.ref aO)]))
  refine own_F.of (fun _ => XS.iloadN S1.here S1.hx rfl (S1.dec d6_4) rfl) ?_
  show own_F p e below s Z _ _ _ _ _ (T1.setTop (mkF m 5 #[.val (.ref a1), .val (.int 0), .unset, .unset] [(.int 0), (.ref aO)]))
  refine own_iald S1 AO (by decide) rfl d6_5 ?_
  show own_F p e below s Z _ _ _ _ _ (T1.setTop (mkF m 6 #[.val (.ref a1), .val (.int 0), .unset, .unset] [(.int (-1 : Int32))]))
  refine own_F.of (fun _ => XS.istoreN S1.here S1.hx rfl (S1.dec d6_6) rfl (l' := #[.val (.ref a1), .val (.int 0), .val (.int (-1 : Int32)), .unset]) rfl) ?_
  refine own_F.of (fun _ => XS.iloadN S1.here S1.hx rfl (S1.dec d6_7) rfl) ?_
  refine own_F.of (fun _ => XS.iconst S1.here S1.hx rfl (S1.dec d6_8)) ?_
  show own_F p e below s Z _ _ _ _ _ (T1.setTop (mkF m 9 #[.val (.ref a1), .val (.int 0), .val (.int (-1 : Int32)), .unset] [(.int (-1 : Int32)), (.int (-1 : Int32))]))
  refine own_icmp S1 25 d6_9 (by decide) (by decide) (fun (hc9_2 : ¬ ((-1 : Int32) = (-1 : Int32))) => False.elim (absurd hc9_2 (by decide))) (fun (hc9_2 : (-1 : Int32) = (-1 : Int32)) => ?_)
  show own_F p e below s Z _ _ _ _ _ (T1.setTop (mkF m 12 #[.val (.ref a1), .val (.int 0), .val (.int (-1 : Int32)), .unset] []))
  refine own_F.of (fun _ => XS.aloadN S1.here S1.hx rfl (S1.dec d6_12) rfl rfl) ?_
  refine own_F.of (fun _ => XS.dup S1.here S1.hx rfl (S1.dec d6_13) rfl rfl) ?_
  show own_F p e below s Z _ _ _ _ _ (T1.setTop (mkF m 14 #[.val (.ref a1), .val (.int 0), .val (.int (-1 : Int32)), .unset] [(.ref a1), (.ref a1)]))
  refine own_getF S1 (host := "") (Or.inl (own_w hw 34 rfl)) Via.refl F_count d6_14 (fun T3 S3 => ?_)
  show own_F p e below s Z _ _ _ _ _ (T3.setTop (mkF m 17 #[.val (.ref a1), .val (.int 0), .val (.int (-1 : Int32)), .unset] [(.int ct), (.ref a1)]))
  refine own_F.of (fun _ => XS.iconst S3.here S3.hx rfl (S3.dec d6_17)) ?_
  show own_F p e below s Z _ _ _ _ _ (T3.setTop (mkF m 18 #[.val (.ref a1), .val (.int 0), .val (.int (-1 : Int32)), .unset] [(.int 1), (.int ct), (.ref a1)]))
  refine own_F.of (fun _ => XS.iadd S3.here S3.hx rfl (S3.dec d6_18) rfl) ?_
  show own_F p e below s Z _ _ _ _ _ (T3.setTop (mkF m 19 #[.val (.ref a1), .val (.int 0), .val (.int (-1 : Int32)), .unset] [(.int (ct + (1 : Int32))), (.ref a1)]))
  refine own_putF S3 (host := "") (Or.inl (own_w hw 34 rfl)) Via.refl F_count E_a1 (Or.inl (own_w hw 35 rfl)) (own_w hw 3 rfl) (ty := .int) (by decide) rfl rfl d6_19 (own_news_may ga) (fun T4 h4 S4 W4 => ?_)
  have Fw4 := F_count.same W4
  show own_F p e below s Z _ _ _ _ _ (T4.setTop (mkF m 22 #[.val (.ref a1), .val (.int 0), .val (.int (-1 : Int32)), .unset] []))
  refine own_F.of (fun _ => XS.goto S4.here S4.hx rfl (pc0 := 22) (pc' := 70) rfl (S4.dec d6_22) (by decide) (by decide)) ?_
  show own_F p e below s Z _ _ _ _ _ (T4.setTop (mkF m 70 #[.val (.ref a1), .val (.int 0), .val (.int (-1 : Int32)), .unset] []))
  refine own_F.of (fun _ => XS.aloadN S4.here S4.hx rfl (S4.dec d6_70) rfl rfl) ?_
  refine own_F.of (fun _ => XS.iloadN S4.here S4.hx rfl (S4.dec d6_71) rfl) ?_
  show own_F p e below s Z _ _ _ _ _ (T4.setTop (mkF m 72 #[.val (.ref a1), .val (.int 0), .val (.int (-1 : Int32)), .unset] [(.int 0), (.ref a1)]))
  have fq5 := (E_a1.wr W4)
  have fq6 := (F_buckets.other W4 (Or.inr (slot_ne (C := "com/example/slackweave/slackweave/paths/RadixHeap") (Or.inr (own_w hw 14 rfl)) (Or.inl (own_w hw 35 rfl)) (by decide) (t := (.array (.array .int))) (t' := .int) (by decide) (by decide))))
  have fq7 := (F_sizes.other W4 (Or.inr (slot_ne (C := "com/example/slackweave/slackweave/paths/RadixHeap") (Or.inr (own_w hw 17 rfl)) (Or.inl (own_w hw 35 rfl)) (by decide) (t := (.array .int)) (t' := .int) (by decide) (by decide))))
  have fq8 := (F_keys.other W4 (Or.inr (slot_ne (C := "com/example/slackweave/slackweave/paths/RadixHeap") (Or.inr (own_w hw 19 rfl)) (Or.inl (own_w hw 35 rfl)) (by decide) (t := (.array .long)) (t' := .int) (by decide) (by decide))))
  have fq9 := (F_bucketOf.other W4 (Or.inr (slot_ne (C := "com/example/slackweave/slackweave/paths/RadixHeap") (Or.inr (own_w hw 21 rfl)) (Or.inl (own_w hw 35 rfl)) (by decide) (t := (.array .int)) (t' := .int) (by decide) (by decide))))
  have fq10 := (F_positions.other W4 (Or.inr (slot_ne (C := "com/example/slackweave/slackweave/paths/RadixHeap") (Or.inr (own_w hw 27 rfl)) (Or.inl (own_w hw 35 rfl)) (by decide) (t := (.array .int)) (t' := .int) (by decide) (by decide))))
  have fq11 := (F_last.other W4 (Or.inr (slot_ne (C := "com/example/slackweave/slackweave/paths/RadixHeap") (Or.inl (own_w hw 50 rfl)) (Or.inl (own_w hw 35 rfl)) (by decide) (t := .long) (t' := .int) (by decide) (by decide))))
  have fq12 := (RB.other W4 (Ne.symm n1aB))
  have fq13 := (AS.other W4 (Ne.symm n1aS))
  have fq14 := (AK.other W4 (Ne.symm n1aK))
  have fq15 := (AO.other W4 (Ne.symm n1aO))
  have fq16 := (AP.other W4 (Ne.symm n1aP))
  have fq17 := (AI.other W4 (Ne.symm n1aI))
  have fq18 := (BK.oA E_a1 (own_w hw 3 rfl) W4)
  refine own_callP S4 (y := (⟨"com/example/slackweave/slackweave/paths/RadixHeap", "file", "(I)V"⟩ : MethodName)) (own_w hw 45 rfl) (own_w hw 46 rfl) (own_w hw 3 rfl) (own_w hw 47 rfl) (own_w hw 48 rfl) (own_w hw 4 rfl) (by decide) fq5 (argsL := [(.int (0 : Int32))]) (rest := []) (own_file0 l Z a0 hw a1 aB aS aK aO aP aI bk Cf bf pf la (ct + (1 : Int32)) (-1 : Int32) (own_enc (bf 1)) (own_enc (bf 2)) (pf 0).toInt32 (pf 1).toInt32 (pf 2).toInt32 y0 y1 y2 i0 i1 i2 h4 S4.old ⟨⟨ga, gB, gS, gO, gP, gI⟩, ⟨nSO, nSP, nOP⟩, fq5, fq6, fq7, fq8, fq9, fq10, fq11, Fw4, fq12, fq13, fq14, fq15, fq16, fq17, fq18⟩ AB hb hla hy) own_news_sub (by decide +kernel : parseMethodDescriptor "(I)V" = some ⟨[.int], none⟩) rfl rfl rfl d6_72 (by decide) (Nat.le_of_ble_eq_true rfl) (by decide) (by decide) (fun T19 h19 v19 S19 K19 q19 => ?_)
  obtain ⟨rfl, k19, bq19, cq19, hq19, -, H19, B19, -⟩ := q19
  show own_F p e below s Z _ _ _ _ _ (T19.setTop (mkF m 75 #[.val (.ref a1), .val (.int 0), .val (.int (-1 : Int32)), .unset] []))
  refine own_retV S19 d6_75 (by decide) (by decide) ?_
  exact ⟨rfl, k19, bq19, cq19, own_up pf 0 (own_hm bf k19), hq19, H19, B19⟩
set_option maxRecDepth 65536 in
set_option maxHeartbeats 40000000 in
theorem own_pushP0 (l : Launch) (Z : State) (a0 : Array Value) (hw : ∀ d ∈ tables_1, d.before a0 Z = true) (a1 aB aS aK aO aP aI : Addr) (bk : List Value) (Cf : Nat → List Value) (bf : Nat → Option Nat) (pf : Nat → Nat) (la : Int64) (ct : Int32) (y0 y1 y2 : Int64) (i0 i1 i2 : Int32) (kn : Nat) (h0 : Heap) (hO : Ext Z.heap h0) (H : own_RH Z h0 a1 aB aS aK aO aP aI bk Cf bf la ct kn.toInt32 (own_enc (bf 1)) (own_enc (bf 2)) (pf 0).toInt32 (pf 1).toInt32 (pf 2).toInt32 y0 y1 y2 i0 i1 i2) (AB : own_AB bf pf bk Cf) (hb : bf 0 = some kn) (hla : ¬ la < 0) (hy : ¬ y0 < 0) :
    own_C l Z (⟨"com/example/slackweave/slackweave/paths/RadixHeap", "push", "(I)V"⟩ : MethodName) prog_77_method_3_code 4 none [] ({ frames := 3, cells := 1, slots := 16, locals := 46 } : Room) (own_news Z h0) #[(.ref a1), (.int (0 : Int32))] h0 (fun v h => v = none ∧ ∃ (k : Nat) (bk' : List Value) (C' : Nat → List Value) (p' : Nat → Nat), k < 64 ∧ own_RH Z h a1 aB aS aK aO aP aI bk' C' (own_up bf 0 (some k)) la ct (own_enc ((own_up bf 0 (some k)) 0)) (own_enc ((own_up bf 0 (some k)) 1)) (own_enc ((own_up bf 0 (some k)) 2)) (p' 0).toInt32 (p' 1).toInt32 (p' 2).toInt32 y0 y1 y2 i0 i1 i2 ∧ own_AB (own_up bf 0 (some k)) p' bk' C') := by
  refine own_C.of pn6 hO own_news_le ?_
  intro p e s m below meth c T0 S0
  refine own_F.cast (by first | (simp [entryFrame, mkF, argsToLocals, Value.category]; done) | rfl : entryFrame m #[(.ref a1), (.int (0 : Int32))] 4 = mkF m 0 #[.val (.ref a1), .val (.int (0 : Int32)), .unset, .unset] []) ?_
  obtain ⟨⟨ga, gB, gS, gO, gP, gI⟩, ⟨nSO, nSP, nOP⟩, E_a1, F_buckets, F_sizes, F_keys, F_bucketOf, F_positions, F_last, F_count, RB, AS, AK, AO, AP, AI, BK⟩ := H
  have n1aB := own_neA E_a1 (own_w hw 3 rfl) RB.A
  have naBaS := own_A.neT RB.A AS (by decide)
  have naBaK := own_A.neT RB.A AK (by decide)
  have naBaO := own_A.neT RB.A AO (by decide)
  have naBaP := own_A.neT RB.A AP (by decide)
  have naBaI := own_A.neT RB.A AI (by decide)
  have n1aS := own_neA E_a1 (own_w hw 3 rfl) AS
  have naSaK := own_A.neT AS AK (by decide)
  have naSaI := own_A.neT AS AI (by decide)
  have n1aK := own_neA E_a1 (own_w hw 3 rfl) AK
  have naKaO := own_A.neT AK AO (by decide)
  have naKaP := own_A.neT AK AP (by decide)
  have naKaI := own_A.neT AK AI (by decide)
  have n1aO := own_neA E_a1 (own_w hw 3 rfl) AO
  have naOaI := own_A.neT AO AI (by decide)
  have n1aP := own_neA E_a1 (own_w hw 3 rfl) AP
  have naPaI := own_A.neT AP AI (by decide)
  have n1aI := own_neA E_a1 (own_w hw 3 rfl) AI
  obtain ⟨hkn, hpn, ⟨r, hv⟩, hcn⟩ := AB.1 0 kn (by decide) hb
  obtain ⟨cc, hcc⟩ : ∃ cc, own_hm bf kn = cc + 1 := ⟨own_hm bf kn - 1, by have := own_hm_pos (n := 0) (by decide) hb; omega⟩
  have h3 := own_hm_le bf kn
  have sm := own_small (n := cc) (by omega)
  have sp := own_small (n := pf 0) (by omega)
  have m1aS := (BK.2.1 _ _ hv).2.2.2.1
  have m1aO := (BK.2.1 _ _ hv).2.2.2.2.1
  have m1aP := (BK.2.1 _ _ hv).2.2.2.2.2
  have m1aB := own_A.neT (BK.2.1 _ _ hv).1 RB.A (by decide)
  have m1aK := own_A.neT (BK.2.1 _ _ hv).1 AK (by decide)
  have m1aI := own_A.neT (BK.2.1 _ _ hv).1 AI (by decide)
  have m1a1 := own_neA E_a1 (own_w hw 3 rfl) (BK.2.1 _ _ hv).1
  have hl := (BK.2.1 _ _ hv).2.1
  show own_F p e below s Z _ _ _ _ _ (T0.setTop (mkF m 0 #[.val (.ref a1), .val (.int 0), .unset, .unset] []))
  refine own_F.of (fun _ => XS.aloadN S0.here S0.hx rfl (S0.dec d6_0) rfl rfl) ?_
  show own_F p e below s Z _ _ _ _ _ (T0.setTop (mkF m 1 #[.val (.ref a1), .val (.int 0), .unset, .unset] [(.ref a1)]))
  refine own_getF S0 (host := "") (Or.inl (own_w hw 20 rfl)) Via.refl F_bucketOf d6_1 (fun T2 S2 => ?_)
  show own_F p e below s Z _ _ _ _ _ (T2.setTop (mkF m 4 #[.val (.ref a1), .val (.int 0), .unset, .unset] [(.ref aO)]))
  refine own_F.of (fun _ => XS.iloadN S2.here S2.hx rfl (S2.dec d6_4) rfl) ?_
  show own_F p e below s Z _ _ _ _ _ (T2.setTop (mkF m 5 #[.val (.ref a1), .val (.int 0), .unset, .unset] [(.int 0), (.ref aO)]))
  refine own_iald S2 AO (by decide) rfl d6_5 ?_
  show own_F p e below s Z _ _ _ _ _ (T2.setTop (mkF m 6 #[.val (.ref a1), .val (.int 0), .unset, .unset] [(.int kn.toInt32)]))
  refine own_F.of (fun _ => XS.istoreN S2.here S2.hx rfl (S2.dec d6_6) rfl (l' := #[.val (.ref a1), .val (.int 0), .val (.int kn.toInt32), .unset]) rfl) ?_
  refine own_F.of (fun _ => XS.iloadN S2.here S2.hx rfl (S2.dec d6_7) rfl) ?_
  refine own_F.of (fun _ => XS.iconst S2.here S2.hx rfl (S2.dec d6_8)) ?_
  show own_F p e below s Z _ _ _ _ _ (T2.setTop (mkF m 9 #[.val (.ref a1), .val (.int 0), .val (.int kn.toInt32), .unset] [(.int (-1 : Int32)), (.int kn.toInt32)]))
  refine own_icmp S2 25 d6_9 (by decide) (by decide) (fun (hc9_3 : ¬ (kn.toInt32 = (-1 : Int32))) => ?_) (fun (hc9_3 : kn.toInt32 = (-1 : Int32)) => False.elim (own_kne hkn hc9_3))
  show own_F p e below s Z _ _ _ _ _ (T2.setTop (mkF m 25 #[.val (.ref a1), .val (.int 0), .val (.int kn.toInt32), .unset] []))
  refine own_F.of (fun _ => XS.aloadN S2.here S2.hx rfl (S2.dec d6_25) rfl rfl) ?_
  show own_F p e below s Z _ _ _ _ _ (T2.setTop (mkF m 26 #[.val (.ref a1), .val (.int 0), .val (.int kn.toInt32), .unset] [(.ref a1)]))
  refine own_getF S2 (host := "") (Or.inl (own_w hw 13 rfl)) Via.refl F_buckets d6_26 (fun T4 S4 => ?_)
  show own_F p e below s Z _ _ _ _ _ (T4.setTop (mkF m 29 #[.val (.ref a1), .val (.int 0), .val (.int kn.toInt32), .unset] [(.ref aB)]))
  refine own_F.of (fun _ => XS.iloadN S4.here S4.hx rfl (S4.dec d6_29) rfl) ?_
  show own_F p e below s Z _ _ _ _ _ (T4.setTop (mkF m 30 #[.val (.ref a1), .val (.int 0), .val (.int kn.toInt32), .unset] [(.int kn.toInt32), (.ref aB)]))
  refine own_aald S4 RB.A rfl (own_64 hkn).2.1 (by rw [(own_64 hkn).1]; exact hv) d6_30 ?_
  show own_F p e below s Z _ _ _ _ _ (T4.setTop (mkF m 31 #[.val (.ref a1), .val (.int 0), .val (.int kn.toInt32), .unset] [(.ref r)]))
  refine own_F.of (fun _ => XS.aloadN S4.here S4.hx rfl (S4.dec d6_31) rfl rfl) ?_
  show own_F p e below s Z _ _ _ _ _ (T4.setTop (mkF m 32 #[.val (.ref a1), .val (.int 0), .val (.int kn.toInt32), .unset] [(.ref a1), (.ref r)]))
  refine own_getF S4 (host := "") (Or.inl (own_w hw 16 rfl)) Via.refl F_sizes d6_32 (fun T5 S5 => ?_)
  show own_F p e below s Z _ _ _ _ _ (T5.setTop (mkF m 35 #[.val (.ref a1), .val (.int 0), .val (.int kn.toInt32), .unset] [(.ref aS), (.ref r)]))
  refine own_F.of (fun _ => XS.iloadN S5.here S5.hx rfl (S5.dec d6_35) rfl) ?_
  show own_F p e below s Z _ _ _ _ _ (T5.setTop (mkF m 36 #[.val (.ref a1), .val (.int 0), .val (.int kn.toInt32), .unset] [(.int kn.toInt32), (.ref aS), (.ref r)]))
  refine own_F.of (fun _ => XT.dup2 S5.here S5.hx rfl (S5.dec d6_36) rfl rfl rfl) ?_
  show own_F p e below s Z _ _ _ _ _ (T5.setTop (mkF m 37 #[.val (.ref a1), .val (.int 0), .val (.int kn.toInt32), .unset] [(.int kn.toInt32), (.ref aS), (.int kn.toInt32), (.ref aS), (.ref r)]))
  refine own_iald S5 AS (own_64 hkn).2.1 (by rw [(own_64 hkn).1, own_szat bf hkn, hcc]) d6_37 ?_
  show own_F p e below s Z _ _ _ _ _ (T5.setTop (mkF m 38 #[.val (.ref a1), .val (.int 0), .val (.int kn.toInt32), .unset] [(.int (cc + 1).toInt32), (.int kn.toInt32), (.ref aS), (.ref r)]))
  refine own_F.of (fun _ => XS.iconst S5.here S5.hx rfl (S5.dec d6_38)) ?_
  show own_F p e below s Z _ _ _ _ _ (T5.setTop (mkF m 39 #[.val (.ref a1), .val (.int 0), .val (.int kn.toInt32), .unset] [(.int 1), (.int (cc + 1).toInt32), (.int kn.toInt32), (.ref aS), (.ref r)]))
  refine own_F.of (fun _ => XS.isub S5.here S5.hx rfl (S5.dec d6_39) rfl) ?_
  show own_F p e below s Z _ _ _ _ _ (T5.setTop (mkF m 40 #[.val (.ref a1), .val (.int 0), .val (.int kn.toInt32), .unset] [(.int ((cc + 1).toInt32 - (1 : Int32))), (.int kn.toInt32), (.ref aS), (.ref r)]))
  rw [own_pre (n := cc) (by omega)]
  show own_F p e below s Z _ _ _ _ _ (T5.setTop (mkF m 40 #[.val (.ref a1), .val (.int 0), .val (.int kn.toInt32), .unset] [(.int cc.toInt32), (.int kn.toInt32), (.ref aS), (.ref r)]))
  refine own_F.of (fun _ => own_dupX2 S5.here S5.hx rfl (S5.dec d6_40) rfl rfl rfl rfl) ?_
  show own_F p e below s Z _ _ _ _ _ (T5.setTop (mkF m 41 #[.val (.ref a1), .val (.int 0), .val (.int kn.toInt32), .unset] [(.int cc.toInt32), (.int kn.toInt32), (.ref aS), (.int cc.toInt32), (.ref r)]))
  refine own_ist S5 AS (own_64 hkn).2.1 (by rw [(own_64 hkn).1, own_szlen]; exact hkn) d6_41 (own_news_may gS) (fun T6 h6 S6 W6 A6 => ?_)
  have B6 := own_szrem (n := 0) (by decide) hb hkn hcc A6
  show own_F p e below s Z _ _ _ _ _ (T6.setTop (mkF m 42 #[.val (.ref a1), .val (.int 0), .val (.int kn.toInt32), .unset] [(.int cc.toInt32), (.ref r)]))
  obtain ⟨mm, hm3, hbm, hpm⟩ := own_last AB hcc
  have hm := (AB.1 mm kn hm3 hbm).2.2.2
  rw [hpm] at hm
  obtain rfl | rfl | rfl : mm = 0 ∨ mm = 1 ∨ mm = 2 := by omega
  · show own_F p e below s Z _ _ _ _ _ (T6.setTop (mkF m 42 #[.val (.ref a1), .val (.int 0), .val (.int kn.toInt32), .unset] [(.int cc.toInt32), (.ref r)]))
    have fq7 := (BK.oS W6)
    refine own_iald S6 (fq7.2.1 _ _ hv).1 sm.2.1 (by rw [sm.1]; exact hm) d6_42 ?_
    show own_F p e below s Z _ _ _ _ _ (T6.setTop (mkF m 43 #[.val (.ref a1), .val (.int 0), .val (.int kn.toInt32), .unset] [(.int 0)]))
    refine own_F.of (fun _ => XS.istoreN S6.here S6.hx rfl (S6.dec d6_43) rfl (l' := #[.val (.ref a1), .val (.int 0), .val (.int kn.toInt32), .val (.int 0)]) rfl) ?_
    refine own_F.of (fun _ => XS.aloadN S6.here S6.hx rfl (S6.dec d6_44) rfl rfl) ?_
    show own_F p e below s Z _ _ _ _ _ (T6.setTop (mkF m 45 #[.val (.ref a1), .val (.int 0), .val (.int kn.toInt32), .val (.int 0)] [(.ref a1)]))
    have fq8 := (F_buckets.other W6 (Or.inl n1aS))
    refine own_getF S6 (host := "") (Or.inl (own_w hw 13 rfl)) Via.refl fq8 d6_45 (fun T9 S9 => ?_)
    show own_F p e below s Z _ _ _ _ _ (T9.setTop (mkF m 48 #[.val (.ref a1), .val (.int 0), .val (.int kn.toInt32), .val (.int 0)] [(.ref aB)]))
    refine own_F.of (fun _ => XS.iloadN S9.here S9.hx rfl (S9.dec d6_48) rfl) ?_
    show own_F p e below s Z _ _ _ _ _ (T9.setTop (mkF m 49 #[.val (.ref a1), .val (.int 0), .val (.int kn.toInt32), .val (.int 0)] [(.int kn.toInt32), (.ref aB)]))
    have fq10 := (RB.other W6 naBaS)
    refine own_aald S9 fq10.A rfl (own_64 hkn).2.1 (by rw [(own_64 hkn).1]; exact hv) d6_49 ?_
    show own_F p e below s Z _ _ _ _ _ (T9.setTop (mkF m 50 #[.val (.ref a1), .val (.int 0), .val (.int kn.toInt32), .val (.int 0)] [(.ref r)]))
    refine own_F.of (fun _ => XS.aloadN S9.here S9.hx rfl (S9.dec d6_50) rfl rfl) ?_
    show own_F p e below s Z _ _ _ _ _ (T9.setTop (mkF m 51 #[.val (.ref a1), .val (.int 0), .val (.int kn.toInt32), .val (.int 0)] [(.ref a1), (.ref r)]))
    have fq11 := (F_positions.other W6 (Or.inl n1aS))
    refine own_getF S9 (host := "") (Or.inl (own_w hw 26 rfl)) Via.refl fq11 d6_51 (fun T12 S12 => ?_)
    show own_F p e below s Z _ _ _ _ _ (T12.setTop (mkF m 54 #[.val (.ref a1), .val (.int 0), .val (.int kn.toInt32), .val (.int 0)] [(.ref aP), (.ref r)]))
    refine own_F.of (fun _ => XS.iloadN S12.here S12.hx rfl (S12.dec d6_54) rfl) ?_
    show own_F p e below s Z _ _ _ _ _ (T12.setTop (mkF m 55 #[.val (.ref a1), .val (.int 0), .val (.int kn.toInt32), .val (.int 0)] [(.int 0), (.ref aP), (.ref r)]))
    have fq13 := (AP.other W6 (Ne.symm nSP))
    refine own_iald S12 fq13 (by decide) rfl d6_55 ?_
    show own_F p e below s Z _ _ _ _ _ (T12.setTop (mkF m 56 #[.val (.ref a1), .val (.int 0), .val (.int kn.toInt32), .val (.int 0)] [(.int (pf 0).toInt32), (.ref r)]))
    refine own_F.of (fun _ => XS.iloadN S12.here S12.hx rfl (S12.dec d6_56) rfl) ?_
    show own_F p e below s Z _ _ _ _ _ (T12.setTop (mkF m 57 #[.val (.ref a1), .val (.int 0), .val (.int kn.toInt32), .val (.int 0)] [(.int 0), (.int (pf 0).toInt32), (.ref r)]))
    refine own_ist S12 (fq7.2.1 _ _ hv).1 sp.2.1 (by rw [sp.1, (fq7.2.1 _ _ hv).2.1]; omega) d6_57 (own_news_may (BK.2.1 _ _ hv).2.2.1) (fun T14 h14 S14 W14 A14 => ?_)
    have D14 := own_BK.put fq7 hv W14
    rw [sp.1] at D14
    have ac14 := own_AB.rem AB (n := 0) (m := 0) (by decide) (by decide) hb hbm hcc hpm hl
    show own_F p e below s Z _ _ _ _ _ (T14.setTop (mkF m 58 #[.val (.ref a1), .val (.int 0), .val (.int kn.toInt32), .val (.int 0)] []))
    refine own_F.of (fun _ => XS.aloadN S14.here S14.hx rfl (S14.dec d6_58) rfl rfl) ?_
    show own_F p e below s Z _ _ _ _ _ (T14.setTop (mkF m 59 #[.val (.ref a1), .val (.int 0), .val (.int kn.toInt32), .val (.int 0)] [(.ref a1)]))
    have fq15 := (fq11.other W14 (Or.inl m1a1))
    refine own_getF S14 (host := "") (Or.inl (own_w hw 26 rfl)) Via.refl fq15 d6_59 (fun T16 S16 => ?_)
    show own_F p e below s Z _ _ _ _ _ (T16.setTop (mkF m 62 #[.val (.ref a1), .val (.int 0), .val (.int kn.toInt32), .val (.int 0)] [(.ref aP)]))
    refine own_F.of (fun _ => XS.iloadN S16.here S16.hx rfl (S16.dec d6_62) rfl) ?_
    refine own_F.of (fun _ => XS.aloadN S16.here S16.hx rfl (S16.dec d6_63) rfl rfl) ?_
    show own_F p e below s Z _ _ _ _ _ (T16.setTop (mkF m 64 #[.val (.ref a1), .val (.int 0), .val (.int kn.toInt32), .val (.int 0)] [(.ref a1), (.int 0), (.ref aP)]))
    refine own_getF S16 (host := "") (Or.inl (own_w hw 26 rfl)) Via.refl fq15 d6_64 (fun T17 S17 => ?_)
    show own_F p e below s Z _ _ _ _ _ (T17.setTop (mkF m 67 #[.val (.ref a1), .val (.int 0), .val (.int kn.toInt32), .val (.int 0)] [(.ref aP), (.int 0), (.ref aP)]))
    refine own_F.of (fun _ => XS.iloadN S17.here S17.hx rfl (S17.dec d6_67) rfl) ?_
    show own_F p e below s Z _ _ _ _ _ (T17.setTop (mkF m 68 #[.val (.ref a1), .val (.int 0), .val (.int kn.toInt32), .val (.int 0)] [(.int 0), (.ref aP), (.int 0), (.ref aP)]))
    have fq18 := (fq13.other W14 (Ne.symm m1aP))
    refine own_iald S17 fq18 (by decide) rfl d6_68 ?_
    show own_F p e below s Z _ _ _ _ _ (T17.setTop (mkF m 69 #[.val (.ref a1), .val (.int 0), .val (.int kn.toInt32), .val (.int 0)] [(.int (pf 0).toInt32), (.int 0), (.ref aP)]))
    refine own_ist S17 fq18 (by decide) (Nat.le_of_ble_eq_true rfl) d6_69 (own_news_may gP) (fun T19 h19 S19 W19 A19 => ?_)
    have V20 : own_A Z h19 aP .int [(.int (pf 0).toInt32), (.int (pf 1).toInt32), (.int (pf 2).toInt32)] := A19
    show own_F p e below s Z _ _ _ _ _ (T19.setTop (mkF m 70 #[.val (.ref a1), .val (.int 0), .val (.int kn.toInt32), .val (.int 0)] []))
    refine own_F.of (fun _ => XS.aloadN S19.here S19.hx rfl (S19.dec d6_70) rfl rfl) ?_
    refine own_F.of (fun _ => XS.iloadN S19.here S19.hx rfl (S19.dec d6_71) rfl) ?_
    show own_F p e below s Z _ _ _ _ _ (T19.setTop (mkF m 72 #[.val (.ref a1), .val (.int 0), .val (.int kn.toInt32), .val (.int 0)] [(.int 0), (.ref a1)]))
    have fq21 := (((E_a1.wr W6).wr W14).wr W19)
    have fq22 := ((fq8.other W14 (Or.inl m1a1)).other W19 (Or.inl n1aP))
    have fq23 := (((F_sizes.other W6 (Or.inl n1aS)).other W14 (Or.inl m1a1)).other W19 (Or.inl n1aP))
    have fq24 := (((F_keys.other W6 (Or.inl n1aS)).other W14 (Or.inl m1a1)).other W19 (Or.inl n1aP))
    have fq25 := (((F_bucketOf.other W6 (Or.inl n1aS)).other W14 (Or.inl m1a1)).other W19 (Or.inl n1aP))
    have fq26 := (fq15.other W19 (Or.inl n1aP))
    have fq27 := (((F_last.other W6 (Or.inl n1aS)).other W14 (Or.inl m1a1)).other W19 (Or.inl n1aP))
    have fq28 := (((F_count.other W6 (Or.inl n1aS)).other W14 (Or.inl m1a1)).other W19 (Or.inl n1aP))
    have fq29 := ((fq10.other W14 (Ne.symm m1aB)).other W19 naBaP)
    have fq30 := ((B6.other W14 (Ne.symm m1aS)).other W19 nSP)
    have fq31 := (((AK.other W6 (Ne.symm naSaK)).other W14 (Ne.symm m1aK)).other W19 naKaP)
    have fq32 := (((AO.other W6 (Ne.symm nSO)).other W14 (Ne.symm m1aO)).other W19 nOP)
    have fq33 := (((AI.other W6 (Ne.symm naSaI)).other W14 (Ne.symm m1aI)).other W19 (Ne.symm naPaI))
    have fq34 := (D14.oP W19)
    refine own_callP S19 (y := (⟨"com/example/slackweave/slackweave/paths/RadixHeap", "file", "(I)V"⟩ : MethodName)) (own_w hw 45 rfl) (own_w hw 46 rfl) (own_w hw 3 rfl) (own_w hw 47 rfl) (own_w hw 48 rfl) (own_w hw 4 rfl) (by decide) fq21 (argsL := [(.int (0 : Int32))]) (rest := []) (own_file0 l Z a0 hw a1 aB aS aK aO aP aI bk (own_up Cf kn ((Cf kn).set (pf 0) (.int (0 : Int32)))) (own_up bf 0 none) (own_up pf 0 (pf 0)) la ct kn.toInt32 (own_enc (bf 1)) (own_enc (bf 2)) (pf 0).toInt32 (pf 1).toInt32 (pf 2).toInt32 y0 y1 y2 i0 i1 i2 h19 S19.old ⟨⟨ga, gB, gS, gO, gP, gI⟩, ⟨nSO, nSP, nOP⟩, fq21, fq22, fq23, fq24, fq25, fq26, fq27, fq28, fq29, fq30, fq31, fq32, V20, fq33, fq34⟩ ac14 rfl hla hy) own_news_sub (by decide +kernel : parseMethodDescriptor "(I)V" = some ⟨[.int], none⟩) rfl rfl rfl d6_72 (by decide) (Nat.le_of_ble_eq_true rfl) (by decide) (by decide) (fun T35 h35 v35 S35 K35 q35 => ?_)
    obtain ⟨rfl, k35, bq35, cq35, hq35, -, H35, B35, -⟩ := q35
    show own_F p e below s Z _ _ _ _ _ (T35.setTop (mkF m 75 #[.val (.ref a1), .val (.int 0), .val (.int kn.toInt32), .val (.int 0)] []))
    refine own_retV S35 d6_75 (by decide) (by decide) ?_
    rw [own_up2] at H35 B35
    exact ⟨rfl, k35, bq35, cq35, own_up (own_up pf 0 (pf 0)) 0 (own_hm (own_up bf 0 none) k35), hq35, H35, B35⟩
  · show own_F p e below s Z _ _ _ _ _ (T6.setTop (mkF m 42 #[.val (.ref a1), .val (.int 0), .val (.int kn.toInt32), .unset] [(.int cc.toInt32), (.ref r)]))
    have fq36 := (BK.oS W6)
    refine own_iald S6 (fq36.2.1 _ _ hv).1 sm.2.1 (by rw [sm.1]; exact hm) d6_42 ?_
    show own_F p e below s Z _ _ _ _ _ (T6.setTop (mkF m 43 #[.val (.ref a1), .val (.int 0), .val (.int kn.toInt32), .unset] [(.int 1)]))
    refine own_F.of (fun _ => XS.istoreN S6.here S6.hx rfl (S6.dec d6_43) rfl (l' := #[.val (.ref a1), .val (.int 0), .val (.int kn.toInt32), .val (.int 1)]) rfl) ?_
    refine own_F.of (fun _ => XS.aloadN S6.here S6.hx rfl (S6.dec d6_44) rfl rfl) ?_
    show own_F p e below s Z _ _ _ _ _ (T6.setTop (mkF m 45 #[.val (.ref a1), .val (.int 0), .val (.int kn.toInt32), .val (.int 1)] [(.ref a1)]))
    have fq37 := (F_buckets.other W6 (Or.inl n1aS))
    refine own_getF S6 (host := "") (Or.inl (own_w hw 13 rfl)) Via.refl fq37 d6_45 (fun T38 S38 => ?_)
    show own_F p e below s Z _ _ _ _ _ (T38.setTop (mkF m 48 #[.val (.ref a1), .val (.int 0), .val (.int kn.toInt32), .val (.int 1)] [(.ref aB)]))
    refine own_F.of (fun _ => XS.iloadN S38.here S38.hx rfl (S38.dec d6_48) rfl) ?_
    show own_F p e below s Z _ _ _ _ _ (T38.setTop (mkF m 49 #[.val (.ref a1), .val (.int 0), .val (.int kn.toInt32), .val (.int 1)] [(.int kn.toInt32), (.ref aB)]))
    have fq39 := (RB.other W6 naBaS)
    refine own_aald S38 fq39.A rfl (own_64 hkn).2.1 (by rw [(own_64 hkn).1]; exact hv) d6_49 ?_
    show own_F p e below s Z _ _ _ _ _ (T38.setTop (mkF m 50 #[.val (.ref a1), .val (.int 0), .val (.int kn.toInt32), .val (.int 1)] [(.ref r)]))
    refine own_F.of (fun _ => XS.aloadN S38.here S38.hx rfl (S38.dec d6_50) rfl rfl) ?_
    show own_F p e below s Z _ _ _ _ _ (T38.setTop (mkF m 51 #[.val (.ref a1), .val (.int 0), .val (.int kn.toInt32), .val (.int 1)] [(.ref a1), (.ref r)]))
    have fq40 := (F_positions.other W6 (Or.inl n1aS))
    refine own_getF S38 (host := "") (Or.inl (own_w hw 26 rfl)) Via.refl fq40 d6_51 (fun T41 S41 => ?_)
    show own_F p e below s Z _ _ _ _ _ (T41.setTop (mkF m 54 #[.val (.ref a1), .val (.int 0), .val (.int kn.toInt32), .val (.int 1)] [(.ref aP), (.ref r)]))
    refine own_F.of (fun _ => XS.iloadN S41.here S41.hx rfl (S41.dec d6_54) rfl) ?_
    show own_F p e below s Z _ _ _ _ _ (T41.setTop (mkF m 55 #[.val (.ref a1), .val (.int 0), .val (.int kn.toInt32), .val (.int 1)] [(.int 0), (.ref aP), (.ref r)]))
    have fq42 := (AP.other W6 (Ne.symm nSP))
    refine own_iald S41 fq42 (by decide) rfl d6_55 ?_
    show own_F p e below s Z _ _ _ _ _ (T41.setTop (mkF m 56 #[.val (.ref a1), .val (.int 0), .val (.int kn.toInt32), .val (.int 1)] [(.int (pf 0).toInt32), (.ref r)]))
    refine own_F.of (fun _ => XS.iloadN S41.here S41.hx rfl (S41.dec d6_56) rfl) ?_
    show own_F p e below s Z _ _ _ _ _ (T41.setTop (mkF m 57 #[.val (.ref a1), .val (.int 0), .val (.int kn.toInt32), .val (.int 1)] [(.int 1), (.int (pf 0).toInt32), (.ref r)]))
    refine own_ist S41 (fq36.2.1 _ _ hv).1 sp.2.1 (by rw [sp.1, (fq36.2.1 _ _ hv).2.1]; omega) d6_57 (own_news_may (BK.2.1 _ _ hv).2.2.1) (fun T43 h43 S43 W43 A43 => ?_)
    have D43 := own_BK.put fq36 hv W43
    rw [sp.1] at D43
    have ac43 := own_AB.rem AB (n := 0) (m := 1) (by decide) (by decide) hb hbm hcc hpm hl
    show own_F p e below s Z _ _ _ _ _ (T43.setTop (mkF m 58 #[.val (.ref a1), .val (.int 0), .val (.int kn.toInt32), .val (.int 1)] []))
    refine own_F.of (fun _ => XS.aloadN S43.here S43.hx rfl (S43.dec d6_58) rfl rfl) ?_
    show own_F p e below s Z _ _ _ _ _ (T43.setTop (mkF m 59 #[.val (.ref a1), .val (.int 0), .val (.int kn.toInt32), .val (.int 1)] [(.ref a1)]))
    have fq44 := (fq40.other W43 (Or.inl m1a1))
    refine own_getF S43 (host := "") (Or.inl (own_w hw 26 rfl)) Via.refl fq44 d6_59 (fun T45 S45 => ?_)
    show own_F p e below s Z _ _ _ _ _ (T45.setTop (mkF m 62 #[.val (.ref a1), .val (.int 0), .val (.int kn.toInt32), .val (.int 1)] [(.ref aP)]))
    refine own_F.of (fun _ => XS.iloadN S45.here S45.hx rfl (S45.dec d6_62) rfl) ?_
    refine own_F.of (fun _ => XS.aloadN S45.here S45.hx rfl (S45.dec d6_63) rfl rfl) ?_
    show own_F p e below s Z _ _ _ _ _ (T45.setTop (mkF m 64 #[.val (.ref a1), .val (.int 0), .val (.int kn.toInt32), .val (.int 1)] [(.ref a1), (.int 1), (.ref aP)]))
    refine own_getF S45 (host := "") (Or.inl (own_w hw 26 rfl)) Via.refl fq44 d6_64 (fun T46 S46 => ?_)
    show own_F p e below s Z _ _ _ _ _ (T46.setTop (mkF m 67 #[.val (.ref a1), .val (.int 0), .val (.int kn.toInt32), .val (.int 1)] [(.ref aP), (.int 1), (.ref aP)]))
    refine own_F.of (fun _ => XS.iloadN S46.here S46.hx rfl (S46.dec d6_67) rfl) ?_
    show own_F p e below s Z _ _ _ _ _ (T46.setTop (mkF m 68 #[.val (.ref a1), .val (.int 0), .val (.int kn.toInt32), .val (.int 1)] [(.int 0), (.ref aP), (.int 1), (.ref aP)]))
    have fq47 := (fq42.other W43 (Ne.symm m1aP))
    refine own_iald S46 fq47 (by decide) rfl d6_68 ?_
    show own_F p e below s Z _ _ _ _ _ (T46.setTop (mkF m 69 #[.val (.ref a1), .val (.int 0), .val (.int kn.toInt32), .val (.int 1)] [(.int (pf 0).toInt32), (.int 1), (.ref aP)]))
    refine own_ist S46 fq47 (by decide) (Nat.le_of_ble_eq_true rfl) d6_69 (own_news_may gP) (fun T48 h48 S48 W48 A48 => ?_)
    have V49 : own_A Z h48 aP .int [(.int (pf 0).toInt32), (.int (pf 0).toInt32), (.int (pf 2).toInt32)] := A48
    show own_F p e below s Z _ _ _ _ _ (T48.setTop (mkF m 70 #[.val (.ref a1), .val (.int 0), .val (.int kn.toInt32), .val (.int 1)] []))
    refine own_F.of (fun _ => XS.aloadN S48.here S48.hx rfl (S48.dec d6_70) rfl rfl) ?_
    refine own_F.of (fun _ => XS.iloadN S48.here S48.hx rfl (S48.dec d6_71) rfl) ?_
    show own_F p e below s Z _ _ _ _ _ (T48.setTop (mkF m 72 #[.val (.ref a1), .val (.int 0), .val (.int kn.toInt32), .val (.int 1)] [(.int 0), (.ref a1)]))
    have fq50 := (((E_a1.wr W6).wr W43).wr W48)
    have fq51 := ((fq37.other W43 (Or.inl m1a1)).other W48 (Or.inl n1aP))
    have fq52 := (((F_sizes.other W6 (Or.inl n1aS)).other W43 (Or.inl m1a1)).other W48 (Or.inl n1aP))
    have fq53 := (((F_keys.other W6 (Or.inl n1aS)).other W43 (Or.inl m1a1)).other W48 (Or.inl n1aP))
    have fq54 := (((F_bucketOf.other W6 (Or.inl n1aS)).other W43 (Or.inl m1a1)).other W48 (Or.inl n1aP))
    have fq55 := (fq44.other W48 (Or.inl n1aP))
    have fq56 := (((F_last.other W6 (Or.inl n1aS)).other W43 (Or.inl m1a1)).other W48 (Or.inl n1aP))
    have fq57 := (((F_count.other W6 (Or.inl n1aS)).other W43 (Or.inl m1a1)).other W48 (Or.inl n1aP))
    have fq58 := ((fq39.other W43 (Ne.symm m1aB)).other W48 naBaP)
    have fq59 := ((B6.other W43 (Ne.symm m1aS)).other W48 nSP)
    have fq60 := (((AK.other W6 (Ne.symm naSaK)).other W43 (Ne.symm m1aK)).other W48 naKaP)
    have fq61 := (((AO.other W6 (Ne.symm nSO)).other W43 (Ne.symm m1aO)).other W48 nOP)
    have fq62 := (((AI.other W6 (Ne.symm naSaI)).other W43 (Ne.symm m1aI)).other W48 (Ne.symm naPaI))
    have fq63 := (D43.oP W48)
    refine own_callP S48 (y := (⟨"com/example/slackweave/slackweave/paths/RadixHeap", "file", "(I)V"⟩ : MethodName)) (own_w hw 45 rfl) (own_w hw 46 rfl) (own_w hw 3 rfl) (own_w hw 47 rfl) (own_w hw 48 rfl) (own_w hw 4 rfl) (by decide) fq50 (argsL := [(.int (0 : Int32))]) (rest := []) (own_file0 l Z a0 hw a1 aB aS aK aO aP aI bk (own_up Cf kn ((Cf kn).set (pf 0) (.int (1 : Int32)))) (own_up bf 0 none) (own_up pf 1 (pf 0)) la ct kn.toInt32 (own_enc (bf 1)) (own_enc (bf 2)) (pf 0).toInt32 (pf 0).toInt32 (pf 2).toInt32 y0 y1 y2 i0 i1 i2 h48 S48.old ⟨⟨ga, gB, gS, gO, gP, gI⟩, ⟨nSO, nSP, nOP⟩, fq50, fq51, fq52, fq53, fq54, fq55, fq56, fq57, fq58, fq59, fq60, fq61, V49, fq62, fq63⟩ ac43 rfl hla hy) own_news_sub (by decide +kernel : parseMethodDescriptor "(I)V" = some ⟨[.int], none⟩) rfl rfl rfl d6_72 (by decide) (Nat.le_of_ble_eq_true rfl) (by decide) (by decide) (fun T64 h64 v64 S64 K64 q64 => ?_)
    obtain ⟨rfl, k64, bq64, cq64, hq64, -, H64, B64, -⟩ := q64
    show own_F p e below s Z _ _ _ _ _ (T64.setTop (mkF m 75 #[.val (.ref a1), .val (.int 0), .val (.int kn.toInt32), .val (.int 1)] []))
    refine own_retV S64 d6_75 (by decide) (by decide) ?_
    rw [own_up2] at H64 B64
    exact ⟨rfl, k64, bq64, cq64, own_up (own_up pf 1 (pf 0)) 0 (own_hm (own_up bf 0 none) k64), hq64, H64, B64⟩
  · show own_F p e below s Z _ _ _ _ _ (T6.setTop (mkF m 42 #[.val (.ref a1), .val (.int 0), .val (.int kn.toInt32), .unset] [(.int cc.toInt32), (.ref r)]))
    have fq65 := (BK.oS W6)
    refine own_iald S6 (fq65.2.1 _ _ hv).1 sm.2.1 (by rw [sm.1]; exact hm) d6_42 ?_
    show own_F p e below s Z _ _ _ _ _ (T6.setTop (mkF m 43 #[.val (.ref a1), .val (.int 0), .val (.int kn.toInt32), .unset] [(.int 2)]))
    refine own_F.of (fun _ => XS.istoreN S6.here S6.hx rfl (S6.dec d6_43) rfl (l' := #[.val (.ref a1), .val (.int 0), .val (.int kn.toInt32), .val (.int 2)]) rfl) ?_
    refine own_F.of (fun _ => XS.aloadN S6.here S6.hx rfl (S6.dec d6_44) rfl rfl) ?_
    show own_F p e below s Z _ _ _ _ _ (T6.setTop (mkF m 45 #[.val (.ref a1), .val (.int 0), .val (.int kn.toInt32), .val (.int 2)] [(.ref a1)]))
    have fq66 := (F_buckets.other W6 (Or.inl n1aS))
    refine own_getF S6 (host := "") (Or.inl (own_w hw 13 rfl)) Via.refl fq66 d6_45 (fun T67 S67 => ?_)
    show own_F p e below s Z _ _ _ _ _ (T67.setTop (mkF m 48 #[.val (.ref a1), .val (.int 0), .val (.int kn.toInt32), .val (.int 2)] [(.ref aB)]))
    refine own_F.of (fun _ => XS.iloadN S67.here S67.hx rfl (S67.dec d6_48) rfl) ?_
    show own_F p e below s Z _ _ _ _ _ (T67.setTop (mkF m 49 #[.val (.ref a1), .val (.int 0), .val (.int kn.toInt32), .val (.int 2)] [(.int kn.toInt32), (.ref aB)]))
    have fq68 := (RB.other W6 naBaS)
    refine own_aald S67 fq68.A rfl (own_64 hkn).2.1 (by rw [(own_64 hkn).1]; exact hv) d6_49 ?_
    show own_F p e below s Z _ _ _ _ _ (T67.setTop (mkF m 50 #[.val (.ref a1), .val (.int 0), .val (.int kn.toInt32), .val (.int 2)] [(.ref r)]))
    refine own_F.of (fun _ => XS.aloadN S67.here S67.hx rfl (S67.dec d6_50) rfl rfl) ?_
    show own_F p e below s Z _ _ _ _ _ (T67.setTop (mkF m 51 #[.val (.ref a1), .val (.int 0), .val (.int kn.toInt32), .val (.int 2)] [(.ref a1), (.ref r)]))
    have fq69 := (F_positions.other W6 (Or.inl n1aS))
    refine own_getF S67 (host := "") (Or.inl (own_w hw 26 rfl)) Via.refl fq69 d6_51 (fun T70 S70 => ?_)
    show own_F p e below s Z _ _ _ _ _ (T70.setTop (mkF m 54 #[.val (.ref a1), .val (.int 0), .val (.int kn.toInt32), .val (.int 2)] [(.ref aP), (.ref r)]))
    refine own_F.of (fun _ => XS.iloadN S70.here S70.hx rfl (S70.dec d6_54) rfl) ?_
    show own_F p e below s Z _ _ _ _ _ (T70.setTop (mkF m 55 #[.val (.ref a1), .val (.int 0), .val (.int kn.toInt32), .val (.int 2)] [(.int 0), (.ref aP), (.ref r)]))
    have fq71 := (AP.other W6 (Ne.symm nSP))
    refine own_iald S70 fq71 (by decide) rfl d6_55 ?_
    show own_F p e below s Z _ _ _ _ _ (T70.setTop (mkF m 56 #[.val (.ref a1), .val (.int 0), .val (.int kn.toInt32), .val (.int 2)] [(.int (pf 0).toInt32), (.ref r)]))
    refine own_F.of (fun _ => XS.iloadN S70.here S70.hx rfl (S70.dec d6_56) rfl) ?_
    show own_F p e below s Z _ _ _ _ _ (T70.setTop (mkF m 57 #[.val (.ref a1), .val (.int 0), .val (.int kn.toInt32), .val (.int 2)] [(.int 2), (.int (pf 0).toInt32), (.ref r)]))
    refine own_ist S70 (fq65.2.1 _ _ hv).1 sp.2.1 (by rw [sp.1, (fq65.2.1 _ _ hv).2.1]; omega) d6_57 (own_news_may (BK.2.1 _ _ hv).2.2.1) (fun T72 h72 S72 W72 A72 => ?_)
    have D72 := own_BK.put fq65 hv W72
    rw [sp.1] at D72
    have ac72 := own_AB.rem AB (n := 0) (m := 2) (by decide) (by decide) hb hbm hcc hpm hl
    show own_F p e below s Z _ _ _ _ _ (T72.setTop (mkF m 58 #[.val (.ref a1), .val (.int 0), .val (.int kn.toInt32), .val (.int 2)] []))
    refine own_F.of (fun _ => XS.aloadN S72.here S72.hx rfl (S72.dec d6_58) rfl rfl) ?_
    show own_F p e below s Z _ _ _ _ _ (T72.setTop (mkF m 59 #[.val (.ref a1), .val (.int 0), .val (.int kn.toInt32), .val (.int 2)] [(.ref a1)]))
    have fq73 := (fq69.other W72 (Or.inl m1a1))
    refine own_getF S72 (host := "") (Or.inl (own_w hw 26 rfl)) Via.refl fq73 d6_59 (fun T74 S74 => ?_)
    show own_F p e below s Z _ _ _ _ _ (T74.setTop (mkF m 62 #[.val (.ref a1), .val (.int 0), .val (.int kn.toInt32), .val (.int 2)] [(.ref aP)]))
    refine own_F.of (fun _ => XS.iloadN S74.here S74.hx rfl (S74.dec d6_62) rfl) ?_
    refine own_F.of (fun _ => XS.aloadN S74.here S74.hx rfl (S74.dec d6_63) rfl rfl) ?_
    show own_F p e below s Z _ _ _ _ _ (T74.setTop (mkF m 64 #[.val (.ref a1), .val (.int 0), .val (.int kn.toInt32), .val (.int 2)] [(.ref a1), (.int 2), (.ref aP)]))
    refine own_getF S74 (host := "") (Or.inl (own_w hw 26 rfl)) Via.refl fq73 d6_64 (fun T75 S75 => ?_)
    show own_F p e below s Z _ _ _ _ _ (T75.setTop (mkF m 67 #[.val (.ref a1), .val (.int 0), .val (.int kn.toInt32), .val (.int 2)] [(.ref aP), (.int 2), (.ref aP)]))
    refine own_F.of (fun _ => XS.iloadN S75.here S75.hx rfl (S75.dec d6_67) rfl) ?_
    show own_F p e below s Z _ _ _ _ _ (T75.setTop (mkF m 68 #[.val (.ref a1), .val (.int 0), .val (.int kn.toInt32), .val (.int 2)] [(.int 0), (.ref aP), (.int 2), (.ref aP)]))
    have fq76 := (fq71.other W72 (Ne.symm m1aP))
    refine own_iald S75 fq76 (by decide) rfl d6_68 ?_
    show own_F p e below s Z _ _ _ _ _ (T75.setTop (mkF m 69 #[.val (.ref a1), .val (.int 0), .val (.int kn.toInt32), .val (.int 2)] [(.int (pf 0).toInt32), (.int 2), (.ref aP)]))
    refine own_ist S75 fq76 (by decide) (Nat.le_of_ble_eq_true rfl) d6_69 (own_news_may gP) (fun T77 h77 S77 W77 A77 => ?_)
    have V78 : own_A Z h77 aP .int [(.int (pf 0).toInt32), (.int (pf 1).toInt32), (.int (pf 0).toInt32)] := A77
    show own_F p e below s Z _ _ _ _ _ (T77.setTop (mkF m 70 #[.val (.ref a1), .val (.int 0), .val (.int kn.toInt32), .val (.int 2)] []))
    refine own_F.of (fun _ => XS.aloadN S77.here S77.hx rfl (S77.dec d6_70) rfl rfl) ?_
    refine own_F.of (fun _ => XS.iloadN S77.here S77.hx rfl (S77.dec d6_71) rfl) ?_
    show own_F p e below s Z _ _ _ _ _ (T77.setTop (mkF m 72 #[.val (.ref a1), .val (.int 0), .val (.int kn.toInt32), .val (.int 2)] [(.int 0), (.ref a1)]))
    have fq79 := (((E_a1.wr W6).wr W72).wr W77)
    have fq80 := ((fq66.other W72 (Or.inl m1a1)).other W77 (Or.inl n1aP))
    have fq81 := (((F_sizes.other W6 (Or.inl n1aS)).other W72 (Or.inl m1a1)).other W77 (Or.inl n1aP))
    have fq82 := (((F_keys.other W6 (Or.inl n1aS)).other W72 (Or.inl m1a1)).other W77 (Or.inl n1aP))
    have fq83 := (((F_bucketOf.other W6 (Or.inl n1aS)).other W72 (Or.inl m1a1)).other W77 (Or.inl n1aP))
    have fq84 := (fq73.other W77 (Or.inl n1aP))
    have fq85 := (((F_last.other W6 (Or.inl n1aS)).other W72 (Or.inl m1a1)).other W77 (Or.inl n1aP))
    have fq86 := (((F_count.other W6 (Or.inl n1aS)).other W72 (Or.inl m1a1)).other W77 (Or.inl n1aP))
    have fq87 := ((fq68.other W72 (Ne.symm m1aB)).other W77 naBaP)
    have fq88 := ((B6.other W72 (Ne.symm m1aS)).other W77 nSP)
    have fq89 := (((AK.other W6 (Ne.symm naSaK)).other W72 (Ne.symm m1aK)).other W77 naKaP)
    have fq90 := (((AO.other W6 (Ne.symm nSO)).other W72 (Ne.symm m1aO)).other W77 nOP)
    have fq91 := (((AI.other W6 (Ne.symm naSaI)).other W72 (Ne.symm m1aI)).other W77 (Ne.symm naPaI))
    have fq92 := (D72.oP W77)
    refine own_callP S77 (y := (⟨"com/example/slackweave/slackweave/paths/RadixHeap", "file", "(I)V"⟩ : MethodName)) (own_w hw 45 rfl) (own_w hw 46 rfl) (own_w hw 3 rfl) (own_w hw 47 rfl) (own_w hw 48 rfl) (own_w hw 4 rfl) (by decide) fq79 (argsL := [(.int (0 : Int32))]) (rest := []) (own_file0 l Z a0 hw a1 aB aS aK aO aP aI bk (own_up Cf kn ((Cf kn).set (pf 0) (.int (2 : Int32)))) (own_up bf 0 none) (own_up pf 2 (pf 0)) la ct kn.toInt32 (own_enc (bf 1)) (own_enc (bf 2)) (pf 0).toInt32 (pf 1).toInt32 (pf 0).toInt32 y0 y1 y2 i0 i1 i2 h77 S77.old ⟨⟨ga, gB, gS, gO, gP, gI⟩, ⟨nSO, nSP, nOP⟩, fq79, fq80, fq81, fq82, fq83, fq84, fq85, fq86, fq87, fq88, fq89, fq90, V78, fq91, fq92⟩ ac72 rfl hla hy) own_news_sub (by decide +kernel : parseMethodDescriptor "(I)V" = some ⟨[.int], none⟩) rfl rfl rfl d6_72 (by decide) (Nat.le_of_ble_eq_true rfl) (by decide) (by decide) (fun T93 h93 v93 S93 K93 q93 => ?_)
    obtain ⟨rfl, k93, bq93, cq93, hq93, -, H93, B93, -⟩ := q93
    show own_F p e below s Z _ _ _ _ _ (T93.setTop (mkF m 75 #[.val (.ref a1), .val (.int 0), .val (.int kn.toInt32), .val (.int 2)] []))
    refine own_retV S93 d6_75 (by decide) (by decide) ?_
    rw [own_up2] at H93 B93
    exact ⟨rfl, k93, bq93, cq93, own_up (own_up pf 2 (pf 0)) 0 (own_hm (own_up bf 0 none) k93), hq93, H93, B93⟩
set_option maxRecDepth 65536 in
set_option maxHeartbeats 40000000 in
theorem own_pushA1 (l : Launch) (Z : State) (a0 : Array Value) (hw : ∀ d ∈ tables_1, d.before a0 Z = true) (a1 aB aS aK aO aP aI : Addr) (bk : List Value) (Cf : Nat → List Value) (bf : Nat → Option Nat) (pf : Nat → Nat) (la : Int64) (ct : Int32) (y0 y1 y2 : Int64) (i0 i1 i2 : Int32) (h0 : Heap) (hO : Ext Z.heap h0) (H : own_RH Z h0 a1 aB aS aK aO aP aI bk Cf bf la ct (own_enc (bf 0)) (-1 : Int32) (own_enc (bf 2)) (pf 0).toInt32 (pf 1).toInt32 (pf 2).toInt32 y0 y1 y2 i0 i1 i2) (AB : own_AB bf pf bk Cf) (hb : bf 1 = none) (hla : ¬ la < 0) (hy : ¬ y1 < 0) :
    own_C l Z (⟨"com/example/slackweave/slackweave/paths/RadixHeap", "push", "(I)V"⟩ : MethodName) prog_77_method_3_code 4 none [] ({ frames := 3, cells := 1, slots := 16, locals := 46 } : Room) (own_news Z h0) #[(.ref a1), (.int (1 : Int32))] h0 (fun v h => v = none ∧ ∃ (k : Nat) (bk' : List Value) (C' : Nat → List Value) (p' : Nat → Nat), k < 64 ∧ own_RH Z h a1 aB aS aK aO aP aI bk' C' (own_up bf 1 (some k)) la (ct + (1 : Int32)) (own_enc ((own_up bf 1 (some k)) 0)) (own_enc ((own_up bf 1 (some k)) 1)) (own_enc ((own_up bf 1 (some k)) 2)) (p' 0).toInt32 (p' 1).toInt32 (p' 2).toInt32 y0 y1 y2 i0 i1 i2 ∧ own_AB (own_up bf 1 (some k)) p' bk' C') := by
  refine own_C.of pn6 hO own_news_le ?_
  intro p e s m below meth c T0 S0
  refine own_F.cast (by first | (simp [entryFrame, mkF, argsToLocals, Value.category]; done) | rfl : entryFrame m #[(.ref a1), (.int (1 : Int32))] 4 = mkF m 0 #[.val (.ref a1), .val (.int (1 : Int32)), .unset, .unset] []) ?_
  obtain ⟨⟨ga, gB, gS, gO, gP, gI⟩, ⟨nSO, nSP, nOP⟩, E_a1, F_buckets, F_sizes, F_keys, F_bucketOf, F_positions, F_last, F_count, RB, AS, AK, AO, AP, AI, BK⟩ := H
  have n1aB := own_neA E_a1 (own_w hw 3 rfl) RB.A
  have naBaS := own_A.neT RB.A AS (by decide)
  have naBaK := own_A.neT RB.A AK (by decide)
  have naBaO := own_A.neT RB.A AO (by decide)
  have naBaP := own_A.neT RB.A AP (by decide)
  have naBaI := own_A.neT RB.A AI (by decide)
  have n1aS := own_neA E_a1 (own_w hw 3 rfl) AS
  have naSaK := own_A.neT AS AK (by decide)
  have naSaI := own_A.neT AS AI (by decide)
  have n1aK := own_neA E_a1 (own_w hw 3 rfl) AK
  have naKaO := own_A.neT AK AO (by decide)
  have naKaP := own_A.neT AK AP (by decide)
  have naKaI := own_A.neT AK AI (by decide)
  have n1aO := own_neA E_a1 (own_w hw 3 rfl) AO
  have naOaI := own_A.neT AO AI (by decide)
  have n1aP := own_neA E_a1 (own_w hw 3 rfl) AP
  have naPaI := own_A.neT AP AI (by decide)
  have n1aI := own_neA E_a1 (own_w hw 3 rfl) AI
  show own_F p e below s Z _ _ _ _ _ (T0.setTop (mkF m 0 #[.val (.ref a1), .val (.int 1), .unset, .unset] []))
  refine own_F.of (fun _ => XS.aloadN S0.here S0.hx rfl (S0.dec d6_0) rfl rfl) ?_
  show own_F p e below s Z _ _ _ _ _ (T0.setTop (mkF m 1 #[.val (.ref a1), .val (.int 1), .unset, .unset] [(.ref a1)]))
  refine own_getF S0 (host := "") (Or.inl (own_w hw 20 rfl)) Via.refl F_bucketOf d6_1 (fun T1 S1 => ?_)
  show own_F p e below s Z _ _ _ _ _ (T1.setTop (mkF m 4 #[.val (.ref a1), .val (.int 1), .unset, .unset] [(.ref aO)]))
  refine own_F.of (fun _ => XS.iloadN S1.here S1.hx rfl (S1.dec d6_4) rfl) ?_
  show own_F p e below s Z _ _ _ _ _ (T1.setTop (mkF m 5 #[.val (.ref a1), .val (.int 1), .unset, .unset] [(.int 1), (.ref aO)]))
  refine own_iald S1 AO (by decide) rfl d6_5 ?_
  show own_F p e below s Z _ _ _ _ _ (T1.setTop (mkF m 6 #[.val (.ref a1), .val (.int 1), .unset, .unset] [(.int (-1 : Int32))]))
  refine own_F.of (fun _ => XS.istoreN S1.here S1.hx rfl (S1.dec d6_6) rfl (l' := #[.val (.ref a1), .val (.int 1), .val (.int (-1 : Int32)), .unset]) rfl) ?_
  refine own_F.of (fun _ => XS.iloadN S1.here S1.hx rfl (S1.dec d6_7) rfl) ?_
  refine own_F.of (fun _ => XS.iconst S1.here S1.hx rfl (S1.dec d6_8)) ?_
  show own_F p e below s Z _ _ _ _ _ (T1.setTop (mkF m 9 #[.val (.ref a1), .val (.int 1), .val (.int (-1 : Int32)), .unset] [(.int (-1 : Int32)), (.int (-1 : Int32))]))
  refine own_icmp S1 25 d6_9 (by decide) (by decide) (fun (hc9_2 : ¬ ((-1 : Int32) = (-1 : Int32))) => False.elim (absurd hc9_2 (by decide))) (fun (hc9_2 : (-1 : Int32) = (-1 : Int32)) => ?_)
  show own_F p e below s Z _ _ _ _ _ (T1.setTop (mkF m 12 #[.val (.ref a1), .val (.int 1), .val (.int (-1 : Int32)), .unset] []))
  refine own_F.of (fun _ => XS.aloadN S1.here S1.hx rfl (S1.dec d6_12) rfl rfl) ?_
  refine own_F.of (fun _ => XS.dup S1.here S1.hx rfl (S1.dec d6_13) rfl rfl) ?_
  show own_F p e below s Z _ _ _ _ _ (T1.setTop (mkF m 14 #[.val (.ref a1), .val (.int 1), .val (.int (-1 : Int32)), .unset] [(.ref a1), (.ref a1)]))
  refine own_getF S1 (host := "") (Or.inl (own_w hw 34 rfl)) Via.refl F_count d6_14 (fun T3 S3 => ?_)
  show own_F p e below s Z _ _ _ _ _ (T3.setTop (mkF m 17 #[.val (.ref a1), .val (.int 1), .val (.int (-1 : Int32)), .unset] [(.int ct), (.ref a1)]))
  refine own_F.of (fun _ => XS.iconst S3.here S3.hx rfl (S3.dec d6_17)) ?_
  show own_F p e below s Z _ _ _ _ _ (T3.setTop (mkF m 18 #[.val (.ref a1), .val (.int 1), .val (.int (-1 : Int32)), .unset] [(.int 1), (.int ct), (.ref a1)]))
  refine own_F.of (fun _ => XS.iadd S3.here S3.hx rfl (S3.dec d6_18) rfl) ?_
  show own_F p e below s Z _ _ _ _ _ (T3.setTop (mkF m 19 #[.val (.ref a1), .val (.int 1), .val (.int (-1 : Int32)), .unset] [(.int (ct + (1 : Int32))), (.ref a1)]))
  refine own_putF S3 (host := "") (Or.inl (own_w hw 34 rfl)) Via.refl F_count E_a1 (Or.inl (own_w hw 35 rfl)) (own_w hw 3 rfl) (ty := .int) (by decide) rfl rfl d6_19 (own_news_may ga) (fun T4 h4 S4 W4 => ?_)
  have Fw4 := F_count.same W4
  show own_F p e below s Z _ _ _ _ _ (T4.setTop (mkF m 22 #[.val (.ref a1), .val (.int 1), .val (.int (-1 : Int32)), .unset] []))
  refine own_F.of (fun _ => XS.goto S4.here S4.hx rfl (pc0 := 22) (pc' := 70) rfl (S4.dec d6_22) (by decide) (by decide)) ?_
  show own_F p e below s Z _ _ _ _ _ (T4.setTop (mkF m 70 #[.val (.ref a1), .val (.int 1), .val (.int (-1 : Int32)), .unset] []))
  refine own_F.of (fun _ => XS.aloadN S4.here S4.hx rfl (S4.dec d6_70) rfl rfl) ?_
  refine own_F.of (fun _ => XS.iloadN S4.here S4.hx rfl (S4.dec d6_71) rfl) ?_
  show own_F p e below s Z _ _ _ _ _ (T4.setTop (mkF m 72 #[.val (.ref a1), .val (.int 1), .val (.int (-1 : Int32)), .unset] [(.int 1), (.ref a1)]))
  have fq5 := (E_a1.wr W4)
  have fq6 := (F_buckets.other W4 (Or.inr (slot_ne (C := "com/example/slackweave/slackweave/paths/RadixHeap") (Or.inr (own_w hw 14 rfl)) (Or.inl (own_w hw 35 rfl)) (by decide) (t := (.array (.array .int))) (t' := .int) (by decide) (by decide))))
  have fq7 := (F_sizes.other W4 (Or.inr (slot_ne (C := "com/example/slackweave/slackweave/paths/RadixHeap") (Or.inr (own_w hw 17 rfl)) (Or.inl (own_w hw 35 rfl)) (by decide) (t := (.array .int)) (t' := .int) (by decide) (by decide))))
  have fq8 := (F_keys.other W4 (Or.inr (slot_ne (C := "com/example/slackweave/slackweave/paths/RadixHeap") (Or.inr (own_w hw 19 rfl)) (Or.inl (own_w hw 35 rfl)) (by decide) (t := (.array .long)) (t' := .int) (by decide) (by decide))))
  have fq9 := (F_bucketOf.other W4 (Or.inr (slot_ne (C := "com/example/slackweave/slackweave/paths/RadixHeap") (Or.inr (own_w hw 21 rfl)) (Or.inl (own_w hw 35 rfl)) (by decide) (t := (.array .int)) (t' := .int) (by decide) (by decide))))
  have fq10 := (F_positions.other W4 (Or.inr (slot_ne (C := "com/example/slackweave/slackweave/paths/RadixHeap") (Or.inr (own_w hw 27 rfl)) (Or.inl (own_w hw 35 rfl)) (by decide) (t := (.array .int)) (t' := .int) (by decide) (by decide))))
  have fq11 := (F_last.other W4 (Or.inr (slot_ne (C := "com/example/slackweave/slackweave/paths/RadixHeap") (Or.inl (own_w hw 50 rfl)) (Or.inl (own_w hw 35 rfl)) (by decide) (t := .long) (t' := .int) (by decide) (by decide))))
  have fq12 := (RB.other W4 (Ne.symm n1aB))
  have fq13 := (AS.other W4 (Ne.symm n1aS))
  have fq14 := (AK.other W4 (Ne.symm n1aK))
  have fq15 := (AO.other W4 (Ne.symm n1aO))
  have fq16 := (AP.other W4 (Ne.symm n1aP))
  have fq17 := (AI.other W4 (Ne.symm n1aI))
  have fq18 := (BK.oA E_a1 (own_w hw 3 rfl) W4)
  refine own_callP S4 (y := (⟨"com/example/slackweave/slackweave/paths/RadixHeap", "file", "(I)V"⟩ : MethodName)) (own_w hw 45 rfl) (own_w hw 46 rfl) (own_w hw 3 rfl) (own_w hw 47 rfl) (own_w hw 48 rfl) (own_w hw 4 rfl) (by decide) fq5 (argsL := [(.int (1 : Int32))]) (rest := []) (own_file1 l Z a0 hw a1 aB aS aK aO aP aI bk Cf bf pf la (ct + (1 : Int32)) (own_enc (bf 0)) (-1 : Int32) (own_enc (bf 2)) (pf 0).toInt32 (pf 1).toInt32 (pf 2).toInt32 y0 y1 y2 i0 i1 i2 h4 S4.old ⟨⟨ga, gB, gS, gO, gP, gI⟩, ⟨nSO, nSP, nOP⟩, fq5, fq6, fq7, fq8, fq9, fq10, fq11, Fw4, fq12, fq13, fq14, fq15, fq16, fq17, fq18⟩ AB hb hla hy) own_news_sub (by decide +kernel : parseMethodDescriptor "(I)V" = some ⟨[.int], none⟩) rfl rfl rfl d6_72 (by decide) (Nat.le_of_ble_eq_true rfl) (by decide) (by decide) (fun T19 h19 v19 S19 K19 q19 => ?_)
  obtain ⟨rfl, k19, bq19, cq19, hq19, -, H19, B19, -⟩ := q19
  show own_F p e below s Z _ _ _ _ _ (T19.setTop (mkF m 75 #[.val (.ref a1), .val (.int 1), .val (.int (-1 : Int32)), .unset] []))
  refine own_retV S19 d6_75 (by decide) (by decide) ?_
  exact ⟨rfl, k19, bq19, cq19, own_up pf 1 (own_hm bf k19), hq19, H19, B19⟩
set_option maxRecDepth 65536 in
set_option maxHeartbeats 40000000 in
theorem own_pushP1 (l : Launch) (Z : State) (a0 : Array Value) (hw : ∀ d ∈ tables_1, d.before a0 Z = true) (a1 aB aS aK aO aP aI : Addr) (bk : List Value) (Cf : Nat → List Value) (bf : Nat → Option Nat) (pf : Nat → Nat) (la : Int64) (ct : Int32) (y0 y1 y2 : Int64) (i0 i1 i2 : Int32) (kn : Nat) (h0 : Heap) (hO : Ext Z.heap h0) (H : own_RH Z h0 a1 aB aS aK aO aP aI bk Cf bf la ct (own_enc (bf 0)) kn.toInt32 (own_enc (bf 2)) (pf 0).toInt32 (pf 1).toInt32 (pf 2).toInt32 y0 y1 y2 i0 i1 i2) (AB : own_AB bf pf bk Cf) (hb : bf 1 = some kn) (hla : ¬ la < 0) (hy : ¬ y1 < 0) :
    own_C l Z (⟨"com/example/slackweave/slackweave/paths/RadixHeap", "push", "(I)V"⟩ : MethodName) prog_77_method_3_code 4 none [] ({ frames := 3, cells := 1, slots := 16, locals := 46 } : Room) (own_news Z h0) #[(.ref a1), (.int (1 : Int32))] h0 (fun v h => v = none ∧ ∃ (k : Nat) (bk' : List Value) (C' : Nat → List Value) (p' : Nat → Nat), k < 64 ∧ own_RH Z h a1 aB aS aK aO aP aI bk' C' (own_up bf 1 (some k)) la ct (own_enc ((own_up bf 1 (some k)) 0)) (own_enc ((own_up bf 1 (some k)) 1)) (own_enc ((own_up bf 1 (some k)) 2)) (p' 0).toInt32 (p' 1).toInt32 (p' 2).toInt32 y0 y1 y2 i0 i1 i2 ∧ own_AB (own_up bf 1 (some k)) p' bk' C') := by
  refine own_C.of pn6 hO own_news_le ?_
  intro p e s m below meth c T0 S0
  refine own_F.cast (by first | (simp [entryFrame, mkF, argsToLocals, Value.category]; done) | rfl : entryFrame m #[(.ref a1), (.int (1 : Int32))] 4 = mkF m 0 #[.val (.ref a1), .val (.int (1 : Int32)), .unset, .unset] []) ?_
  obtain ⟨⟨ga, gB, gS, gO, gP, gI⟩, ⟨nSO, nSP, nOP⟩, E_a1, F_buckets, F_sizes, F_keys, F_bucketOf, F_positions, F_last, F_count, RB, AS, AK, AO, AP, AI, BK⟩ := H
  have n1aB := own_neA E_a1 (own_w hw 3 rfl) RB.A
  have naBaS := own_A.neT RB.A AS (by decide)
  have naBaK := own_A.neT RB.A AK (by decide)
  have naBaO := own_A.neT RB.A AO (by decide)
  have naBaP := own_A.neT RB.A AP (by decide)
  have naBaI := own_A.neT RB.A AI (by decide)
  have n1aS := own_neA E_a1 (own_w hw 3 rfl) AS
  have naSaK := own_A.neT AS AK (by decide)
  have naSaI := own_A.neT AS AI (by decide)
  have n1aK := own_neA E_a1 (own_w hw 3 rfl) AK
  have naKaO := own_A.neT AK AO (by decide)
  have naKaP := own_A.neT AK AP (by decide)
  have naKaI := own_A.neT AK AI (by decide)
  have n1aO := own_neA E_a1 (own_w hw 3 rfl) AO
  have naOaI := own_A.neT AO AI (by decide)
  have n1aP := own_neA E_a1 (own_w hw 3 rfl) AP
  have naPaI := own_A.neT AP AI (by decide)
  have n1aI := own_neA E_a1 (own_w hw 3 rfl) AI
  obtain ⟨hkn, hpn, ⟨r, hv⟩, hcn⟩ := AB.1 1 kn (by decide) hb
  obtain ⟨cc, hcc⟩ : ∃ cc, own_hm bf kn = cc + 1 := ⟨own_hm bf kn - 1, by have := own_hm_pos (n := 1) (by decide) hb; omega⟩
  have h3 := own_hm_le bf kn
  have sm := own_small (n := cc) (by omega)
  have sp := own_small (n := pf 1) (by omega)
  have m1aS := (BK.2.1 _ _ hv).2.2.2.1
  have m1aO := (BK.2.1 _ _ hv).2.2.2.2.1
  have m1aP := (BK.2.1 _ _ hv).2.2.2.2.2
  have m1aB := own_A.neT (BK.2.1 _ _ hv).1 RB.A (by decide)
  have m1aK := own_A.neT (BK.2.1 _ _ hv).1 AK (by decide)
  have m1aI := own_A.neT (BK.2.1 _ _ hv).1 AI (by decide)
  have m1a1 := own_neA E_a1 (own_w hw 3 rfl) (BK.2.1 _ _ hv).1
  have hl := (BK.2.1 _ _ hv).2.1
  show own_F p e below s Z _ _ _ _ _ (T0.setTop (mkF m 0 #[.val (.ref a1), .val (.int 1), .unset, .unset] []))
  refine own_F.of (fun _ => XS.aloadN S0.here S0.hx rfl (S0.dec d6_0) rfl rfl) ?_
  show own_F p e below s Z _ _ _ _ _ (T0.setTop (mkF m 1 #[.val (.ref a1), .val (.int 1), .unset, .unset] [(.ref a1)]))
  refine own_getF S0 (host := "") (Or.inl (own_w hw 20 rfl)) Via.refl F_bucketOf d6_1 (fun T2 S2 => ?_)
  show own_F p e below s Z _ _ _ _ _ (T2.setTop (mkF m 4 #[.val (.ref a1), .val (.int 1), .unset, .unset] [(.ref aO)]))
  refine own_F.of (fun _ => XS.iloadN S2.here S2.hx rfl (S2.dec d6_4) rfl) ?_
  show own_F p e below s Z _ _ _ _ _ (T2.setTop (mkF m 5 #[.val (.ref a1), .val (.int 1), .unset, .unset] [(.int 1), (.ref aO)]))
  refine own_iald S2 AO (by decide) rfl d6_5 ?_
  show own_F p e below s Z _ _ _ _ _ (T2.setTop (mkF m 6 #[.val (.ref a1), .val (.int 1), .unset, .unset] [(.int kn.toInt32)]))
  refine own_F.of (fun _ => XS.istoreN S2.here S2.hx rfl (S2.dec d6_6) rfl (l' := #[.val (.ref a1), .val (.int 1), .val (.int kn.toInt32), .unset]) rfl) ?_
  refine own_F.of (fun _ => XS.iloadN S2.here S2.hx rfl (S2.dec d6_7) rfl) ?_
  refine own_F.of (fun _ => XS.iconst S2.here S2.hx rfl (S2.dec d6_8)) ?_
  show own_F p e below s Z _ _ _ _ _ (T2.setTop (mkF m 9 #[.val (.ref a1), .val (.int 1), .val (.int kn.toInt32), .unset] [(.int (-1 : Int32)), (.int kn.toInt32)]))
  refine own_icmp S2 25 d6_9 (by decide) (by decide) (fun (hc9_3 : ¬ (kn.toInt32 = (-1 : Int32))) => ?_) (fun (hc9_3 : kn.toInt32 = (-1 : Int32)) => False.elim (own_kne hkn hc9_3))
  show own_F p e below s Z _ _ _ _ _ (T2.setTop (mkF m 25 #[.val (.ref a1), .val (.int 1), .val (.int kn.toInt32), .unset] []))
  refine own_F.of (fun _ => XS.aloadN S2.here S2.hx rfl (S2.dec d6_25) rfl rfl) ?_
  show own_F p e below s Z _ _ _ _ _ (T2.setTop (mkF m 26 #[.val (.ref a1), .val (.int 1), .val (.int kn.toInt32), .unset] [(.ref a1)]))
  refine own_getF S2 (host := "") (Or.inl (own_w hw 13 rfl)) Via.refl F_buckets d6_26 (fun T4 S4 => ?_)
  show own_F p e below s Z _ _ _ _ _ (T4.setTop (mkF m 29 #[.val (.ref a1), .val (.int 1), .val (.int kn.toInt32), .unset] [(.ref aB)]))
  refine own_F.of (fun _ => XS.iloadN S4.here S4.hx rfl (S4.dec d6_29) rfl) ?_
  show own_F p e below s Z _ _ _ _ _ (T4.setTop (mkF m 30 #[.val (.ref a1), .val (.int 1), .val (.int kn.toInt32), .unset] [(.int kn.toInt32), (.ref aB)]))
  refine own_aald S4 RB.A rfl (own_64 hkn).2.1 (by rw [(own_64 hkn).1]; exact hv) d6_30 ?_
  show own_F p e below s Z _ _ _ _ _ (T4.setTop (mkF m 31 #[.val (.ref a1), .val (.int 1), .val (.int kn.toInt32), .unset] [(.ref r)]))
  refine own_F.of (fun _ => XS.aloadN S4.here S4.hx rfl (S4.dec d6_31) rfl rfl) ?_
  show own_F p e below s Z _ _ _ _ _ (T4.setTop (mkF m 32 #[.val (.ref a1), .val (.int 1), .val (.int kn.toInt32), .unset] [(.ref a1), (.ref r)]))
  refine own_getF S4 (host := "") (Or.inl (own_w hw 16 rfl)) Via.refl F_sizes d6_32 (fun T5 S5 => ?_)
  show own_F p e below s Z _ _ _ _ _ (T5.setTop (mkF m 35 #[.val (.ref a1), .val (.int 1), .val (.int kn.toInt32), .unset] [(.ref aS), (.ref r)]))
  refine own_F.of (fun _ => XS.iloadN S5.here S5.hx rfl (S5.dec d6_35) rfl) ?_
  show own_F p e below s Z _ _ _ _ _ (T5.setTop (mkF m 36 #[.val (.ref a1), .val (.int 1), .val (.int kn.toInt32), .unset] [(.int kn.toInt32), (.ref aS), (.ref r)]))
  refine own_F.of (fun _ => XT.dup2 S5.here S5.hx rfl (S5.dec d6_36) rfl rfl rfl) ?_
  show own_F p e below s Z _ _ _ _ _ (T5.setTop (mkF m 37 #[.val (.ref a1), .val (.int 1), .val (.int kn.toInt32), .unset] [(.int kn.toInt32), (.ref aS), (.int kn.toInt32), (.ref aS), (.ref r)]))
  refine own_iald S5 AS (own_64 hkn).2.1 (by rw [(own_64 hkn).1, own_szat bf hkn, hcc]) d6_37 ?_
  show own_F p e below s Z _ _ _ _ _ (T5.setTop (mkF m 38 #[.val (.ref a1), .val (.int 1), .val (.int kn.toInt32), .unset] [(.int (cc + 1).toInt32), (.int kn.toInt32), (.ref aS), (.ref r)]))
  refine own_F.of (fun _ => XS.iconst S5.here S5.hx rfl (S5.dec d6_38)) ?_
  show own_F p e below s Z _ _ _ _ _ (T5.setTop (mkF m 39 #[.val (.ref a1), .val (.int 1), .val (.int kn.toInt32), .unset] [(.int 1), (.int (cc + 1).toInt32), (.int kn.toInt32), (.ref aS), (.ref r)]))
  refine own_F.of (fun _ => XS.isub S5.here S5.hx rfl (S5.dec d6_39) rfl) ?_
  show own_F p e below s Z _ _ _ _ _ (T5.setTop (mkF m 40 #[.val (.ref a1), .val (.int 1), .val (.int kn.toInt32), .unset] [(.int ((cc + 1).toInt32 - (1 : Int32))), (.int kn.toInt32), (.ref aS), (.ref r)]))
  rw [own_pre (n := cc) (by omega)]
  show own_F p e below s Z _ _ _ _ _ (T5.setTop (mkF m 40 #[.val (.ref a1), .val (.int 1), .val (.int kn.toInt32), .unset] [(.int cc.toInt32), (.int kn.toInt32), (.ref aS), (.ref r)]))
  refine own_F.of (fun _ => own_dupX2 S5.here S5.hx rfl (S5.dec d6_40) rfl rfl rfl rfl) ?_
  show own_F p e below s Z _ _ _ _ _ (T5.setTop (mkF m 41 #[.val (.ref a1), .val (.int 1), .val (.int kn.toInt32), .unset] [(.int cc.toInt32), (.int kn.toInt32), (.ref aS), (.int cc.toInt32), (.ref r)]))
  refine own_ist S5 AS (own_64 hkn).2.1 (by rw [(own_64 hkn).1, own_szlen]; exact hkn) d6_41 (own_news_may gS) (fun T6 h6 S6 W6 A6 => ?_)
  have B6 := own_szrem (n := 1) (by decide) hb hkn hcc A6
  show own_F p e below s Z _ _ _ _ _ (T6.setTop (mkF m 42 #[.val (.ref a1), .val (.int 1), .val (.int kn.toInt32), .unset] [(.int cc.toInt32), (.ref r)]))
  obtain ⟨mm, hm3, hbm, hpm⟩ := own_last AB hcc
  have hm := (AB.1 mm kn hm3 hbm).2.2.2
  rw [hpm] at hm
  obtain rfl | rfl | rfl : mm = 0 ∨ mm = 1 ∨ mm = 2 := by omega
  · show own_F p e below s Z _ _ _ _ _ (T6.setTop (mkF m 42 #[.val (.ref a1), .val (.int 1), .val (.int kn.toInt32), .unset] [(.int cc.toInt32), (.ref r)]))
    have fq7 := (BK.oS W6)
    refine own_iald S6 (fq7.2.1 _ _ hv).1 sm.2.1 (by rw [sm.1]; exact hm) d6_42 ?_
    show own_F p e below s Z _ _ _ _ _ (T6.setTop (mkF m 43 #[.val (.ref a1), .val (.int 1), .val (.int kn.toInt32), .unset] [(.int 0)]))
    refine own_F.of (fun _ => XS.istoreN S6.here S6.hx rfl (S6.dec d6_43) rfl (l' := #[.val (.ref a1), .val (.int 1), .val (.int kn.toInt32), .val (.int 0)]) rfl) ?_
    refine own_F.of (fun _ => XS.aloadN S6.here S6.hx rfl (S6.dec d6_44) rfl rfl) ?_
    show own_F p e below s Z _ _ _ _ _ (T6.setTop (mkF m 45 #[.val (.ref a1), .val (.int 1), .val (.int kn.toInt32), .val (.int 0)] [(.ref a1)]))
    have fq8 := (F_buckets.other W6 (Or.inl n1aS))
    refine own_getF S6 (host := "") (Or.inl (own_w hw 13 rfl)) Via.refl fq8 d6_45 (fun T9 S9 => ?_)
    show own_F p e below s Z _ _ _ _ _ (T9.setTop (mkF m 48 #[.val (.ref a1), .val (.int 1), .val (.int kn.toInt32), .val (.int 0)] [(.ref aB)]))
    refine own_F.of (fun _ => XS.iloadN S9.here S9.hx rfl (S9.dec d6_48) rfl) ?_
    show own_F p e below s Z _ _ _ _ _ (T9.setTop (mkF m 49 #[.val (.ref a1), .val (.int 1), .val (.int kn.toInt32), .val (.int 0)] [(.int kn.toInt32), (.ref aB)]))
    have fq10 := (RB.other W6 naBaS)
    refine own_aald S9 fq10.A rfl (own_64 hkn).2.1 (by rw [(own_64 hkn).1]; exact hv) d6_49 ?_
    show own_F p e below s Z _ _ _ _ _ (T9.setTop (mkF m 50 #[.val (.ref a1), .val (.int 1), .val (.int kn.toInt32), .val (.int 0)] [(.ref r)]))
    refine own_F.of (fun _ => XS.aloadN S9.here S9.hx rfl (S9.dec d6_50) rfl rfl) ?_
    show own_F p e below s Z _ _ _ _ _ (T9.setTop (mkF m 51 #[.val (.ref a1), .val (.int 1), .val (.int kn.toInt32), .val (.int 0)] [(.ref a1), (.ref r)]))
    have fq11 := (F_positions.other W6 (Or.inl n1aS))
    refine own_getF S9 (host := "") (Or.inl (own_w hw 26 rfl)) Via.refl fq11 d6_51 (fun T12 S12 => ?_)
    show own_F p e below s Z _ _ _ _ _ (T12.setTop (mkF m 54 #[.val (.ref a1), .val (.int 1), .val (.int kn.toInt32), .val (.int 0)] [(.ref aP), (.ref r)]))
    refine own_F.of (fun _ => XS.iloadN S12.here S12.hx rfl (S12.dec d6_54) rfl) ?_
    show own_F p e below s Z _ _ _ _ _ (T12.setTop (mkF m 55 #[.val (.ref a1), .val (.int 1), .val (.int kn.toInt32), .val (.int 0)] [(.int 1), (.ref aP), (.ref r)]))
    have fq13 := (AP.other W6 (Ne.symm nSP))
    refine own_iald S12 fq13 (by decide) rfl d6_55 ?_
    show own_F p e below s Z _ _ _ _ _ (T12.setTop (mkF m 56 #[.val (.ref a1), .val (.int 1), .val (.int kn.toInt32), .val (.int 0)] [(.int (pf 1).toInt32), (.ref r)]))
    refine own_F.of (fun _ => XS.iloadN S12.here S12.hx rfl (S12.dec d6_56) rfl) ?_
    show own_F p e below s Z _ _ _ _ _ (T12.setTop (mkF m 57 #[.val (.ref a1), .val (.int 1), .val (.int kn.toInt32), .val (.int 0)] [(.int 0), (.int (pf 1).toInt32), (.ref r)]))
    refine own_ist S12 (fq7.2.1 _ _ hv).1 sp.2.1 (by rw [sp.1, (fq7.2.1 _ _ hv).2.1]; omega) d6_57 (own_news_may (BK.2.1 _ _ hv).2.2.1) (fun T14 h14 S14 W14 A14 => ?_)
    have D14 := own_BK.put fq7 hv W14
    rw [sp.1] at D14
    have ac14 := own_AB.rem AB (n := 1) (m := 0) (by decide) (by decide) hb hbm hcc hpm hl
    show own_F p e below s Z _ _ _ _ _ (T14.setTop (mkF m 58 #[.val (.ref a1), .val (.int 1), .val (.int kn.toInt32), .val (.int 0)] []))
    refine own_F.of (fun _ => XS.aloadN S14.here S14.hx rfl (S14.dec d6_58) rfl rfl) ?_
    show own_F p e below s Z _ _ _ _ _ (T14.setTop (mkF m 59 #[.val (.ref a1), .val (.int 1), .val (.int kn.toInt32), .val (.int 0)] [(.ref a1)]))
    have fq15 := (fq11.other W14 (Or.inl m1a1))
    refine own_getF S14 (host := "") (Or.inl (own_w hw 26 rfl)) Via.refl fq15 d6_59 (fun T16 S16 => ?_)
    show own_F p e below s Z _ _ _ _ _ (T16.setTop (mkF m 62 #[.val (.ref a1), .val (.int 1), .val (.int kn.toInt32), .val (.int 0)] [(.ref aP)]))
    refine own_F.of (fun _ => XS.iloadN S16.here S16.hx rfl (S16.dec d6_62) rfl) ?_
    refine own_F.of (fun _ => XS.aloadN S16.here S16.hx rfl (S16.dec d6_63) rfl rfl) ?_
    show own_F p e below s Z _ _ _ _ _ (T16.setTop (mkF m 64 #[.val (.ref a1), .val (.int 1), .val (.int kn.toInt32), .val (.int 0)] [(.ref a1), (.int 0), (.ref aP)]))
    refine own_getF S16 (host := "") (Or.inl (own_w hw 26 rfl)) Via.refl fq15 d6_64 (fun T17 S17 => ?_)
    show own_F p e below s Z _ _ _ _ _ (T17.setTop (mkF m 67 #[.val (.ref a1), .val (.int 1), .val (.int kn.toInt32), .val (.int 0)] [(.ref aP), (.int 0), (.ref aP)]))
    refine own_F.of (fun _ => XS.iloadN S17.here S17.hx rfl (S17.dec d6_67) rfl) ?_
    show own_F p e below s Z _ _ _ _ _ (T17.setTop (mkF m 68 #[.val (.ref a1), .val (.int 1), .val (.int kn.toInt32), .val (.int 0)] [(.int 1), (.ref aP), (.int 0), (.ref aP)]))
    have fq18 := (fq13.other W14 (Ne.symm m1aP))
    refine own_iald S17 fq18 (by decide) rfl d6_68 ?_
    show own_F p e below s Z _ _ _ _ _ (T17.setTop (mkF m 69 #[.val (.ref a1), .val (.int 1), .val (.int kn.toInt32), .val (.int 0)] [(.int (pf 1).toInt32), (.int 0), (.ref aP)]))
    refine own_ist S17 fq18 (by decide) (Nat.le_of_ble_eq_true rfl) d6_69 (own_news_may gP) (fun T19 h19 S19 W19 A19 => ?_)
    have V20 : own_A Z h19 aP .int [(.int (pf 1).toInt32), (.int (pf 1).toInt32), (.int (pf 2).toInt32)] := A19
    show own_F p e below s Z _ _ _ _ _ (T19.setTop (mkF m 70 #[.val (.ref a1), .val (.int 1), .val (.int kn.toInt32), .val (.int 0)] []))
    refine own_F.of (fun _ => XS.aloadN S19.here S19.hx rfl (S19.dec d6_70) rfl rfl) ?_
    refine own_F.of (fun _ => XS.iloadN S19.here S19.hx rfl (S19.dec d6_71) rfl) ?_
    show own_F p e below s Z _ _ _ _ _ (T19.setTop (mkF m 72 #[.val (.ref a1), .val (.int 1), .val (.int kn.toInt32), .val (.int 0)] [(.int 1), (.ref a1)]))
    have fq21 := (((E_a1.wr W6).wr W14).wr W19)
    have fq22 := ((fq8.other W14 (Or.inl m1a1)).other W19 (Or.inl n1aP))
    have fq23 := (((F_sizes.other W6 (Or.inl n1aS)).other W14 (Or.inl m1a1)).other W19 (Or.inl n1aP))
    have fq24 := (((F_keys.other W6 (Or.inl n1aS)).other W14 (Or.inl m1a1)).other W19 (Or.inl n1aP))
    have fq25 := (((F_bucketOf.other W6 (Or.inl n1aS)).other W14 (Or.inl m1a1)).other W19 (Or.inl n1aP))
    have fq26 := (fq15.other W19 (Or.inl n1aP))
    have fq27 := (((F_last.other W6 (Or.inl n1aS)).other W14 (Or.inl m1a1)).other W19 (Or.inl n1aP))
    have fq28 := (((F_count.other W6 (Or.inl n1aS)).other W14 (Or.inl m1a1)).other W19 (Or.inl n1aP))
    have fq29 := ((fq10.other W14 (Ne.symm m1aB)).other W19 naBaP)
    have fq30 := ((B6.other W14 (Ne.symm m1aS)).other W19 nSP)
    have fq31 := (((AK.other W6 (Ne.symm naSaK)).other W14 (Ne.symm m1aK)).other W19 naKaP)
    have fq32 := (((AO.other W6 (Ne.symm nSO)).other W14 (Ne.symm m1aO)).other W19 nOP)
    have fq33 := (((AI.other W6 (Ne.symm naSaI)).other W14 (Ne.symm m1aI)).other W19 (Ne.symm naPaI))
    have fq34 := (D14.oP W19)
    refine own_callP S19 (y := (⟨"com/example/slackweave/slackweave/paths/RadixHeap", "file", "(I)V"⟩ : MethodName)) (own_w hw 45 rfl) (own_w hw 46 rfl) (own_w hw 3 rfl) (own_w hw 47 rfl) (own_w hw 48 rfl) (own_w hw 4 rfl) (by decide) fq21 (argsL := [(.int (1 : Int32))]) (rest := []) (own_file1 l Z a0 hw a1 aB aS aK aO aP aI bk (own_up Cf kn ((Cf kn).set (pf 1) (.int (0 : Int32)))) (own_up bf 1 none) (own_up pf 0 (pf 1)) la ct (own_enc (bf 0)) kn.toInt32 (own_enc (bf 2)) (pf 1).toInt32 (pf 1).toInt32 (pf 2).toInt32 y0 y1 y2 i0 i1 i2 h19 S19.old ⟨⟨ga, gB, gS, gO, gP, gI⟩, ⟨nSO, nSP, nOP⟩, fq21, fq22, fq23, fq24, fq25, fq26, fq27, fq28, fq29, fq30, fq31, fq32, V20, fq33, fq34⟩ ac14 rfl hla hy) own_news_sub (by decide +kernel : parseMethodDescriptor "(I)V" = some ⟨[.int], none⟩) rfl rfl rfl d6_72 (by decide) (Nat.le_of_ble_eq_true rfl) (by decide) (by decide) (fun T35 h35 v35 S35 K35 q35 => ?_)
    obtain ⟨rfl, k35, bq35, cq35, hq35, -, H35, B35, -⟩ := q35
    show own_F p e below s Z _ _ _ _ _ (T35.setTop (mkF m 75 #[.val (.ref a1), .val (.int 1), .val (.int kn.toInt32), .val (.int 0)] []))
    refine own_retV S35 d6_75 (by decide) (by decide) ?_
    rw [own_up2] at H35 B35
    exact ⟨rfl, k35, bq35, cq35, own_up (own_up pf 0 (pf 1)) 1 (own_hm (own_up bf 1 none) k35), hq35, H35, B35⟩
  · show own_F p e below s Z _ _ _ _ _ (T6.setTop (mkF m 42 #[.val (.ref a1), .val (.int 1), .val (.int kn.toInt32), .unset] [(.int cc.toInt32), (.ref r)]))
    have fq36 := (BK.oS W6)
    refine own_iald S6 (fq36.2.1 _ _ hv).1 sm.2.1 (by rw [sm.1]; exact hm) d6_42 ?_
    show own_F p e below s Z _ _ _ _ _ (T6.setTop (mkF m 43 #[.val (.ref a1), .val (.int 1), .val (.int kn.toInt32), .unset] [(.int 1)]))
    refine own_F.of (fun _ => XS.istoreN S6.here S6.hx rfl (S6.dec d6_43) rfl (l' := #[.val (.ref a1), .val (.int 1), .val (.int kn.toInt32), .val (.int 1)]) rfl) ?_
    refine own_F.of (fun _ => XS.aloadN S6.here S6.hx rfl (S6.dec d6_44) rfl rfl) ?_
    show own_F p e below s Z _ _ _ _ _ (T6.setTop (mkF m 45 #[.val (.ref a1), .val (.int 1), .val (.int kn.toInt32), .val (.int 1)] [(.ref a1)]))
    have fq37 := (F_buckets.other W6 (Or.inl n1aS))
    refine own_getF S6 (host := "") (Or.inl (own_w hw 13 rfl)) Via.refl fq37 d6_45 (fun T38 S38 => ?_)
    show own_F p e below s Z _ _ _ _ _ (T38.setTop (mkF m 48 #[.val (.ref a1), .val (.int 1), .val (.int kn.toInt32), .val (.int 1)] [(.ref aB)]))
    refine own_F.of (fun _ => XS.iloadN S38.here S38.hx rfl (S38.dec d6_48) rfl) ?_
    show own_F p e below s Z _ _ _ _ _ (T38.setTop (mkF m 49 #[.val (.ref a1), .val (.int 1), .val (.int kn.toInt32), .val (.int 1)] [(.int kn.toInt32), (.ref aB)]))
    have fq39 := (RB.other W6 naBaS)
    refine own_aald S38 fq39.A rfl (own_64 hkn).2.1 (by rw [(own_64 hkn).1]; exact hv) d6_49 ?_
    show own_F p e below s Z _ _ _ _ _ (T38.setTop (mkF m 50 #[.val (.ref a1), .val (.int 1), .val (.int kn.toInt32), .val (.int 1)] [(.ref r)]))
    refine own_F.of (fun _ => XS.aloadN S38.here S38.hx rfl (S38.dec d6_50) rfl rfl) ?_
    show own_F p e below s Z _ _ _ _ _ (T38.setTop (mkF m 51 #[.val (.ref a1), .val (.int 1), .val (.int kn.toInt32), .val (.int 1)] [(.ref a1), (.ref r)]))
    have fq40 := (F_positions.other W6 (Or.inl n1aS))
    refine own_getF S38 (host := "") (Or.inl (own_w hw 26 rfl)) Via.refl fq40 d6_51 (fun T41 S41 => ?_)
    show own_F p e below s Z _ _ _ _ _ (T41.setTop (mkF m 54 #[.val (.ref a1), .val (.int 1), .val (.int kn.toInt32), .val (.int 1)] [(.ref aP), (.ref r)]))
    refine own_F.of (fun _ => XS.iloadN S41.here S41.hx rfl (S41.dec d6_54) rfl) ?_
    show own_F p e below s Z _ _ _ _ _ (T41.setTop (mkF m 55 #[.val (.ref a1), .val (.int 1), .val (.int kn.toInt32), .val (.int 1)] [(.int 1), (.ref aP), (.ref r)]))
    have fq42 := (AP.other W6 (Ne.symm nSP))
    refine own_iald S41 fq42 (by decide) rfl d6_55 ?_
    show own_F p e below s Z _ _ _ _ _ (T41.setTop (mkF m 56 #[.val (.ref a1), .val (.int 1), .val (.int kn.toInt32), .val (.int 1)] [(.int (pf 1).toInt32), (.ref r)]))
    refine own_F.of (fun _ => XS.iloadN S41.here S41.hx rfl (S41.dec d6_56) rfl) ?_
    show own_F p e below s Z _ _ _ _ _ (T41.setTop (mkF m 57 #[.val (.ref a1), .val (.int 1), .val (.int kn.toInt32), .val (.int 1)] [(.int 1), (.int (pf 1).toInt32), (.ref r)]))
    refine own_ist S41 (fq36.2.1 _ _ hv).1 sp.2.1 (by rw [sp.1, (fq36.2.1 _ _ hv).2.1]; omega) d6_57 (own_news_may (BK.2.1 _ _ hv).2.2.1) (fun T43 h43 S43 W43 A43 => ?_)
    have D43 := own_BK.put fq36 hv W43
    rw [sp.1] at D43
    have ac43 := own_AB.rem AB (n := 1) (m := 1) (by decide) (by decide) hb hbm hcc hpm hl
    show own_F p e below s Z _ _ _ _ _ (T43.setTop (mkF m 58 #[.val (.ref a1), .val (.int 1), .val (.int kn.toInt32), .val (.int 1)] []))
    refine own_F.of (fun _ => XS.aloadN S43.here S43.hx rfl (S43.dec d6_58) rfl rfl) ?_
    show own_F p e below s Z _ _ _ _ _ (T43.setTop (mkF m 59 #[.val (.ref a1), .val (.int 1), .val (.int kn.toInt32), .val (.int 1)] [(.ref a1)]))
    have fq44 := (fq40.other W43 (Or.inl m1a1))
    refine own_getF S43 (host := "") (Or.inl (own_w hw 26 rfl)) Via.refl fq44 d6_59 (fun T45 S45 => ?_)
    show own_F p e below s Z _ _ _ _ _ (T45.setTop (mkF m 62 #[.val (.ref a1), .val (.int 1), .val (.int kn.toInt32), .val (.int 1)] [(.ref aP)]))
    refine own_F.of (fun _ => XS.iloadN S45.here S45.hx rfl (S45.dec d6_62) rfl) ?_
    refine own_F.of (fun _ => XS.aloadN S45.here S45.hx rfl (S45.dec d6_63) rfl rfl) ?_
    show own_F p e below s Z _ _ _ _ _ (T45.setTop (mkF m 64 #[.val (.ref a1), .val (.int 1), .val (.int kn.toInt32), .val (.int 1)] [(.ref a1), (.int 1), (.ref aP)]))
    refine own_getF S45 (host := "") (Or.inl (own_w hw 26 rfl)) Via.refl fq44 d6_64 (fun T46 S46 => ?_)
    show own_F p e below s Z _ _ _ _ _ (T46.setTop (mkF m 67 #[.val (.ref a1), .val (.int 1), .val (.int kn.toInt32), .val (.int 1)] [(.ref aP), (.int 1), (.ref aP)]))
    refine own_F.of (fun _ => XS.iloadN S46.here S46.hx rfl (S46.dec d6_67) rfl) ?_
    show own_F p e below s Z _ _ _ _ _ (T46.setTop (mkF m 68 #[.val (.ref a1), .val (.int 1), .val (.int kn.toInt32), .val (.int 1)] [(.int 1), (.ref aP), (.int 1), (.ref aP)]))
    have fq47 := (fq42.other W43 (Ne.symm m1aP))
    refine own_iald S46 fq47 (by decide) rfl d6_68 ?_
    show own_F p e below s Z _ _ _ _ _ (T46.setTop (mkF m 69 #[.val (.ref a1), .val (.int 1), .val (.int kn.toInt32), .val (.int 1)] [(.int (pf 1).toInt32), (.int 1), (.ref aP)]))
    refine own_ist S46 fq47 (by decide) (Nat.le_of_ble_eq_true rfl) d6_69 (own_news_may gP) (fun T48 h48 S48 W48 A48 => ?_)
    have V49 : own_A Z h48 aP .int [(.int (pf 0).toInt32), (.int (pf 1).toInt32), (.int (pf 2).toInt32)] := A48
    show own_F p e below s Z _ _ _ _ _ (T48.setTop (mkF m 70 #[.val (.ref a1), .val (.int 1), .val (.int kn.toInt32), .val (.int 1)] []))
    refine own_F.of (fun _ => XS.aloadN S48.here S48.hx rfl (S48.dec d6_70) rfl rfl) ?_
    refine own_F.of (fun _ => XS.iloadN S48.here S48.hx rfl (S48.dec d6_71) rfl) ?_
    show own_F p e below s Z _ _ _ _ _ (T48.setTop (mkF m 72 #[.val (.ref a1), .val (.int 1), .val (.int kn.toInt32), .val (.int 1)] [(.int 1), (.ref a1)]))
    have fq50 := (((E_a1.wr W6).wr W43).wr W48)
    have fq51 := ((fq37.other W43 (Or.inl m1a1)).other W48 (Or.inl n1aP))
    have fq52 := (((F_sizes.other W6 (Or.inl n1aS)).other W43 (Or.inl m1a1)).other W48 (Or.inl n1aP))
    have fq53 := (((F_keys.other W6 (Or.inl n1aS)).other W43 (Or.inl m1a1)).other W48 (Or.inl n1aP))
    have fq54 := (((F_bucketOf.other W6 (Or.inl n1aS)).other W43 (Or.inl m1a1)).other W48 (Or.inl n1aP))
    have fq55 := (fq44.other W48 (Or.inl n1aP))
    have fq56 := (((F_last.other W6 (Or.inl n1aS)).other W43 (Or.inl m1a1)).other W48 (Or.inl n1aP))
    have fq57 := (((F_count.other W6 (Or.inl n1aS)).other W43 (Or.inl m1a1)).other W48 (Or.inl n1aP))
    have fq58 := ((fq39.other W43 (Ne.symm m1aB)).other W48 naBaP)
    have fq59 := ((B6.other W43 (Ne.symm m1aS)).other W48 nSP)
    have fq60 := (((AK.other W6 (Ne.symm naSaK)).other W43 (Ne.symm m1aK)).other W48 naKaP)
    have fq61 := (((AO.other W6 (Ne.symm nSO)).other W43 (Ne.symm m1aO)).other W48 nOP)
    have fq62 := (((AI.other W6 (Ne.symm naSaI)).other W43 (Ne.symm m1aI)).other W48 (Ne.symm naPaI))
    have fq63 := (D43.oP W48)
    refine own_callP S48 (y := (⟨"com/example/slackweave/slackweave/paths/RadixHeap", "file", "(I)V"⟩ : MethodName)) (own_w hw 45 rfl) (own_w hw 46 rfl) (own_w hw 3 rfl) (own_w hw 47 rfl) (own_w hw 48 rfl) (own_w hw 4 rfl) (by decide) fq50 (argsL := [(.int (1 : Int32))]) (rest := []) (own_file1 l Z a0 hw a1 aB aS aK aO aP aI bk (own_up Cf kn ((Cf kn).set (pf 1) (.int (1 : Int32)))) (own_up bf 1 none) (own_up pf 1 (pf 1)) la ct (own_enc (bf 0)) kn.toInt32 (own_enc (bf 2)) (pf 0).toInt32 (pf 1).toInt32 (pf 2).toInt32 y0 y1 y2 i0 i1 i2 h48 S48.old ⟨⟨ga, gB, gS, gO, gP, gI⟩, ⟨nSO, nSP, nOP⟩, fq50, fq51, fq52, fq53, fq54, fq55, fq56, fq57, fq58, fq59, fq60, fq61, V49, fq62, fq63⟩ ac43 rfl hla hy) own_news_sub (by decide +kernel : parseMethodDescriptor "(I)V" = some ⟨[.int], none⟩) rfl rfl rfl d6_72 (by decide) (Nat.le_of_ble_eq_true rfl) (by decide) (by decide) (fun T64 h64 v64 S64 K64 q64 => ?_)
    obtain ⟨rfl, k64, bq64, cq64, hq64, -, H64, B64, -⟩ := q64
    show own_F p e below s Z _ _ _ _ _ (T64.setTop (mkF m 75 #[.val (.ref a1), .val (.int 1), .val (.int kn.toInt32), .val (.int 1)] []))
    refine own_retV S64 d6_75 (by decide) (by decide) ?_
    rw [own_up2] at H64 B64
    exact ⟨rfl, k64, bq64, cq64, own_up (own_up pf 1 (pf 1)) 1 (own_hm (own_up bf 1 none) k64), hq64, H64, B64⟩
  · show own_F p e below s Z _ _ _ _ _ (T6.setTop (mkF m 42 #[.val (.ref a1), .val (.int 1), .val (.int kn.toInt32), .unset] [(.int cc.toInt32), (.ref r)]))
    have fq65 := (BK.oS W6)
    refine own_iald S6 (fq65.2.1 _ _ hv).1 sm.2.1 (by rw [sm.1]; exact hm) d6_42 ?_
    show own_F p e below s Z _ _ _ _ _ (T6.setTop (mkF m 43 #[.val (.ref a1), .val (.int 1), .val (.int kn.toInt32), .unset] [(.int 2)]))
    refine own_F.of (fun _ => XS.istoreN S6.here S6.hx rfl (S6.dec d6_43) rfl (l' := #[.val (.ref a1), .val (.int 1), .val (.int kn.toInt32), .val (.int 2)]) rfl) ?_
    refine own_F.of (fun _ => XS.aloadN S6.here S6.hx rfl (S6.dec d6_44) rfl rfl) ?_
    show own_F p e below s Z _ _ _ _ _ (T6.setTop (mkF m 45 #[.val (.ref a1), .val (.int 1), .val (.int kn.toInt32), .val (.int 2)] [(.ref a1)]))
    have fq66 := (F_buckets.other W6 (Or.inl n1aS))
    refine own_getF S6 (host := "") (Or.inl (own_w hw 13 rfl)) Via.refl fq66 d6_45 (fun T67 S67 => ?_)
    show own_F p e below s Z _ _ _ _ _ (T67.setTop (mkF m 48 #[.val (.ref a1), .val (.int 1), .val (.int kn.toInt32), .val (.int 2)] [(.ref aB)]))
    refine own_F.of (fun _ => XS.iloadN S67.here S67.hx rfl (S67.dec d6_48) rfl) ?_
    show own_F p e below s Z _ _ _ _ _ (T67.setTop (mkF m 49 #[.val (.ref a1), .val (.int 1), .val (.int kn.toInt32), .val (.int 2)] [(.int kn.toInt32), (.ref aB)]))
    have fq68 := (RB.other W6 naBaS)
    refine own_aald S67 fq68.A rfl (own_64 hkn).2.1 (by rw [(own_64 hkn).1]; exact hv) d6_49 ?_
    show own_F p e below s Z _ _ _ _ _ (T67.setTop (mkF m 50 #[.val (.ref a1), .val (.int 1), .val (.int kn.toInt32), .val (.int 2)] [(.ref r)]))
    refine own_F.of (fun _ => XS.aloadN S67.here S67.hx rfl (S67.dec d6_50) rfl rfl) ?_
    show own_F p e below s Z _ _ _ _ _ (T67.setTop (mkF m 51 #[.val (.ref a1), .val (.int 1), .val (.int kn.toInt32), .val (.int 2)] [(.ref a1), (.ref r)]))
    have fq69 := (F_positions.other W6 (Or.inl n1aS))
    refine own_getF S67 (host := "") (Or.inl (own_w hw 26 rfl)) Via.refl fq69 d6_51 (fun T70 S70 => ?_)
    show own_F p e below s Z _ _ _ _ _ (T70.setTop (mkF m 54 #[.val (.ref a1), .val (.int 1), .val (.int kn.toInt32), .val (.int 2)] [(.ref aP), (.ref r)]))
    refine own_F.of (fun _ => XS.iloadN S70.here S70.hx rfl (S70.dec d6_54) rfl) ?_
    show own_F p e below s Z _ _ _ _ _ (T70.setTop (mkF m 55 #[.val (.ref a1), .val (.int 1), .val (.int kn.toInt32), .val (.int 2)] [(.int 1), (.ref aP), (.ref r)]))
    have fq71 := (AP.other W6 (Ne.symm nSP))
    refine own_iald S70 fq71 (by decide) rfl d6_55 ?_
    show own_F p e below s Z _ _ _ _ _ (T70.setTop (mkF m 56 #[.val (.ref a1), .val (.int 1), .val (.int kn.toInt32), .val (.int 2)] [(.int (pf 1).toInt32), (.ref r)]))
    refine own_F.of (fun _ => XS.iloadN S70.here S70.hx rfl (S70.dec d6_56) rfl) ?_
    show own_F p e below s Z _ _ _ _ _ (T70.setTop (mkF m 57 #[.val (.ref a1), .val (.int 1), .val (.int kn.toInt32), .val (.int 2)] [(.int 2), (.int (pf 1).toInt32), (.ref r)]))
    refine own_ist S70 (fq65.2.1 _ _ hv).1 sp.2.1 (by rw [sp.1, (fq65.2.1 _ _ hv).2.1]; omega) d6_57 (own_news_may (BK.2.1 _ _ hv).2.2.1) (fun T72 h72 S72 W72 A72 => ?_)
    have D72 := own_BK.put fq65 hv W72
    rw [sp.1] at D72
    have ac72 := own_AB.rem AB (n := 1) (m := 2) (by decide) (by decide) hb hbm hcc hpm hl
    show own_F p e below s Z _ _ _ _ _ (T72.setTop (mkF m 58 #[.val (.ref a1), .val (.int 1), .val (.int kn.toInt32), .val (.int 2)] []))
    refine own_F.of (fun _ => XS.aloadN S72.here S72.hx rfl (S72.dec d6_58) rfl rfl) ?_
    show own_F p e below s Z _ _ _ _ _ (T72.setTop (mkF m 59 #[.val (.ref a1), .val (.int 1), .val (.int kn.toInt32), .val (.int 2)] [(.ref a1)]))
    have fq73 := (fq69.other W72 (Or.inl m1a1))
    refine own_getF S72 (host := "") (Or.inl (own_w hw 26 rfl)) Via.refl fq73 d6_59 (fun T74 S74 => ?_)
    show own_F p e below s Z _ _ _ _ _ (T74.setTop (mkF m 62 #[.val (.ref a1), .val (.int 1), .val (.int kn.toInt32), .val (.int 2)] [(.ref aP)]))
    refine own_F.of (fun _ => XS.iloadN S74.here S74.hx rfl (S74.dec d6_62) rfl) ?_
    refine own_F.of (fun _ => XS.aloadN S74.here S74.hx rfl (S74.dec d6_63) rfl rfl) ?_
    show own_F p e below s Z _ _ _ _ _ (T74.setTop (mkF m 64 #[.val (.ref a1), .val (.int 1), .val (.int kn.toInt32), .val (.int 2)] [(.ref a1), (.int 2), (.ref aP)]))
    refine own_getF S74 (host := "") (Or.inl (own_w hw 26 rfl)) Via.refl fq73 d6_64 (fun T75 S75 => ?_)
    show own_F p e below s Z _ _ _ _ _ (T75.setTop (mkF m 67 #[.val (.ref a1), .val (.int 1), .val (.int kn.toInt32), .val (.int 2)] [(.ref aP), (.int 2), (.ref aP)]))
    refine own_F.of (fun _ => XS.iloadN S75.here S75.hx rfl (S75.dec d6_67) rfl) ?_
    show own_F p e below s Z _ _ _ _ _ (T75.setTop (mkF m 68 #[.val (.ref a1), .val (.int 1), .val (.int kn.toInt32), .val (.int 2)] [(.int 1), (.ref aP), (.int 2), (.ref aP)]))
    have fq76 := (fq71.other W72 (Ne.symm m1aP))
    refine own_iald S75 fq76 (by decide) rfl d6_68 ?_
    show own_F p e below s Z _ _ _ _ _ (T75.setTop (mkF m 69 #[.val (.ref a1), .val (.int 1), .val (.int kn.toInt32), .val (.int 2)] [(.int (pf 1).toInt32), (.int 2), (.ref aP)]))
    refine own_ist S75 fq76 (by decide) (Nat.le_of_ble_eq_true rfl) d6_69 (own_news_may gP) (fun T77 h77 S77 W77 A77 => ?_)
    have V78 : own_A Z h77 aP .int [(.int (pf 0).toInt32), (.int (pf 1).toInt32), (.int (pf 1).toInt32)] := A77
    show own_F p e below s Z _ _ _ _ _ (T77.setTop (mkF m 70 #[.val (.ref a1), .val (.int 1), .val (.int kn.toInt32), .val (.int 2)] []))
    refine own_F.of (fun _ => XS.aloadN S77.here S77.hx rfl (S77.dec d6_70) rfl rfl) ?_
    refine own_F.of (fun _ => XS.iloadN S77.here S77.hx rfl (S77.dec d6_71) rfl) ?_
    show own_F p e below s Z _ _ _ _ _ (T77.setTop (mkF m 72 #[.val (.ref a1), .val (.int 1), .val (.int kn.toInt32), .val (.int 2)] [(.int 1), (.ref a1)]))
    have fq79 := (((E_a1.wr W6).wr W72).wr W77)
    have fq80 := ((fq66.other W72 (Or.inl m1a1)).other W77 (Or.inl n1aP))
    have fq81 := (((F_sizes.other W6 (Or.inl n1aS)).other W72 (Or.inl m1a1)).other W77 (Or.inl n1aP))
    have fq82 := (((F_keys.other W6 (Or.inl n1aS)).other W72 (Or.inl m1a1)).other W77 (Or.inl n1aP))
    have fq83 := (((F_bucketOf.other W6 (Or.inl n1aS)).other W72 (Or.inl m1a1)).other W77 (Or.inl n1aP))
    have fq84 := (fq73.other W77 (Or.inl n1aP))
    have fq85 := (((F_last.other W6 (Or.inl n1aS)).other W72 (Or.inl m1a1)).other W77 (Or.inl n1aP))
    have fq86 := (((F_count.other W6 (Or.inl n1aS)).other W72 (Or.inl m1a1)).other W77 (Or.inl n1aP))
    have fq87 := ((fq68.other W72 (Ne.symm m1aB)).other W77 naBaP)
    have fq88 := ((B6.other W72 (Ne.symm m1aS)).other W77 nSP)
    have fq89 := (((AK.other W6 (Ne.symm naSaK)).other W72 (Ne.symm m1aK)).other W77 naKaP)
    have fq90 := (((AO.other W6 (Ne.symm nSO)).other W72 (Ne.symm m1aO)).other W77 nOP)
    have fq91 := (((AI.other W6 (Ne.symm naSaI)).other W72 (Ne.symm m1aI)).other W77 (Ne.symm naPaI))
    have fq92 := (D72.oP W77)
    refine own_callP S77 (y := (⟨"com/example/slackweave/slackweave/paths/RadixHeap", "file", "(I)V"⟩ : MethodName)) (own_w hw 45 rfl) (own_w hw 46 rfl) (own_w hw 3 rfl) (own_w hw 47 rfl) (own_w hw 48 rfl) (own_w hw 4 rfl) (by decide) fq79 (argsL := [(.int (1 : Int32))]) (rest := []) (own_file1 l Z a0 hw a1 aB aS aK aO aP aI bk (own_up Cf kn ((Cf kn).set (pf 1) (.int (2 : Int32)))) (own_up bf 1 none) (own_up pf 2 (pf 1)) la ct (own_enc (bf 0)) kn.toInt32 (own_enc (bf 2)) (pf 0).toInt32 (pf 1).toInt32 (pf 1).toInt32 y0 y1 y2 i0 i1 i2 h77 S77.old ⟨⟨ga, gB, gS, gO, gP, gI⟩, ⟨nSO, nSP, nOP⟩, fq79, fq80, fq81, fq82, fq83, fq84, fq85, fq86, fq87, fq88, fq89, fq90, V78, fq91, fq92⟩ ac72 rfl hla hy) own_news_sub (by decide +kernel : parseMethodDescriptor "(I)V" = some ⟨[.int], none⟩) rfl rfl rfl d6_72 (by decide) (Nat.le_of_ble_eq_true rfl) (by decide) (by decide) (fun T93 h93 v93 S93 K93 q93 => ?_)
    obtain ⟨rfl, k93, bq93, cq93, hq93, -, H93, B93, -⟩ := q93
    show own_F p e below s Z _ _ _ _ _ (T93.setTop (mkF m 75 #[.val (.ref a1), .val (.int 1), .val (.int kn.toInt32), .val (.int 2)] []))
    refine own_retV S93 d6_75 (by decide) (by decide) ?_
    rw [own_up2] at H93 B93
    exact ⟨rfl, k93, bq93, cq93, own_up (own_up pf 2 (pf 1)) 1 (own_hm (own_up bf 1 none) k93), hq93, H93, B93⟩
set_option maxRecDepth 65536 in
set_option maxHeartbeats 40000000 in
theorem own_pushA2 (l : Launch) (Z : State) (a0 : Array Value) (hw : ∀ d ∈ tables_1, d.before a0 Z = true) (a1 aB aS aK aO aP aI : Addr) (bk : List Value) (Cf : Nat → List Value) (bf : Nat → Option Nat) (pf : Nat → Nat) (la : Int64) (ct : Int32) (y0 y1 y2 : Int64) (i0 i1 i2 : Int32) (h0 : Heap) (hO : Ext Z.heap h0) (H : own_RH Z h0 a1 aB aS aK aO aP aI bk Cf bf la ct (own_enc (bf 0)) (own_enc (bf 1)) (-1 : Int32) (pf 0).toInt32 (pf 1).toInt32 (pf 2).toInt32 y0 y1 y2 i0 i1 i2) (AB : own_AB bf pf bk Cf) (hb : bf 2 = none) (hla : ¬ la < 0) (hy : ¬ y2 < 0) :
    own_C l Z (⟨"com/example/slackweave/slackweave/paths/RadixHeap", "push", "(I)V"⟩ : MethodName) prog_77_method_3_code 4 none [] ({ frames := 3, cells := 1, slots := 16, locals := 46 } : Room) (own_news Z h0) #[(.ref a1), (.int (2 : Int32))] h0 (fun v h => v = none ∧ ∃ (k : Nat) (bk' : List Value) (C' : Nat → List Value) (p' : Nat → Nat), k < 64 ∧ own_RH Z h a1 aB aS aK aO aP aI bk' C' (own_up bf 2 (some k)) la (ct + (1 : Int32)) (own_enc ((own_up bf 2 (some k)) 0)) (own_enc ((own_up bf 2 (some k)) 1)) (own_enc ((own_up bf 2 (some k)) 2)) (p' 0).toInt32 (p' 1).toInt32 (p' 2).toInt32 y0 y1 y2 i0 i1 i2 ∧ own_AB (own_up bf 2 (some k)) p' bk' C') := by
  refine own_C.of pn6 hO own_news_le ?_
  intro p e s m below meth c T0 S0
  refine own_F.cast (by first | (simp [entryFrame, mkF, argsToLocals, Value.category]; done) | rfl : entryFrame m #[(.ref a1), (.int (2 : Int32))] 4 = mkF m 0 #[.val (.ref a1), .val (.int (2 : Int32)), .unset, .unset] []) ?_
  obtain ⟨⟨ga, gB, gS, gO, gP, gI⟩, ⟨nSO, nSP, nOP⟩, E_a1, F_buckets, F_sizes, F_keys, F_bucketOf, F_positions, F_last, F_count, RB, AS, AK, AO, AP, AI, BK⟩ := H
  have n1aB := own_neA E_a1 (own_w hw 3 rfl) RB.A
  have naBaS := own_A.neT RB.A AS (by decide)
  have naBaK := own_A.neT RB.A AK (by decide)
  have naBaO := own_A.neT RB.A AO (by decide)
  have naBaP := own_A.neT RB.A AP (by decide)
  have naBaI := own_A.neT RB.A AI (by decide)
  have n1aS := own_neA E_a1 (own_w hw 3 rfl) AS
  have naSaK := own_A.neT AS AK (by decide)
  have naSaI := own_A.neT AS AI (by decide)
  have n1aK := own_neA E_a1 (own_w hw 3 rfl) AK
  have naKaO := own_A.neT AK AO (by decide)
  have naKaP := own_A.neT AK AP (by decide)
  have naKaI := own_A.neT AK AI (by decide)
  have n1aO := own_neA E_a1 (own_w hw 3 rfl) AO
  have naOaI := own_A.neT AO AI (by decide)
  have n1aP := own_neA E_a1 (own_w hw 3 rfl) AP
  have naPaI := own_A.neT AP AI (by decide)
  have n1aI := own_neA E_a1 (own_w hw 3 rfl) AI
  show own_F p e below s Z _ _ _ _ _ (T0.setTop (mkF m 0 #[.val (.ref a1), .val (.int 2), .unset, .unset] []))
  refine own_F.of (fun _ => XS.aloadN S0.here S0.hx rfl (S0.dec d6_0) rfl rfl) ?_
  show own_F p e below s Z _ _ _ _ _ (T0.setTop (mkF m 1 #[.val (.ref a1), .val (.int 2), .unset, .unset] [(.ref a1)]))
  refine own_getF S0 (host := "") (Or.inl (own_w hw 20 rfl)) Via.refl F_bucketOf d6_1 (fun T1 S1 => ?_)
  show own_F p e below s Z _ _ _ _ _ (T1.setTop (mkF m 4 #[.val (.ref a1), .val (.int 2), .unset, .unset] [(.ref aO)]))
  refine own_F.of (fun _ => XS.iloadN S1.here S1.hx rfl (S1.dec d6_4) rfl) ?_
  show own_F p e below s Z _ _ _ _ _ (T1.setTop (mkF m 5 #[.val (.ref a1), .val (.int 2), .unset, .unset] [(.int 2), (.ref aO)]))
  refine own_iald S1 AO (by decide) rfl d6_5 ?_
  show own_F p e below s Z _ _ _ _ _ (T1.setTop (mkF m 6 #[.val (.ref a1), .val (.int 2), .unset, .unset] [(.int (-1 : Int32))]))
  refine own_F.of (fun _ => XS.istoreN S1.here S1.hx rfl (S1.dec d6_6) rfl (l' := #[.val (.ref a1), .val (.int 2), .val (.int (-1 : Int32)), .unset]) rfl) ?_
  refine own_F.of (fun _ => XS.iloadN S1.here S1.hx rfl (S1.dec d6_7) rfl) ?_
  refine own_F.of (fun _ => XS.iconst S1.here S1.hx rfl (S1.dec d6_8)) ?_
  show own_F p e below s Z _ _ _ _ _ (T1.setTop (mkF m 9 #[.val (.ref a1), .val (.int 2), .val (.int (-1 : Int32)), .unset] [(.int (-1 : Int32)), (.int (-1 : Int32))]))
  refine own_icmp S1 25 d6_9 (by decide) (by decide) (fun (hc9_2 : ¬ ((-1 : Int32) = (-1 : Int32))) => False.elim (absurd hc9_2 (by decide))) (fun (hc9_2 : (-1 : Int32) = (-1 : Int32)) => ?_)
  show own_F p e below s Z _ _ _ _ _ (T1.setTop (mkF m 12 #[.val (.ref a1), .val (.int 2), .val (.int (-1 : Int32)), .unset] []))
  refine own_F.of (fun _ => XS.aloadN S1.here S1.hx rfl (S1.dec d6_12) rfl rfl) ?_
  refine own_F.of (fun _ => XS.dup S1.here S1.hx rfl (S1.dec d6_13) rfl rfl) ?_
  show own_F p e below s Z _ _ _ _ _ (T1.setTop (mkF m 14 #[.val (.ref a1), .val (.int 2), .val (.int (-1 : Int32)), .unset] [(.ref a1), (.ref a1)]))
  refine own_getF S1 (host := "") (Or.inl (own_w hw 34 rfl)) Via.refl F_count d6_14 (fun T3 S3 => ?_)
  show own_F p e below s Z _ _ _ _ _ (T3.setTop (mkF m 17 #[.val (.ref a1), .val (.int 2), .val (.int (-1 : Int32)), .unset] [(.int ct), (.ref a1)]))
  refine own_F.of (fun _ => XS.iconst S3.here S3.hx rfl (S3.dec d6_17)) ?_
  show own_F p e below s Z _ _ _ _ _ (T3.setTop (mkF m 18 #[.val (.ref a1), .val (.int 2), .val (.int (-1 : Int32)), .unset] [(.int 1), (.int ct), (.ref a1)]))
  refine own_F.of (fun _ => XS.iadd S3.here S3.hx rfl (S3.dec d6_18) rfl) ?_
  show own_F p e below s Z _ _ _ _ _ (T3.setTop (mkF m 19 #[.val (.ref a1), .val (.int 2), .val (.int (-1 : Int32)), .unset] [(.int (ct + (1 : Int32))), (.ref a1)]))
  refine own_putF S3 (host := "") (Or.inl (own_w hw 34 rfl)) Via.refl F_count E_a1 (Or.inl (own_w hw 35 rfl)) (own_w hw 3 rfl) (ty := .int) (by decide) rfl rfl d6_19 (own_news_may ga) (fun T4 h4 S4 W4 => ?_)
  have Fw4 := F_count.same W4
  show own_F p e below s Z _ _ _ _ _ (T4.setTop (mkF m 22 #[.val (.ref a1), .val (.int 2), .val (.int (-1 : Int32)), .unset] []))
  refine own_F.of (fun _ => XS.goto S4.here S4.hx rfl (pc0 := 22) (pc' := 70) rfl (S4.dec d6_22) (by decide) (by decide)) ?_
  show own_F p e below s Z _ _ _ _ _ (T4.setTop (mkF m 70 #[.val (.ref a1), .val (.int 2), .val (.int (-1 : Int32)), .unset] []))
  refine own_F.of (fun _ => XS.aloadN S4.here S4.hx rfl (S4.dec d6_70) rfl rfl) ?_
  refine own_F.of (fun _ => XS.iloadN S4.here S4.hx rfl (S4.dec d6_71) rfl) ?_
  show own_F p e below s Z _ _ _ _ _ (T4.setTop (mkF m 72 #[.val (.ref a1), .val (.int 2), .val (.int (-1 : Int32)), .unset] [(.int 2), (.ref a1)]))
  have fq5 := (E_a1.wr W4)
  have fq6 := (F_buckets.other W4 (Or.inr (slot_ne (C := "com/example/slackweave/slackweave/paths/RadixHeap") (Or.inr (own_w hw 14 rfl)) (Or.inl (own_w hw 35 rfl)) (by decide) (t := (.array (.array .int))) (t' := .int) (by decide) (by decide))))
  have fq7 := (F_sizes.other W4 (Or.inr (slot_ne (C := "com/example/slackweave/slackweave/paths/RadixHeap") (Or.inr (own_w hw 17 rfl)) (Or.inl (own_w hw 35 rfl)) (by decide) (t := (.array .int)) (t' := .int) (by decide) (by decide))))
  have fq8 := (F_keys.other W4 (Or.inr (slot_ne (C := "com/example/slackweave/slackweave/paths/RadixHeap") (Or.inr (own_w hw 19 rfl)) (Or.inl (own_w hw 35 rfl)) (by decide) (t := (.array .long)) (t' := .int) (by decide) (by decide))))
  have fq9 := (F_bucketOf.other W4 (Or.inr (slot_ne (C := "com/example/slackweave/slackweave/paths/RadixHeap") (Or.inr (own_w hw 21 rfl)) (Or.inl (own_w hw 35 rfl)) (by decide) (t := (.array .int)) (t' := .int) (by decide) (by decide))))
  have fq10 := (F_positions.other W4 (Or.inr (slot_ne (C := "com/example/slackweave/slackweave/paths/RadixHeap") (Or.inr (own_w hw 27 rfl)) (Or.inl (own_w hw 35 rfl)) (by decide) (t := (.array .int)) (t' := .int) (by decide) (by decide))))
  have fq11 := (F_last.other W4 (Or.inr (slot_ne (C := "com/example/slackweave/slackweave/paths/RadixHeap") (Or.inl (own_w hw 50 rfl)) (Or.inl (own_w hw 35 rfl)) (by decide) (t := .long) (t' := .int) (by decide) (by decide))))
  have fq12 := (RB.other W4 (Ne.symm n1aB))
  have fq13 := (AS.other W4 (Ne.symm n1aS))
  have fq14 := (AK.other W4 (Ne.symm n1aK))
  have fq15 := (AO.other W4 (Ne.symm n1aO))
  have fq16 := (AP.other W4 (Ne.symm n1aP))
  have fq17 := (AI.other W4 (Ne.symm n1aI))
  have fq18 := (BK.oA E_a1 (own_w hw 3 rfl) W4)
  refine own_callP S4 (y := (⟨"com/example/slackweave/slackweave/paths/RadixHeap", "file", "(I)V"⟩ : MethodName)) (own_w hw 45 rfl) (own_w hw 46 rfl) (own_w hw 3 rfl) (own_w hw 47 rfl) (own_w hw 48 rfl) (own_w hw 4 rfl) (by decide) fq5 (argsL := [(.int (2 : Int32))]) (rest := []) (own_file2 l Z a0 hw a1 aB aS aK aO aP aI bk Cf bf pf la (ct + (1 : Int32)) (own_enc (bf 0)) (own_enc (bf 1)) (-1 : Int32) (pf 0).toInt32 (pf 1).toInt32 (pf 2).toInt32 y0 y1 y2 i0 i1 i2 h4 S4.old ⟨⟨ga, gB, gS, gO, gP, gI⟩, ⟨nSO, nSP, nOP⟩, fq5, fq6, fq7, fq8, fq9, fq10, fq11, Fw4, fq12, fq13, fq14, fq15, fq16, fq17, fq18⟩ AB hb hla hy) own_news_sub (by decide +kernel : parseMethodDescriptor "(I)V" = some ⟨[.int], none⟩) rfl rfl rfl d6_72 (by decide) (Nat.le_of_ble_eq_true rfl) (by decide) (by decide) (fun T19 h19 v19 S19 K19 q19 => ?_)
  obtain ⟨rfl, k19, bq19, cq19, hq19, -, H19, B19, -⟩ := q19
  show own_F p e below s Z _ _ _ _ _ (T19.setTop (mkF m 75 #[.val (.ref a1), .val (.int 2), .val (.int (-1 : Int32)), .unset] []))
  refine own_retV S19 d6_75 (by decide) (by decide) ?_
  exact ⟨rfl, k19, bq19, cq19, own_up pf 2 (own_hm bf k19), hq19, H19, B19⟩
set_option maxRecDepth 65536 in
set_option maxHeartbeats 40000000 in
theorem own_pushP2 (l : Launch) (Z : State) (a0 : Array Value) (hw : ∀ d ∈ tables_1, d.before a0 Z = true) (a1 aB aS aK aO aP aI : Addr) (bk : List Value) (Cf : Nat → List Value) (bf : Nat → Option Nat) (pf : Nat → Nat) (la : Int64) (ct : Int32) (y0 y1 y2 : Int64) (i0 i1 i2 : Int32) (kn : Nat) (h0 : Heap) (hO : Ext Z.heap h0) (H : own_RH Z h0 a1 aB aS aK aO aP aI bk Cf bf la ct (own_enc (bf 0)) (own_enc (bf 1)) kn.toInt32 (pf 0).toInt32 (pf 1).toInt32 (pf 2).toInt32 y0 y1 y2 i0 i1 i2) (AB : own_AB bf pf bk Cf) (hb : bf 2 = some kn) (hla : ¬ la < 0) (hy : ¬ y2 < 0) :
    own_C l Z (⟨"com/example/slackweave/slackweave/paths/RadixHeap", "push", "(I)V"⟩ : MethodName) prog_77_method_3_code 4 none [] ({ frames := 3, cells := 1, slots := 16, locals := 46 } : Room) (own_news Z h0) #[(.ref a1), (.int (2 : Int32))] h0 (fun v h => v = none ∧ ∃ (k : Nat) (bk' : List Value) (C' : Nat → List Value) (p' : Nat → Nat), k < 64 ∧ own_RH Z h a1 aB aS aK aO aP aI bk' C' (own_up bf 2 (some k)) la ct (own_enc ((own_up bf 2 (some k)) 0)) (own_enc ((own_up bf 2 (some k)) 1)) (own_enc ((own_up bf 2 (some k)) 2)) (p' 0).toInt32 (p' 1).toInt32 (p' 2).toInt32 y0 y1 y2 i0 i1 i2 ∧ own_AB (own_up bf 2 (some k)) p' bk' C') := by
  refine own_C.of pn6 hO own_news_le ?_
  intro p e s m below meth c T0 S0
  refine own_F.cast (by first | (simp [entryFrame, mkF, argsToLocals, Value.category]; done) | rfl : entryFrame m #[(.ref a1), (.int (2 : Int32))] 4 = mkF m 0 #[.val (.ref a1), .val (.int (2 : Int32)), .unset, .unset] []) ?_
  obtain ⟨⟨ga, gB, gS, gO, gP, gI⟩, ⟨nSO, nSP, nOP⟩, E_a1, F_buckets, F_sizes, F_keys, F_bucketOf, F_positions, F_last, F_count, RB, AS, AK, AO, AP, AI, BK⟩ := H
  have n1aB := own_neA E_a1 (own_w hw 3 rfl) RB.A
  have naBaS := own_A.neT RB.A AS (by decide)
  have naBaK := own_A.neT RB.A AK (by decide)
  have naBaO := own_A.neT RB.A AO (by decide)
  have naBaP := own_A.neT RB.A AP (by decide)
  have naBaI := own_A.neT RB.A AI (by decide)
  have n1aS := own_neA E_a1 (own_w hw 3 rfl) AS
  have naSaK := own_A.neT AS AK (by decide)
  have naSaI := own_A.neT AS AI (by decide)
  have n1aK := own_neA E_a1 (own_w hw 3 rfl) AK
  have naKaO := own_A.neT AK AO (by decide)
  have naKaP := own_A.neT AK AP (by decide)
  have naKaI := own_A.neT AK AI (by decide)
  have n1aO := own_neA E_a1 (own_w hw 3 rfl) AO
  have naOaI := own_A.neT AO AI (by decide)
  have n1aP := own_neA E_a1 (own_w hw 3 rfl) AP
  have naPaI := own_A.neT AP AI (by decide)
  have n1aI := own_neA E_a1 (own_w hw 3 rfl) AI
  obtain ⟨hkn, hpn, ⟨r, hv⟩, hcn⟩ := AB.1 2 kn (by decide) hb
  obtain ⟨cc, hcc⟩ : ∃ cc, own_hm bf kn = cc + 1 := ⟨own_hm bf kn - 1, by have := own_hm_pos (n := 2) (by decide) hb; omega⟩
  have h3 := own_hm_le bf kn
  have sm := own_small (n := cc) (by omega)
  have sp := own_small (n := pf 2) (by omega)
  have m1aS := (BK.2.1 _ _ hv).2.2.2.1
  have m1aO := (BK.2.1 _ _ hv).2.2.2.2.1
  have m1aP := (BK.2.1 _ _ hv).2.2.2.2.2
  have m1aB := own_A.neT (BK.2.1 _ _ hv).1 RB.A (by decide)
  have m1aK := own_A.neT (BK.2.1 _ _ hv).1 AK (by decide)
  have m1aI := own_A.neT (BK.2.1 _ _ hv).1 AI (by decide)
  have m1a1 := own_neA E_a1 (own_w hw 3 rfl) (BK.2.1 _ _ hv).1
  have hl := (BK.2.1 _ _ hv).2.1
  show own_F p e below s Z _ _ _ _ _ (T0.setTop (mkF m 0 #[.val (.ref a1), .val (.int 2), .unset, .unset] []))
  refine own_F.of (fun _ => XS.aloadN S0.here S0.hx rfl (S0.dec d6_0) rfl rfl) ?_
  show own_F p e below s Z _ _ _ _ _ (T0.setTop (mkF m 1 #[.val (.ref a1), .val (.int 2), .unset, .unset] [(.ref a1)]))
  refine own_getF S0 (host := "") (Or.inl (own_w hw 20 rfl)) Via.refl F_bucketOf d6_1 (fun T2 S2 => ?_)
  show own_F p e below s Z _ _ _ _ _ (T2.setTop (mkF m 4 #[.val (.ref a1), .val (.int 2), .unset, .unset] [(.ref aO)]))
  refine own_F.of (fun _ => XS.iloadN S2.here S2.hx rfl (S2.dec d6_4) rfl) ?_
  show own_F p e below s Z _ _ _ _ _ (T2.setTop (mkF m 5 #[.val (.ref a1), .val (.int 2), .unset, .unset] [(.int 2), (.ref aO)]))
  refine own_iald S2 AO (by decide) rfl d6_5 ?_
  show own_F p e below s Z _ _ _ _ _ (T2.setTop (mkF m 6 #[.val (.ref a1), .val (.int 2), .unset, .unset] [(.int kn.toInt32)]))
  refine own_F.of (fun _ => XS.istoreN S2.here S2.hx rfl (S2.dec d6_6) rfl (l' := #[.val (.ref a1), .val (.int 2), .val (.int kn.toInt32), .unset]) rfl) ?_
  refine own_F.of (fun _ => XS.iloadN S2.here S2.hx rfl (S2.dec d6_7) rfl) ?_
  refine own_F.of (fun _ => XS.iconst S2.here S2.hx rfl (S2.dec d6_8)) ?_
  show own_F p e below s Z _ _ _ _ _ (T2.setTop (mkF m 9 #[.val (.ref a1), .val (.int 2), .val (.int kn.toInt32), .unset] [(.int (-1 : Int32)), (.int kn.toInt32)]))
  refine own_icmp S2 25 d6_9 (by decide) (by decide) (fun (hc9_3 : ¬ (kn.toInt32 = (-1 : Int32))) => ?_) (fun (hc9_3 : kn.toInt32 = (-1 : Int32)) => False.elim (own_kne hkn hc9_3))
  show own_F p e below s Z _ _ _ _ _ (T2.setTop (mkF m 25 #[.val (.ref a1), .val (.int 2), .val (.int kn.toInt32), .unset] []))
  refine own_F.of (fun _ => XS.aloadN S2.here S2.hx rfl (S2.dec d6_25) rfl rfl) ?_
  show own_F p e below s Z _ _ _ _ _ (T2.setTop (mkF m 26 #[.val (.ref a1), .val (.int 2), .val (.int kn.toInt32), .unset] [(.ref a1)]))
  refine own_getF S2 (host := "") (Or.inl (own_w hw 13 rfl)) Via.refl F_buckets d6_26 (fun T4 S4 => ?_)
  show own_F p e below s Z _ _ _ _ _ (T4.setTop (mkF m 29 #[.val (.ref a1), .val (.int 2), .val (.int kn.toInt32), .unset] [(.ref aB)]))
  refine own_F.of (fun _ => XS.iloadN S4.here S4.hx rfl (S4.dec d6_29) rfl) ?_
  show own_F p e below s Z _ _ _ _ _ (T4.setTop (mkF m 30 #[.val (.ref a1), .val (.int 2), .val (.int kn.toInt32), .unset] [(.int kn.toInt32), (.ref aB)]))
  refine own_aald S4 RB.A rfl (own_64 hkn).2.1 (by rw [(own_64 hkn).1]; exact hv) d6_30 ?_
  show own_F p e below s Z _ _ _ _ _ (T4.setTop (mkF m 31 #[.val (.ref a1), .val (.int 2), .val (.int kn.toInt32), .unset] [(.ref r)]))
  refine own_F.of (fun _ => XS.aloadN S4.here S4.hx rfl (S4.dec d6_31) rfl rfl) ?_
  show own_F p e below s Z _ _ _ _ _ (T4.setTop (mkF m 32 #[.val (.ref a1), .val (.int 2), .val (.int kn.toInt32), .unset] [(.ref a1), (.ref r)]))
  refine own_getF S4 (host := "") (Or.inl (own_w hw 16 rfl)) Via.refl F_sizes d6_32 (fun T5 S5 => ?_)
  show own_F p e below s Z _ _ _ _ _ (T5.setTop (mkF m 35 #[.val (.ref a1), .val (.int 2), .val (.int kn.toInt32), .unset] [(.ref aS), (.ref r)]))
  refine own_F.of (fun _ => XS.iloadN S5.here S5.hx rfl (S5.dec d6_35) rfl) ?_
  show own_F p e below s Z _ _ _ _ _ (T5.setTop (mkF m 36 #[.val (.ref a1), .val (.int 2), .val (.int kn.toInt32), .unset] [(.int kn.toInt32), (.ref aS), (.ref r)]))
  refine own_F.of (fun _ => XT.dup2 S5.here S5.hx rfl (S5.dec d6_36) rfl rfl rfl) ?_
  show own_F p e below s Z _ _ _ _ _ (T5.setTop (mkF m 37 #[.val (.ref a1), .val (.int 2), .val (.int kn.toInt32), .unset] [(.int kn.toInt32), (.ref aS), (.int kn.toInt32), (.ref aS), (.ref r)]))
  refine own_iald S5 AS (own_64 hkn).2.1 (by rw [(own_64 hkn).1, own_szat bf hkn, hcc]) d6_37 ?_
  show own_F p e below s Z _ _ _ _ _ (T5.setTop (mkF m 38 #[.val (.ref a1), .val (.int 2), .val (.int kn.toInt32), .unset] [(.int (cc + 1).toInt32), (.int kn.toInt32), (.ref aS), (.ref r)]))
  refine own_F.of (fun _ => XS.iconst S5.here S5.hx rfl (S5.dec d6_38)) ?_
  show own_F p e below s Z _ _ _ _ _ (T5.setTop (mkF m 39 #[.val (.ref a1), .val (.int 2), .val (.int kn.toInt32), .unset] [(.int 1), (.int (cc + 1).toInt32), (.int kn.toInt32), (.ref aS), (.ref r)]))
  refine own_F.of (fun _ => XS.isub S5.here S5.hx rfl (S5.dec d6_39) rfl) ?_
  show own_F p e below s Z _ _ _ _ _ (T5.setTop (mkF m 40 #[.val (.ref a1), .val (.int 2), .val (.int kn.toInt32), .unset] [(.int ((cc + 1).toInt32 - (1 : Int32))), (.int kn.toInt32), (.ref aS), (.ref r)]))
  rw [own_pre (n := cc) (by omega)]
  show own_F p e below s Z _ _ _ _ _ (T5.setTop (mkF m 40 #[.val (.ref a1), .val (.int 2), .val (.int kn.toInt32), .unset] [(.int cc.toInt32), (.int kn.toInt32), (.ref aS), (.ref r)]))
  refine own_F.of (fun _ => own_dupX2 S5.here S5.hx rfl (S5.dec d6_40) rfl rfl rfl rfl) ?_
  show own_F p e below s Z _ _ _ _ _ (T5.setTop (mkF m 41 #[.val (.ref a1), .val (.int 2), .val (.int kn.toInt32), .unset] [(.int cc.toInt32), (.int kn.toInt32), (.ref aS), (.int cc.toInt32), (.ref r)]))
  refine own_ist S5 AS (own_64 hkn).2.1 (by rw [(own_64 hkn).1, own_szlen]; exact hkn) d6_41 (own_news_may gS) (fun T6 h6 S6 W6 A6 => ?_)
  have B6 := own_szrem (n := 2) (by decide) hb hkn hcc A6
  show own_F p e below s Z _ _ _ _ _ (T6.setTop (mkF m 42 #[.val (.ref a1), .val (.int 2), .val (.int kn.toInt32), .unset] [(.int cc.toInt32), (.ref r)]))
  obtain ⟨mm, hm3, hbm, hpm⟩ := own_last AB hcc
  have hm := (AB.1 mm kn hm3 hbm).2.2.2
  rw [hpm] at hm
  obtain rfl | rfl | rfl : mm = 0 ∨ mm = 1 ∨ mm = 2 := by omega
  · show own_F p e below s Z _ _ _ _ _ (T6.setTop (mkF m 42 #[.val (.ref a1), .val (.int 2), .val (.int kn.toInt32), .unset] [(.int cc.toInt32), (.ref r)]))
    have fq7 := (BK.oS W6)
    refine own_iald S6 (fq7.2.1 _ _ hv).1 sm.2.1 (by rw [sm.1]; exact hm) d6_42 ?_
    show own_F p e below s Z _ _ _ _ _ (T6.setTop (mkF m 43 #[.val (.ref a1), .val (.int 2), .val (.int kn.toInt32), .unset] [(.int 0)]))
    refine own_F.of (fun _ => XS.istoreN S6.here S6.hx rfl (S6.dec d6_43) rfl (l' := #[.val (.ref a1), .val (.int 2), .val (.int kn.toInt32), .val (.int 0)]) rfl) ?_
    refine own_F.of (fun _ => XS.aloadN S6.here S6.hx rfl (S6.dec d6_44) rfl rfl) ?_
    show own_F p e below s Z _ _ _ _ _ (T6.setTop (mkF m 45 #[.val (.ref a1), .val (.int 2), .val (.int kn.toInt32), .val (.int 0)] [(.ref a1)]))
    have fq8 := (F_buckets.other W6 (Or.inl n1aS))
    refine own_getF S6 (host := "") (Or.inl (own_w hw 13 rfl)) Via.refl fq8 d6_45 (fun T9 S9 => ?_)
    show own_F p e below s Z _ _ _ _ _ (T9.setTop (mkF m 48 #[.val (.ref a1), .val (.int 2), .val (.int kn.toInt32), .val (.int 0)] [(.ref aB)]))
    refine own_F.of (fun _ => XS.iloadN S9.here S9.hx rfl (S9.dec d6_48) rfl) ?_
    show own_F p e below s Z _ _ _ _ _ (T9.setTop (mkF m 49 #[.val (.ref a1), .val (.int 2), .val (.int kn.toInt32), .val (.int 0)] [(.int kn.toInt32), (.ref aB)]))
    have fq10 := (RB.other W6 naBaS)
    refine own_aald S9 fq10.A rfl (own_64 hkn).2.1 (by rw [(own_64 hkn).1]; exact hv) d6_49 ?_
    show own_F p e below s Z _ _ _ _ _ (T9.setTop (mkF m 50 #[.val (.ref a1), .val (.int 2), .val (.int kn.toInt32), .val (.int 0)] [(.ref r)]))
    refine own_F.of (fun _ => XS.aloadN S9.here S9.hx rfl (S9.dec d6_50) rfl rfl) ?_
    show own_F p e below s Z _ _ _ _ _ (T9.setTop (mkF m 51 #[.val (.ref a1), .val (.int 2), .val (.int kn.toInt32), .val (.int 0)] [(.ref a1), (.ref r)]))
    have fq11 := (F_positions.other W6 (Or.inl n1aS))
    refine own_getF S9 (host := "") (Or.inl (own_w hw 26 rfl)) Via.refl fq11 d6_51 (fun T12 S12 => ?_)
    show own_F p e below s Z _ _ _ _ _ (T12.setTop (mkF m 54 #[.val (.ref a1), .val (.int 2), .val (.int kn.toInt32), .val (.int 0)] [(.ref aP), (.ref r)]))
    refine own_F.of (fun _ => XS.iloadN S12.here S12.hx rfl (S12.dec d6_54) rfl) ?_
    show own_F p e below s Z _ _ _ _ _ (T12.setTop (mkF m 55 #[.val (.ref a1), .val (.int 2), .val (.int kn.toInt32), .val (.int 0)] [(.int 2), (.ref aP), (.ref r)]))
    have fq13 := (AP.other W6 (Ne.symm nSP))
    refine own_iald S12 fq13 (by decide) rfl d6_55 ?_
    show own_F p e below s Z _ _ _ _ _ (T12.setTop (mkF m 56 #[.val (.ref a1), .val (.int 2), .val (.int kn.toInt32), .val (.int 0)] [(.int (pf 2).toInt32), (.ref r)]))
    refine own_F.of (fun _ => XS.iloadN S12.here S12.hx rfl (S12.dec d6_56) rfl) ?_
    show own_F p e below s Z _ _ _ _ _ (T12.setTop (mkF m 57 #[.val (.ref a1), .val (.int 2), .val (.int kn.toInt32), .val (.int 0)] [(.int 0), (.int (pf 2).toInt32), (.ref r)]))
    refine own_ist S12 (fq7.2.1 _ _ hv).1 sp.2.1 (by rw [sp.1, (fq7.2.1 _ _ hv).2.1]; omega) d6_57 (own_news_may (BK.2.1 _ _ hv).2.2.1) (fun T14 h14 S14 W14 A14 => ?_)
    have D14 := own_BK.put fq7 hv W14
    rw [sp.1] at D14
    have ac14 := own_AB.rem AB (n := 2) (m := 0) (by decide) (by decide) hb hbm hcc hpm hl
    show own_F p e below s Z _ _ _ _ _ (T14.setTop (mkF m 58 #[.val (.ref a1), .val (.int 2), .val (.int kn.toInt32), .val (.int 0)] []))
    refine own_F.of (fun _ => XS.aloadN S14.here S14.hx rfl (S14.dec d6_58) rfl rfl) ?_
    show own_F p e below s Z _ _ _ _ _ (T14.setTop (mkF m 59 #[.val (.ref a1), .val (.int 2), .val (.int kn.toInt32), .val (.int 0)] [(.ref a1)]))
    have fq15 := (fq11.other W14 (Or.inl m1a1))
    refine own_getF S14 (host := "") (Or.inl (own_w hw 26 rfl)) Via.refl fq15 d6_59 (fun T16 S16 => ?_)
    show own_F p e below s Z _ _ _ _ _ (T16.setTop (mkF m 62 #[.val (.ref a1), .val (.int 2), .val (.int kn.toInt32), .val (.int 0)] [(.ref aP)]))
    refine own_F.of (fun _ => XS.iloadN S16.here S16.hx rfl (S16.dec d6_62) rfl) ?_
    refine own_F.of (fun _ => XS.aloadN S16.here S16.hx rfl (S16.dec d6_63) rfl rfl) ?_
    show own_F p e below s Z _ _ _ _ _ (T16.setTop (mkF m 64 #[.val (.ref a1), .val (.int 2), .val (.int kn.toInt32), .val (.int 0)] [(.ref a1), (.int 0), (.ref aP)]))
    refine own_getF S16 (host := "") (Or.inl (own_w hw 26 rfl)) Via.refl fq15 d6_64 (fun T17 S17 => ?_)
    show own_F p e below s Z _ _ _ _ _ (T17.setTop (mkF m 67 #[.val (.ref a1), .val (.int 2), .val (.int kn.toInt32), .val (.int 0)] [(.ref aP), (.int 0), (.ref aP)]))
    refine own_F.of (fun _ => XS.iloadN S17.here S17.hx rfl (S17.dec d6_67) rfl) ?_
    show own_F p e below s Z _ _ _ _ _ (T17.setTop (mkF m 68 #[.val (.ref a1), .val (.int 2), .val (.int kn.toInt32), .val (.int 0)] [(.int 2), (.ref aP), (.int 0), (.ref aP)]))
    have fq18 := (fq13.other W14 (Ne.symm m1aP))
    refine own_iald S17 fq18 (by decide) rfl d6_68 ?_
    show own_F p e below s Z _ _ _ _ _ (T17.setTop (mkF m 69 #[.val (.ref a1), .val (.int 2), .val (.int kn.toInt32), .val (.int 0)] [(.int (pf 2).toInt32), (.int 0), (.ref aP)]))
    refine own_ist S17 fq18 (by decide) (Nat.le_of_ble_eq_true rfl) d6_69 (own_news_may gP) (fun T19 h19 S19 W19 A19 => ?_)
    have V20 : own_A Z h19 aP .int [(.int (pf 2).toInt32), (.int (pf 1).toInt32), (.int (pf 2).toInt32)] := A19
    show own_F p e below s Z _ _ _ _ _ (T19.setTop (mkF m 70 #[.val (.ref a1), .val (.int 2), .val (.int kn.toInt32), .val (.int 0)] []))
    refine own_F.of (fun _ => XS.aloadN S19.here S19.hx rfl (S19.dec d6_70) rfl rfl) ?_
    refine own_F.of (fun _ => XS.iloadN S19.here S19.hx rfl (S19.dec d6_71) rfl) ?_
    show own_F p e below s Z _ _ _ _ _ (T19.setTop (mkF m 72 #[.val (.ref a1), .val (.int 2), .val (.int kn.toInt32), .val (.int 0)] [(.int 2), (.ref a1)]))
    have fq21 := (((E_a1.wr W6).wr W14).wr W19)
    have fq22 := ((fq8.other W14 (Or.inl m1a1)).other W19 (Or.inl n1aP))
    have fq23 := (((F_sizes.other W6 (Or.inl n1aS)).other W14 (Or.inl m1a1)).other W19 (Or.inl n1aP))
    have fq24 := (((F_keys.other W6 (Or.inl n1aS)).other W14 (Or.inl m1a1)).other W19 (Or.inl n1aP))
    have fq25 := (((F_bucketOf.other W6 (Or.inl n1aS)).other W14 (Or.inl m1a1)).other W19 (Or.inl n1aP))
    have fq26 := (fq15.other W19 (Or.inl n1aP))
    have fq27 := (((F_last.other W6 (Or.inl n1aS)).other W14 (Or.inl m1a1)).other W19 (Or.inl n1aP))
    have fq28 := (((F_count.other W6 (Or.inl n1aS)).other W14 (Or.inl m1a1)).other W19 (Or.inl n1aP))
    have fq29 := ((fq10.other W14 (Ne.symm m1aB)).other W19 naBaP)
    have fq30 := ((B6.other W14 (Ne.symm m1aS)).other W19 nSP)
    have fq31 := (((AK.other W6 (Ne.symm naSaK)).other W14 (Ne.symm m1aK)).other W19 naKaP)
    have fq32 := (((AO.other W6 (Ne.symm nSO)).other W14 (Ne.symm m1aO)).other W19 nOP)
    have fq33 := (((AI.other W6 (Ne.symm naSaI)).other W14 (Ne.symm m1aI)).other W19 (Ne.symm naPaI))
    have fq34 := (D14.oP W19)
    refine own_callP S19 (y := (⟨"com/example/slackweave/slackweave/paths/RadixHeap", "file", "(I)V"⟩ : MethodName)) (own_w hw 45 rfl) (own_w hw 46 rfl) (own_w hw 3 rfl) (own_w hw 47 rfl) (own_w hw 48 rfl) (own_w hw 4 rfl) (by decide) fq21 (argsL := [(.int (2 : Int32))]) (rest := []) (own_file2 l Z a0 hw a1 aB aS aK aO aP aI bk (own_up Cf kn ((Cf kn).set (pf 2) (.int (0 : Int32)))) (own_up bf 2 none) (own_up pf 0 (pf 2)) la ct (own_enc (bf 0)) (own_enc (bf 1)) kn.toInt32 (pf 2).toInt32 (pf 1).toInt32 (pf 2).toInt32 y0 y1 y2 i0 i1 i2 h19 S19.old ⟨⟨ga, gB, gS, gO, gP, gI⟩, ⟨nSO, nSP, nOP⟩, fq21, fq22, fq23, fq24, fq25, fq26, fq27, fq28, fq29, fq30, fq31, fq32, V20, fq33, fq34⟩ ac14 rfl hla hy) own_news_sub (by decide +kernel : parseMethodDescriptor "(I)V" = some ⟨[.int], none⟩) rfl rfl rfl d6_72 (by decide) (Nat.le_of_ble_eq_true rfl) (by decide) (by decide) (fun T35 h35 v35 S35 K35 q35 => ?_)
    obtain ⟨rfl, k35, bq35, cq35, hq35, -, H35, B35, -⟩ := q35
    show own_F p e below s Z _ _ _ _ _ (T35.setTop (mkF m 75 #[.val (.ref a1), .val (.int 2), .val (.int kn.toInt32), .val (.int 0)] []))
    refine own_retV S35 d6_75 (by decide) (by decide) ?_
    rw [own_up2] at H35 B35
    exact ⟨rfl, k35, bq35, cq35, own_up (own_up pf 0 (pf 2)) 2 (own_hm (own_up bf 2 none) k35), hq35, H35, B35⟩
  · show own_F p e below s Z _ _ _ _ _ (T6.setTop (mkF m 42 #[.val (.ref a1), .val (.int 2), .val (.int kn.toInt32), .unset] [(.int cc.toInt32), (.ref r)]))
    have fq36 := (BK.oS W6)
    refine own_iald S6 (fq36.2.1 _ _ hv).1 sm.2.1 (by rw [sm.1]; exact hm) d6_42 ?_
    show own_F p e below s Z _ _ _ _ _ (T6.setTop (mkF m 43 #[.val (.ref a1), .val (.int 2), .val (.int kn.toInt32), .unset] [(.int 1)]))
    refine own_F.of (fun _ => XS.istoreN S6.here S6.hx rfl (S6.dec d6_43) rfl (l' := #[.val (.ref a1), .val (.int 2), .val (.int kn.toInt32), .val (.int 1)]) rfl) ?_
    refine own_F.of (fun _ => XS.aloadN S6.here S6.hx rfl (S6.dec d6_44) rfl rfl) ?_
    show own_F p e below s Z _ _ _ _ _ (T6.setTop (mkF m 45 #[.val (.ref a1), .val (.int 2), .val (.int kn.toInt32), .val (.int 1)] [(.ref a1)]))
    have fq37 := (F_buckets.other W6 (Or.inl n1aS))
    refine own_getF S6 (host := "") (Or.inl (own_w hw 13 rfl)) Via.refl fq37 d6_45 (fun T38 S38 => ?_)
    show own_F p e below s Z _ _ _ _ _ (T38.setTop (mkF m 48 #[.val (.ref a1), .val (.int 2), .val (.int kn.toInt32), .val (.int 1)] [(.ref aB)]))
    refine own_F.of (fun _ => XS.iloadN S38.here S38.hx rfl (S38.dec d6_48) rfl) ?_
    show own_F p e below s Z _ _ _ _ _ (T38.setTop (mkF m 49 #[.val (.ref a1), .val (.int 2), .val (.int kn.toInt32), .val (.int 1)] [(.int kn.toInt32), (.ref aB)]))
    have fq39 := (RB.other W6 naBaS)
    refine own_aald S38 fq39.A rfl (own_64 hkn).2.1 (by rw [(own_64 hkn).1]; exact hv) d6_49 ?_
    show own_F p e below s Z _ _ _ _ _ (T38.setTop (mkF m 50 #[.val (.ref a1), .val (.int 2), .val (.int kn.toInt32), .val (.int 1)] [(.ref r)]))
    refine own_F.of (fun _ => XS.aloadN S38.here S38.hx rfl (S38.dec d6_50) rfl rfl) ?_
    show own_F p e below s Z _ _ _ _ _ (T38.setTop (mkF m 51 #[.val (.ref a1), .val (.int 2), .val (.int kn.toInt32), .val (.int 1)] [(.ref a1), (.ref r)]))
    have fq40 := (F_positions.other W6 (Or.inl n1aS))
    refine own_getF S38 (host := "") (Or.inl (own_w hw 26 rfl)) Via.refl fq40 d6_51 (fun T41 S41 => ?_)
    show own_F p e below s Z _ _ _ _ _ (T41.setTop (mkF m 54 #[.val (.ref a1), .val (.int 2), .val (.int kn.toInt32), .val (.int 1)] [(.ref aP), (.ref r)]))
    refine own_F.of (fun _ => XS.iloadN S41.here S41.hx rfl (S41.dec d6_54) rfl) ?_
    show own_F p e below s Z _ _ _ _ _ (T41.setTop (mkF m 55 #[.val (.ref a1), .val (.int 2), .val (.int kn.toInt32), .val (.int 1)] [(.int 2), (.ref aP), (.ref r)]))
    have fq42 := (AP.other W6 (Ne.symm nSP))
    refine own_iald S41 fq42 (by decide) rfl d6_55 ?_
    show own_F p e below s Z _ _ _ _ _ (T41.setTop (mkF m 56 #[.val (.ref a1), .val (.int 2), .val (.int kn.toInt32), .val (.int 1)] [(.int (pf 2).toInt32), (.ref r)]))
    refine own_F.of (fun _ => XS.iloadN S41.here S41.hx rfl (S41.dec d6_56) rfl) ?_
    show own_F p e below s Z _ _ _ _ _ (T41.setTop (mkF m 57 #[.val (.ref a1), .val (.int 2), .val (.int kn.toInt32), .val (.int 1)] [(.int 1), (.int (pf 2).toInt32), (.ref r)]))
    refine own_ist S41 (fq36.2.1 _ _ hv).1 sp.2.1 (by rw [sp.1, (fq36.2.1 _ _ hv).2.1]; omega) d6_57 (own_news_may (BK.2.1 _ _ hv).2.2.1) (fun T43 h43 S43 W43 A43 => ?_)
    have D43 := own_BK.put fq36 hv W43
    rw [sp.1] at D43
    have ac43 := own_AB.rem AB (n := 2) (m := 1) (by decide) (by decide) hb hbm hcc hpm hl
    show own_F p e below s Z _ _ _ _ _ (T43.setTop (mkF m 58 #[.val (.ref a1), .val (.int 2), .val (.int kn.toInt32), .val (.int 1)] []))
    refine own_F.of (fun _ => XS.aloadN S43.here S43.hx rfl (S43.dec d6_58) rfl rfl) ?_
    show own_F p e below s Z _ _ _ _ _ (T43.setTop (mkF m 59 #[.val (.ref a1), .val (.int 2), .val (.int kn.toInt32), .val (.int 1)] [(.ref a1)]))
    have fq44 := (fq40.other W43 (Or.inl m1a1))
    refine own_getF S43 (host := "") (Or.inl (own_w hw 26 rfl)) Via.refl fq44 d6_59 (fun T45 S45 => ?_)
    show own_F p e below s Z _ _ _ _ _ (T45.setTop (mkF m 62 #[.val (.ref a1), .val (.int 2), .val (.int kn.toInt32), .val (.int 1)] [(.ref aP)]))
    refine own_F.of (fun _ => XS.iloadN S45.here S45.hx rfl (S45.dec d6_62) rfl) ?_
    refine own_F.of (fun _ => XS.aloadN S45.here S45.hx rfl (S45.dec d6_63) rfl rfl) ?_
    show own_F p e below s Z _ _ _ _ _ (T45.setTop (mkF m 64 #[.val (.ref a1), .val (.int 2), .val (.int kn.toInt32), .val (.int 1)] [(.ref a1), (.int 1), (.ref aP)]))
    refine own_getF S45 (host := "") (Or.inl (own_w hw 26 rfl)) Via.refl fq44 d6_64 (fun T46 S46 => ?_)
    show own_F p e below s Z _ _ _ _ _ (T46.setTop (mkF m 67 #[.val (.ref a1), .val (.int 2), .val (.int kn.toInt32), .val (.int 1)] [(.ref aP), (.int 1), (.ref aP)]))
    refine own_F.of (fun _ => XS.iloadN S46.here S46.hx rfl (S46.dec d6_67) rfl) ?_
    show own_F p e below s Z _ _ _ _ _ (T46.setTop (mkF m 68 #[.val (.ref a1), .val (.int 2), .val (.int kn.toInt32), .val (.int 1)] [(.int 2), (.ref aP), (.int 1), (.ref aP)]))
    have fq47 := (fq42.other W43 (Ne.symm m1aP))
    refine own_iald S46 fq47 (by decide) rfl d6_68 ?_
    show own_F p e below s Z _ _ _ _ _ (T46.setTop (mkF m 69 #[.val (.ref a1), .val (.int 2), .val (.int kn.toInt32), .val (.int 1)] [(.int (pf 2).toInt32), (.int 1), (.ref aP)]))
    refine own_ist S46 fq47 (by decide) (Nat.le_of_ble_eq_true rfl) d6_69 (own_news_may gP) (fun T48 h48 S48 W48 A48 => ?_)
    have V49 : own_A Z h48 aP .int [(.int (pf 0).toInt32), (.int (pf 2).toInt32), (.int (pf 2).toInt32)] := A48
    show own_F p e below s Z _ _ _ _ _ (T48.setTop (mkF m 70 #[.val (.ref a1), .val (.int 2), .val (.int kn.toInt32), .val (.int 1)] []))
    refine own_F.of (fun _ => XS.aloadN S48.here S48.hx rfl (S48.dec d6_70) rfl rfl) ?_
    refine own_F.of (fun _ => XS.iloadN S48.here S48.hx rfl (S48.dec d6_71) rfl) ?_
    show own_F p e below s Z _ _ _ _ _ (T48.setTop (mkF m 72 #[.val (.ref a1), .val (.int 2), .val (.int kn.toInt32), .val (.int 1)] [(.int 2), (.ref a1)]))
    have fq50 := (((E_a1.wr W6).wr W43).wr W48)
    have fq51 := ((fq37.other W43 (Or.inl m1a1)).other W48 (Or.inl n1aP))
    have fq52 := (((F_sizes.other W6 (Or.inl n1aS)).other W43 (Or.inl m1a1)).other W48 (Or.inl n1aP))
    have fq53 := (((F_keys.other W6 (Or.inl n1aS)).other W43 (Or.inl m1a1)).other W48 (Or.inl n1aP))
    have fq54 := (((F_bucketOf.other W6 (Or.inl n1aS)).other W43 (Or.inl m1a1)).other W48 (Or.inl n1aP))
    have fq55 := (fq44.other W48 (Or.inl n1aP))
    have fq56 := (((F_last.other W6 (Or.inl n1aS)).other W43 (Or.inl m1a1)).other W48 (Or.inl n1aP))
    have fq57 := (((F_count.other W6 (Or.inl n1aS)).other W43 (Or.inl m1a1)).other W48 (Or.inl n1aP))
    have fq58 := ((fq39.other W43 (Ne.symm m1aB)).other W48 naBaP)
    have fq59 := ((B6.other W43 (Ne.symm m1aS)).other W48 nSP)
    have fq60 := (((AK.other W6 (Ne.symm naSaK)).other W43 (Ne.symm m1aK)).other W48 naKaP)
    have fq61 := (((AO.other W6 (Ne.symm nSO)).other W43 (Ne.symm m1aO)).other W48 nOP)
    have fq62 := (((AI.other W6 (Ne.symm naSaI)).other W43 (Ne.symm m1aI)).other W48 (Ne.symm naPaI))
    have fq63 := (D43.oP W48)
    refine own_callP S48 (y := (⟨"com/example/slackweave/slackweave/paths/RadixHeap", "file", "(I)V"⟩ : MethodName)) (own_w hw 45 rfl) (own_w hw 46 rfl) (own_w hw 3 rfl) (own_w hw 47 rfl) (own_w hw 48 rfl) (own_w hw 4 rfl) (by decide) fq50 (argsL := [(.int (2 : Int32))]) (rest := []) (own_file2 l Z a0 hw a1 aB aS aK aO aP aI bk (own_up Cf kn ((Cf kn).set (pf 2) (.int (1 : Int32)))) (own_up bf 2 none) (own_up pf 1 (pf 2)) la ct (own_enc (bf 0)) (own_enc (bf 1)) kn.toInt32 (pf 0).toInt32 (pf 2).toInt32 (pf 2).toInt32 y0 y1 y2 i0 i1 i2 h48 S48.old ⟨⟨ga, gB, gS, gO, gP, gI⟩, ⟨nSO, nSP, nOP⟩, fq50, fq51, fq52, fq53, fq54, fq55, fq56, fq57, fq58, fq59, fq60, fq61, V49, fq62, fq63⟩ ac43 rfl hla hy) own_news_sub (by decide +kernel : parseMethodDescriptor "(I)V" = some ⟨[.int], none⟩) rfl rfl rfl d6_72 (by decide) (Nat.le_of_ble_eq_true rfl) (by decide) (by decide) (fun T64 h64 v64 S64 K64 q64 => ?_)
    obtain ⟨rfl, k64, bq64, cq64, hq64, -, H64, B64, -⟩ := q64
    show own_F p e below s Z _ _ _ _ _ (T64.setTop (mkF m 75 #[.val (.ref a1), .val (.int 2), .val (.int kn.toInt32), .val (.int 1)] []))
    refine own_retV S64 d6_75 (by decide) (by decide) ?_
    rw [own_up2] at H64 B64
    exact ⟨rfl, k64, bq64, cq64, own_up (own_up pf 1 (pf 2)) 2 (own_hm (own_up bf 2 none) k64), hq64, H64, B64⟩
  · show own_F p e below s Z _ _ _ _ _ (T6.setTop (mkF m 42 #[.val (.ref a1), .val (.int 2), .val (.int kn.toInt32), .unset] [(.int cc.toInt32), (.ref r)]))
    have fq65 := (BK.oS W6)
    refine own_iald S6 (fq65.2.1 _ _ hv).1 sm.2.1 (by rw [sm.1]; exact hm) d6_42 ?_
    show own_F p e below s Z _ _ _ _ _ (T6.setTop (mkF m 43 #[.val (.ref a1), .val (.int 2), .val (.int kn.toInt32), .unset] [(.int 2)]))
    refine own_F.of (fun _ => XS.istoreN S6.here S6.hx rfl (S6.dec d6_43) rfl (l' := #[.val (.ref a1), .val (.int 2), .val (.int kn.toInt32), .val (.int 2)]) rfl) ?_
    refine own_F.of (fun _ => XS.aloadN S6.here S6.hx rfl (S6.dec d6_44) rfl rfl) ?_
    show own_F p e below s Z _ _ _ _ _ (T6.setTop (mkF m 45 #[.val (.ref a1), .val (.int 2), .val (.int kn.toInt32), .val (.int 2)] [(.ref a1)]))
    have fq66 := (F_buckets.other W6 (Or.inl n1aS))
    refine own_getF S6 (host := "") (Or.inl (own_w hw 13 rfl)) Via.refl fq66 d6_45 (fun T67 S67 => ?_)
    show own_F p e below s Z _ _ _ _ _ (T67.setTop (mkF m 48 #[.val (.ref a1), .val (.int 2), .val (.int kn.toInt32), .val (.int 2)] [(.ref aB)]))
    refine own_F.of (fun _ => XS.iloadN S67.here S67.hx rfl (S67.dec d6_48) rfl) ?_
    show own_F p e below s Z _ _ _ _ _ (T67.setTop (mkF m 49 #[.val (.ref a1), .val (.int 2), .val (.int kn.toInt32), .val (.int 2)] [(.int kn.toInt32), (.ref aB)]))
    have fq68 := (RB.other W6 naBaS)
    refine own_aald S67 fq68.A rfl (own_64 hkn).2.1 (by rw [(own_64 hkn).1]; exact hv) d6_49 ?_
    show own_F p e below s Z _ _ _ _ _ (T67.setTop (mkF m 50 #[.val (.ref a1), .val (.int 2), .val (.int kn.toInt32), .val (.int 2)] [(.ref r)]))
    refine own_F.of (fun _ => XS.aloadN S67.here S67.hx rfl (S67.dec d6_50) rfl rfl) ?_
    show own_F p e below s Z _ _ _ _ _ (T67.setTop (mkF m 51 #[.val (.ref a1), .val (.int 2), .val (.int kn.toInt32), .val (.int 2)] [(.ref a1), (.ref r)]))
    have fq69 := (F_positions.other W6 (Or.inl n1aS))
    refine own_getF S67 (host := "") (Or.inl (own_w hw 26 rfl)) Via.refl fq69 d6_51 (fun T70 S70 => ?_)
    show own_F p e below s Z _ _ _ _ _ (T70.setTop (mkF m 54 #[.val (.ref a1), .val (.int 2), .val (.int kn.toInt32), .val (.int 2)] [(.ref aP), (.ref r)]))
    refine own_F.of (fun _ => XS.iloadN S70.here S70.hx rfl (S70.dec d6_54) rfl) ?_
    show own_F p e below s Z _ _ _ _ _ (T70.setTop (mkF m 55 #[.val (.ref a1), .val (.int 2), .val (.int kn.toInt32), .val (.int 2)] [(.int 2), (.ref aP), (.ref r)]))
    have fq71 := (AP.other W6 (Ne.symm nSP))
    refine own_iald S70 fq71 (by decide) rfl d6_55 ?_
    show own_F p e below s Z _ _ _ _ _ (T70.setTop (mkF m 56 #[.val (.ref a1), .val (.int 2), .val (.int kn.toInt32), .val (.int 2)] [(.int (pf 2).toInt32), (.ref r)]))
    refine own_F.of (fun _ => XS.iloadN S70.here S70.hx rfl (S70.dec d6_56) rfl) ?_
    show own_F p e below s Z _ _ _ _ _ (T70.setTop (mkF m 57 #[.val (.ref a1), .val (.int 2), .val (.int kn.toInt32), .val (.int 2)] [(.int 2), (.int (pf 2).toInt32), (.ref r)]))
    refine own_ist S70 (fq65.2.1 _ _ hv).1 sp.2.1 (by rw [sp.1, (fq65.2.1 _ _ hv).2.1]; omega) d6_57 (own_news_may (BK.2.1 _ _ hv).2.2.1) (fun T72 h72 S72 W72 A72 => ?_)
    have D72 := own_BK.put fq65 hv W72
    rw [sp.1] at D72
    have ac72 := own_AB.rem AB (n := 2) (m := 2) (by decide) (by decide) hb hbm hcc hpm hl
    show own_F p e below s Z _ _ _ _ _ (T72.setTop (mkF m 58 #[.val (.ref a1), .val (.int 2), .val (.int kn.toInt32), .val (.int 2)] []))
    refine own_F.of (fun _ => XS.aloadN S72.here S72.hx rfl (S72.dec d6_58) rfl rfl) ?_
    show own_F p e below s Z _ _ _ _ _ (T72.setTop (mkF m 59 #[.val (.ref a1), .val (.int 2), .val (.int kn.toInt32), .val (.int 2)] [(.ref a1)]))
    have fq73 := (fq69.other W72 (Or.inl m1a1))
    refine own_getF S72 (host := "") (Or.inl (own_w hw 26 rfl)) Via.refl fq73 d6_59 (fun T74 S74 => ?_)
    show own_F p e below s Z _ _ _ _ _ (T74.setTop (mkF m 62 #[.val (.ref a1), .val (.int 2), .val (.int kn.toInt32), .val (.int 2)] [(.ref aP)]))
    refine own_F.of (fun _ => XS.iloadN S74.here S74.hx rfl (S74.dec d6_62) rfl) ?_
    refine own_F.of (fun _ => XS.aloadN S74.here S74.hx rfl (S74.dec d6_63) rfl rfl) ?_
    show own_F p e below s Z _ _ _ _ _ (T74.setTop (mkF m 64 #[.val (.ref a1), .val (.int 2), .val (.int kn.toInt32), .val (.int 2)] [(.ref a1), (.int 2), (.ref aP)]))
    refine own_getF S74 (host := "") (Or.inl (own_w hw 26 rfl)) Via.refl fq73 d6_64 (fun T75 S75 => ?_)
    show own_F p e below s Z _ _ _ _ _ (T75.setTop (mkF m 67 #[.val (.ref a1), .val (.int 2), .val (.int kn.toInt32), .val (.int 2)] [(.ref aP), (.int 2), (.ref aP)]))
    refine own_F.of (fun _ => XS.iloadN S75.here S75.hx rfl (S75.dec d6_67) rfl) ?_
    show own_F p e below s Z _ _ _ _ _ (T75.setTop (mkF m 68 #[.val (.ref a1), .val (.int 2), .val (.int kn.toInt32), .val (.int 2)] [(.int 2), (.ref aP), (.int 2), (.ref aP)]))
    have fq76 := (fq71.other W72 (Ne.symm m1aP))
    refine own_iald S75 fq76 (by decide) rfl d6_68 ?_
    show own_F p e below s Z _ _ _ _ _ (T75.setTop (mkF m 69 #[.val (.ref a1), .val (.int 2), .val (.int kn.toInt32), .val (.int 2)] [(.int (pf 2).toInt32), (.int 2), (.ref aP)]))
    refine own_ist S75 fq76 (by decide) (Nat.le_of_ble_eq_true rfl) d6_69 (own_news_may gP) (fun T77 h77 S77 W77 A77 => ?_)
    have V78 : own_A Z h77 aP .int [(.int (pf 0).toInt32), (.int (pf 1).toInt32), (.int (pf 2).toInt32)] := A77
    show own_F p e below s Z _ _ _ _ _ (T77.setTop (mkF m 70 #[.val (.ref a1), .val (.int 2), .val (.int kn.toInt32), .val (.int 2)] []))
    refine own_F.of (fun _ => XS.aloadN S77.here S77.hx rfl (S77.dec d6_70) rfl rfl) ?_
    refine own_F.of (fun _ => XS.iloadN S77.here S77.hx rfl (S77.dec d6_71) rfl) ?_
    show own_F p e below s Z _ _ _ _ _ (T77.setTop (mkF m 72 #[.val (.ref a1), .val (.int 2), .val (.int kn.toInt32), .val (.int 2)] [(.int 2), (.ref a1)]))
    have fq79 := (((E_a1.wr W6).wr W72).wr W77)
    have fq80 := ((fq66.other W72 (Or.inl m1a1)).other W77 (Or.inl n1aP))
    have fq81 := (((F_sizes.other W6 (Or.inl n1aS)).other W72 (Or.inl m1a1)).other W77 (Or.inl n1aP))
    have fq82 := (((F_keys.other W6 (Or.inl n1aS)).other W72 (Or.inl m1a1)).other W77 (Or.inl n1aP))
    have fq83 := (((F_bucketOf.other W6 (Or.inl n1aS)).other W72 (Or.inl m1a1)).other W77 (Or.inl n1aP))
    have fq84 := (fq73.other W77 (Or.inl n1aP))
    have fq85 := (((F_last.other W6 (Or.inl n1aS)).other W72 (Or.inl m1a1)).other W77 (Or.inl n1aP))
    have fq86 := (((F_count.other W6 (Or.inl n1aS)).other W72 (Or.inl m1a1)).other W77 (Or.inl n1aP))
    have fq87 := ((fq68.other W72 (Ne.symm m1aB)).other W77 naBaP)
    have fq88 := ((B6.other W72 (Ne.symm m1aS)).other W77 nSP)
    have fq89 := (((AK.other W6 (Ne.symm naSaK)).other W72 (Ne.symm m1aK)).other W77 naKaP)
    have fq90 := (((AO.other W6 (Ne.symm nSO)).other W72 (Ne.symm m1aO)).other W77 nOP)
    have fq91 := (((AI.other W6 (Ne.symm naSaI)).other W72 (Ne.symm m1aI)).other W77 (Ne.symm naPaI))
    have fq92 := (D72.oP W77)
    refine own_callP S77 (y := (⟨"com/example/slackweave/slackweave/paths/RadixHeap", "file", "(I)V"⟩ : MethodName)) (own_w hw 45 rfl) (own_w hw 46 rfl) (own_w hw 3 rfl) (own_w hw 47 rfl) (own_w hw 48 rfl) (own_w hw 4 rfl) (by decide) fq79 (argsL := [(.int (2 : Int32))]) (rest := []) (own_file2 l Z a0 hw a1 aB aS aK aO aP aI bk (own_up Cf kn ((Cf kn).set (pf 2) (.int (2 : Int32)))) (own_up bf 2 none) (own_up pf 2 (pf 2)) la ct (own_enc (bf 0)) (own_enc (bf 1)) kn.toInt32 (pf 0).toInt32 (pf 1).toInt32 (pf 2).toInt32 y0 y1 y2 i0 i1 i2 h77 S77.old ⟨⟨ga, gB, gS, gO, gP, gI⟩, ⟨nSO, nSP, nOP⟩, fq79, fq80, fq81, fq82, fq83, fq84, fq85, fq86, fq87, fq88, fq89, fq90, V78, fq91, fq92⟩ ac72 rfl hla hy) own_news_sub (by decide +kernel : parseMethodDescriptor "(I)V" = some ⟨[.int], none⟩) rfl rfl rfl d6_72 (by decide) (Nat.le_of_ble_eq_true rfl) (by decide) (by decide) (fun T93 h93 v93 S93 K93 q93 => ?_)
    obtain ⟨rfl, k93, bq93, cq93, hq93, -, H93, B93, -⟩ := q93
    show own_F p e below s Z _ _ _ _ _ (T93.setTop (mkF m 75 #[.val (.ref a1), .val (.int 2), .val (.int kn.toInt32), .val (.int 2)] []))
    refine own_retV S93 d6_75 (by decide) (by decide) ?_
    rw [own_up2] at H93 B93
    exact ⟨rfl, k93, bq93, cq93, own_up (own_up pf 2 (pf 2)) 2 (own_hm (own_up bf 2 none) k93), hq93, H93, B93⟩
theorem d11_0 : decode prog_77_method_5_code 0 = .ok (.iconst 1, 1) := by decide +kernel
theorem d11_1 : decode prog_77_method_5_code 1 = .ok (.istore_n 1, 1) := by decide +kernel
theorem d11_2 : decode prog_77_method_5_code 2 = .ok (.aload_n 0, 1) := by decide +kernel
theorem d11_3 : decode prog_77_method_5_code 3 = .ok (.getfield 15, 3) := by decide +kernel
theorem d11_6 : decode prog_77_method_5_code 6 = .ok (.iload_n 1, 1) := by decide +kernel
theorem d11_7 : decode prog_77_method_5_code 7 = .ok (.iaload, 1) := by decide +kernel
theorem d11_8 : decode prog_77_method_5_code 8 = .ok (.ifCond .ne 9, 3) := by decide +kernel
theorem d11_11 : decode prog_77_method_5_code 11 = .ok (.iinc 1 1, 3) := by decide +kernel
theorem d11_14 : decode prog_77_method_5_code 14 = .ok (.goto (-12), 3) := by decide +kernel
theorem d11_17 : decode prog_77_method_5_code 17 = .ok (.aload_n 0, 1) := by decide +kernel
theorem d11_18 : decode prog_77_method_5_code 18 = .ok (.getfield 11, 3) := by decide +kernel
theorem d11_21 : decode prog_77_method_5_code 21 = .ok (.iload_n 1, 1) := by decide +kernel
theorem d11_22 : decode prog_77_method_5_code 22 = .ok (.aaload, 1) := by decide +kernel
theorem d11_23 : decode prog_77_method_5_code 23 = .ok (.astore_n 2, 1) := by decide +kernel
theorem d11_24 : decode prog_77_method_5_code 24 = .ok (.aload_n 0, 1) := by decide +kernel
theorem d11_25 : decode prog_77_method_5_code 25 = .ok (.getfield 15, 3) := by decide +kernel
theorem d11_28 : decode prog_77_method_5_code 28 = .ok (.iload_n 1, 1) := by decide +kernel
theorem d11_29 : decode prog_77_method_5_code 29 = .ok (.iaload, 1) := by decide +kernel
theorem d11_30 : decode prog_77_method_5_code 30 = .ok (.istore_n 3, 1) := by decide +kernel
theorem d11_31 : decode prog_77_method_5_code 31 = .ok (.aload_n 0, 1) := by decide +kernel
theorem d11_32 : decode prog_77_method_5_code 32 = .ok (.getfield 18, 3) := by decide +kernel
theorem d11_35 : decode prog_77_method_5_code 35 = .ok (.aload_n 2, 1) := by decide +kernel
theorem d11_36 : decode prog_77_method_5_code 36 = .ok (.iconst 0, 1) := by decide +kernel
theorem d11_37 : decode prog_77_method_5_code 37 = .ok (.iaload, 1) := by decide +kernel
theorem d11_38 : decode prog_77_method_5_code 38 = .ok (.laload, 1) := by decide +kernel
theorem d11_39 : decode prog_77_method_5_code 39 = .ok (.lstore 4, 2) := by decide +kernel
theorem d11_41 : decode prog_77_method_5_code 41 = .ok (.iconst 1, 1) := by decide +kernel
theorem d11_42 : decode prog_77_method_5_code 42 = .ok (.istore 6, 2) := by decide +kernel
theorem d11_44 : decode prog_77_method_5_code 44 = .ok (.iload 6, 2) := by decide +kernel
theorem d11_46 : decode prog_77_method_5_code 46 = .ok (.iload_n 3, 1) := by decide +kernel
theorem d11_47 : decode prog_77_method_5_code 47 = .ok (.if_icmp .ge 25, 3) := by decide +kernel
theorem d11_50 : decode prog_77_method_5_code 50 = .ok (.lload 4, 2) := by decide +kernel
theorem d11_52 : decode prog_77_method_5_code 52 = .ok (.aload_n 0, 1) := by decide +kernel
theorem d11_53 : decode prog_77_method_5_code 53 = .ok (.getfield 18, 3) := by decide +kernel
theorem d11_56 : decode prog_77_method_5_code 56 = .ok (.aload_n 2, 1) := by decide +kernel
theorem d11_57 : decode prog_77_method_5_code 57 = .ok (.iload 6, 2) := by decide +kernel
theorem d11_59 : decode prog_77_method_5_code 59 = .ok (.iaload, 1) := by decide +kernel
theorem d11_60 : decode prog_77_method_5_code 60 = .ok (.laload, 1) := by decide +kernel
theorem d11_61 : decode prog_77_method_5_code 61 = .ok (.invokestatic 49, 3) := by decide +kernel
theorem d11_64 : decode prog_77_method_5_code 64 = .ok (.lstore 4, 2) := by decide +kernel
theorem d11_66 : decode prog_77_method_5_code 66 = .ok (.iinc 6 1, 3) := by decide +kernel
theorem d11_69 : decode prog_77_method_5_code 69 = .ok (.goto (-25), 3) := by decide +kernel
theorem d11_72 : decode prog_77_method_5_code 72 = .ok (.aload_n 0, 1) := by decide +kernel
theorem d11_73 : decode prog_77_method_5_code 73 = .ok (.lload 4, 2) := by decide +kernel
theorem d11_75 : decode prog_77_method_5_code 75 = .ok (.putfield 45, 3) := by decide +kernel
theorem d11_78 : decode prog_77_method_5_code 78 = .ok (.aload_n 0, 1) := by decide +kernel
theorem d11_79 : decode prog_77_method_5_code 79 = .ok (.getfield 15, 3) := by decide +kernel
theorem d11_82 : decode prog_77_method_5_code 82 = .ok (.iload_n 1, 1) := by decide +kernel
theorem d11_83 : decode prog_77_method_5_code 83 = .ok (.iconst 0, 1) := by decide +kernel
theorem d11_84 : decode prog_77_method_5_code 84 = .ok (.iastore, 1) := by decide +kernel
theorem d11_85 : decode prog_77_method_5_code 85 = .ok (.iconst 0, 1) := by decide +kernel
theorem d11_86 : decode prog_77_method_5_code 86 = .ok (.istore 6, 2) := by decide +kernel
theorem d11_88 : decode prog_77_method_5_code 88 = .ok (.iload 6, 2) := by decide +kernel
theorem d11_90 : decode prog_77_method_5_code 90 = .ok (.iload_n 3, 1) := by decide +kernel
theorem d11_91 : decode prog_77_method_5_code 91 = .ok (.if_icmp .ge 17, 3) := by decide +kernel
theorem d11_94 : decode prog_77_method_5_code 94 = .ok (.aload_n 0, 1) := by decide +kernel
theorem d11_95 : decode prog_77_method_5_code 95 = .ok (.aload_n 2, 1) := by decide +kernel
theorem d11_96 : decode prog_77_method_5_code 96 = .ok (.iload 6, 2) := by decide +kernel
theorem d11_98 : decode prog_77_method_5_code 98 = .ok (.iaload, 1) := by decide +kernel
theorem d11_99 : decode prog_77_method_5_code 99 = .ok (.invokevirtual 38, 3) := by decide +kernel
theorem d11_102 : decode prog_77_method_5_code 102 = .ok (.iinc 6 1, 3) := by decide +kernel
theorem d11_105 : decode prog_77_method_5_code 105 = .ok (.goto (-17), 3) := by decide +kernel
theorem d11_108 : decode prog_77_method_5_code 108 = .ok (.return_, 1) := by decide +kernel
theorem pn11 : plainFor (⟨"com/example/slackweave/slackweave/paths/RadixHeap", "refileLowestBucket", "()V"⟩ : MethodName) = true := plainFor_of_name (by first | (simp [plainName, overriddenIn]; done) | decide +kernel)
theorem own_lt3 {n : Nat} (h : n < 3) : n.toInt32.toNatClampNeg = n ∧ ¬ n.toInt32 < 0 := ⟨(own_64 (by omega)).1, (own_64 (by omega)).2.1⟩
theorem own_hm0 {k : Nat} (h : k ≤ 3) : k.toInt32 = 0 ↔ k = 0 := by
  constructor
  · intro q; have a := (own_small (n := k) (by omega)).1; rw [q] at a; exact a.symm
  · rintro rfl; rfl

theorem own_up_ne {α : Type} {f : Nat → α} {n j : Nat} {x : α} (h : j ≠ n) : own_up f n x j = f j := if_neg h
theorem own_up_self {α : Type} {f : Nat → α} {n : Nat} {x : α} : own_up f n x n = x := if_pos rfl
theorem own_irr (x : Int64) : ¬ x < x := by rw [Int64.lt_iff_toInt_lt]; omega
theorem own_mn_nn {x y : Int64} (h : ¬ x < 0) (g : ¬ y < 0) : ¬ own_mn x y < 0 := by
  rcases (own_mn_le x y).2.2 with q | q <;> rw [q] <;> assumption
theorem own_clr_out {b : Nat → Option Nat} {i n : Nat} (h : b n ≠ some i) : own_clr b i n = b n := if_neg h
theorem own_eo {f : Nat → Int32} {b : Nat → Option Nat} {n k j : Nat} (h : j ≠ n → f j = own_enc (b j)) : own_up f n k.toInt32 j = own_enc (own_up b n (some k) j) := by
  unfold own_up
  by_cases q : j = n
  · rw [if_pos q, if_pos q]; rfl
  · rw [if_neg q, if_neg q]; exact h q
theorem own_eo0 {b : Nat → Option Nat} {i j : Nat} (h : b j ≠ some i) : own_enc (b j) = own_enc (own_clr b i j) := by rw [own_clr_out h]
theorem own_ez {f : Nat → Int32} {p : Nat → Nat} {n k j : Nat} (h : f j = (p j).toInt32) : own_up f n k.toInt32 j = (own_up p n k j).toInt32 := by
  unfold own_up
  by_cases q : j = n
  · rw [if_pos q, if_pos q]
  · rw [if_neg q, if_neg q]; exact h
theorem own_ei {b b0 : Nat → Option Nat} {n k i j : Nat} (e : b0 n = some i) (h : j ≠ n → (b j = none ↔ b0 j = none)) : own_up b n (some k) j = none ↔ b0 j = none := by
  unfold own_up
  by_cases q : j = n
  · rw [if_pos q, q, e]; simp
  · rw [if_neg q]; exact h q
theorem own_ei0 {b : Nat → Option Nat} {i j : Nat} (h : b j ≠ some i) : own_clr b i j = none ↔ b j = none := by rw [own_clr_out h]
theorem own_or {b : Nat → Option Nat} {i k x : Nat} (h : own_hm b i < x) : i ≠ k ∨ x ≠ own_hm b k := by
  by_cases q : i = k
  · subst q; right; omega
  · exact Or.inl q
theorem own_no3 {P : Prop} {m n i j : Nat} (hm : m < 3) (hn : n < 3) (hi : i < 3) (hj : j < 3) (h1 : m ≠ n) (h2 : m ≠ i) (h3 : n ≠ i) (q1 : j ≠ m) (q2 : j ≠ n) (q3 : j ≠ i) : P := by exfalso; omega

set_option maxRecDepth 65536 in
set_option maxHeartbeats 40000000 in
theorem own_refile (l : Launch) (Z : State) (a0 : Array Value) (hw : ∀ d ∈ tables_1, d.before a0 Z = true) (a1 aB aS aK aO aP aI : Addr) (bk : List Value) (Cf : Nat → List Value) (bf : Nat → Option Nat) (pf : Nat → Nat) (la : Int64) (ct : Int32) (yf : Nat → Int64) (i0 i1 i2 : Int32) (h0 : Heap) (hO : Ext Z.heap h0) (H : own_RH Z h0 a1 aB aS aK aO aP aI bk Cf bf la ct (own_enc (bf 0)) (own_enc (bf 1)) (own_enc (bf 2)) (pf 0).toInt32 (pf 1).toInt32 (pf 2).toInt32 (yf 0) (yf 1) (yf 2) i0 i1 i2) (AB : own_AB bf pf bk Cf) (h00 : own_hm bf 0 = 0) (hpres : ∃ n, n < 3 ∧ bf n ≠ none) (hyf : ∀ j, j < 3 → ¬ yf j < 0) :
    own_C l Z (⟨"com/example/slackweave/slackweave/paths/RadixHeap", "refileLowestBucket", "()V"⟩ : MethodName) prog_77_method_5_code 7 none [] ({ frames := 3, cells := 3, slots := 48, locals := 69 } : Room) (own_news Z h0) #[(.ref a1)] h0 (fun v h => v = none ∧ ∃ (bk' : List Value) (C' : Nat → List Value) (b' : Nat → Option Nat) (p' : Nat → Nat) (la' : Int64), own_RH Z h a1 aB aS aK aO aP aI bk' C' b' la' ct (own_enc (b' 0)) (own_enc (b' 1)) (own_enc (b' 2)) (p' 0).toInt32 (p' 1).toInt32 (p' 2).toInt32 (yf 0) (yf 1) (yf 2) i0 i1 i2 ∧ own_AB b' p' bk' C' ∧ ¬ la' < 0 ∧ 1 ≤ own_hm b' 0 ∧ ∀ j, j < 3 → (b' j = none ↔ bf j = none)) := by
  refine own_C.of pn11 hO own_news_le ?_
  intro p e s m below meth c T0 S0
  refine own_F.cast (by first | (simp [entryFrame, mkF, argsToLocals, Value.category]; done) | rfl : entryFrame m #[(.ref a1)] 7 = mkF m 0 #[.val (.ref a1), .unset, .unset, .unset, .unset, .unset, .unset] []) ?_
  obtain ⟨⟨ga, gB, gS, gO, gP, gI⟩, ⟨nSO, nSP, nOP⟩, E_a1, F_buckets, F_sizes, F_keys, F_bucketOf, F_positions, F_last, F_count, RB, AS, AK, AO, AP, AI, BK⟩ := H
  have n1aB := own_neA E_a1 (own_w hw 3 rfl) RB.A
  have naBaS := own_A.neT RB.A AS (by decide)
  have naBaK := own_A.neT RB.A AK (by decide)
  have naBaO := own_A.neT RB.A AO (by decide)
  have naBaP := own_A.neT RB.A AP (by decide)
  have naBaI := own_A.neT RB.A AI (by decide)
  have n1aS := own_neA E_a1 (own_w hw 3 rfl) AS
  have naSaK := own_A.neT AS AK (by decide)
  have naSaI := own_A.neT AS AI (by decide)
  have n1aK := own_neA E_a1 (own_w hw 3 rfl) AK
  have naKaO := own_A.neT AK AO (by decide)
  have naKaP := own_A.neT AK AP (by decide)
  have naKaI := own_A.neT AK AI (by decide)
  have n1aO := own_neA E_a1 (own_w hw 3 rfl) AO
  have naOaI := own_A.neT AO AI (by decide)
  have n1aP := own_neA E_a1 (own_w hw 3 rfl) AP
  have naPaI := own_A.neT AP AI (by decide)
  have n1aI := own_neA E_a1 (own_w hw 3 rfl) AI
  have J17 : ∀ (TJ : State) (SJ : own_S Z h0 (own_news Z h0) (⟨"com/example/slackweave/slackweave/paths/RadixHeap", "refileLowestBucket", "()V"⟩ : MethodName).cls prog_77_method_5_code 7 none (⟨"com/example/slackweave/slackweave/paths/RadixHeap", "refileLowestBucket", "()V"⟩ : MethodName).name p l e ({ frames := 3, cells := 3, slots := 48, locals := 69 } : Room) s m #[.ref a1] below meth c TJ h0 0 0) (iN : Nat), 1 ≤ iN → iN < 64 → own_hm bf iN ≠ 0 → own_F p e below s Z h0 (own_news Z h0) ({ frames := 3, cells := 3, slots := 48, locals := 69 } : Room).cells ({ frames := 3, cells := 3, slots := 48, locals := 69 } : Room).slots (fun v h => v = none ∧ ∃ (bk' : List Value) (C' : Nat → List Value) (b' : Nat → Option Nat) (p' : Nat → Nat) (la' : Int64), own_RH Z h a1 aB aS aK aO aP aI bk' C' b' la' ct (own_enc (b' 0)) (own_enc (b' 1)) (own_enc (b' 2)) (p' 0).toInt32 (p' 1).toInt32 (p' 2).toInt32 (yf 0) (yf 1) (yf 2) i0 i1 i2 ∧ own_AB b' p' bk' C' ∧ ¬ la' < 0 ∧ 1 ≤ own_hm b' 0 ∧ ∀ j, j < 3 → (b' j = none ↔ bf j = none)) (TJ.setTop (mkF m 17 #[.val (.ref a1), .val (.int iN.toInt32), .unset, .unset, .unset, .unset, .unset] [])) := by
    intro TJ SJ iN hi1 hkn hm
    show own_F p e below s Z _ _ _ _ _ (TJ.setTop (mkF m 17 #[.val (.ref a1), .val (.int iN.toInt32), .unset, .unset, .unset, .unset, .unset] []))
    rcases own_seq AB hm with ⟨hsz, m0, hm0, e0, p0, hx⟩ | ⟨hsz, m0, m1, hm0, hm1, n01, e0, e1, p0, p1, hx⟩ | ⟨hsz, m0, m1, m2, hm0, hm1, hm2, n01, n02, n12, e0, e1, e2, p0, p1, p2⟩
    · obtain ⟨-, -, ⟨r, hv⟩, c0⟩ := AB.1 m0 iN hm0 e0
      rw [p0] at c0
      have m1aS := (BK.2.1 _ _ hv).2.2.2.1
      have m1aO := (BK.2.1 _ _ hv).2.2.2.2.1
      have m1aP := (BK.2.1 _ _ hv).2.2.2.2.2
      have m1aB := own_A.neT (BK.2.1 _ _ hv).1 RB.A (by decide)
      have m1aK := own_A.neT (BK.2.1 _ _ hv).1 AK (by decide)
      have m1aI := own_A.neT (BK.2.1 _ _ hv).1 AI (by decide)
      have m1a1 := own_neA E_a1 (own_w hw 3 rfl) (BK.2.1 _ _ hv).1
      show own_F p e below s Z _ _ _ _ _ (TJ.setTop (mkF m 17 #[.val (.ref a1), .val (.int iN.toInt32), .unset, .unset, .unset, .unset, .unset] []))
      refine own_F.of (fun _ => XS.aloadN SJ.here SJ.hx rfl (SJ.dec d11_17) rfl rfl) ?_
      show own_F p e below s Z _ _ _ _ _ (TJ.setTop (mkF m 18 #[.val (.ref a1), .val (.int iN.toInt32), .unset, .unset, .unset, .unset, .unset] [(.ref a1)]))
      refine own_getF SJ (host := "") (Or.inl (own_w hw 13 rfl)) Via.refl F_buckets d11_18 (fun T2 S2 => ?_)
      show own_F p e below s Z _ _ _ _ _ (T2.setTop (mkF m 21 #[.val (.ref a1), .val (.int iN.toInt32), .unset, .unset, .unset, .unset, .unset] [(.ref aB)]))
      refine own_F.of (fun _ => XS.iloadN S2.here S2.hx rfl (S2.dec d11_21) rfl) ?_
      show own_F p e below s Z _ _ _ _ _ (T2.setTop (mkF m 22 #[.val (.ref a1), .val (.int iN.toInt32), .unset, .unset, .unset, .unset, .unset] [(.int iN.toInt32), (.ref aB)]))
      refine own_aald S2 RB.A rfl (own_64 hkn).2.1 (by rw [(own_64 hkn).1]; exact hv) d11_22 ?_
      show own_F p e below s Z _ _ _ _ _ (T2.setTop (mkF m 23 #[.val (.ref a1), .val (.int iN.toInt32), .unset, .unset, .unset, .unset, .unset] [(.ref r)]))
      refine own_F.of (fun _ => XS.astoreN S2.here S2.hx rfl (S2.dec d11_23) rfl rfl (l' := #[.val (.ref a1), .val (.int iN.toInt32), .val (.ref r), .unset, .unset, .unset, .unset]) rfl) ?_
      refine own_F.of (fun _ => XS.aloadN S2.here S2.hx rfl (S2.dec d11_24) rfl rfl) ?_
      show own_F p e below s Z _ _ _ _ _ (T2.setTop (mkF m 25 #[.val (.ref a1), .val (.int iN.toInt32), .val (.ref r), .unset, .unset, .unset, .unset] [(.ref a1)]))
      refine own_getF S2 (host := "") (Or.inl (own_w hw 16 rfl)) Via.refl F_sizes d11_25 (fun T3 S3 => ?_)
      show own_F p e below s Z _ _ _ _ _ (T3.setTop (mkF m 28 #[.val (.ref a1), .val (.int iN.toInt32), .val (.ref r), .unset, .unset, .unset, .unset] [(.ref aS)]))
      refine own_F.of (fun _ => XS.iloadN S3.here S3.hx rfl (S3.dec d11_28) rfl) ?_
      show own_F p e below s Z _ _ _ _ _ (T3.setTop (mkF m 29 #[.val (.ref a1), .val (.int iN.toInt32), .val (.ref r), .unset, .unset, .unset, .unset] [(.int iN.toInt32), (.ref aS)]))
      refine own_iald S3 AS (own_64 hkn).2.1 (by rw [(own_64 hkn).1]; exact (show (own_szL bf)[iN]? = some (.int (1 : Int32)) by rw [own_szat bf hkn, hsz]; rfl)) d11_29 ?_
      show own_F p e below s Z _ _ _ _ _ (T3.setTop (mkF m 30 #[.val (.ref a1), .val (.int iN.toInt32), .val (.ref r), .unset, .unset, .unset, .unset] [(.int 1)]))
      refine own_F.of (fun _ => XS.istoreN S3.here S3.hx rfl (S3.dec d11_30) rfl (l' := #[.val (.ref a1), .val (.int iN.toInt32), .val (.ref r), .val (.int 1), .unset, .unset, .unset]) rfl) ?_
      refine own_F.of (fun _ => XS.aloadN S3.here S3.hx rfl (S3.dec d11_31) rfl rfl) ?_
      show own_F p e below s Z _ _ _ _ _ (T3.setTop (mkF m 32 #[.val (.ref a1), .val (.int iN.toInt32), .val (.ref r), .val (.int 1), .unset, .unset, .unset] [(.ref a1)]))
      refine own_getF S3 (host := "") (Or.inl (own_w hw 18 rfl)) Via.refl F_keys d11_32 (fun T4 S4 => ?_)
      show own_F p e below s Z _ _ _ _ _ (T4.setTop (mkF m 35 #[.val (.ref a1), .val (.int iN.toInt32), .val (.ref r), .val (.int 1), .unset, .unset, .unset] [(.ref aK)]))
      refine own_F.of (fun _ => XS.aloadN S4.here S4.hx rfl (S4.dec d11_35) rfl rfl) ?_
      refine own_F.of (fun _ => XS.iconst S4.here S4.hx rfl (S4.dec d11_36)) ?_
      show own_F p e below s Z _ _ _ _ _ (T4.setTop (mkF m 37 #[.val (.ref a1), .val (.int iN.toInt32), .val (.ref r), .val (.int 1), .unset, .unset, .unset] [(.int 0), (.ref r), (.ref aK)]))
      refine own_iald S4 (BK.2.1 _ _ hv).1 (by decide) (by exact c0) d11_37 ?_
      show own_F p e below s Z _ _ _ _ _ (T4.setTop (mkF m 38 #[.val (.ref a1), .val (.int iN.toInt32), .val (.ref r), .val (.int 1), .unset, .unset, .unset] [(.int m0.toInt32), (.ref aK)]))
      refine own_lald S4 AK (own_lt3 hm0).2 (own_at3 (f := yf) (g := Value.long) hm0) d11_38 ?_
      show own_F p e below s Z _ _ _ _ _ (T4.setTop (mkF m 39 #[.val (.ref a1), .val (.int iN.toInt32), .val (.ref r), .val (.int 1), .unset, .unset, .unset] [(.long (yf m0))]))
      refine own_F.of (fun _ => XS.lstore S4.here S4.hx rfl (S4.dec d11_39) rfl (l' := #[.val (.ref a1), .val (.int iN.toInt32), .val (.ref r), .val (.int 1), .val (.long (yf m0)), .second, .unset]) rfl) ?_
      refine own_F.of (fun _ => XS.iconst S4.here S4.hx rfl (S4.dec d11_41)) ?_
      show own_F p e below s Z _ _ _ _ _ (T4.setTop (mkF m 42 #[.val (.ref a1), .val (.int iN.toInt32), .val (.ref r), .val (.int 1), .val (.long (yf m0)), .second, .unset] [(.int 1)]))
      refine own_F.of (fun _ => XS.istore S4.here S4.hx rfl (S4.dec d11_42) rfl (l' := #[.val (.ref a1), .val (.int iN.toInt32), .val (.ref r), .val (.int 1), .val (.long (yf m0)), .second, .val (.int 1)]) rfl) ?_
      refine own_F.of (fun _ => XS.iload S4.here S4.hx rfl (S4.dec d11_44) rfl) ?_
      refine own_F.of (fun _ => XS.iloadN S4.here S4.hx rfl (S4.dec d11_46) rfl) ?_
      show own_F p e below s Z _ _ _ _ _ (T4.setTop (mkF m 47 #[.val (.ref a1), .val (.int iN.toInt32), .val (.ref r), .val (.int 1), .val (.long (yf m0)), .second, .val (.int 1)] [(.int 1), (.int 1)]))
      refine own_icmp S4 72 d11_47 (by decide) (by decide) (fun (hc47_5 : ¬ ((1 : Int32) < (1 : Int32))) => ?_) (fun (hc47_5 : (1 : Int32) < (1 : Int32)) => False.elim (absurd hc47_5 (by decide)))
      show own_F p e below s Z _ _ _ _ _ (T4.setTop (mkF m 72 #[.val (.ref a1), .val (.int iN.toInt32), .val (.ref r), .val (.int 1), .val (.long (yf m0)), .second, .val (.int 1)] []))
      refine own_F.of (fun _ => XS.aloadN S4.here S4.hx rfl (S4.dec d11_72) rfl rfl) ?_
      refine own_F.of (fun _ => XS.lload S4.here S4.hx rfl (S4.dec d11_73) rfl) ?_
      show own_F p e below s Z _ _ _ _ _ (T4.setTop (mkF m 75 #[.val (.ref a1), .val (.int iN.toInt32), .val (.ref r), .val (.int 1), .val (.long (yf m0)), .second, .val (.int 1)] [(.long (yf m0)), (.ref a1)]))
      refine own_putF S4 (host := "") (Or.inl (own_w hw 49 rfl)) Via.refl F_last E_a1 (Or.inl (own_w hw 50 rfl)) (own_w hw 3 rfl) (ty := .long) (by decide) rfl rfl d11_75 (own_news_may ga) (fun T6 h6 S6 W6 => ?_)
      have Fw6 := F_last.same W6
      show own_F p e below s Z _ _ _ _ _ (T6.setTop (mkF m 78 #[.val (.ref a1), .val (.int iN.toInt32), .val (.ref r), .val (.int 1), .val (.long (yf m0)), .second, .val (.int 1)] []))
      refine own_F.of (fun _ => XS.aloadN S6.here S6.hx rfl (S6.dec d11_78) rfl rfl) ?_
      show own_F p e below s Z _ _ _ _ _ (T6.setTop (mkF m 79 #[.val (.ref a1), .val (.int iN.toInt32), .val (.ref r), .val (.int 1), .val (.long (yf m0)), .second, .val (.int 1)] [(.ref a1)]))
      have fq7 := (F_sizes.other W6 (Or.inr (slot_ne (C := "com/example/slackweave/slackweave/paths/RadixHeap") (Or.inr (own_w hw 17 rfl)) (Or.inl (own_w hw 50 rfl)) (by decide) (t := (.array .int)) (t' := .long) (by decide) (by decide))))
      refine own_getF S6 (host := "") (Or.inl (own_w hw 16 rfl)) Via.refl fq7 d11_79 (fun T8 S8 => ?_)
      show own_F p e below s Z _ _ _ _ _ (T8.setTop (mkF m 82 #[.val (.ref a1), .val (.int iN.toInt32), .val (.ref r), .val (.int 1), .val (.long (yf m0)), .second, .val (.int 1)] [(.ref aS)]))
      refine own_F.of (fun _ => XS.iloadN S8.here S8.hx rfl (S8.dec d11_82) rfl) ?_
      refine own_F.of (fun _ => XS.iconst S8.here S8.hx rfl (S8.dec d11_83)) ?_
      show own_F p e below s Z _ _ _ _ _ (T8.setTop (mkF m 84 #[.val (.ref a1), .val (.int iN.toInt32), .val (.ref r), .val (.int 1), .val (.long (yf m0)), .second, .val (.int 1)] [(.int 0), (.int iN.toInt32), (.ref aS)]))
      have fq9 := (AS.other W6 (Ne.symm n1aS))
      refine own_ist S8 fq9 (own_64 hkn).2.1 (by rw [(own_64 hkn).1, own_szlen]; exact hkn) d11_84 (own_news_may gS) (fun T10 h10 S10 W10 A10 => ?_)
      have B10 := own_szclr hkn A10
      have hL : ¬ (yf m0) < 0 := (hyf m0 hm0)
      show own_F p e below s Z _ _ _ _ _ (T10.setTop (mkF m 85 #[.val (.ref a1), .val (.int iN.toInt32), .val (.ref r), .val (.int 1), .val (.long (yf m0)), .second, .val (.int 1)] []))
      refine own_F.of (fun _ => XS.iconst S10.here S10.hx rfl (S10.dec d11_85)) ?_
      show own_F p e below s Z _ _ _ _ _ (T10.setTop (mkF m 86 #[.val (.ref a1), .val (.int iN.toInt32), .val (.ref r), .val (.int 1), .val (.long (yf m0)), .second, .val (.int 1)] [(.int 0)]))
      refine own_F.of (fun _ => XS.istore S10.here S10.hx rfl (S10.dec d11_86) rfl (l' := #[.val (.ref a1), .val (.int iN.toInt32), .val (.ref r), .val (.int 1), .val (.long (yf m0)), .second, .val (.int 0)]) rfl) ?_
      refine own_F.of (fun _ => XS.iload S10.here S10.hx rfl (S10.dec d11_88) rfl) ?_
      refine own_F.of (fun _ => XS.iloadN S10.here S10.hx rfl (S10.dec d11_90) rfl) ?_
      show own_F p e below s Z _ _ _ _ _ (T10.setTop (mkF m 91 #[.val (.ref a1), .val (.int iN.toInt32), .val (.ref r), .val (.int 1), .val (.long (yf m0)), .second, .val (.int 0)] [(.int 1), (.int 0)]))
      refine own_icmp S10 108 d11_91 (by decide) (by decide) (fun (hc91_11 : ¬ ((0 : Int32) < (1 : Int32))) => False.elim (absurd hc91_11 (by decide))) (fun (hc91_11 : (0 : Int32) < (1 : Int32)) => ?_)
      show own_F p e below s Z _ _ _ _ _ (T10.setTop (mkF m 94 #[.val (.ref a1), .val (.int iN.toInt32), .val (.ref r), .val (.int 1), .val (.long (yf m0)), .second, .val (.int 0)] []))
      refine own_F.of (fun _ => XS.aloadN S10.here S10.hx rfl (S10.dec d11_94) rfl rfl) ?_
      refine own_F.of (fun _ => XS.aloadN S10.here S10.hx rfl (S10.dec d11_95) rfl rfl) ?_
      refine own_F.of (fun _ => XS.iload S10.here S10.hx rfl (S10.dec d11_96) rfl) ?_
      show own_F p e below s Z _ _ _ _ _ (T10.setTop (mkF m 98 #[.val (.ref a1), .val (.int iN.toInt32), .val (.ref r), .val (.int 1), .val (.long (yf m0)), .second, .val (.int 0)] [(.int 0), (.ref r), (.ref a1)]))
      have fq12 := ((BK.oA E_a1 (own_w hw 3 rfl) W6).oS W10)
      refine own_iald S10 (fq12.2.1 _ _ hv).1 (by decide) (by exact c0) d11_98 ?_
      show own_F p e below s Z _ _ _ _ _ (T10.setTop (mkF m 99 #[.val (.ref a1), .val (.int iN.toInt32), .val (.ref r), .val (.int 1), .val (.long (yf m0)), .second, .val (.int 0)] [(.int m0.toInt32), (.ref a1)]))
      have fq13 := ((E_a1.wr W6).wr W10)
      have fq14 := ((F_buckets.other W6 (Or.inr (slot_ne (C := "com/example/slackweave/slackweave/paths/RadixHeap") (Or.inr (own_w hw 14 rfl)) (Or.inl (own_w hw 50 rfl)) (by decide) (t := (.array (.array .int))) (t' := .long) (by decide) (by decide)))).other W10 (Or.inl n1aS))
      have fq15 := (fq7.other W10 (Or.inl n1aS))
      have fq16 := ((F_keys.other W6 (Or.inr (slot_ne (C := "com/example/slackweave/slackweave/paths/RadixHeap") (Or.inr (own_w hw 19 rfl)) (Or.inl (own_w hw 50 rfl)) (by decide) (t := (.array .long)) (t' := .long) (by decide) (by decide)))).other W10 (Or.inl n1aS))
      have fq17 := ((F_bucketOf.other W6 (Or.inr (slot_ne (C := "com/example/slackweave/slackweave/paths/RadixHeap") (Or.inr (own_w hw 21 rfl)) (Or.inl (own_w hw 50 rfl)) (by decide) (t := (.array .int)) (t' := .long) (by decide) (by decide)))).other W10 (Or.inl n1aS))
      have fq18 := ((F_positions.other W6 (Or.inr (slot_ne (C := "com/example/slackweave/slackweave/paths/RadixHeap") (Or.inr (own_w hw 27 rfl)) (Or.inl (own_w hw 50 rfl)) (by decide) (t := (.array .int)) (t' := .long) (by decide) (by decide)))).other W10 (Or.inl n1aS))
      have fq19 := (Fw6.other W10 (Or.inl n1aS))
      have fq20 := ((F_count.other W6 (Or.inr (slot_ne (C := "com/example/slackweave/slackweave/paths/RadixHeap") (Or.inl (own_w hw 35 rfl)) (Or.inl (own_w hw 50 rfl)) (by decide) (t := .int) (t' := .long) (by decide) (by decide)))).other W10 (Or.inl n1aS))
      have fq21 := ((RB.other W6 (Ne.symm n1aB)).other W10 naBaS)
      have fq22 := ((AK.other W6 (Ne.symm n1aK)).other W10 (Ne.symm naSaK))
      have fq23 := ((AO.other W6 (Ne.symm n1aO)).other W10 (Ne.symm nSO))
      have fq24 := ((AP.other W6 (Ne.symm n1aP)).other W10 (Ne.symm nSP))
      have fq25 := ((AI.other W6 (Ne.symm n1aI)).other W10 (Ne.symm naSaI))
      refine own_callP S10 (y := (⟨"com/example/slackweave/slackweave/paths/RadixHeap", "file", "(I)V"⟩ : MethodName)) (own_w hw 45 rfl) (own_w hw 46 rfl) (own_w hw 3 rfl) (own_w hw 47 rfl) (own_w hw 48 rfl) (own_w hw 4 rfl) (by decide) fq13 (argsL := [(.int m0.toInt32)]) (rest := []) (own_fileG l Z a0 hw m0 hm0 a1 aB aS aK aO aP aI bk Cf (own_clr bf iN) pf (yf m0) ct (fun j => own_enc (bf j)) (fun j => (pf j).toInt32) yf i0 i1 i2 h10 S10.old ⟨⟨ga, gB, gS, gO, gP, gI⟩, ⟨nSO, nSP, nOP⟩, fq13, fq14, fq15, fq16, fq17, fq18, fq19, fq20, fq21, B10, fq22, fq23, fq24, fq25, fq12⟩ (own_AB.clr AB iN) (own_clr_in e0) hL (hyf m0 hm0)) own_news_sub (by decide +kernel : parseMethodDescriptor "(I)V" = some ⟨[.int], none⟩) rfl rfl rfl d11_99 (by decide) (Nat.le_of_ble_eq_true rfl) (by decide) (by decide) (fun T26 h26 v26 S26 K26 q26 => ?_)
      obtain ⟨rfl, k26, bq26, cq26, hq26, kz26, H26, B26, X26⟩ := q26
      show own_F p e below s Z _ _ _ _ _ (T26.setTop (mkF m 102 #[.val (.ref a1), .val (.int iN.toInt32), .val (.ref r), .val (.int 1), .val (.long (yf m0)), .second, .val (.int 0)] []))
      refine own_F.of (fun _ => XS.iinc S26.here S26.hx rfl (S26.dec d11_102) rfl (l' := #[.val (.ref a1), .val (.int iN.toInt32), .val (.ref r), .val (.int 1), .val (.long (yf m0)), .second, .val (.int 1)]) rfl) ?_
      show own_F p e below s Z _ _ _ _ _ (T26.setTop (mkF m 105 #[.val (.ref a1), .val (.int iN.toInt32), .val (.ref r), .val (.int 1), .val (.long (yf m0)), .second, .val (.int 1)] []))
      refine own_F.of (fun _ => XS.goto S26.here S26.hx rfl (pc0 := 105) (pc' := 88) rfl (S26.dec d11_105) (by decide) (by decide)) ?_
      show own_F p e below s Z _ _ _ _ _ (T26.setTop (mkF m 88 #[.val (.ref a1), .val (.int iN.toInt32), .val (.ref r), .val (.int 1), .val (.long (yf m0)), .second, .val (.int 1)] []))
      refine own_F.of (fun _ => XS.iload S26.here S26.hx rfl (S26.dec d11_88) rfl) ?_
      refine own_F.of (fun _ => XS.iloadN S26.here S26.hx rfl (S26.dec d11_90) rfl) ?_
      show own_F p e below s Z _ _ _ _ _ (T26.setTop (mkF m 91 #[.val (.ref a1), .val (.int iN.toInt32), .val (.ref r), .val (.int 1), .val (.long (yf m0)), .second, .val (.int 1)] [(.int 1), (.int 1)]))
      refine own_icmp S26 108 d11_91 (by decide) (by decide) (fun (hc91_27 : ¬ ((1 : Int32) < (1 : Int32))) => ?_) (fun (hc91_27 : (1 : Int32) < (1 : Int32)) => False.elim (absurd hc91_27 (by decide)))
      show own_F p e below s Z _ _ _ _ _ (T26.setTop (mkF m 108 #[.val (.ref a1), .val (.int iN.toInt32), .val (.ref r), .val (.int 1), .val (.long (yf m0)), .second, .val (.int 1)] []))
      refine own_retV S26 d11_108 (by decide) (by decide) ?_
      have eo : ∀ j, j < 3 → (own_up (fun j => own_enc (bf j)) m0 k26.toInt32) j = own_enc ((own_up (own_clr bf iN) m0 (some k26)) j) := fun j hj => own_eo (fun q0 => own_eo0 (hx j hj q0))
      have ez : ∀ j, (own_up (fun j => (pf j).toInt32) m0 (own_hm (own_clr bf iN) k26).toInt32) j = ((own_up pf m0 (own_hm (own_clr bf iN) k26)) j).toInt32 := fun j => own_ez rfl
      have ei : ∀ j, j < 3 → ((own_up (own_clr bf iN) m0 (some k26)) j = none ↔ bf j = none) := fun j hj => own_ei e0 (fun q0 => own_ei0 (hx j hj q0))
      rw [eo 0 (by decide), eo 1 (by decide), eo 2 (by decide), ez 0, ez 1, ez 2] at H26
      have g0 : k26 = 0 → 1 ≤ own_hm (own_up (own_clr bf iN) m0 (some k26)) 0 := fun q => own_hm_pos hm0 (own_up_self.trans (congrArg some q))
      have hp1 := g0 (kz26 (own_irr _))
      exact ⟨rfl, bq26, cq26, (own_up (own_clr bf iN) m0 (some k26)), (own_up pf m0 (own_hm (own_clr bf iN) k26)), (yf m0), H26, B26, hL, hp1, ei⟩
    · obtain ⟨-, -, ⟨r, hv⟩, c0⟩ := AB.1 m0 iN hm0 e0
      rw [p0] at c0
      have c1 := (AB.1 m1 iN hm1 e1).2.2.2
      rw [p1] at c1
      have m28aS := (BK.2.1 _ _ hv).2.2.2.1
      have m28aO := (BK.2.1 _ _ hv).2.2.2.2.1
      have m28aP := (BK.2.1 _ _ hv).2.2.2.2.2
      have m28aB := own_A.neT (BK.2.1 _ _ hv).1 RB.A (by decide)
      have m28aK := own_A.neT (BK.2.1 _ _ hv).1 AK (by decide)
      have m28aI := own_A.neT (BK.2.1 _ _ hv).1 AI (by decide)
      have m28a1 := own_neA E_a1 (own_w hw 3 rfl) (BK.2.1 _ _ hv).1
      show own_F p e below s Z _ _ _ _ _ (TJ.setTop (mkF m 17 #[.val (.ref a1), .val (.int iN.toInt32), .unset, .unset, .unset, .unset, .unset] []))
      refine own_F.of (fun _ => XS.aloadN SJ.here SJ.hx rfl (SJ.dec d11_17) rfl rfl) ?_
      show own_F p e below s Z _ _ _ _ _ (TJ.setTop (mkF m 18 #[.val (.ref a1), .val (.int iN.toInt32), .unset, .unset, .unset, .unset, .unset] [(.ref a1)]))
      refine own_getF SJ (host := "") (Or.inl (own_w hw 13 rfl)) Via.refl F_buckets d11_18 (fun T29 S29 => ?_)
      show own_F p e below s Z _ _ _ _ _ (T29.setTop (mkF m 21 #[.val (.ref a1), .val (.int iN.toInt32), .unset, .unset, .unset, .unset, .unset] [(.ref aB)]))
      refine own_F.of (fun _ => XS.iloadN S29.here S29.hx rfl (S29.dec d11_21) rfl) ?_
      show own_F p e below s Z _ _ _ _ _ (T29.setTop (mkF m 22 #[.val (.ref a1), .val (.int iN.toInt32), .unset, .unset, .unset, .unset, .unset] [(.int iN.toInt32), (.ref aB)]))
      refine own_aald S29 RB.A rfl (own_64 hkn).2.1 (by rw [(own_64 hkn).1]; exact hv) d11_22 ?_
      show own_F p e below s Z _ _ _ _ _ (T29.setTop (mkF m 23 #[.val (.ref a1), .val (.int iN.toInt32), .unset, .unset, .unset, .unset, .unset] [(.ref r)]))
      refine own_F.of (fun _ => XS.astoreN S29.here S29.hx rfl (S29.dec d11_23) rfl rfl (l' := #[.val (.ref a1), .val (.int iN.toInt32), .val (.ref r), .unset, .unset, .unset, .unset]) rfl) ?_
      refine own_F.of (fun _ => XS.aloadN S29.here S29.hx rfl (S29.dec d11_24) rfl rfl) ?_
      show own_F p e below s Z _ _ _ _ _ (T29.setTop (mkF m 25 #[.val (.ref a1), .val (.int iN.toInt32), .val (.ref r), .unset, .unset, .unset, .unset] [(.ref a1)]))
      refine own_getF S29 (host := "") (Or.inl (own_w hw 16 rfl)) Via.refl F_sizes d11_25 (fun T30 S30 => ?_)
      show own_F p e below s Z _ _ _ _ _ (T30.setTop (mkF m 28 #[.val (.ref a1), .val (.int iN.toInt32), .val (.ref r), .unset, .unset, .unset, .unset] [(.ref aS)]))
      refine own_F.of (fun _ => XS.iloadN S30.here S30.hx rfl (S30.dec d11_28) rfl) ?_
      show own_F p e below s Z _ _ _ _ _ (T30.setTop (mkF m 29 #[.val (.ref a1), .val (.int iN.toInt32), .val (.ref r), .unset, .unset, .unset, .unset] [(.int iN.toInt32), (.ref aS)]))
      refine own_iald S30 AS (own_64 hkn).2.1 (by rw [(own_64 hkn).1]; exact (show (own_szL bf)[iN]? = some (.int (2 : Int32)) by rw [own_szat bf hkn, hsz]; rfl)) d11_29 ?_
      show own_F p e below s Z _ _ _ _ _ (T30.setTop (mkF m 30 #[.val (.ref a1), .val (.int iN.toInt32), .val (.ref r), .unset, .unset, .unset, .unset] [(.int 2)]))
      refine own_F.of (fun _ => XS.istoreN S30.here S30.hx rfl (S30.dec d11_30) rfl (l' := #[.val (.ref a1), .val (.int iN.toInt32), .val (.ref r), .val (.int 2), .unset, .unset, .unset]) rfl) ?_
      refine own_F.of (fun _ => XS.aloadN S30.here S30.hx rfl (S30.dec d11_31) rfl rfl) ?_
      show own_F p e below s Z _ _ _ _ _ (T30.setTop (mkF m 32 #[.val (.ref a1), .val (.int iN.toInt32), .val (.ref r), .val (.int 2), .unset, .unset, .unset] [(.ref a1)]))
      refine own_getF S30 (host := "") (Or.inl (own_w hw 18 rfl)) Via.refl F_keys d11_32 (fun T31 S31 => ?_)
      show own_F p e below s Z _ _ _ _ _ (T31.setTop (mkF m 35 #[.val (.ref a1), .val (.int iN.toInt32), .val (.ref r), .val (.int 2), .unset, .unset, .unset] [(.ref aK)]))
      refine own_F.of (fun _ => XS.aloadN S31.here S31.hx rfl (S31.dec d11_35) rfl rfl) ?_
      refine own_F.of (fun _ => XS.iconst S31.here S31.hx rfl (S31.dec d11_36)) ?_
      show own_F p e below s Z _ _ _ _ _ (T31.setTop (mkF m 37 #[.val (.ref a1), .val (.int iN.toInt32), .val (.ref r), .val (.int 2), .unset, .unset, .unset] [(.int 0), (.ref r), (.ref aK)]))
      refine own_iald S31 (BK.2.1 _ _ hv).1 (by decide) (by exact c0) d11_37 ?_
      show own_F p e below s Z _ _ _ _ _ (T31.setTop (mkF m 38 #[.val (.ref a1), .val (.int iN.toInt32), .val (.ref r), .val (.int 2), .unset, .unset, .unset] [(.int m0.toInt32), (.ref aK)]))
      refine own_lald S31 AK (own_lt3 hm0).2 (own_at3 (f := yf) (g := Value.long) hm0) d11_38 ?_
      show own_F p e below s Z _ _ _ _ _ (T31.setTop (mkF m 39 #[.val (.ref a1), .val (.int iN.toInt32), .val (.ref r), .val (.int 2), .unset, .unset, .unset] [(.long (yf m0))]))
      refine own_F.of (fun _ => XS.lstore S31.here S31.hx rfl (S31.dec d11_39) rfl (l' := #[.val (.ref a1), .val (.int iN.toInt32), .val (.ref r), .val (.int 2), .val (.long (yf m0)), .second, .unset]) rfl) ?_
      refine own_F.of (fun _ => XS.iconst S31.here S31.hx rfl (S31.dec d11_41)) ?_
      show own_F p e below s Z _ _ _ _ _ (T31.setTop (mkF m 42 #[.val (.ref a1), .val (.int iN.toInt32), .val (.ref r), .val (.int 2), .val (.long (yf m0)), .second, .unset] [(.int 1)]))
      refine own_F.of (fun _ => XS.istore S31.here S31.hx rfl (S31.dec d11_42) rfl (l' := #[.val (.ref a1), .val (.int iN.toInt32), .val (.ref r), .val (.int 2), .val (.long (yf m0)), .second, .val (.int 1)]) rfl) ?_
      refine own_F.of (fun _ => XS.iload S31.here S31.hx rfl (S31.dec d11_44) rfl) ?_
      refine own_F.of (fun _ => XS.iloadN S31.here S31.hx rfl (S31.dec d11_46) rfl) ?_
      show own_F p e below s Z _ _ _ _ _ (T31.setTop (mkF m 47 #[.val (.ref a1), .val (.int iN.toInt32), .val (.ref r), .val (.int 2), .val (.long (yf m0)), .second, .val (.int 1)] [(.int 2), (.int 1)]))
      refine own_icmp S31 72 d11_47 (by decide) (by decide) (fun (hc47_32 : ¬ ((1 : Int32) < (2 : Int32))) => False.elim (absurd hc47_32 (by decide))) (fun (hc47_32 : (1 : Int32) < (2 : Int32)) => ?_)
      show own_F p e below s Z _ _ _ _ _ (T31.setTop (mkF m 50 #[.val (.ref a1), .val (.int iN.toInt32), .val (.ref r), .val (.int 2), .val (.long (yf m0)), .second, .val (.int 1)] []))
      refine own_F.of (fun _ => XS.lload S31.here S31.hx rfl (S31.dec d11_50) rfl) ?_
      refine own_F.of (fun _ => XS.aloadN S31.here S31.hx rfl (S31.dec d11_52) rfl rfl) ?_
      show own_F p e below s Z _ _ _ _ _ (T31.setTop (mkF m 53 #[.val (.ref a1), .val (.int iN.toInt32), .val (.ref r), .val (.int 2), .val (.long (yf m0)), .second, .val (.int 1)] [(.ref a1), (.long (yf m0))]))
      refine own_getF S31 (host := "") (Or.inl (own_w hw 18 rfl)) Via.refl F_keys d11_53 (fun T33 S33 => ?_)
      show own_F p e below s Z _ _ _ _ _ (T33.setTop (mkF m 56 #[.val (.ref a1), .val (.int iN.toInt32), .val (.ref r), .val (.int 2), .val (.long (yf m0)), .second, .val (.int 1)] [(.ref aK), (.long (yf m0))]))
      refine own_F.of (fun _ => XS.aloadN S33.here S33.hx rfl (S33.dec d11_56) rfl rfl) ?_
      refine own_F.of (fun _ => XS.iload S33.here S33.hx rfl (S33.dec d11_57) rfl) ?_
      show own_F p e below s Z _ _ _ _ _ (T33.setTop (mkF m 59 #[.val (.ref a1), .val (.int iN.toInt32), .val (.ref r), .val (.int 2), .val (.long (yf m0)), .second, .val (.int 1)] [(.int 1), (.ref r), (.ref aK), (.long (yf m0))]))
      refine own_iald S33 (BK.2.1 _ _ hv).1 (by decide) (by exact c1) d11_59 ?_
      show own_F p e below s Z _ _ _ _ _ (T33.setTop (mkF m 60 #[.val (.ref a1), .val (.int iN.toInt32), .val (.ref r), .val (.int 2), .val (.long (yf m0)), .second, .val (.int 1)] [(.int m1.toInt32), (.ref aK), (.long (yf m0))]))
      refine own_lald S33 AK (own_lt3 hm1).2 (own_at3 (f := yf) (g := Value.long) hm1) d11_60 ?_
      show own_F p e below s Z _ _ _ _ _ (T33.setTop (mkF m 61 #[.val (.ref a1), .val (.int iN.toInt32), .val (.ref r), .val (.int 2), .val (.long (yf m0)), .second, .val (.int 1)] [(.long (yf m1)), (.long (yf m0))]))
      refine own_callS S33 (y := (⟨"java/lang/Math", "min", "(JJ)J"⟩ : MethodName)) (own_w hw 70 rfl) (own_w hw 71 rfl) (own_w hw 72 rfl) (own_w hw 73 rfl) (by decide) (argsL := [(.long (yf m0)), (.long (yf m1))]) (rest := []) (own_min l Z a0 hw (yf m0) (yf m1) h0 S33.old) all0 (by decide +kernel : parseMethodDescriptor "(JJ)J" = some ⟨[.long, .long], some .long⟩) rfl rfl rfl d11_61 (by decide) (Nat.le_of_ble_eq_true rfl) (by decide) (by decide) (fun T34 h34 v34 S34 K34 q34 => ?_)
      obtain ⟨rfl, rfl⟩ := q34
      show own_F p e below s Z _ _ _ _ _ (T34.setTop (mkF m 64 #[.val (.ref a1), .val (.int iN.toInt32), .val (.ref r), .val (.int 2), .val (.long (yf m0)), .second, .val (.int 1)] [(.long (own_mn (yf m0) (yf m1)))]))
      refine own_F.of (fun _ => XS.lstore S34.here S34.hx rfl (S34.dec d11_64) rfl (l' := #[.val (.ref a1), .val (.int iN.toInt32), .val (.ref r), .val (.int 2), .val (.long (own_mn (yf m0) (yf m1))), .second, .val (.int 1)]) rfl) ?_
      show own_F p e below s Z _ _ _ _ _ (T34.setTop (mkF m 66 #[.val (.ref a1), .val (.int iN.toInt32), .val (.ref r), .val (.int 2), .val (.long (own_mn (yf m0) (yf m1))), .second, .val (.int 1)] []))
      refine own_F.of (fun _ => XS.iinc S34.here S34.hx rfl (S34.dec d11_66) rfl (l' := #[.val (.ref a1), .val (.int iN.toInt32), .val (.ref r), .val (.int 2), .val (.long (own_mn (yf m0) (yf m1))), .second, .val (.int 2)]) rfl) ?_
      show own_F p e below s Z _ _ _ _ _ (T34.setTop (mkF m 69 #[.val (.ref a1), .val (.int iN.toInt32), .val (.ref r), .val (.int 2), .val (.long (own_mn (yf m0) (yf m1))), .second, .val (.int 2)] []))
      refine own_F.of (fun _ => XS.goto S34.here S34.hx rfl (pc0 := 69) (pc' := 44) rfl (S34.dec d11_69) (by decide) (by decide)) ?_
      show own_F p e below s Z _ _ _ _ _ (T34.setTop (mkF m 44 #[.val (.ref a1), .val (.int iN.toInt32), .val (.ref r), .val (.int 2), .val (.long (own_mn (yf m0) (yf m1))), .second, .val (.int 2)] []))
      refine own_F.of (fun _ => XS.iload S34.here S34.hx rfl (S34.dec d11_44) rfl) ?_
      refine own_F.of (fun _ => XS.iloadN S34.here S34.hx rfl (S34.dec d11_46) rfl) ?_
      show own_F p e below s Z _ _ _ _ _ (T34.setTop (mkF m 47 #[.val (.ref a1), .val (.int iN.toInt32), .val (.ref r), .val (.int 2), .val (.long (own_mn (yf m0) (yf m1))), .second, .val (.int 2)] [(.int 2), (.int 2)]))
      refine own_icmp S34 72 d11_47 (by decide) (by decide) (fun (hc47_35 : ¬ ((2 : Int32) < (2 : Int32))) => ?_) (fun (hc47_35 : (2 : Int32) < (2 : Int32)) => False.elim (absurd hc47_35 (by decide)))
      show own_F p e below s Z _ _ _ _ _ (T34.setTop (mkF m 72 #[.val (.ref a1), .val (.int iN.toInt32), .val (.ref r), .val (.int 2), .val (.long (own_mn (yf m0) (yf m1))), .second, .val (.int 2)] []))
      refine own_F.of (fun _ => XS.aloadN S34.here S34.hx rfl (S34.dec d11_72) rfl rfl) ?_
      refine own_F.of (fun _ => XS.lload S34.here S34.hx rfl (S34.dec d11_73) rfl) ?_
      show own_F p e below s Z _ _ _ _ _ (T34.setTop (mkF m 75 #[.val (.ref a1), .val (.int iN.toInt32), .val (.ref r), .val (.int 2), .val (.long (own_mn (yf m0) (yf m1))), .second, .val (.int 2)] [(.long (own_mn (yf m0) (yf m1))), (.ref a1)]))
      refine own_putF S34 (host := "") (Or.inl (own_w hw 49 rfl)) Via.refl F_last E_a1 (Or.inl (own_w hw 50 rfl)) (own_w hw 3 rfl) (ty := .long) (by decide) rfl rfl d11_75 (own_news_may ga) (fun T36 h36 S36 W36 => ?_)
      have Fw36 := F_last.same W36
      show own_F p e below s Z _ _ _ _ _ (T36.setTop (mkF m 78 #[.val (.ref a1), .val (.int iN.toInt32), .val (.ref r), .val (.int 2), .val (.long (own_mn (yf m0) (yf m1))), .second, .val (.int 2)] []))
      refine own_F.of (fun _ => XS.aloadN S36.here S36.hx rfl (S36.dec d11_78) rfl rfl) ?_
      show own_F p e below s Z _ _ _ _ _ (T36.setTop (mkF m 79 #[.val (.ref a1), .val (.int iN.toInt32), .val (.ref r), .val (.int 2), .val (.long (own_mn (yf m0) (yf m1))), .second, .val (.int 2)] [(.ref a1)]))
      have fq37 := (F_sizes.other W36 (Or.inr (slot_ne (C := "com/example/slackweave/slackweave/paths/RadixHeap") (Or.inr (own_w hw 17 rfl)) (Or.inl (own_w hw 50 rfl)) (by decide) (t := (.array .int)) (t' := .long) (by decide) (by decide))))
      refine own_getF S36 (host := "") (Or.inl (own_w hw 16 rfl)) Via.refl fq37 d11_79 (fun T38 S38 => ?_)
      show own_F p e below s Z _ _ _ _ _ (T38.setTop (mkF m 82 #[.val (.ref a1), .val (.int iN.toInt32), .val (.ref r), .val (.int 2), .val (.long (own_mn (yf m0) (yf m1))), .second, .val (.int 2)] [(.ref aS)]))
      refine own_F.of (fun _ => XS.iloadN S38.here S38.hx rfl (S38.dec d11_82) rfl) ?_
      refine own_F.of (fun _ => XS.iconst S38.here S38.hx rfl (S38.dec d11_83)) ?_
      show own_F p e below s Z _ _ _ _ _ (T38.setTop (mkF m 84 #[.val (.ref a1), .val (.int iN.toInt32), .val (.ref r), .val (.int 2), .val (.long (own_mn (yf m0) (yf m1))), .second, .val (.int 2)] [(.int 0), (.int iN.toInt32), (.ref aS)]))
      have fq39 := (AS.other W36 (Ne.symm n1aS))
      refine own_ist S38 fq39 (own_64 hkn).2.1 (by rw [(own_64 hkn).1, own_szlen]; exact hkn) d11_84 (own_news_may gS) (fun T40 h40 S40 W40 A40 => ?_)
      have B40 := own_szclr hkn A40
      have hL : ¬ (own_mn (yf m0) (yf m1)) < 0 := (own_mn_nn (hyf m0 hm0) (hyf m1 hm1))
      show own_F p e below s Z _ _ _ _ _ (T40.setTop (mkF m 85 #[.val (.ref a1), .val (.int iN.toInt32), .val (.ref r), .val (.int 2), .val (.long (own_mn (yf m0) (yf m1))), .second, .val (.int 2)] []))
      refine own_F.of (fun _ => XS.iconst S40.here S40.hx rfl (S40.dec d11_85)) ?_
      show own_F p e below s Z _ _ _ _ _ (T40.setTop (mkF m 86 #[.val (.ref a1), .val (.int iN.toInt32), .val (.ref r), .val (.int 2), .val (.long (own_mn (yf m0) (yf m1))), .second, .val (.int 2)] [(.int 0)]))
      refine own_F.of (fun _ => XS.istore S40.here S40.hx rfl (S40.dec d11_86) rfl (l' := #[.val (.ref a1), .val (.int iN.toInt32), .val (.ref r), .val (.int 2), .val (.long (own_mn (yf m0) (yf m1))), .second, .val (.int 0)]) rfl) ?_
      refine own_F.of (fun _ => XS.iload S40.here S40.hx rfl (S40.dec d11_88) rfl) ?_
      refine own_F.of (fun _ => XS.iloadN S40.here S40.hx rfl (S40.dec d11_90) rfl) ?_
      show own_F p e below s Z _ _ _ _ _ (T40.setTop (mkF m 91 #[.val (.ref a1), .val (.int iN.toInt32), .val (.ref r), .val (.int 2), .val (.long (own_mn (yf m0) (yf m1))), .second, .val (.int 0)] [(.int 2), (.int 0)]))
      refine own_icmp S40 108 d11_91 (by decide) (by decide) (fun (hc91_41 : ¬ ((0 : Int32) < (2 : Int32))) => False.elim (absurd hc91_41 (by decide))) (fun (hc91_41 : (0 : Int32) < (2 : Int32)) => ?_)
      show own_F p e below s Z _ _ _ _ _ (T40.setTop (mkF m 94 #[.val (.ref a1), .val (.int iN.toInt32), .val (.ref r), .val (.int 2), .val (.long (own_mn (yf m0) (yf m1))), .second, .val (.int 0)] []))
      refine own_F.of (fun _ => XS.aloadN S40.here S40.hx rfl (S40.dec d11_94) rfl rfl) ?_
      refine own_F.of (fun _ => XS.aloadN S40.here S40.hx rfl (S40.dec d11_95) rfl rfl) ?_
      refine own_F.of (fun _ => XS.iload S40.here S40.hx rfl (S40.dec d11_96) rfl) ?_
      show own_F p e below s Z _ _ _ _ _ (T40.setTop (mkF m 98 #[.val (.ref a1), .val (.int iN.toInt32), .val (.ref r), .val (.int 2), .val (.long (own_mn (yf m0) (yf m1))), .second, .val (.int 0)] [(.int 0), (.ref r), (.ref a1)]))
      have fq42 := ((BK.oA E_a1 (own_w hw 3 rfl) W36).oS W40)
      refine own_iald S40 (fq42.2.1 _ _ hv).1 (by decide) (by exact c0) d11_98 ?_
      show own_F p e below s Z _ _ _ _ _ (T40.setTop (mkF m 99 #[.val (.ref a1), .val (.int iN.toInt32), .val (.ref r), .val (.int 2), .val (.long (own_mn (yf m0) (yf m1))), .second, .val (.int 0)] [(.int m0.toInt32), (.ref a1)]))
      have fq43 := ((E_a1.wr W36).wr W40)
      have fq44 := ((F_buckets.other W36 (Or.inr (slot_ne (C := "com/example/slackweave/slackweave/paths/RadixHeap") (Or.inr (own_w hw 14 rfl)) (Or.inl (own_w hw 50 rfl)) (by decide) (t := (.array (.array .int))) (t' := .long) (by decide) (by decide)))).other W40 (Or.inl n1aS))
      have fq45 := (fq37.other W40 (Or.inl n1aS))
      have fq46 := ((F_keys.other W36 (Or.inr (slot_ne (C := "com/example/slackweave/slackweave/paths/RadixHeap") (Or.inr (own_w hw 19 rfl)) (Or.inl (own_w hw 50 rfl)) (by decide) (t := (.array .long)) (t' := .long) (by decide) (by decide)))).other W40 (Or.inl n1aS))
      have fq47 := ((F_bucketOf.other W36 (Or.inr (slot_ne (C := "com/example/slackweave/slackweave/paths/RadixHeap") (Or.inr (own_w hw 21 rfl)) (Or.inl (own_w hw 50 rfl)) (by decide) (t := (.array .int)) (t' := .long) (by decide) (by decide)))).other W40 (Or.inl n1aS))
      have fq48 := ((F_positions.other W36 (Or.inr (slot_ne (C := "com/example/slackweave/slackweave/paths/RadixHeap") (Or.inr (own_w hw 27 rfl)) (Or.inl (own_w hw 50 rfl)) (by decide) (t := (.array .int)) (t' := .long) (by decide) (by decide)))).other W40 (Or.inl n1aS))
      have fq49 := (Fw36.other W40 (Or.inl n1aS))
      have fq50 := ((F_count.other W36 (Or.inr (slot_ne (C := "com/example/slackweave/slackweave/paths/RadixHeap") (Or.inl (own_w hw 35 rfl)) (Or.inl (own_w hw 50 rfl)) (by decide) (t := .int) (t' := .long) (by decide) (by decide)))).other W40 (Or.inl n1aS))
      have fq51 := ((RB.other W36 (Ne.symm n1aB)).other W40 naBaS)
      have fq52 := ((AK.other W36 (Ne.symm n1aK)).other W40 (Ne.symm naSaK))
      have fq53 := ((AO.other W36 (Ne.symm n1aO)).other W40 (Ne.symm nSO))
      have fq54 := ((AP.other W36 (Ne.symm n1aP)).other W40 (Ne.symm nSP))
      have fq55 := ((AI.other W36 (Ne.symm n1aI)).other W40 (Ne.symm naSaI))
      refine own_callP S40 (y := (⟨"com/example/slackweave/slackweave/paths/RadixHeap", "file", "(I)V"⟩ : MethodName)) (own_w hw 45 rfl) (own_w hw 46 rfl) (own_w hw 3 rfl) (own_w hw 47 rfl) (own_w hw 48 rfl) (own_w hw 4 rfl) (by decide) fq43 (argsL := [(.int m0.toInt32)]) (rest := []) (own_fileG l Z a0 hw m0 hm0 a1 aB aS aK aO aP aI bk Cf (own_clr bf iN) pf (own_mn (yf m0) (yf m1)) ct (fun j => own_enc (bf j)) (fun j => (pf j).toInt32) yf i0 i1 i2 h40 S40.old ⟨⟨ga, gB, gS, gO, gP, gI⟩, ⟨nSO, nSP, nOP⟩, fq43, fq44, fq45, fq46, fq47, fq48, fq49, fq50, fq51, B40, fq52, fq53, fq54, fq55, fq42⟩ (own_AB.clr AB iN) (own_clr_in e0) hL (hyf m0 hm0)) own_news_sub (by decide +kernel : parseMethodDescriptor "(I)V" = some ⟨[.int], none⟩) rfl rfl rfl d11_99 (by decide) (Nat.le_of_ble_eq_true rfl) (by decide) (by decide) (fun T56 h56 v56 S56 K56 q56 => ?_)
      obtain ⟨rfl, k56, bq56, cq56, hq56, kz56, H56, B56, X56⟩ := q56
      have z56 : own_hm (own_clr bf iN) iN ≤ 0 := by rw [own_hm_clr, if_pos rfl]; exact Nat.le_refl 0
      have hv56 := (X56 iN r hv).1
      have c1_56 := ((X56 iN r hv).2 1 (own_or (by omega))).trans c1
      obtain ⟨-, -, E_a1_56, F_buckets_56, F_sizes_56, F_keys_56, F_bucketOf_56, F_positions_56, F_last_56, F_count_56, RB_56, AS_56, AK_56, AO_56, AP_56, AI_56, BK_56⟩ := H56
      show own_F p e below s Z _ _ _ _ _ (T56.setTop (mkF m 102 #[.val (.ref a1), .val (.int iN.toInt32), .val (.ref r), .val (.int 2), .val (.long (own_mn (yf m0) (yf m1))), .second, .val (.int 0)] []))
      refine own_F.of (fun _ => XS.iinc S56.here S56.hx rfl (S56.dec d11_102) rfl (l' := #[.val (.ref a1), .val (.int iN.toInt32), .val (.ref r), .val (.int 2), .val (.long (own_mn (yf m0) (yf m1))), .second, .val (.int 1)]) rfl) ?_
      show own_F p e below s Z _ _ _ _ _ (T56.setTop (mkF m 105 #[.val (.ref a1), .val (.int iN.toInt32), .val (.ref r), .val (.int 2), .val (.long (own_mn (yf m0) (yf m1))), .second, .val (.int 1)] []))
      refine own_F.of (fun _ => XS.goto S56.here S56.hx rfl (pc0 := 105) (pc' := 88) rfl (S56.dec d11_105) (by decide) (by decide)) ?_
      show own_F p e below s Z _ _ _ _ _ (T56.setTop (mkF m 88 #[.val (.ref a1), .val (.int iN.toInt32), .val (.ref r), .val (.int 2), .val (.long (own_mn (yf m0) (yf m1))), .second, .val (.int 1)] []))
      refine own_F.of (fun _ => XS.iload S56.here S56.hx rfl (S56.dec d11_88) rfl) ?_
      refine own_F.of (fun _ => XS.iloadN S56.here S56.hx rfl (S56.dec d11_90) rfl) ?_
      show own_F p e below s Z _ _ _ _ _ (T56.setTop (mkF m 91 #[.val (.ref a1), .val (.int iN.toInt32), .val (.ref r), .val (.int 2), .val (.long (own_mn (yf m0) (yf m1))), .second, .val (.int 1)] [(.int 2), (.int 1)]))
      refine own_icmp S56 108 d11_91 (by decide) (by decide) (fun (hc91_57 : ¬ ((1 : Int32) < (2 : Int32))) => False.elim (absurd hc91_57 (by decide))) (fun (hc91_57 : (1 : Int32) < (2 : Int32)) => ?_)
      show own_F p e below s Z _ _ _ _ _ (T56.setTop (mkF m 94 #[.val (.ref a1), .val (.int iN.toInt32), .val (.ref r), .val (.int 2), .val (.long (own_mn (yf m0) (yf m1))), .second, .val (.int 1)] []))
      refine own_F.of (fun _ => XS.aloadN S56.here S56.hx rfl (S56.dec d11_94) rfl rfl) ?_
      refine own_F.of (fun _ => XS.aloadN S56.here S56.hx rfl (S56.dec d11_95) rfl rfl) ?_
      refine own_F.of (fun _ => XS.iload S56.here S56.hx rfl (S56.dec d11_96) rfl) ?_
      show own_F p e below s Z _ _ _ _ _ (T56.setTop (mkF m 98 #[.val (.ref a1), .val (.int iN.toInt32), .val (.ref r), .val (.int 2), .val (.long (own_mn (yf m0) (yf m1))), .second, .val (.int 1)] [(.int 1), (.ref r), (.ref a1)]))
      refine own_iald S56 (BK_56.2.1 _ _ hv56).1 (by decide) (by exact c1_56) d11_98 ?_
      show own_F p e below s Z _ _ _ _ _ (T56.setTop (mkF m 99 #[.val (.ref a1), .val (.int iN.toInt32), .val (.ref r), .val (.int 2), .val (.long (own_mn (yf m0) (yf m1))), .second, .val (.int 1)] [(.int m1.toInt32), (.ref a1)]))
      refine own_callP S56 (y := (⟨"com/example/slackweave/slackweave/paths/RadixHeap", "file", "(I)V"⟩ : MethodName)) (own_w hw 45 rfl) (own_w hw 46 rfl) (own_w hw 3 rfl) (own_w hw 47 rfl) (own_w hw 48 rfl) (own_w hw 4 rfl) (by decide) E_a1_56 (argsL := [(.int m1.toInt32)]) (rest := []) (own_fileG l Z a0 hw m1 hm1 a1 aB aS aK aO aP aI bq56 cq56 (own_up (own_clr bf iN) m0 (some k56)) (own_up pf m0 (own_hm (own_clr bf iN) k56)) (own_mn (yf m0) (yf m1)) ct (own_up (fun j => own_enc (bf j)) m0 k56.toInt32) (own_up (fun j => (pf j).toInt32) m0 (own_hm (own_clr bf iN) k56).toInt32) yf i0 i1 i2 h56 S56.old ⟨⟨ga, gB, gS, gO, gP, gI⟩, ⟨nSO, nSP, nOP⟩, E_a1_56, F_buckets_56, F_sizes_56, F_keys_56, F_bucketOf_56, F_positions_56, F_last_56, F_count_56, RB_56, AS_56, AK_56, AO_56, AP_56, AI_56, BK_56⟩ B56 ((own_up_ne (Ne.symm n01)).trans (own_clr_in e1)) hL (hyf m1 hm1)) own_news_sub (by decide +kernel : parseMethodDescriptor "(I)V" = some ⟨[.int], none⟩) rfl rfl rfl d11_99 (by decide) (Nat.le_of_ble_eq_true rfl) (by decide) (by decide) (fun T58 h58 v58 S58 K58 q58 => ?_)
      obtain ⟨rfl, k58, bq58, cq58, hq58, kz58, H58, B58, X58⟩ := q58
      show own_F p e below s Z _ _ _ _ _ (T58.setTop (mkF m 102 #[.val (.ref a1), .val (.int iN.toInt32), .val (.ref r), .val (.int 2), .val (.long (own_mn (yf m0) (yf m1))), .second, .val (.int 1)] []))
      refine own_F.of (fun _ => XS.iinc S58.here S58.hx rfl (S58.dec d11_102) rfl (l' := #[.val (.ref a1), .val (.int iN.toInt32), .val (.ref r), .val (.int 2), .val (.long (own_mn (yf m0) (yf m1))), .second, .val (.int 2)]) rfl) ?_
      show own_F p e below s Z _ _ _ _ _ (T58.setTop (mkF m 105 #[.val (.ref a1), .val (.int iN.toInt32), .val (.ref r), .val (.int 2), .val (.long (own_mn (yf m0) (yf m1))), .second, .val (.int 2)] []))
      refine own_F.of (fun _ => XS.goto S58.here S58.hx rfl (pc0 := 105) (pc' := 88) rfl (S58.dec d11_105) (by decide) (by decide)) ?_
      show own_F p e below s Z _ _ _ _ _ (T58.setTop (mkF m 88 #[.val (.ref a1), .val (.int iN.toInt32), .val (.ref r), .val (.int 2), .val (.long (own_mn (yf m0) (yf m1))), .second, .val (.int 2)] []))
      refine own_F.of (fun _ => XS.iload S58.here S58.hx rfl (S58.dec d11_88) rfl) ?_
      refine own_F.of (fun _ => XS.iloadN S58.here S58.hx rfl (S58.dec d11_90) rfl) ?_
      show own_F p e below s Z _ _ _ _ _ (T58.setTop (mkF m 91 #[.val (.ref a1), .val (.int iN.toInt32), .val (.ref r), .val (.int 2), .val (.long (own_mn (yf m0) (yf m1))), .second, .val (.int 2)] [(.int 2), (.int 2)]))
      refine own_icmp S58 108 d11_91 (by decide) (by decide) (fun (hc91_59 : ¬ ((2 : Int32) < (2 : Int32))) => ?_) (fun (hc91_59 : (2 : Int32) < (2 : Int32)) => False.elim (absurd hc91_59 (by decide)))
      show own_F p e below s Z _ _ _ _ _ (T58.setTop (mkF m 108 #[.val (.ref a1), .val (.int iN.toInt32), .val (.ref r), .val (.int 2), .val (.long (own_mn (yf m0) (yf m1))), .second, .val (.int 2)] []))
      refine own_retV S58 d11_108 (by decide) (by decide) ?_
      have eo : ∀ j, j < 3 → (own_up (own_up (fun j => own_enc (bf j)) m0 k56.toInt32) m1 k58.toInt32) j = own_enc ((own_up (own_up (own_clr bf iN) m0 (some k56)) m1 (some k58)) j) := fun j hj => own_eo (fun q1 => own_eo (fun q0 => own_eo0 (hx j hj q0 q1)))
      have ez : ∀ j, (own_up (own_up (fun j => (pf j).toInt32) m0 (own_hm (own_clr bf iN) k56).toInt32) m1 (own_hm (own_up (own_clr bf iN) m0 (some k56)) k58).toInt32) j = ((own_up (own_up pf m0 (own_hm (own_clr bf iN) k56)) m1 (own_hm (own_up (own_clr bf iN) m0 (some k56)) k58)) j).toInt32 := fun j => own_ez (own_ez rfl)
      have ei : ∀ j, j < 3 → ((own_up (own_up (own_clr bf iN) m0 (some k56)) m1 (some k58)) j = none ↔ bf j = none) := fun j hj => own_ei e1 (fun q1 => own_ei e0 (fun q0 => own_ei0 (hx j hj q0 q1)))
      rw [eo 0 (by decide), eo 1 (by decide), eo 2 (by decide), ez 0, ez 1, ez 2] at H58
      have g0 : k56 = 0 → 1 ≤ own_hm (own_up (own_up (own_clr bf iN) m0 (some k56)) m1 (some k58)) 0 := fun q => own_hm_pos hm0 (((own_up_ne n01).trans own_up_self).trans (congrArg some q))
      have g1 : k58 = 0 → 1 ≤ own_hm (own_up (own_up (own_clr bf iN) m0 (some k56)) m1 (some k58)) 0 := fun q => own_hm_pos hm1 (own_up_self.trans (congrArg some q))
      have hp1 : 1 ≤ own_hm (own_up (own_up (own_clr bf iN) m0 (some k56)) m1 (some k58)) 0 := by
        rcases (own_mn_le (yf m0) (yf m1)).2.2 with q | q
        · exact g0 (kz56 (by rw [q]; exact own_irr _))
        · exact g1 (kz58 (by rw [q]; exact own_irr _))
      exact ⟨rfl, bq58, cq58, (own_up (own_up (own_clr bf iN) m0 (some k56)) m1 (some k58)), (own_up (own_up pf m0 (own_hm (own_clr bf iN) k56)) m1 (own_hm (own_up (own_clr bf iN) m0 (some k56)) k58)), (own_mn (yf m0) (yf m1)), H58, B58, hL, hp1, ei⟩
    · obtain ⟨-, -, ⟨r, hv⟩, c0⟩ := AB.1 m0 iN hm0 e0
      rw [p0] at c0
      have c1 := (AB.1 m1 iN hm1 e1).2.2.2
      rw [p1] at c1
      have c2 := (AB.1 m2 iN hm2 e2).2.2.2
      rw [p2] at c2
      have m60aS := (BK.2.1 _ _ hv).2.2.2.1
      have m60aO := (BK.2.1 _ _ hv).2.2.2.2.1
      have m60aP := (BK.2.1 _ _ hv).2.2.2.2.2
      have m60aB := own_A.neT (BK.2.1 _ _ hv).1 RB.A (by decide)
      have m60aK := own_A.neT (BK.2.1 _ _ hv).1 AK (by decide)
      have m60aI := own_A.neT (BK.2.1 _ _ hv).1 AI (by decide)
      have m60a1 := own_neA E_a1 (own_w hw 3 rfl) (BK.2.1 _ _ hv).1
      show own_F p e below s Z _ _ _ _ _ (TJ.setTop (mkF m 17 #[.val (.ref a1), .val (.int iN.toInt32), .unset, .unset, .unset, .unset, .unset] []))
      refine own_F.of (fun _ => XS.aloadN SJ.here SJ.hx rfl (SJ.dec d11_17) rfl rfl) ?_
      show own_F p e below s Z _ _ _ _ _ (TJ.setTop (mkF m 18 #[.val (.ref a1), .val (.int iN.toInt32), .unset, .unset, .unset, .unset, .unset] [(.ref a1)]))
      refine own_getF SJ (host := "") (Or.inl (own_w hw 13 rfl)) Via.refl F_buckets d11_18 (fun T61 S61 => ?_)
      show own_F p e below s Z _ _ _ _ _ (T61.setTop (mkF m 21 #[.val (.ref a1), .val (.int iN.toInt32), .unset, .unset, .unset, .unset, .unset] [(.ref aB)]))
      refine own_F.of (fun _ => XS.iloadN S61.here S61.hx rfl (S61.dec d11_21) rfl) ?_
      show own_F p e below s Z _ _ _ _ _ (T61.setTop (mkF m 22 #[.val (.ref a1), .val (.int iN.toInt32), .unset, .unset, .unset, .unset, .unset] [(.int iN.toInt32), (.ref aB)]))
      refine own_aald S61 RB.A rfl (own_64 hkn).2.1 (by rw [(own_64 hkn).1]; exact hv) d11_22 ?_
      show own_F p e below s Z _ _ _ _ _ (T61.setTop (mkF m 23 #[.val (.ref a1), .val (.int iN.toInt32), .unset, .unset, .unset, .unset, .unset] [(.ref r)]))
      refine own_F.of (fun _ => XS.astoreN S61.here S61.hx rfl (S61.dec d11_23) rfl rfl (l' := #[.val (.ref a1), .val (.int iN.toInt32), .val (.ref r), .unset, .unset, .unset, .unset]) rfl) ?_
      refine own_F.of (fun _ => XS.aloadN S61.here S61.hx rfl (S61.dec d11_24) rfl rfl) ?_
      show own_F p e below s Z _ _ _ _ _ (T61.setTop (mkF m 25 #[.val (.ref a1), .val (.int iN.toInt32), .val (.ref r), .unset, .unset, .unset, .unset] [(.ref a1)]))
      refine own_getF S61 (host := "") (Or.inl (own_w hw 16 rfl)) Via.refl F_sizes d11_25 (fun T62 S62 => ?_)
      show own_F p e below s Z _ _ _ _ _ (T62.setTop (mkF m 28 #[.val (.ref a1), .val (.int iN.toInt32), .val (.ref r), .unset, .unset, .unset, .unset] [(.ref aS)]))
      refine own_F.of (fun _ => XS.iloadN S62.here S62.hx rfl (S62.dec d11_28) rfl) ?_
      show own_F p e below s Z _ _ _ _ _ (T62.setTop (mkF m 29 #[.val (.ref a1), .val (.int iN.toInt32), .val (.ref r), .unset, .unset, .unset, .unset] [(.int iN.toInt32), (.ref aS)]))
      refine own_iald S62 AS (own_64 hkn).2.1 (by rw [(own_64 hkn).1]; exact (show (own_szL bf)[iN]? = some (.int (3 : Int32)) by rw [own_szat bf hkn, hsz]; rfl)) d11_29 ?_
      show own_F p e below s Z _ _ _ _ _ (T62.setTop (mkF m 30 #[.val (.ref a1), .val (.int iN.toInt32), .val (.ref r), .unset, .unset, .unset, .unset] [(.int 3)]))
      refine own_F.of (fun _ => XS.istoreN S62.here S62.hx rfl (S62.dec d11_30) rfl (l' := #[.val (.ref a1), .val (.int iN.toInt32), .val (.ref r), .val (.int 3), .unset, .unset, .unset]) rfl) ?_
      refine own_F.of (fun _ => XS.aloadN S62.here S62.hx rfl (S62.dec d11_31) rfl rfl) ?_
      show own_F p e below s Z _ _ _ _ _ (T62.setTop (mkF m 32 #[.val (.ref a1), .val (.int iN.toInt32), .val (.ref r), .val (.int 3), .unset, .unset, .unset] [(.ref a1)]))
      refine own_getF S62 (host := "") (Or.inl (own_w hw 18 rfl)) Via.refl F_keys d11_32 (fun T63 S63 => ?_)
      show own_F p e below s Z _ _ _ _ _ (T63.setTop (mkF m 35 #[.val (.ref a1), .val (.int iN.toInt32), .val (.ref r), .val (.int 3), .unset, .unset, .unset] [(.ref aK)]))
      refine own_F.of (fun _ => XS.aloadN S63.here S63.hx rfl (S63.dec d11_35) rfl rfl) ?_
      refine own_F.of (fun _ => XS.iconst S63.here S63.hx rfl (S63.dec d11_36)) ?_
      show own_F p e below s Z _ _ _ _ _ (T63.setTop (mkF m 37 #[.val (.ref a1), .val (.int iN.toInt32), .val (.ref r), .val (.int 3), .unset, .unset, .unset] [(.int 0), (.ref r), (.ref aK)]))
      refine own_iald S63 (BK.2.1 _ _ hv).1 (by decide) (by exact c0) d11_37 ?_
      show own_F p e below s Z _ _ _ _ _ (T63.setTop (mkF m 38 #[.val (.ref a1), .val (.int iN.toInt32), .val (.ref r), .val (.int 3), .unset, .unset, .unset] [(.int m0.toInt32), (.ref aK)]))
      refine own_lald S63 AK (own_lt3 hm0).2 (own_at3 (f := yf) (g := Value.long) hm0) d11_38 ?_
      show own_F p e below s Z _ _ _ _ _ (T63.setTop (mkF m 39 #[.val (.ref a1), .val (.int iN.toInt32), .val (.ref r), .val (.int 3), .unset, .unset, .unset] [(.long (yf m0))]))
      refine own_F.of (fun _ => XS.lstore S63.here S63.hx rfl (S63.dec d11_39) rfl (l' := #[.val (.ref a1), .val (.int iN.toInt32), .val (.ref r), .val (.int 3), .val (.long (yf m0)), .second, .unset]) rfl) ?_
      refine own_F.of (fun _ => XS.iconst S63.here S63.hx rfl (S63.dec d11_41)) ?_
      show own_F p e below s Z _ _ _ _ _ (T63.setTop (mkF m 42 #[.val (.ref a1), .val (.int iN.toInt32), .val (.ref r), .val (.int 3), .val (.long (yf m0)), .second, .unset] [(.int 1)]))
      refine own_F.of (fun _ => XS.istore S63.here S63.hx rfl (S63.dec d11_42) rfl (l' := #[.val (.ref a1), .val (.int iN.toInt32), .val (.ref r), .val (.int 3), .val (.long (yf m0)), .second, .val (.int 1)]) rfl) ?_
      refine own_F.of (fun _ => XS.iload S63.here S63.hx rfl (S63.dec d11_44) rfl) ?_
      refine own_F.of (fun _ => XS.iloadN S63.here S63.hx rfl (S63.dec d11_46) rfl) ?_
      show own_F p e below s Z _ _ _ _ _ (T63.setTop (mkF m 47 #[.val (.ref a1), .val (.int iN.toInt32), .val (.ref r), .val (.int 3), .val (.long (yf m0)), .second, .val (.int 1)] [(.int 3), (.int 1)]))
      refine own_icmp S63 72 d11_47 (by decide) (by decide) (fun (hc47_64 : ¬ ((1 : Int32) < (3 : Int32))) => False.elim (absurd hc47_64 (by decide))) (fun (hc47_64 : (1 : Int32) < (3 : Int32)) => ?_)
      show own_F p e below s Z _ _ _ _ _ (T63.setTop (mkF m 50 #[.val (.ref a1), .val (.int iN.toInt32), .val (.ref r), .val (.int 3), .val (.long (yf m0)), .second, .val (.int 1)] []))
      refine own_F.of (fun _ => XS.lload S63.here S63.hx rfl (S63.dec d11_50) rfl) ?_
      refine own_F.of (fun _ => XS.aloadN S63.here S63.hx rfl (S63.dec d11_52) rfl rfl) ?_
      show own_F p e below s Z _ _ _ _ _ (T63.setTop (mkF m 53 #[.val (.ref a1), .val (.int iN.toInt32), .val (.ref r), .val (.int 3), .val (.long (yf m0)), .second, .val (.int 1)] [(.ref a1), (.long (yf m0))]))
      refine own_getF S63 (host := "") (Or.inl (own_w hw 18 rfl)) Via.refl F_keys d11_53 (fun T65 S65 => ?_)
      show own_F p e below s Z _ _ _ _ _ (T65.setTop (mkF m 56 #[.val (.ref a1), .val (.int iN.toInt32), .val (.ref r), .val (.int 3), .val (.long (yf m0)), .second, .val (.int 1)] [(.ref aK), (.long (yf m0))]))
      refine own_F.of (fun _ => XS.aloadN S65.here S65.hx rfl (S65.dec d11_56) rfl rfl) ?_
      refine own_F.of (fun _ => XS.iload S65.here S65.hx rfl (S65.dec d11_57) rfl) ?_
      show own_F p e below s Z _ _ _ _ _ (T65.setTop (mkF m 59 #[.val (.ref a1), .val (.int iN.toInt32), .val (.ref r), .val (.int 3), .val (.long (yf m0)), .second, .val (.int 1)] [(.int 1), (.ref r), (.ref aK), (.long (yf m0))]))
      refine own_iald S65 (BK.2.1 _ _ hv).1 (by decide) (by exact c1) d11_59 ?_
      show own_F p e below s Z _ _ _ _ _ (T65.setTop (mkF m 60 #[.val (.ref a1), .val (.int iN.toInt32), .val (.ref r), .val (.int 3), .val (.long (yf m0)), .second, .val (.int 1)] [(.int m1.toInt32), (.ref aK), (.long (yf m0))]))
      refine own_lald S65 AK (own_lt3 hm1).2 (own_at3 (f := yf) (g := Value.long) hm1) d11_60 ?_
      show own_F p e below s Z _ _ _ _ _ (T65.setTop (mkF m 61 #[.val (.ref a1), .val (.int iN.toInt32), .val (.ref r), .val (.int 3), .val (.long (yf m0)), .second, .val (.int 1)] [(.long (yf m1)), (.long (yf m0))]))
      refine own_callS S65 (y := (⟨"java/lang/Math", "min", "(JJ)J"⟩ : MethodName)) (own_w hw 70 rfl) (own_w hw 71 rfl) (own_w hw 72 rfl) (own_w hw 73 rfl) (by decide) (argsL := [(.long (yf m0)), (.long (yf m1))]) (rest := []) (own_min l Z a0 hw (yf m0) (yf m1) h0 S65.old) all0 (by decide +kernel : parseMethodDescriptor "(JJ)J" = some ⟨[.long, .long], some .long⟩) rfl rfl rfl d11_61 (by decide) (Nat.le_of_ble_eq_true rfl) (by decide) (by decide) (fun T66 h66 v66 S66 K66 q66 => ?_)
      obtain ⟨rfl, rfl⟩ := q66
      show own_F p e below s Z _ _ _ _ _ (T66.setTop (mkF m 64 #[.val (.ref a1), .val (.int iN.toInt32), .val (.ref r), .val (.int 3), .val (.long (yf m0)), .second, .val (.int 1)] [(.long (own_mn (yf m0) (yf m1)))]))
      refine own_F.of (fun _ => XS.lstore S66.here S66.hx rfl (S66.dec d11_64) rfl (l' := #[.val (.ref a1), .val (.int iN.toInt32), .val (.ref r), .val (.int 3), .val (.long (own_mn (yf m0) (yf m1))), .second, .val (.int 1)]) rfl) ?_
      show own_F p e below s Z _ _ _ _ _ (T66.setTop (mkF m 66 #[.val (.ref a1), .val (.int iN.toInt32), .val (.ref r), .val (.int 3), .val (.long (own_mn (yf m0) (yf m1))), .second, .val (.int 1)] []))
      refine own_F.of (fun _ => XS.iinc S66.here S66.hx rfl (S66.dec d11_66) rfl (l' := #[.val (.ref a1), .val (.int iN.toInt32), .val (.ref r), .val (.int 3), .val (.long (own_mn (yf m0) (yf m1))), .second, .val (.int 2)]) rfl) ?_
      show own_F p e below s Z _ _ _ _ _ (T66.setTop (mkF m 69 #[.val (.ref a1), .val (.int iN.toInt32), .val (.ref r), .val (.int 3), .val (.long (own_mn (yf m0) (yf m1))), .second, .val (.int 2)] []))
      refine own_F.of (fun _ => XS.goto S66.here S66.hx rfl (pc0 := 69) (pc' := 44) rfl (S66.dec d11_69) (by decide) (by decide)) ?_
      show own_F p e below s Z _ _ _ _ _ (T66.setTop (mkF m 44 #[.val (.ref a1), .val (.int iN.toInt32), .val (.ref r), .val (.int 3), .val (.long (own_mn (yf m0) (yf m1))), .second, .val (.int 2)] []))
      refine own_F.of (fun _ => XS.iload S66.here S66.hx rfl (S66.dec d11_44) rfl) ?_
      refine own_F.of (fun _ => XS.iloadN S66.here S66.hx rfl (S66.dec d11_46) rfl) ?_
      show own_F p e below s Z _ _ _ _ _ (T66.setTop (mkF m 47 #[.val (.ref a1), .val (.int iN.toInt32), .val (.ref r), .val (.int 3), .val (.long (own_mn (yf m0) (yf m1))), .second, .val (.int 2)] [(.int 3), (.int 2)]))
      refine own_icmp S66 72 d11_47 (by decide) (by decide) (fun (hc47_67 : ¬ ((2 : Int32) < (3 : Int32))) => False.elim (absurd hc47_67 (by decide))) (fun (hc47_67 : (2 : Int32) < (3 : Int32)) => ?_)
      show own_F p e below s Z _ _ _ _ _ (T66.setTop (mkF m 50 #[.val (.ref a1), .val (.int iN.toInt32), .val (.ref r), .val (.int 3), .val (.long (own_mn (yf m0) (yf m1))), .second, .val (.int 2)] []))
      refine own_F.of (fun _ => XS.lload S66.here S66.hx rfl (S66.dec d11_50) rfl) ?_
      refine own_F.of (fun _ => XS.aloadN S66.here S66.hx rfl (S66.dec d11_52) rfl rfl) ?_
      show own_F p e below s Z _ _ _ _ _ (T66.setTop (mkF m 53 #[.val (.ref a1), .val (.int iN.toInt32), .val (.ref r), .val (.int 3), .val (.long (own_mn (yf m0) (yf m1))), .second, .val (.int 2)] [(.ref a1), (.long (own_mn (yf m0) (yf m1)))]))
      refine own_getF S66 (host := "") (Or.inl (own_w hw 18 rfl)) Via.refl F_keys d11_53 (fun T68 S68 => ?_)
      show own_F p e below s Z _ _ _ _ _ (T68.setTop (mkF m 56 #[.val (.ref a1), .val (.int iN.toInt32), .val (.ref r), .val (.int 3), .val (.long (own_mn (yf m0) (yf m1))), .second, .val (.int 2)] [(.ref aK), (.long (own_mn (yf m0) (yf m1)))]))
      refine own_F.of (fun _ => XS.aloadN S68.here S68.hx rfl (S68.dec d11_56) rfl rfl) ?_
      refine own_F.of (fun _ => XS.iload S68.here S68.hx rfl (S68.dec d11_57) rfl) ?_
      show own_F p e below s Z _ _ _ _ _ (T68.setTop (mkF m 59 #[.val (.ref a1), .val (.int iN.toInt32), .val (.ref r), .val (.int 3), .val (.long (own_mn (yf m0) (yf m1))), .second, .val (.int 2)] [(.int 2), (.ref r), (.ref aK), (.long (own_mn (yf m0) (yf m1)))]))
      refine own_iald S68 (BK.2.1 _ _ hv).1 (by decide) (by exact c2) d11_59 ?_
      show own_F p e below s Z _ _ _ _ _ (T68.setTop (mkF m 60 #[.val (.ref a1), .val (.int iN.toInt32), .val (.ref r), .val (.int 3), .val (.long (own_mn (yf m0) (yf m1))), .second, .val (.int 2)] [(.int m2.toInt32), (.ref aK), (.long (own_mn (yf m0) (yf m1)))]))
      refine own_lald S68 AK (own_lt3 hm2).2 (own_at3 (f := yf) (g := Value.long) hm2) d11_60 ?_
      show own_F p e below s Z _ _ _ _ _ (T68.setTop (mkF m 61 #[.val (.ref a1), .val (.int iN.toInt32), .val (.ref r), .val (.int 3), .val (.long (own_mn (yf m0) (yf m1))), .second, .val (.int 2)] [(.long (yf m2)), (.long (own_mn (yf m0) (yf m1)))]))
      refine own_callS S68 (y := (⟨"java/lang/Math", "min", "(JJ)J"⟩ : MethodName)) (own_w hw 70 rfl) (own_w hw 71 rfl) (own_w hw 72 rfl) (own_w hw 73 rfl) (by decide) (argsL := [(.long (own_mn (yf m0) (yf m1))), (.long (yf m2))]) (rest := []) (own_min l Z a0 hw (own_mn (yf m0) (yf m1)) (yf m2) h0 S68.old) all0 (by decide +kernel : parseMethodDescriptor "(JJ)J" = some ⟨[.long, .long], some .long⟩) rfl rfl rfl d11_61 (by decide) (Nat.le_of_ble_eq_true rfl) (by decide) (by decide) (fun T69 h69 v69 S69 K69 q69 => ?_)
      obtain ⟨rfl, rfl⟩ := q69
      show own_F p e below s Z _ _ _ _ _ (T69.setTop (mkF m 64 #[.val (.ref a1), .val (.int iN.toInt32), .val (.ref r), .val (.int 3), .val (.long (own_mn (yf m0) (yf m1))), .second, .val (.int 2)] [(.long (own_mn (own_mn (yf m0) (yf m1)) (yf m2)))]))
      refine own_F.of (fun _ => XS.lstore S69.here S69.hx rfl (S69.dec d11_64) rfl (l' := #[.val (.ref a1), .val (.int iN.toInt32), .val (.ref r), .val (.int 3), .val (.long (own_mn (own_mn (yf m0) (yf m1)) (yf m2))), .second, .val (.int 2)]) rfl) ?_
      show own_F p e below s Z _ _ _ _ _ (T69.setTop (mkF m 66 #[.val (.ref a1), .val (.int iN.toInt32), .val (.ref r), .val (.int 3), .val (.long (own_mn (own_mn (yf m0) (yf m1)) (yf m2))), .second, .val (.int 2)] []))
      refine own_F.of (fun _ => XS.iinc S69.here S69.hx rfl (S69.dec d11_66) rfl (l' := #[.val (.ref a1), .val (.int iN.toInt32), .val (.ref r), .val (.int 3), .val (.long (own_mn (own_mn (yf m0) (yf m1)) (yf m2))), .second, .val (.int 3)]) rfl) ?_
      show own_F p e below s Z _ _ _ _ _ (T69.setTop (mkF m 69 #[.val (.ref a1), .val (.int iN.toInt32), .val (.ref r), .val (.int 3), .val (.long (own_mn (own_mn (yf m0) (yf m1)) (yf m2))), .second, .val (.int 3)] []))
      refine own_F.of (fun _ => XS.goto S69.here S69.hx rfl (pc0 := 69) (pc' := 44) rfl (S69.dec d11_69) (by decide) (by decide)) ?_
      show own_F p e below s Z _ _ _ _ _ (T69.setTop (mkF m 44 #[.val (.ref a1), .val (.int iN.toInt32), .val (.ref r), .val (.int 3), .val (.long (own_mn (own_mn (yf m0) (yf m1)) (yf m2))), .second, .val (.int 3)] []))
      refine own_F.of (fun _ => XS.iload S69.here S69.hx rfl (S69.dec d11_44) rfl) ?_
      refine own_F.of (fun _ => XS.iloadN S69.here S69.hx rfl (S69.dec d11_46) rfl) ?_
      show own_F p e below s Z _ _ _ _ _ (T69.setTop (mkF m 47 #[.val (.ref a1), .val (.int iN.toInt32), .val (.ref r), .val (.int 3), .val (.long (own_mn (own_mn (yf m0) (yf m1)) (yf m2))), .second, .val (.int 3)] [(.int 3), (.int 3)]))
      refine own_icmp S69 72 d11_47 (by decide) (by decide) (fun (hc47_70 : ¬ ((3 : Int32) < (3 : Int32))) => ?_) (fun (hc47_70 : (3 : Int32) < (3 : Int32)) => False.elim (absurd hc47_70 (by decide)))
      show own_F p e below s Z _ _ _ _ _ (T69.setTop (mkF m 72 #[.val (.ref a1), .val (.int iN.toInt32), .val (.ref r), .val (.int 3), .val (.long (own_mn (own_mn (yf m0) (yf m1)) (yf m2))), .second, .val (.int 3)] []))
      refine own_F.of (fun _ => XS.aloadN S69.here S69.hx rfl (S69.dec d11_72) rfl rfl) ?_
      refine own_F.of (fun _ => XS.lload S69.here S69.hx rfl (S69.dec d11_73) rfl) ?_
      show own_F p e below s Z _ _ _ _ _ (T69.setTop (mkF m 75 #[.val (.ref a1), .val (.int iN.toInt32), .val (.ref r), .val (.int 3), .val (.long (own_mn (own_mn (yf m0) (yf m1)) (yf m2))), .second, .val (.int 3)] [(.long (own_mn (own_mn (yf m0) (yf m1)) (yf m2))), (.ref a1)]))
      refine own_putF S69 (host := "") (Or.inl (own_w hw 49 rfl)) Via.refl F_last E_a1 (Or.inl (own_w hw 50 rfl)) (own_w hw 3 rfl) (ty := .long) (by decide) rfl rfl d11_75 (own_news_may ga) (fun T71 h71 S71 W71 => ?_)
      have Fw71 := F_last.same W71
      show own_F p e below s Z _ _ _ _ _ (T71.setTop (mkF m 78 #[.val (.ref a1), .val (.int iN.toInt32), .val (.ref r), .val (.int 3), .val (.long (own_mn (own_mn (yf m0) (yf m1)) (yf m2))), .second, .val (.int 3)] []))
      refine own_F.of (fun _ => XS.aloadN S71.here S71.hx rfl (S71.dec d11_78) rfl rfl) ?_
      show own_F p e below s Z _ _ _ _ _ (T71.setTop (mkF m 79 #[.val (.ref a1), .val (.int iN.toInt32), .val (.ref r), .val (.int 3), .val (.long (own_mn (own_mn (yf m0) (yf m1)) (yf m2))), .second, .val (.int 3)] [(.ref a1)]))
      have fq72 := (F_sizes.other W71 (Or.inr (slot_ne (C := "com/example/slackweave/slackweave/paths/RadixHeap") (Or.inr (own_w hw 17 rfl)) (Or.inl (own_w hw 50 rfl)) (by decide) (t := (.array .int)) (t' := .long) (by decide) (by decide))))
      refine own_getF S71 (host := "") (Or.inl (own_w hw 16 rfl)) Via.refl fq72 d11_79 (fun T73 S73 => ?_)
      show own_F p e below s Z _ _ _ _ _ (T73.setTop (mkF m 82 #[.val (.ref a1), .val (.int iN.toInt32), .val (.ref r), .val (.int 3), .val (.long (own_mn (own_mn (yf m0) (yf m1)) (yf m2))), .second, .val (.int 3)] [(.ref aS)]))
      refine own_F.of (fun _ => XS.iloadN S73.here S73.hx rfl (S73.dec d11_82) rfl) ?_
      refine own_F.of (fun _ => XS.iconst S73.here S73.hx rfl (S73.dec d11_83)) ?_
      show own_F p e below s Z _ _ _ _ _ (T73.setTop (mkF m 84 #[.val (.ref a1), .val (.int iN.toInt32), .val (.ref r), .val (.int 3), .val (.long (own_mn (own_mn (yf m0) (yf m1)) (yf m2))), .second, .val (.int 3)] [(.int 0), (.int iN.toInt32), (.ref aS)]))
      have fq74 := (AS.other W71 (Ne.symm n1aS))
      refine own_ist S73 fq74 (own_64 hkn).2.1 (by rw [(own_64 hkn).1, own_szlen]; exact hkn) d11_84 (own_news_may gS) (fun T75 h75 S75 W75 A75 => ?_)
      have B75 := own_szclr hkn A75
      have hL : ¬ (own_mn (own_mn (yf m0) (yf m1)) (yf m2)) < 0 := (own_mn_nn (own_mn_nn (hyf m0 hm0) (hyf m1 hm1)) (hyf m2 hm2))
      show own_F p e below s Z _ _ _ _ _ (T75.setTop (mkF m 85 #[.val (.ref a1), .val (.int iN.toInt32), .val (.ref r), .val (.int 3), .val (.long (own_mn (own_mn (yf m0) (yf m1)) (yf m2))), .second, .val (.int 3)] []))
      refine own_F.of (fun _ => XS.iconst S75.here S75.hx rfl (S75.dec d11_85)) ?_
      show own_F p e below s Z _ _ _ _ _ (T75.setTop (mkF m 86 #[.val (.ref a1), .val (.int iN.toInt32), .val (.ref r), .val (.int 3), .val (.long (own_mn (own_mn (yf m0) (yf m1)) (yf m2))), .second, .val (.int 3)] [(.int 0)]))
      refine own_F.of (fun _ => XS.istore S75.here S75.hx rfl (S75.dec d11_86) rfl (l' := #[.val (.ref a1), .val (.int iN.toInt32), .val (.ref r), .val (.int 3), .val (.long (own_mn (own_mn (yf m0) (yf m1)) (yf m2))), .second, .val (.int 0)]) rfl) ?_
      refine own_F.of (fun _ => XS.iload S75.here S75.hx rfl (S75.dec d11_88) rfl) ?_
      refine own_F.of (fun _ => XS.iloadN S75.here S75.hx rfl (S75.dec d11_90) rfl) ?_
      show own_F p e below s Z _ _ _ _ _ (T75.setTop (mkF m 91 #[.val (.ref a1), .val (.int iN.toInt32), .val (.ref r), .val (.int 3), .val (.long (own_mn (own_mn (yf m0) (yf m1)) (yf m2))), .second, .val (.int 0)] [(.int 3), (.int 0)]))
      refine own_icmp S75 108 d11_91 (by decide) (by decide) (fun (hc91_76 : ¬ ((0 : Int32) < (3 : Int32))) => False.elim (absurd hc91_76 (by decide))) (fun (hc91_76 : (0 : Int32) < (3 : Int32)) => ?_)
      show own_F p e below s Z _ _ _ _ _ (T75.setTop (mkF m 94 #[.val (.ref a1), .val (.int iN.toInt32), .val (.ref r), .val (.int 3), .val (.long (own_mn (own_mn (yf m0) (yf m1)) (yf m2))), .second, .val (.int 0)] []))
      refine own_F.of (fun _ => XS.aloadN S75.here S75.hx rfl (S75.dec d11_94) rfl rfl) ?_
      refine own_F.of (fun _ => XS.aloadN S75.here S75.hx rfl (S75.dec d11_95) rfl rfl) ?_
      refine own_F.of (fun _ => XS.iload S75.here S75.hx rfl (S75.dec d11_96) rfl) ?_
      show own_F p e below s Z _ _ _ _ _ (T75.setTop (mkF m 98 #[.val (.ref a1), .val (.int iN.toInt32), .val (.ref r), .val (.int 3), .val (.long (own_mn (own_mn (yf m0) (yf m1)) (yf m2))), .second, .val (.int 0)] [(.int 0), (.ref r), (.ref a1)]))
      have fq77 := ((BK.oA E_a1 (own_w hw 3 rfl) W71).oS W75)
      refine own_iald S75 (fq77.2.1 _ _ hv).1 (by decide) (by exact c0) d11_98 ?_
      show own_F p e below s Z _ _ _ _ _ (T75.setTop (mkF m 99 #[.val (.ref a1), .val (.int iN.toInt32), .val (.ref r), .val (.int 3), .val (.long (own_mn (own_mn (yf m0) (yf m1)) (yf m2))), .second, .val (.int 0)] [(.int m0.toInt32), (.ref a1)]))
      have fq78 := ((E_a1.wr W71).wr W75)
      have fq79 := ((F_buckets.other W71 (Or.inr (slot_ne (C := "com/example/slackweave/slackweave/paths/RadixHeap") (Or.inr (own_w hw 14 rfl)) (Or.inl (own_w hw 50 rfl)) (by decide) (t := (.array (.array .int))) (t' := .long) (by decide) (by decide)))).other W75 (Or.inl n1aS))
      have fq80 := (fq72.other W75 (Or.inl n1aS))
      have fq81 := ((F_keys.other W71 (Or.inr (slot_ne (C := "com/example/slackweave/slackweave/paths/RadixHeap") (Or.inr (own_w hw 19 rfl)) (Or.inl (own_w hw 50 rfl)) (by decide) (t := (.array .long)) (t' := .long) (by decide) (by decide)))).other W75 (Or.inl n1aS))
      have fq82 := ((F_bucketOf.other W71 (Or.inr (slot_ne (C := "com/example/slackweave/slackweave/paths/RadixHeap") (Or.inr (own_w hw 21 rfl)) (Or.inl (own_w hw 50 rfl)) (by decide) (t := (.array .int)) (t' := .long) (by decide) (by decide)))).other W75 (Or.inl n1aS))
      have fq83 := ((F_positions.other W71 (Or.inr (slot_ne (C := "com/example/slackweave/slackweave/paths/RadixHeap") (Or.inr (own_w hw 27 rfl)) (Or.inl (own_w hw 50 rfl)) (by decide) (t := (.array .int)) (t' := .long) (by decide) (by decide)))).other W75 (Or.inl n1aS))
      have fq84 := (Fw71.other W75 (Or.inl n1aS))
      have fq85 := ((F_count.other W71 (Or.inr (slot_ne (C := "com/example/slackweave/slackweave/paths/RadixHeap") (Or.inl (own_w hw 35 rfl)) (Or.inl (own_w hw 50 rfl)) (by decide) (t := .int) (t' := .long) (by decide) (by decide)))).other W75 (Or.inl n1aS))
      have fq86 := ((RB.other W71 (Ne.symm n1aB)).other W75 naBaS)
      have fq87 := ((AK.other W71 (Ne.symm n1aK)).other W75 (Ne.symm naSaK))
      have fq88 := ((AO.other W71 (Ne.symm n1aO)).other W75 (Ne.symm nSO))
      have fq89 := ((AP.other W71 (Ne.symm n1aP)).other W75 (Ne.symm nSP))
      have fq90 := ((AI.other W71 (Ne.symm n1aI)).other W75 (Ne.symm naSaI))
      refine own_callP S75 (y := (⟨"com/example/slackweave/slackweave/paths/RadixHeap", "file", "(I)V"⟩ : MethodName)) (own_w hw 45 rfl) (own_w hw 46 rfl) (own_w hw 3 rfl) (own_w hw 47 rfl) (own_w hw 48 rfl) (own_w hw 4 rfl) (by decide) fq78 (argsL := [(.int m0.toInt32)]) (rest := []) (own_fileG l Z a0 hw m0 hm0 a1 aB aS aK aO aP aI bk Cf (own_clr bf iN) pf (own_mn (own_mn (yf m0) (yf m1)) (yf m2)) ct (fun j => own_enc (bf j)) (fun j => (pf j).toInt32) yf i0 i1 i2 h75 S75.old ⟨⟨ga, gB, gS, gO, gP, gI⟩, ⟨nSO, nSP, nOP⟩, fq78, fq79, fq80, fq81, fq82, fq83, fq84, fq85, fq86, B75, fq87, fq88, fq89, fq90, fq77⟩ (own_AB.clr AB iN) (own_clr_in e0) hL (hyf m0 hm0)) own_news_sub (by decide +kernel : parseMethodDescriptor "(I)V" = some ⟨[.int], none⟩) rfl rfl rfl d11_99 (by decide) (Nat.le_of_ble_eq_true rfl) (by decide) (by decide) (fun T91 h91 v91 S91 K91 q91 => ?_)
      obtain ⟨rfl, k91, bq91, cq91, hq91, kz91, H91, B91, X91⟩ := q91
      have z91 : own_hm (own_clr bf iN) iN ≤ 0 := by rw [own_hm_clr, if_pos rfl]; exact Nat.le_refl 0
      have hv91 := (X91 iN r hv).1
      have c1_91 := ((X91 iN r hv).2 1 (own_or (by omega))).trans c1
      have c2_91 := ((X91 iN r hv).2 2 (own_or (by omega))).trans c2
      obtain ⟨-, -, E_a1_91, F_buckets_91, F_sizes_91, F_keys_91, F_bucketOf_91, F_positions_91, F_last_91, F_count_91, RB_91, AS_91, AK_91, AO_91, AP_91, AI_91, BK_91⟩ := H91
      show own_F p e below s Z _ _ _ _ _ (T91.setTop (mkF m 102 #[.val (.ref a1), .val (.int iN.toInt32), .val (.ref r), .val (.int 3), .val (.long (own_mn (own_mn (yf m0) (yf m1)) (yf m2))), .second, .val (.int 0)] []))
      refine own_F.of (fun _ => XS.iinc S91.here S91.hx rfl (S91.dec d11_102) rfl (l' := #[.val (.ref a1), .val (.int iN.toInt32), .val (.ref r), .val (.int 3), .val (.long (own_mn (own_mn (yf m0) (yf m1)) (yf m2))), .second, .val (.int 1)]) rfl) ?_
      show own_F p e below s Z _ _ _ _ _ (T91.setTop (mkF m 105 #[.val (.ref a1), .val (.int iN.toInt32), .val (.ref r), .val (.int 3), .val (.long (own_mn (own_mn (yf m0) (yf m1)) (yf m2))), .second, .val (.int 1)] []))
      refine own_F.of (fun _ => XS.goto S91.here S91.hx rfl (pc0 := 105) (pc' := 88) rfl (S91.dec d11_105) (by decide) (by decide)) ?_
      show own_F p e below s Z _ _ _ _ _ (T91.setTop (mkF m 88 #[.val (.ref a1), .val (.int iN.toInt32), .val (.ref r), .val (.int 3), .val (.long (own_mn (own_mn (yf m0) (yf m1)) (yf m2))), .second, .val (.int 1)] []))
      refine own_F.of (fun _ => XS.iload S91.here S91.hx rfl (S91.dec d11_88) rfl) ?_
      refine own_F.of (fun _ => XS.iloadN S91.here S91.hx rfl (S91.dec d11_90) rfl) ?_
      show own_F p e below s Z _ _ _ _ _ (T91.setTop (mkF m 91 #[.val (.ref a1), .val (.int iN.toInt32), .val (.ref r), .val (.int 3), .val (.long (own_mn (own_mn (yf m0) (yf m1)) (yf m2))), .second, .val (.int 1)] [(.int 3), (.int 1)]))
      refine own_icmp S91 108 d11_91 (by decide) (by decide) (fun (hc91_92 : ¬ ((1 : Int32) < (3 : Int32))) => False.elim (absurd hc91_92 (by decide))) (fun (hc91_92 : (1 : Int32) < (3 : Int32)) => ?_)
      show own_F p e below s Z _ _ _ _ _ (T91.setTop (mkF m 94 #[.val (.ref a1), .val (.int iN.toInt32), .val (.ref r), .val (.int 3), .val (.long (own_mn (own_mn (yf m0) (yf m1)) (yf m2))), .second, .val (.int 1)] []))
      refine own_F.of (fun _ => XS.aloadN S91.here S91.hx rfl (S91.dec d11_94) rfl rfl) ?_
      refine own_F.of (fun _ => XS.aloadN S91.here S91.hx rfl (S91.dec d11_95) rfl rfl) ?_
      refine own_F.of (fun _ => XS.iload S91.here S91.hx rfl (S91.dec d11_96) rfl) ?_
      show own_F p e below s Z _ _ _ _ _ (T91.setTop (mkF m 98 #[.val (.ref a1), .val (.int iN.toInt32), .val (.ref r), .val (.int 3), .val (.long (own_mn (own_mn (yf m0) (yf m1)) (yf m2))), .second, .val (.int 1)] [(.int 1), (.ref r), (.ref a1)]))
      refine own_iald S91 (BK_91.2.1 _ _ hv91).1 (by decide) (by exact c1_91) d11_98 ?_
      show own_F p e below s Z _ _ _ _ _ (T91.setTop (mkF m 99 #[.val (.ref a1), .val (.int iN.toInt32), .val (.ref r), .val (.int 3), .val (.long (own_mn (own_mn (yf m0) (yf m1)) (yf m2))), .second, .val (.int 1)] [(.int m1.toInt32), (.ref a1)]))
      refine own_callP S91 (y := (⟨"com/example/slackweave/slackweave/paths/RadixHeap", "file", "(I)V"⟩ : MethodName)) (own_w hw 45 rfl) (own_w hw 46 rfl) (own_w hw 3 rfl) (own_w hw 47 rfl) (own_w hw 48 rfl) (own_w hw 4 rfl) (by decide) E_a1_91 (argsL := [(.int m1.toInt32)]) (rest := []) (own_fileG l Z a0 hw m1 hm1 a1 aB aS aK aO aP aI bq91 cq91 (own_up (own_clr bf iN) m0 (some k91)) (own_up pf m0 (own_hm (own_clr bf iN) k91)) (own_mn (own_mn (yf m0) (yf m1)) (yf m2)) ct (own_up (fun j => own_enc (bf j)) m0 k91.toInt32) (own_up (fun j => (pf j).toInt32) m0 (own_hm (own_clr bf iN) k91).toInt32) yf i0 i1 i2 h91 S91.old ⟨⟨ga, gB, gS, gO, gP, gI⟩, ⟨nSO, nSP, nOP⟩, E_a1_91, F_buckets_91, F_sizes_91, F_keys_91, F_bucketOf_91, F_positions_91, F_last_91, F_count_91, RB_91, AS_91, AK_91, AO_91, AP_91, AI_91, BK_91⟩ B91 ((own_up_ne (Ne.symm n01)).trans (own_clr_in e1)) hL (hyf m1 hm1)) own_news_sub (by decide +kernel : parseMethodDescriptor "(I)V" = some ⟨[.int], none⟩) rfl rfl rfl d11_99 (by decide) (Nat.le_of_ble_eq_true rfl) (by decide) (by decide) (fun T93 h93 v93 S93 K93 q93 => ?_)
      obtain ⟨rfl, k93, bq93, cq93, hq93, kz93, H93, B93, X93⟩ := q93
      have z93 : own_hm (own_up (own_clr bf iN) m0 (some k91)) iN ≤ 1 := by rw [own_hm_up hm0 (own_clr_in e0)]; have := z91; split <;> omega
      have hv93 := (X93 iN r hv91).1
      have c2_93 := ((X93 iN r hv91).2 2 (own_or (by omega))).trans c2_91
      obtain ⟨-, -, E_a1_93, F_buckets_93, F_sizes_93, F_keys_93, F_bucketOf_93, F_positions_93, F_last_93, F_count_93, RB_93, AS_93, AK_93, AO_93, AP_93, AI_93, BK_93⟩ := H93
      show own_F p e below s Z _ _ _ _ _ (T93.setTop (mkF m 102 #[.val (.ref a1), .val (.int iN.toInt32), .val (.ref r), .val (.int 3), .val (.long (own_mn (own_mn (yf m0) (yf m1)) (yf m2))), .second, .val (.int 1)] []))
      refine own_F.of (fun _ => XS.iinc S93.here S93.hx rfl (S93.dec d11_102) rfl (l' := #[.val (.ref a1), .val (.int iN.toInt32), .val (.ref r), .val (.int 3), .val (.long (own_mn (own_mn (yf m0) (yf m1)) (yf m2))), .second, .val (.int 2)]) rfl) ?_
      show own_F p e below s Z _ _ _ _ _ (T93.setTop (mkF m 105 #[.val (.ref a1), .val (.int iN.toInt32), .val (.ref r), .val (.int 3), .val (.long (own_mn (own_mn (yf m0) (yf m1)) (yf m2))), .second, .val (.int 2)] []))
      refine own_F.of (fun _ => XS.goto S93.here S93.hx rfl (pc0 := 105) (pc' := 88) rfl (S93.dec d11_105) (by decide) (by decide)) ?_
      show own_F p e below s Z _ _ _ _ _ (T93.setTop (mkF m 88 #[.val (.ref a1), .val (.int iN.toInt32), .val (.ref r), .val (.int 3), .val (.long (own_mn (own_mn (yf m0) (yf m1)) (yf m2))), .second, .val (.int 2)] []))
      refine own_F.of (fun _ => XS.iload S93.here S93.hx rfl (S93.dec d11_88) rfl) ?_
      refine own_F.of (fun _ => XS.iloadN S93.here S93.hx rfl (S93.dec d11_90) rfl) ?_
      show own_F p e below s Z _ _ _ _ _ (T93.setTop (mkF m 91 #[.val (.ref a1), .val (.int iN.toInt32), .val (.ref r), .val (.int 3), .val (.long (own_mn (own_mn (yf m0) (yf m1)) (yf m2))), .second, .val (.int 2)] [(.int 3), (.int 2)]))
      refine own_icmp S93 108 d11_91 (by decide) (by decide) (fun (hc91_94 : ¬ ((2 : Int32) < (3 : Int32))) => False.elim (absurd hc91_94 (by decide))) (fun (hc91_94 : (2 : Int32) < (3 : Int32)) => ?_)
      show own_F p e below s Z _ _ _ _ _ (T93.setTop (mkF m 94 #[.val (.ref a1), .val (.int iN.toInt32), .val (.ref r), .val (.int 3), .val (.long (own_mn (own_mn (yf m0) (yf m1)) (yf m2))), .second, .val (.int 2)] []))
      refine own_F.of (fun _ => XS.aloadN S93.here S93.hx rfl (S93.dec d11_94) rfl rfl) ?_
      refine own_F.of (fun _ => XS.aloadN S93.here S93.hx rfl (S93.dec d11_95) rfl rfl) ?_
      refine own_F.of (fun _ => XS.iload S93.here S93.hx rfl (S93.dec d11_96) rfl) ?_
      show own_F p e below s Z _ _ _ _ _ (T93.setTop (mkF m 98 #[.val (.ref a1), .val (.int iN.toInt32), .val (.ref r), .val (.int 3), .val (.long (own_mn (own_mn (yf m0) (yf m1)) (yf m2))), .second, .val (.int 2)] [(.int 2), (.ref r), (.ref a1)]))
      refine own_iald S93 (BK_93.2.1 _ _ hv93).1 (by decide) (by exact c2_93) d11_98 ?_
      show own_F p e below s Z _ _ _ _ _ (T93.setTop (mkF m 99 #[.val (.ref a1), .val (.int iN.toInt32), .val (.ref r), .val (.int 3), .val (.long (own_mn (own_mn (yf m0) (yf m1)) (yf m2))), .second, .val (.int 2)] [(.int m2.toInt32), (.ref a1)]))
      refine own_callP S93 (y := (⟨"com/example/slackweave/slackweave/paths/RadixHeap", "file", "(I)V"⟩ : MethodName)) (own_w hw 45 rfl) (own_w hw 46 rfl) (own_w hw 3 rfl) (own_w hw 47 rfl) (own_w hw 48 rfl) (own_w hw 4 rfl) (by decide) E_a1_93 (argsL := [(.int m2.toInt32)]) (rest := []) (own_fileG l Z a0 hw m2 hm2 a1 aB aS aK aO aP aI bq93 cq93 (own_up (own_up (own_clr bf iN) m0 (some k91)) m1 (some k93)) (own_up (own_up pf m0 (own_hm (own_clr bf iN) k91)) m1 (own_hm (own_up (own_clr bf iN) m0 (some k91)) k93)) (own_mn (own_mn (yf m0) (yf m1)) (yf m2)) ct (own_up (own_up (fun j => own_enc (bf j)) m0 k91.toInt32) m1 k93.toInt32) (own_up (own_up (fun j => (pf j).toInt32) m0 (own_hm (own_clr bf iN) k91).toInt32) m1 (own_hm (own_up (own_clr bf iN) m0 (some k91)) k93).toInt32) yf i0 i1 i2 h93 S93.old ⟨⟨ga, gB, gS, gO, gP, gI⟩, ⟨nSO, nSP, nOP⟩, E_a1_93, F_buckets_93, F_sizes_93, F_keys_93, F_bucketOf_93, F_positions_93, F_last_93, F_count_93, RB_93, AS_93, AK_93, AO_93, AP_93, AI_93, BK_93⟩ B93 ((own_up_ne (Ne.symm n12)).trans ((own_up_ne (Ne.symm n02)).trans (own_clr_in e2))) hL (hyf m2 hm2)) own_news_sub (by decide +kernel : parseMethodDescriptor "(I)V" = some ⟨[.int], none⟩) rfl rfl rfl d11_99 (by decide) (Nat.le_of_ble_eq_true rfl) (by decide) (by decide) (fun T95 h95 v95 S95 K95 q95 => ?_)
      obtain ⟨rfl, k95, bq95, cq95, hq95, kz95, H95, B95, X95⟩ := q95
      show own_F p e below s Z _ _ _ _ _ (T95.setTop (mkF m 102 #[.val (.ref a1), .val (.int iN.toInt32), .val (.ref r), .val (.int 3), .val (.long (own_mn (own_mn (yf m0) (yf m1)) (yf m2))), .second, .val (.int 2)] []))
      refine own_F.of (fun _ => XS.iinc S95.here S95.hx rfl (S95.dec d11_102) rfl (l' := #[.val (.ref a1), .val (.int iN.toInt32), .val (.ref r), .val (.int 3), .val (.long (own_mn (own_mn (yf m0) (yf m1)) (yf m2))), .second, .val (.int 3)]) rfl) ?_
      show own_F p e below s Z _ _ _ _ _ (T95.setTop (mkF m 105 #[.val (.ref a1), .val (.int iN.toInt32), .val (.ref r), .val (.int 3), .val (.long (own_mn (own_mn (yf m0) (yf m1)) (yf m2))), .second, .val (.int 3)] []))
      refine own_F.of (fun _ => XS.goto S95.here S95.hx rfl (pc0 := 105) (pc' := 88) rfl (S95.dec d11_105) (by decide) (by decide)) ?_
      show own_F p e below s Z _ _ _ _ _ (T95.setTop (mkF m 88 #[.val (.ref a1), .val (.int iN.toInt32), .val (.ref r), .val (.int 3), .val (.long (own_mn (own_mn (yf m0) (yf m1)) (yf m2))), .second, .val (.int 3)] []))
      refine own_F.of (fun _ => XS.iload S95.here S95.hx rfl (S95.dec d11_88) rfl) ?_
      refine own_F.of (fun _ => XS.iloadN S95.here S95.hx rfl (S95.dec d11_90) rfl) ?_
      show own_F p e below s Z _ _ _ _ _ (T95.setTop (mkF m 91 #[.val (.ref a1), .val (.int iN.toInt32), .val (.ref r), .val (.int 3), .val (.long (own_mn (own_mn (yf m0) (yf m1)) (yf m2))), .second, .val (.int 3)] [(.int 3), (.int 3)]))
      refine own_icmp S95 108 d11_91 (by decide) (by decide) (fun (hc91_96 : ¬ ((3 : Int32) < (3 : Int32))) => ?_) (fun (hc91_96 : (3 : Int32) < (3 : Int32)) => False.elim (absurd hc91_96 (by decide)))
      show own_F p e below s Z _ _ _ _ _ (T95.setTop (mkF m 108 #[.val (.ref a1), .val (.int iN.toInt32), .val (.ref r), .val (.int 3), .val (.long (own_mn (own_mn (yf m0) (yf m1)) (yf m2))), .second, .val (.int 3)] []))
      refine own_retV S95 d11_108 (by decide) (by decide) ?_
      have eo : ∀ j, j < 3 → (own_up (own_up (own_up (fun j => own_enc (bf j)) m0 k91.toInt32) m1 k93.toInt32) m2 k95.toInt32) j = own_enc ((own_up (own_up (own_up (own_clr bf iN) m0 (some k91)) m1 (some k93)) m2 (some k95)) j) := fun j hj => own_eo (fun q2 => own_eo (fun q1 => own_eo (fun q0 => own_no3 hm0 hm1 hm2 hj n01 n02 n12 q0 q1 q2)))
      have ez : ∀ j, (own_up (own_up (own_up (fun j => (pf j).toInt32) m0 (own_hm (own_clr bf iN) k91).toInt32) m1 (own_hm (own_up (own_clr bf iN) m0 (some k91)) k93).toInt32) m2 (own_hm (own_up (own_up (own_clr bf iN) m0 (some k91)) m1 (some k93)) k95).toInt32) j = ((own_up (own_up (own_up pf m0 (own_hm (own_clr bf iN) k91)) m1 (own_hm (own_up (own_clr bf iN) m0 (some k91)) k93)) m2 (own_hm (own_up (own_up (own_clr bf iN) m0 (some k91)) m1 (some k93)) k95)) j).toInt32 := fun j => own_ez (own_ez (own_ez rfl))
      have ei : ∀ j, j < 3 → ((own_up (own_up (own_up (own_clr bf iN) m0 (some k91)) m1 (some k93)) m2 (some k95)) j = none ↔ bf j = none) := fun j hj => own_ei e2 (fun q2 => own_ei e1 (fun q1 => own_ei e0 (fun q0 => own_no3 hm0 hm1 hm2 hj n01 n02 n12 q0 q1 q2)))
      rw [eo 0 (by decide), eo 1 (by decide), eo 2 (by decide), ez 0, ez 1, ez 2] at H95
      have g0 : k91 = 0 → 1 ≤ own_hm (own_up (own_up (own_up (own_clr bf iN) m0 (some k91)) m1 (some k93)) m2 (some k95)) 0 := fun q => own_hm_pos hm0 (((own_up_ne n02).trans ((own_up_ne n01).trans own_up_self)).trans (congrArg some q))
      have g1 : k93 = 0 → 1 ≤ own_hm (own_up (own_up (own_up (own_clr bf iN) m0 (some k91)) m1 (some k93)) m2 (some k95)) 0 := fun q => own_hm_pos hm1 (((own_up_ne n12).trans own_up_self).trans (congrArg some q))
      have g2 : k95 = 0 → 1 ≤ own_hm (own_up (own_up (own_up (own_clr bf iN) m0 (some k91)) m1 (some k93)) m2 (some k95)) 0 := fun q => own_hm_pos hm2 (own_up_self.trans (congrArg some q))
      have hp1 : 1 ≤ own_hm (own_up (own_up (own_up (own_clr bf iN) m0 (some k91)) m1 (some k93)) m2 (some k95)) 0 := by
        rcases (own_mn_le (own_mn (yf m0) (yf m1)) (yf m2)).2.2 with q | q
        · rcases (own_mn_le (yf m0) (yf m1)).2.2 with t | t
          · exact g0 (kz91 (by rw [q, t]; exact own_irr _))
          · exact g1 (kz93 (by rw [q, t]; exact own_irr _))
        · exact g2 (kz95 (by rw [q]; exact own_irr _))
      exact ⟨rfl, bq95, cq95, (own_up (own_up (own_up (own_clr bf iN) m0 (some k91)) m1 (some k93)) m2 (some k95)), (own_up (own_up (own_up pf m0 (own_hm (own_clr bf iN) k91)) m1 (own_hm (own_up (own_clr bf iN) m0 (some k91)) k93)) m2 (own_hm (own_up (own_up (own_clr bf iN) m0 (some k91)) m1 (some k93)) k95)), (own_mn (own_mn (yf m0) (yf m1)) (yf m2)), H95, B95, hL, hp1, ei⟩
  have J2 : ∀ (f : Nat) (TJ : State) (SJ : own_S Z h0 (own_news Z h0) (⟨"com/example/slackweave/slackweave/paths/RadixHeap", "refileLowestBucket", "()V"⟩ : MethodName).cls prog_77_method_5_code 7 none (⟨"com/example/slackweave/slackweave/paths/RadixHeap", "refileLowestBucket", "()V"⟩ : MethodName).name p l e ({ frames := 3, cells := 3, slots := 48, locals := 69 } : Room) s m #[.ref a1] below meth c TJ h0 0 0) (iN : Nat), 64 - iN ≤ f → 1 ≤ iN → iN < 64 → (∀ j, j < iN → own_hm bf j = 0) → own_F p e below s Z h0 (own_news Z h0) ({ frames := 3, cells := 3, slots := 48, locals := 69 } : Room).cells ({ frames := 3, cells := 3, slots := 48, locals := 69 } : Room).slots (fun v h => v = none ∧ ∃ (bk' : List Value) (C' : Nat → List Value) (b' : Nat → Option Nat) (p' : Nat → Nat) (la' : Int64), own_RH Z h a1 aB aS aK aO aP aI bk' C' b' la' ct (own_enc (b' 0)) (own_enc (b' 1)) (own_enc (b' 2)) (p' 0).toInt32 (p' 1).toInt32 (p' 2).toInt32 (yf 0) (yf 1) (yf 2) i0 i1 i2 ∧ own_AB b' p' bk' C' ∧ ¬ la' < 0 ∧ 1 ≤ own_hm b' 0 ∧ ∀ j, j < 3 → (b' j = none ↔ bf j = none)) (TJ.setTop (mkF m 2 #[.val (.ref a1), .val (.int iN.toInt32), .unset, .unset, .unset, .unset, .unset] [])) := by
    intro f
    induction f with
    | zero => intro TJ SJ iN h1 h2 h3; omega
    | succ f ih =>
      intro TJ SJ iN hf hi1 hkn hlow
      show own_F p e below s Z _ _ _ _ _ (TJ.setTop (mkF m 2 #[.val (.ref a1), .val (.int iN.toInt32), .unset, .unset, .unset, .unset, .unset] []))
      refine own_F.of (fun _ => XS.aloadN SJ.here SJ.hx rfl (SJ.dec d11_2) rfl rfl) ?_
      show own_F p e below s Z _ _ _ _ _ (TJ.setTop (mkF m 3 #[.val (.ref a1), .val (.int iN.toInt32), .unset, .unset, .unset, .unset, .unset] [(.ref a1)]))
      refine own_getF SJ (host := "") (Or.inl (own_w hw 16 rfl)) Via.refl F_sizes d11_3 (fun T97 S97 => ?_)
      show own_F p e below s Z _ _ _ _ _ (T97.setTop (mkF m 6 #[.val (.ref a1), .val (.int iN.toInt32), .unset, .unset, .unset, .unset, .unset] [(.ref aS)]))
      refine own_F.of (fun _ => XS.iloadN S97.here S97.hx rfl (S97.dec d11_6) rfl) ?_
      show own_F p e below s Z _ _ _ _ _ (T97.setTop (mkF m 7 #[.val (.ref a1), .val (.int iN.toInt32), .unset, .unset, .unset, .unset, .unset] [(.int iN.toInt32), (.ref aS)]))
      refine own_iald S97 AS (own_64 hkn).2.1 (by rw [(own_64 hkn).1]; exact own_szat bf hkn) d11_7 ?_
      show own_F p e below s Z _ _ _ _ _ (T97.setTop (mkF m 8 #[.val (.ref a1), .val (.int iN.toInt32), .unset, .unset, .unset, .unset, .unset] [(.int (own_hm bf iN).toInt32)]))
      refine own_if S97 17 d11_8 (by decide) (by decide) (fun (hc8_98 : ¬ ((own_hm bf iN).toInt32 = (0 : Int32))) => ?_) (fun (hc8_98 : (own_hm bf iN).toInt32 = (0 : Int32)) => ?_)
      · show own_F p e below s Z _ _ _ _ _ (T97.setTop (mkF m 17 #[.val (.ref a1), .val (.int iN.toInt32), .unset, .unset, .unset, .unset, .unset] []))
        exact J17 T97 S97 iN hi1 hkn (fun q => hc8_98 ((own_hm0 (own_hm_le bf iN)).mpr q))
      · show own_F p e below s Z _ _ _ _ _ (T97.setTop (mkF m 11 #[.val (.ref a1), .val (.int iN.toInt32), .unset, .unset, .unset, .unset, .unset] []))
        refine own_F.of (fun _ => XS.iinc S97.here S97.hx rfl (S97.dec d11_11) rfl (l' := #[.val (.ref a1), .val (.int (iN.toInt32 + (1 : Int32))), .unset, .unset, .unset, .unset, .unset]) rfl) ?_
        show own_F p e below s Z _ _ _ _ _ (T97.setTop (mkF m 14 #[.val (.ref a1), .val (.int (iN.toInt32 + (1 : Int32))), .unset, .unset, .unset, .unset, .unset] []))
        refine own_F.of (fun _ => XS.goto S97.here S97.hx rfl (pc0 := 14) (pc' := 2) rfl (S97.dec d11_14) (by decide) (by decide)) ?_
        show own_F p e below s Z _ _ _ _ _ (T97.setTop (mkF m 2 #[.val (.ref a1), .val (.int (iN.toInt32 + (1 : Int32))), .unset, .unset, .unset, .unset, .unset] []))
        have hz := (own_hm0 (own_hm_le bf iN)).mp hc8_98
        have hlow2 : ∀ j, j < iN + 1 → own_hm bf j = 0 := fun j hj => by
          rcases Nat.lt_or_ge j iN with q | q
          · exact hlow j q
          · rw [show j = iN by omega]; exact hz
        have hlt : iN + 1 < 64 := own_more AB hlow2 hpres
        rw [own_suc64 hkn]
        exact ih T97 S97 (iN + 1) (by omega) (by omega) hlt hlow2
  show own_F p e below s Z _ _ _ _ _ (T0.setTop (mkF m 0 #[.val (.ref a1), .unset, .unset, .unset, .unset, .unset, .unset] []))
  refine own_F.of (fun _ => XS.iconst S0.here S0.hx rfl (S0.dec d11_0)) ?_
  show own_F p e below s Z _ _ _ _ _ (T0.setTop (mkF m 1 #[.val (.ref a1), .unset, .unset, .unset, .unset, .unset, .unset] [(.int 1)]))
  refine own_F.of (fun _ => XS.istoreN S0.here S0.hx rfl (S0.dec d11_1) rfl (l' := #[.val (.ref a1), .val (.int 1), .unset, .unset, .unset, .unset, .unset]) rfl) ?_
  rw [show (1 : Int32) = (1 : Nat).toInt32 from rfl]
  exact J2 64 T0 S0 1 (by decide) (by decide) (by decide) (fun j hj => by rw [show j = 0 by omega]; exact h00)
theorem d10_0 : decode prog_77_method_4_code 0 = .ok (.aload_n 0, 1) := by decide +kernel
theorem d10_1 : decode prog_77_method_4_code 1 = .ok (.getfield 15, 3) := by decide +kernel
theorem d10_4 : decode prog_77_method_4_code 4 = .ok (.iconst 0, 1) := by decide +kernel
theorem d10_5 : decode prog_77_method_4_code 5 = .ok (.iaload, 1) := by decide +kernel
theorem d10_6 : decode prog_77_method_4_code 6 = .ok (.ifCond .ne 7, 3) := by decide +kernel
theorem d10_9 : decode prog_77_method_4_code 9 = .ok (.aload_n 0, 1) := by decide +kernel
theorem d10_10 : decode prog_77_method_4_code 10 = .ok (.invokevirtual 42, 3) := by decide +kernel
theorem d10_13 : decode prog_77_method_4_code 13 = .ok (.aload_n 0, 1) := by decide +kernel
theorem d10_14 : decode prog_77_method_4_code 14 = .ok (.getfield 11, 3) := by decide +kernel
theorem d10_17 : decode prog_77_method_4_code 17 = .ok (.iconst 0, 1) := by decide +kernel
theorem d10_18 : decode prog_77_method_4_code 18 = .ok (.aaload, 1) := by decide +kernel
theorem d10_19 : decode prog_77_method_4_code 19 = .ok (.aload_n 0, 1) := by decide +kernel
theorem d10_20 : decode prog_77_method_4_code 20 = .ok (.getfield 15, 3) := by decide +kernel
theorem d10_23 : decode prog_77_method_4_code 23 = .ok (.iconst 0, 1) := by decide +kernel
theorem d10_24 : decode prog_77_method_4_code 24 = .ok (.dup2, 1) := by decide +kernel
theorem d10_25 : decode prog_77_method_4_code 25 = .ok (.iaload, 1) := by decide +kernel
theorem d10_26 : decode prog_77_method_4_code 26 = .ok (.iconst 1, 1) := by decide +kernel
theorem d10_27 : decode prog_77_method_4_code 27 = .ok (.isub, 1) := by decide +kernel
theorem d10_28 : decode prog_77_method_4_code 28 = .ok (.dup_x2, 1) := by decide +kernel
theorem d10_29 : decode prog_77_method_4_code 29 = .ok (.iastore, 1) := by decide +kernel
theorem d10_30 : decode prog_77_method_4_code 30 = .ok (.iaload, 1) := by decide +kernel
theorem d10_31 : decode prog_77_method_4_code 31 = .ok (.istore_n 1, 1) := by decide +kernel
theorem d10_32 : decode prog_77_method_4_code 32 = .ok (.aload_n 0, 1) := by decide +kernel
theorem d10_33 : decode prog_77_method_4_code 33 = .ok (.getfield 22, 3) := by decide +kernel
theorem d10_36 : decode prog_77_method_4_code 36 = .ok (.iload_n 1, 1) := by decide +kernel
theorem d10_37 : decode prog_77_method_4_code 37 = .ok (.iconst (-1), 1) := by decide +kernel
theorem d10_38 : decode prog_77_method_4_code 38 = .ok (.iastore, 1) := by decide +kernel
theorem d10_39 : decode prog_77_method_4_code 39 = .ok (.aload_n 0, 1) := by decide +kernel
theorem d10_40 : decode prog_77_method_4_code 40 = .ok (.dup, 1) := by decide +kernel
theorem d10_41 : decode prog_77_method_4_code 41 = .ok (.getfield 34, 3) := by decide +kernel
theorem d10_44 : decode prog_77_method_4_code 44 = .ok (.iconst 1, 1) := by decide +kernel
theorem d10_45 : decode prog_77_method_4_code 45 = .ok (.isub, 1) := by decide +kernel
theorem d10_46 : decode prog_77_method_4_code 46 = .ok (.putfield 34, 3) := by decide +kernel
theorem d10_49 : decode prog_77_method_4_code 49 = .ok (.aload_n 0, 1) := by decide +kernel
theorem d10_50 : decode prog_77_method_4_code 50 = .ok (.getfield 34, 3) := by decide +kernel
theorem d10_53 : decode prog_77_method_4_code 53 = .ok (.ifCond .ne 8, 3) := by decide +kernel
theorem d10_56 : decode prog_77_method_4_code 56 = .ok (.aload_n 0, 1) := by decide +kernel
theorem d10_57 : decode prog_77_method_4_code 57 = .ok (.lconst 0, 1) := by decide +kernel
theorem d10_58 : decode prog_77_method_4_code 58 = .ok (.putfield 45, 3) := by decide +kernel
theorem d10_61 : decode prog_77_method_4_code 61 = .ok (.iload_n 1, 1) := by decide +kernel
theorem d10_62 : decode prog_77_method_4_code 62 = .ok (.ireturn, 1) := by decide +kernel
theorem pn10 : plainFor (⟨"com/example/slackweave/slackweave/paths/RadixHeap", "pop", "()I"⟩ : MethodName) = true := plainFor_of_name (by first | (simp [plainName, overriddenIn]; done) | decide +kernel)
theorem own_AB.pop {b : Nat → Option Nat} {p : Nat → Nat} {bk : List Value} {C : Nat → List Value} {n k c : Nat} (F : own_AB b p bk C) (hn : n < 3) (hb : b n = some k) (hc : own_hm b k = c + 1) (hp : p n = c) : own_AB (own_up b n none) p bk C := by
  have up : ∀ j, own_up b n none j = if j = n then none else b j := fun _ => rfl
  have lf : ∀ j k', own_up b n none j = some k' → j ≠ n ∧ b j = some k' := fun j k' e => by
    rw [up] at e
    by_cases q : j = n
    · rw [if_pos q] at e; cases e
    · rw [if_neg q] at e; exact ⟨q, e⟩
  refine ⟨fun j i hj e => ?_, fun j i k' hj hi hne e e' => F.2 j i k' hj hi hne (lf _ _ e).2 (lf _ _ e').2⟩
  obtain ⟨jn, e⟩ := lf _ _ e
  obtain ⟨g1, g2, g3, g4⟩ := F.1 j i hj e
  have hr := own_hm_rem hn hb i
  refine ⟨g1, ?_, g3, g4⟩
  by_cases ik : i = k
  · subst ik; rw [if_pos rfl] at hr
    have := F.2 j n i hj hn jn e hb
    omega
  · rw [if_neg ik] at hr; omega
theorem own_hm1 {b : Nat → Option Nat} (h : ¬ (own_hm b 0).toInt32 = 0) : 1 ≤ own_hm b 0 := by
  rcases Nat.eq_zero_or_pos (own_hm b 0) with q | q
  · exact absurd ((own_hm0 (own_hm_le b 0)).mpr q) h
  · exact q
theorem own_setE {b : Nat → Option Nat} {n : Nat} (hn : n < 3) : [Value.int (own_enc (b 0)), Value.int (own_enc (b 1)), Value.int (own_enc (b 2))].set n.toInt32.toNatClampNeg (.int (-1)) = [Value.int (own_enc (own_up b n none 0)), Value.int (own_enc (own_up b n none 1)), Value.int (own_enc (own_up b n none 2))] := by
  rw [(own_64 (n := n) (by omega)).1]
  match n, hn with
  | 0, _ => rfl
  | 1, _ => rfl
  | 2, _ => rfl

set_option maxRecDepth 65536 in
set_option maxHeartbeats 40000000 in
theorem own_pop (l : Launch) (Z : State) (a0 : Array Value) (hw : ∀ d ∈ tables_1, d.before a0 Z = true) (a1 aB aS aK aO aP aI : Addr) (bk : List Value) (Cf : Nat → List Value) (bf : Nat → Option Nat) (pf : Nat → Nat) (la : Int64) (ct : Int32) (yf : Nat → Int64) (i0 i1 i2 : Int32) (h0 : Heap) (hO : Ext Z.heap h0) (H : own_RH Z h0 a1 aB aS aK aO aP aI bk Cf bf la ct (own_enc (bf 0)) (own_enc (bf 1)) (own_enc (bf 2)) (pf 0).toInt32 (pf 1).toInt32 (pf 2).toInt32 (yf 0) (yf 1) (yf 2) i0 i1 i2) (AB : own_AB bf pf bk Cf) (hpres : ∃ n, n < 3 ∧ bf n ≠ none) (hla : ¬ la < 0) (hyf : ∀ j, j < 3 → ¬ yf j < 0) :
    own_C l Z (⟨"com/example/slackweave/slackweave/paths/RadixHeap", "pop", "()I"⟩ : MethodName) prog_77_method_4_code 2 (some .int) [] ({ frames := 4, cells := 3, slots := 48, locals := 87 } : Room) (own_news Z h0) #[(.ref a1)] h0 (fun v h => ∃ (m : Nat) (bk' : List Value) (C' : Nat → List Value) (b' : Nat → Option Nat) (p' : Nat → Nat) (la' : Int64), v = some (.int m.toInt32) ∧ m < 3 ∧ bf m ≠ none ∧ b' m = none ∧ (∀ j, j < 3 → j ≠ m → (b' j = none ↔ bf j = none)) ∧ own_RH Z h a1 aB aS aK aO aP aI bk' C' b' la' (ct - (1 : Int32)) (own_enc (b' 0)) (own_enc (b' 1)) (own_enc (b' 2)) (p' 0).toInt32 (p' 1).toInt32 (p' 2).toInt32 (yf 0) (yf 1) (yf 2) i0 i1 i2 ∧ own_AB b' p' bk' C' ∧ ¬ la' < 0) := by
  refine own_C.of pn10 hO own_news_le ?_
  intro p e s m below meth c T0 S0
  refine own_F.cast (by first | (simp [entryFrame, mkF, argsToLocals, Value.category]; done) | rfl : entryFrame m #[(.ref a1)] 2 = mkF m 0 #[.val (.ref a1), .unset] []) ?_
  have HC := H
  obtain ⟨⟨ga, gB, gS, gO, gP, gI⟩, ⟨nSO, nSP, nOP⟩, E_a1, F_buckets, F_sizes, F_keys, F_bucketOf, F_positions, F_last, F_count, RB, AS, AK, AO, AP, AI, BK⟩ := H
  have n1aB := own_neA E_a1 (own_w hw 3 rfl) RB.A
  have naBaS := own_A.neT RB.A AS (by decide)
  have naBaK := own_A.neT RB.A AK (by decide)
  have naBaO := own_A.neT RB.A AO (by decide)
  have naBaP := own_A.neT RB.A AP (by decide)
  have naBaI := own_A.neT RB.A AI (by decide)
  have n1aS := own_neA E_a1 (own_w hw 3 rfl) AS
  have naSaK := own_A.neT AS AK (by decide)
  have naSaI := own_A.neT AS AI (by decide)
  have n1aK := own_neA E_a1 (own_w hw 3 rfl) AK
  have naKaO := own_A.neT AK AO (by decide)
  have naKaP := own_A.neT AK AP (by decide)
  have naKaI := own_A.neT AK AI (by decide)
  have n1aO := own_neA E_a1 (own_w hw 3 rfl) AO
  have naOaI := own_A.neT AO AI (by decide)
  have n1aP := own_neA E_a1 (own_w hw 3 rfl) AP
  have naPaI := own_A.neT AP AI (by decide)
  have n1aI := own_neA E_a1 (own_w hw 3 rfl) AI
  show own_F p e below s Z _ _ _ _ _ (T0.setTop (mkF m 0 #[.val (.ref a1), .unset] []))
  refine own_F.of (fun _ => XS.aloadN S0.here S0.hx rfl (S0.dec d10_0) rfl rfl) ?_
  show own_F p e below s Z _ _ _ _ _ (T0.setTop (mkF m 1 #[.val (.ref a1), .unset] [(.ref a1)]))
  refine own_getF S0 (host := "") (Or.inl (own_w hw 16 rfl)) Via.refl F_sizes d10_1 (fun T1 S1 => ?_)
  show own_F p e below s Z _ _ _ _ _ (T1.setTop (mkF m 4 #[.val (.ref a1), .unset] [(.ref aS)]))
  refine own_F.of (fun _ => XS.iconst S1.here S1.hx rfl (S1.dec d10_4)) ?_
  show own_F p e below s Z _ _ _ _ _ (T1.setTop (mkF m 5 #[.val (.ref a1), .unset] [(.int 0), (.ref aS)]))
  refine own_iald S1 AS (by decide) (by exact own_szat bf (k := 0) (by decide)) d10_5 ?_
  show own_F p e below s Z _ _ _ _ _ (T1.setTop (mkF m 6 #[.val (.ref a1), .unset] [(.int (own_hm bf 0).toInt32)]))
  refine own_if S1 13 d10_6 (by decide) (by decide) (fun (hc6_2 : ¬ ((own_hm bf 0).toInt32 = (0 : Int32))) => ?_) (fun (hc6_2 : (own_hm bf 0).toInt32 = (0 : Int32)) => ?_)
  · show own_F p e below s Z _ _ _ _ _ (T1.setTop (mkF m 13 #[.val (.ref a1), .unset] []))
    have h1_0 := own_hm1 hc6_2
    obtain ⟨cc, hcc⟩ : ∃ cc, own_hm bf 0 = cc + 1 := ⟨own_hm bf 0 - 1, by omega⟩
    obtain ⟨mm, hm3, hbm, hpm⟩ := own_last AB hcc
    obtain ⟨-, -, ⟨r, hv⟩, hcm⟩ := AB.1 mm 0 hm3 hbm
    rw [hpm] at hcm
    have sm := own_small (n := cc) (by have := own_hm_le bf 0; omega)
    have m3aS := (BK.2.1 _ _ hv).2.2.2.1
    have m3aO := (BK.2.1 _ _ hv).2.2.2.2.1
    have m3aP := (BK.2.1 _ _ hv).2.2.2.2.2
    have m3aB := own_A.neT (BK.2.1 _ _ hv).1 RB.A (by decide)
    have m3aK := own_A.neT (BK.2.1 _ _ hv).1 AK (by decide)
    have m3aI := own_A.neT (BK.2.1 _ _ hv).1 AI (by decide)
    have m3a1 := own_neA E_a1 (own_w hw 3 rfl) (BK.2.1 _ _ hv).1
    refine own_F.of (fun _ => XS.aloadN S1.here S1.hx rfl (S1.dec d10_13) rfl rfl) ?_
    show own_F p e below s Z _ _ _ _ _ (T1.setTop (mkF m 14 #[.val (.ref a1), .unset] [(.ref a1)]))
    refine own_getF S1 (host := "") (Or.inl (own_w hw 13 rfl)) Via.refl F_buckets d10_14 (fun T4 S4 => ?_)
    show own_F p e below s Z _ _ _ _ _ (T4.setTop (mkF m 17 #[.val (.ref a1), .unset] [(.ref aB)]))
    refine own_F.of (fun _ => XS.iconst S4.here S4.hx rfl (S4.dec d10_17)) ?_
    show own_F p e below s Z _ _ _ _ _ (T4.setTop (mkF m 18 #[.val (.ref a1), .unset] [(.int 0), (.ref aB)]))
    refine own_aald S4 RB.A rfl (by decide) (by exact hv) d10_18 ?_
    show own_F p e below s Z _ _ _ _ _ (T4.setTop (mkF m 19 #[.val (.ref a1), .unset] [(.ref r)]))
    refine own_F.of (fun _ => XS.aloadN S4.here S4.hx rfl (S4.dec d10_19) rfl rfl) ?_
    show own_F p e below s Z _ _ _ _ _ (T4.setTop (mkF m 20 #[.val (.ref a1), .unset] [(.ref a1), (.ref r)]))
    refine own_getF S4 (host := "") (Or.inl (own_w hw 16 rfl)) Via.refl F_sizes d10_20 (fun T5 S5 => ?_)
    show own_F p e below s Z _ _ _ _ _ (T5.setTop (mkF m 23 #[.val (.ref a1), .unset] [(.ref aS), (.ref r)]))
    refine own_F.of (fun _ => XS.iconst S5.here S5.hx rfl (S5.dec d10_23)) ?_
    show own_F p e below s Z _ _ _ _ _ (T5.setTop (mkF m 24 #[.val (.ref a1), .unset] [(.int 0), (.ref aS), (.ref r)]))
    refine own_F.of (fun _ => XT.dup2 S5.here S5.hx rfl (S5.dec d10_24) rfl rfl rfl) ?_
    show own_F p e below s Z _ _ _ _ _ (T5.setTop (mkF m 25 #[.val (.ref a1), .unset] [(.int 0), (.ref aS), (.int 0), (.ref aS), (.ref r)]))
    refine own_iald S5 AS (by decide) (by exact (own_szat bf (k := 0) (by decide)).trans (by rw [hcc])) d10_25 ?_
    show own_F p e below s Z _ _ _ _ _ (T5.setTop (mkF m 26 #[.val (.ref a1), .unset] [(.int (cc + 1).toInt32), (.int 0), (.ref aS), (.ref r)]))
    refine own_F.of (fun _ => XS.iconst S5.here S5.hx rfl (S5.dec d10_26)) ?_
    show own_F p e below s Z _ _ _ _ _ (T5.setTop (mkF m 27 #[.val (.ref a1), .unset] [(.int 1), (.int (cc + 1).toInt32), (.int 0), (.ref aS), (.ref r)]))
    refine own_F.of (fun _ => XS.isub S5.here S5.hx rfl (S5.dec d10_27) rfl) ?_
    show own_F p e below s Z _ _ _ _ _ (T5.setTop (mkF m 28 #[.val (.ref a1), .unset] [(.int ((cc + 1).toInt32 - (1 : Int32))), (.int 0), (.ref aS), (.ref r)]))
    rw [own_pre (n := cc) (by have := own_hm_le bf 0; omega)]
    show own_F p e below s Z _ _ _ _ _ (T5.setTop (mkF m 28 #[.val (.ref a1), .unset] [(.int cc.toInt32), (.int 0), (.ref aS), (.ref r)]))
    refine own_F.of (fun _ => own_dupX2 S5.here S5.hx rfl (S5.dec d10_28) rfl rfl rfl rfl) ?_
    show own_F p e below s Z _ _ _ _ _ (T5.setTop (mkF m 29 #[.val (.ref a1), .unset] [(.int cc.toInt32), (.int 0), (.ref aS), (.int cc.toInt32), (.ref r)]))
    refine own_ist S5 AS (by decide) (by rw [own_szlen]; decide) d10_29 (own_news_may gS) (fun T6 h6 S6 W6 A6 => ?_)
    have D6 := own_szrem (n := mm) (k := 0) hm3 hbm (by decide) hcc A6
    show own_F p e below s Z _ _ _ _ _ (T6.setTop (mkF m 30 #[.val (.ref a1), .unset] [(.int cc.toInt32), (.ref r)]))
    have fq7 := (BK.oS W6)
    refine own_iald S6 (fq7.2.1 _ _ hv).1 sm.2.1 (by rw [sm.1]; exact hcm) d10_30 ?_
    show own_F p e below s Z _ _ _ _ _ (T6.setTop (mkF m 31 #[.val (.ref a1), .unset] [(.int mm.toInt32)]))
    refine own_F.of (fun _ => XS.istoreN S6.here S6.hx rfl (S6.dec d10_31) rfl (l' := #[.val (.ref a1), .val (.int mm.toInt32)]) rfl) ?_
    refine own_F.of (fun _ => XS.aloadN S6.here S6.hx rfl (S6.dec d10_32) rfl rfl) ?_
    show own_F p e below s Z _ _ _ _ _ (T6.setTop (mkF m 33 #[.val (.ref a1), .val (.int mm.toInt32)] [(.ref a1)]))
    have fq8 := (F_bucketOf.other W6 (Or.inl n1aS))
    refine own_getF S6 (host := "") (Or.inl (own_w hw 20 rfl)) Via.refl fq8 d10_33 (fun T9 S9 => ?_)
    show own_F p e below s Z _ _ _ _ _ (T9.setTop (mkF m 36 #[.val (.ref a1), .val (.int mm.toInt32)] [(.ref aO)]))
    refine own_F.of (fun _ => XS.iloadN S9.here S9.hx rfl (S9.dec d10_36) rfl) ?_
    refine own_F.of (fun _ => XS.iconst S9.here S9.hx rfl (S9.dec d10_37)) ?_
    show own_F p e below s Z _ _ _ _ _ (T9.setTop (mkF m 38 #[.val (.ref a1), .val (.int mm.toInt32)] [(.int (-1 : Int32)), (.int mm.toInt32), (.ref aO)]))
    have fq10 := (AO.other W6 (Ne.symm nSO))
    refine own_ist S9 fq10 (own_lt3 hm3).2 (by rw [(own_lt3 hm3).1]; exact hm3) d10_38 (own_news_may gO) (fun T11 h11 S11 W11 A11 => ?_)
    rw [own_setE hm3] at A11
    show own_F p e below s Z _ _ _ _ _ (T11.setTop (mkF m 39 #[.val (.ref a1), .val (.int mm.toInt32)] []))
    refine own_F.of (fun _ => XS.aloadN S11.here S11.hx rfl (S11.dec d10_39) rfl rfl) ?_
    refine own_F.of (fun _ => XS.dup S11.here S11.hx rfl (S11.dec d10_40) rfl rfl) ?_
    show own_F p e below s Z _ _ _ _ _ (T11.setTop (mkF m 41 #[.val (.ref a1), .val (.int mm.toInt32)] [(.ref a1), (.ref a1)]))
    have fq12 := ((F_count.other W6 (Or.inl n1aS)).other W11 (Or.inl n1aO))
    refine own_getF S11 (host := "") (Or.inl (own_w hw 34 rfl)) Via.refl fq12 d10_41 (fun T13 S13 => ?_)
    show own_F p e below s Z _ _ _ _ _ (T13.setTop (mkF m 44 #[.val (.ref a1), .val (.int mm.toInt32)] [(.int ct), (.ref a1)]))
    refine own_F.of (fun _ => XS.iconst S13.here S13.hx rfl (S13.dec d10_44)) ?_
    show own_F p e below s Z _ _ _ _ _ (T13.setTop (mkF m 45 #[.val (.ref a1), .val (.int mm.toInt32)] [(.int 1), (.int ct), (.ref a1)]))
    refine own_F.of (fun _ => XS.isub S13.here S13.hx rfl (S13.dec d10_45) rfl) ?_
    show own_F p e below s Z _ _ _ _ _ (T13.setTop (mkF m 46 #[.val (.ref a1), .val (.int mm.toInt32)] [(.int (ct - (1 : Int32))), (.ref a1)]))
    have fq14 := ((E_a1.wr W6).wr W11)
    refine own_putF S13 (host := "") (Or.inl (own_w hw 34 rfl)) Via.refl fq12 fq14 (Or.inl (own_w hw 35 rfl)) (own_w hw 3 rfl) (ty := .int) (by decide) rfl rfl d10_46 (own_news_may ga) (fun T15 h15 S15 W15 => ?_)
    have Fw15 := fq12.same W15
    show own_F p e below s Z _ _ _ _ _ (T15.setTop (mkF m 49 #[.val (.ref a1), .val (.int mm.toInt32)] []))
    refine own_F.of (fun _ => XS.aloadN S15.here S15.hx rfl (S15.dec d10_49) rfl rfl) ?_
    show own_F p e below s Z _ _ _ _ _ (T15.setTop (mkF m 50 #[.val (.ref a1), .val (.int mm.toInt32)] [(.ref a1)]))
    refine own_getF S15 (host := "") (Or.inl (own_w hw 34 rfl)) Via.refl Fw15 d10_50 (fun T16 S16 => ?_)
    show own_F p e below s Z _ _ _ _ _ (T16.setTop (mkF m 53 #[.val (.ref a1), .val (.int mm.toInt32)] [(.int (ct - (1 : Int32)))]))
    refine own_if S16 61 d10_53 (by decide) (by decide) (fun (hc53_17 : ¬ ((ct - (1 : Int32)) = (0 : Int32))) => ?_) (fun (hc53_17 : (ct - (1 : Int32)) = (0 : Int32)) => ?_)
    · show own_F p e below s Z _ _ _ _ _ (T16.setTop (mkF m 61 #[.val (.ref a1), .val (.int mm.toInt32)] []))
      refine own_F.of (fun _ => XS.iloadN S16.here S16.hx rfl (S16.dec d10_61) rfl) ?_
      show own_F p e below s Z _ _ _ _ _ (T16.setTop (mkF m 62 #[.val (.ref a1), .val (.int mm.toInt32)] [(.int mm.toInt32)]))
      have fq18 := (fq14.wr W15)
      have fq19 := (((F_buckets.other W6 (Or.inl n1aS)).other W11 (Or.inl n1aO)).other W15 (Or.inr (slot_ne (C := "com/example/slackweave/slackweave/paths/RadixHeap") (Or.inr (own_w hw 14 rfl)) (Or.inl (own_w hw 35 rfl)) (by decide) (t := (.array (.array .int))) (t' := .int) (by decide) (by decide))))
      have fq20 := (((F_sizes.other W6 (Or.inl n1aS)).other W11 (Or.inl n1aO)).other W15 (Or.inr (slot_ne (C := "com/example/slackweave/slackweave/paths/RadixHeap") (Or.inr (own_w hw 17 rfl)) (Or.inl (own_w hw 35 rfl)) (by decide) (t := (.array .int)) (t' := .int) (by decide) (by decide))))
      have fq21 := (((F_keys.other W6 (Or.inl n1aS)).other W11 (Or.inl n1aO)).other W15 (Or.inr (slot_ne (C := "com/example/slackweave/slackweave/paths/RadixHeap") (Or.inr (own_w hw 19 rfl)) (Or.inl (own_w hw 35 rfl)) (by decide) (t := (.array .long)) (t' := .int) (by decide) (by decide))))
      have fq22 := ((fq8.other W11 (Or.inl n1aO)).other W15 (Or.inr (slot_ne (C := "com/example/slackweave/slackweave/paths/RadixHeap") (Or.inr (own_w hw 21 rfl)) (Or.inl (own_w hw 35 rfl)) (by decide) (t := (.array .int)) (t' := .int) (by decide) (by decide))))
      have fq23 := (((F_positions.other W6 (Or.inl n1aS)).other W11 (Or.inl n1aO)).other W15 (Or.inr (slot_ne (C := "com/example/slackweave/slackweave/paths/RadixHeap") (Or.inr (own_w hw 27 rfl)) (Or.inl (own_w hw 35 rfl)) (by decide) (t := (.array .int)) (t' := .int) (by decide) (by decide))))
      have fq24 := (((F_last.other W6 (Or.inl n1aS)).other W11 (Or.inl n1aO)).other W15 (Or.inr (slot_ne (C := "com/example/slackweave/slackweave/paths/RadixHeap") (Or.inl (own_w hw 50 rfl)) (Or.inl (own_w hw 35 rfl)) (by decide) (t := .long) (t' := .int) (by decide) (by decide))))
      have fq25 := (((RB.other W6 naBaS).other W11 naBaO).other W15 (Ne.symm n1aB))
      have fq26 := ((D6.other W11 nSO).other W15 (Ne.symm n1aS))
      have fq27 := (((AK.other W6 (Ne.symm naSaK)).other W11 naKaO).other W15 (Ne.symm n1aK))
      have fq28 := (A11.other W15 (Ne.symm n1aO))
      have fq29 := (((AP.other W6 (Ne.symm nSP)).other W11 (Ne.symm nOP)).other W15 (Ne.symm n1aP))
      have fq30 := (((AI.other W6 (Ne.symm naSaI)).other W11 (Ne.symm naOaI)).other W15 (Ne.symm n1aI))
      have fq31 := ((fq7.oO W11).oA ((E_a1.wr W6).wr W11) (own_w hw 3 rfl) W15)
      refine own_retI S16 d10_62 (by decide) (by decide) ?_
      exact ⟨mm, bk, Cf, own_up bf mm none, pf, la, rfl, hm3, (fun q => by rw [q] at hbm; cases hbm), own_up_self, fun j hj q => by rw [own_up_ne q], ⟨⟨ga, gB, gS, gO, gP, gI⟩, ⟨nSO, nSP, nOP⟩, fq18, fq19, fq20, fq21, fq22, fq23, fq24, Fw15, fq25, fq26, fq27, fq28, fq29, fq30, fq31⟩, own_AB.pop AB hm3 hbm hcc hpm, hla⟩
    · show own_F p e below s Z _ _ _ _ _ (T16.setTop (mkF m 56 #[.val (.ref a1), .val (.int mm.toInt32)] []))
      refine own_F.of (fun _ => XS.aloadN S16.here S16.hx rfl (S16.dec d10_56) rfl rfl) ?_
      refine own_F.of (fun _ => XS.lconst S16.here S16.hx rfl (S16.dec d10_57)) ?_
      show own_F p e below s Z _ _ _ _ _ (T16.setTop (mkF m 58 #[.val (.ref a1), .val (.int mm.toInt32)] [(.long (0 : Int64)), (.ref a1)]))
      have fq32 := (((F_last.other W6 (Or.inl n1aS)).other W11 (Or.inl n1aO)).other W15 (Or.inr (slot_ne (C := "com/example/slackweave/slackweave/paths/RadixHeap") (Or.inl (own_w hw 50 rfl)) (Or.inl (own_w hw 35 rfl)) (by decide) (t := .long) (t' := .int) (by decide) (by decide))))
      have fq33 := (fq14.wr W15)
      refine own_putF S16 (host := "") (Or.inl (own_w hw 49 rfl)) Via.refl fq32 fq33 (Or.inl (own_w hw 50 rfl)) (own_w hw 3 rfl) (ty := .long) (by decide) rfl rfl d10_58 (own_news_may ga) (fun T34 h34 S34 W34 => ?_)
      have Fw34 := fq32.same W34
      show own_F p e below s Z _ _ _ _ _ (T34.setTop (mkF m 61 #[.val (.ref a1), .val (.int mm.toInt32)] []))
      refine own_F.of (fun _ => XS.iloadN S34.here S34.hx rfl (S34.dec d10_61) rfl) ?_
      show own_F p e below s Z _ _ _ _ _ (T34.setTop (mkF m 62 #[.val (.ref a1), .val (.int mm.toInt32)] [(.int mm.toInt32)]))
      have fq35 := (fq33.wr W34)
      have fq36 := ((((F_buckets.other W6 (Or.inl n1aS)).other W11 (Or.inl n1aO)).other W15 (Or.inr (slot_ne (C := "com/example/slackweave/slackweave/paths/RadixHeap") (Or.inr (own_w hw 14 rfl)) (Or.inl (own_w hw 35 rfl)) (by decide) (t := (.array (.array .int))) (t' := .int) (by decide) (by decide)))).other W34 (Or.inr (slot_ne (C := "com/example/slackweave/slackweave/paths/RadixHeap") (Or.inr (own_w hw 14 rfl)) (Or.inl (own_w hw 50 rfl)) (by decide) (t := (.array (.array .int))) (t' := .long) (by decide) (by decide))))
      have fq37 := ((((F_sizes.other W6 (Or.inl n1aS)).other W11 (Or.inl n1aO)).other W15 (Or.inr (slot_ne (C := "com/example/slackweave/slackweave/paths/RadixHeap") (Or.inr (own_w hw 17 rfl)) (Or.inl (own_w hw 35 rfl)) (by decide) (t := (.array .int)) (t' := .int) (by decide) (by decide)))).other W34 (Or.inr (slot_ne (C := "com/example/slackweave/slackweave/paths/RadixHeap") (Or.inr (own_w hw 17 rfl)) (Or.inl (own_w hw 50 rfl)) (by decide) (t := (.array .int)) (t' := .long) (by decide) (by decide))))
      have fq38 := ((((F_keys.other W6 (Or.inl n1aS)).other W11 (Or.inl n1aO)).other W15 (Or.inr (slot_ne (C := "com/example/slackweave/slackweave/paths/RadixHeap") (Or.inr (own_w hw 19 rfl)) (Or.inl (own_w hw 35 rfl)) (by decide) (t := (.array .long)) (t' := .int) (by decide) (by decide)))).other W34 (Or.inr (slot_ne (C := "com/example/slackweave/slackweave/paths/RadixHeap") (Or.inr (own_w hw 19 rfl)) (Or.inl (own_w hw 50 rfl)) (by decide) (t := (.array .long)) (t' := .long) (by decide) (by decide))))
      have fq39 := (((fq8.other W11 (Or.inl n1aO)).other W15 (Or.inr (slot_ne (C := "com/example/slackweave/slackweave/paths/RadixHeap") (Or.inr (own_w hw 21 rfl)) (Or.inl (own_w hw 35 rfl)) (by decide) (t := (.array .int)) (t' := .int) (by decide) (by decide)))).other W34 (Or.inr (slot_ne (C := "com/example/slackweave/slackweave/paths/RadixHeap") (Or.inr (own_w hw 21 rfl)) (Or.inl (own_w hw 50 rfl)) (by decide) (t := (.array .int)) (t' := .long) (by decide) (by decide))))
      have fq40 := ((((F_positions.other W6 (Or.inl n1aS)).other W11 (Or.inl n1aO)).other W15 (Or.inr (slot_ne (C := "com/example/slackweave/slackweave/paths/RadixHeap") (Or.inr (own_w hw 27 rfl)) (Or.inl (own_w hw 35 rfl)) (by decide) (t := (.array .int)) (t' := .int) (by decide) (by decide)))).other W34 (Or.inr (slot_ne (C := "com/example/slackweave/slackweave/paths/RadixHeap") (Or.inr (own_w hw 27 rfl)) (Or.inl (own_w hw 50 rfl)) (by decide) (t := (.array .int)) (t' := .long) (by decide) (by decide))))
      have fq41 := (Fw15.other W34 (Or.inr (slot_ne (C := "com/example/slackweave/slackweave/paths/RadixHeap") (Or.inl (own_w hw 35 rfl)) (Or.inl (own_w hw 50 rfl)) (by decide) (t := .int) (t' := .long) (by decide) (by decide))))
      have fq42 := ((((RB.other W6 naBaS).other W11 naBaO).other W15 (Ne.symm n1aB)).other W34 (Ne.symm n1aB))
      have fq43 := (((D6.other W11 nSO).other W15 (Ne.symm n1aS)).other W34 (Ne.symm n1aS))
      have fq44 := ((((AK.other W6 (Ne.symm naSaK)).other W11 naKaO).other W15 (Ne.symm n1aK)).other W34 (Ne.symm n1aK))
      have fq45 := ((A11.other W15 (Ne.symm n1aO)).other W34 (Ne.symm n1aO))
      have fq46 := ((((AP.other W6 (Ne.symm nSP)).other W11 (Ne.symm nOP)).other W15 (Ne.symm n1aP)).other W34 (Ne.symm n1aP))
      have fq47 := ((((AI.other W6 (Ne.symm naSaI)).other W11 (Ne.symm naOaI)).other W15 (Ne.symm n1aI)).other W34 (Ne.symm n1aI))
      have fq48 := (((fq7.oO W11).oA ((E_a1.wr W6).wr W11) (own_w hw 3 rfl) W15).oA (((E_a1.wr W6).wr W11).wr W15) (own_w hw 3 rfl) W34)
      refine own_retI S34 d10_62 (by decide) (by decide) ?_
      exact ⟨mm, bk, Cf, own_up bf mm none, pf, (0 : Int64), rfl, hm3, (fun q => by rw [q] at hbm; cases hbm), own_up_self, fun j hj q => by rw [own_up_ne q], ⟨⟨ga, gB, gS, gO, gP, gI⟩, ⟨nSO, nSP, nOP⟩, fq35, fq36, fq37, fq38, fq39, fq40, Fw34, fq41, fq42, fq43, fq44, fq45, fq46, fq47, fq48⟩, own_AB.pop AB hm3 hbm hcc hpm, (by decide)⟩
  · show own_F p e below s Z _ _ _ _ _ (T1.setTop (mkF m 9 #[.val (.ref a1), .unset] []))
    refine own_F.of (fun _ => XS.aloadN S1.here S1.hx rfl (S1.dec d10_9) rfl rfl) ?_
    show own_F p e below s Z _ _ _ _ _ (T1.setTop (mkF m 10 #[.val (.ref a1), .unset] [(.ref a1)]))
    refine own_callP S1 (y := (⟨"com/example/slackweave/slackweave/paths/RadixHeap", "refileLowestBucket", "()V"⟩ : MethodName)) (own_w hw 66 rfl) (own_w hw 67 rfl) (own_w hw 3 rfl) (own_w hw 68 rfl) (own_w hw 69 rfl) (own_w hw 4 rfl) (by decide) E_a1 (argsL := []) (rest := []) (own_refile l Z a0 hw a1 aB aS aK aO aP aI bk Cf bf pf la ct yf i0 i1 i2 h0 S1.old HC AB ((own_hm0 (own_hm_le bf 0)).mp hc6_2) hpres hyf) own_news_sub (by decide +kernel : parseMethodDescriptor "()V" = some ⟨[], none⟩) rfl rfl rfl d10_10 (by decide) (Nat.le_of_ble_eq_true rfl) (by decide) (by decide) (fun T49 h49 v49 S49 K49 q49 => ?_)
    obtain ⟨rfl, bk49', C49', b49', p49', la49', H49, B49, hl49, h1_49, ei49⟩ := q49
    obtain ⟨-, -, E_a1_49, F_buckets_49, F_sizes_49, F_keys_49, F_bucketOf_49, F_positions_49, F_last_49, F_count_49, RB_49, AS_49, AK_49, AO_49, AP_49, AI_49, BK_49⟩ := H49
    show own_F p e below s Z _ _ _ _ _ (T49.setTop (mkF m 13 #[.val (.ref a1), .unset] []))
    obtain ⟨cc, hcc⟩ : ∃ cc, own_hm b49' 0 = cc + 1 := ⟨own_hm b49' 0 - 1, by omega⟩
    obtain ⟨mm, hm3, hbm, hpm⟩ := own_last B49 hcc
    obtain ⟨-, -, ⟨r, hv⟩, hcm⟩ := B49.1 mm 0 hm3 hbm
    rw [hpm] at hcm
    have sm := own_small (n := cc) (by have := own_hm_le b49' 0; omega)
    have m50aS := (BK_49.2.1 _ _ hv).2.2.2.1
    have m50aO := (BK_49.2.1 _ _ hv).2.2.2.2.1
    have m50aP := (BK_49.2.1 _ _ hv).2.2.2.2.2
    have m50aB := own_A.neT (BK_49.2.1 _ _ hv).1 RB_49.A (by decide)
    have m50aK := own_A.neT (BK_49.2.1 _ _ hv).1 AK_49 (by decide)
    have m50aI := own_A.neT (BK_49.2.1 _ _ hv).1 AI_49 (by decide)
    have m50a1 := own_neA E_a1_49 (own_w hw 3 rfl) (BK_49.2.1 _ _ hv).1
    refine own_F.of (fun _ => XS.aloadN S49.here S49.hx rfl (S49.dec d10_13) rfl rfl) ?_
    show own_F p e below s Z _ _ _ _ _ (T49.setTop (mkF m 14 #[.val (.ref a1), .unset] [(.ref a1)]))
    refine own_getF S49 (host := "") (Or.inl (own_w hw 13 rfl)) Via.refl F_buckets_49 d10_14 (fun T51 S51 => ?_)
    show own_F p e below s Z _ _ _ _ _ (T51.setTop (mkF m 17 #[.val (.ref a1), .unset] [(.ref aB)]))
    refine own_F.of (fun _ => XS.iconst S51.here S51.hx rfl (S51.dec d10_17)) ?_
    show own_F p e below s Z _ _ _ _ _ (T51.setTop (mkF m 18 #[.val (.ref a1), .unset] [(.int 0), (.ref aB)]))
    refine own_aald S51 RB_49.A rfl (by decide) (by exact hv) d10_18 ?_
    show own_F p e below s Z _ _ _ _ _ (T51.setTop (mkF m 19 #[.val (.ref a1), .unset] [(.ref r)]))
    refine own_F.of (fun _ => XS.aloadN S51.here S51.hx rfl (S51.dec d10_19) rfl rfl) ?_
    show own_F p e below s Z _ _ _ _ _ (T51.setTop (mkF m 20 #[.val (.ref a1), .unset] [(.ref a1), (.ref r)]))
    refine own_getF S51 (host := "") (Or.inl (own_w hw 16 rfl)) Via.refl F_sizes_49 d10_20 (fun T52 S52 => ?_)
    show own_F p e below s Z _ _ _ _ _ (T52.setTop (mkF m 23 #[.val (.ref a1), .unset] [(.ref aS), (.ref r)]))
    refine own_F.of (fun _ => XS.iconst S52.here S52.hx rfl (S52.dec d10_23)) ?_
    show own_F p e below s Z _ _ _ _ _ (T52.setTop (mkF m 24 #[.val (.ref a1), .unset] [(.int 0), (.ref aS), (.ref r)]))
    refine own_F.of (fun _ => XT.dup2 S52.here S52.hx rfl (S52.dec d10_24) rfl rfl rfl) ?_
    show own_F p e below s Z _ _ _ _ _ (T52.setTop (mkF m 25 #[.val (.ref a1), .unset] [(.int 0), (.ref aS), (.int 0), (.ref aS), (.ref r)]))
    refine own_iald S52 AS_49 (by decide) (by exact (own_szat b49' (k := 0) (by decide)).trans (by rw [hcc])) d10_25 ?_
    show own_F p e below s Z _ _ _ _ _ (T52.setTop (mkF m 26 #[.val (.ref a1), .unset] [(.int (cc + 1).toInt32), (.int 0), (.ref aS), (.ref r)]))
    refine own_F.of (fun _ => XS.iconst S52.here S52.hx rfl (S52.dec d10_26)) ?_
    show own_F p e below s Z _ _ _ _ _ (T52.setTop (mkF m 27 #[.val (.ref a1), .unset] [(.int 1), (.int (cc + 1).toInt32), (.int 0), (.ref aS), (.ref r)]))
    refine own_F.of (fun _ => XS.isub S52.here S52.hx rfl (S52.dec d10_27) rfl) ?_
    show own_F p e below s Z _ _ _ _ _ (T52.setTop (mkF m 28 #[.val (.ref a1), .unset] [(.int ((cc + 1).toInt32 - (1 : Int32))), (.int 0), (.ref aS), (.ref r)]))
    rw [own_pre (n := cc) (by have := own_hm_le b49' 0; omega)]
    show own_F p e below s Z _ _ _ _ _ (T52.setTop (mkF m 28 #[.val (.ref a1), .unset] [(.int cc.toInt32), (.int 0), (.ref aS), (.ref r)]))
    refine own_F.of (fun _ => own_dupX2 S52.here S52.hx rfl (S52.dec d10_28) rfl rfl rfl rfl) ?_
    show own_F p e below s Z _ _ _ _ _ (T52.setTop (mkF m 29 #[.val (.ref a1), .unset] [(.int cc.toInt32), (.int 0), (.ref aS), (.int cc.toInt32), (.ref r)]))
    refine own_ist S52 AS_49 (by decide) (by rw [own_szlen]; decide) d10_29 (own_news_may gS) (fun T53 h53 S53 W53 A53 => ?_)
    have D53 := own_szrem (n := mm) (k := 0) hm3 hbm (by decide) hcc A53
    show own_F p e below s Z _ _ _ _ _ (T53.setTop (mkF m 30 #[.val (.ref a1), .unset] [(.int cc.toInt32), (.ref r)]))
    have fq54 := (BK_49.oS W53)
    refine own_iald S53 (fq54.2.1 _ _ hv).1 sm.2.1 (by rw [sm.1]; exact hcm) d10_30 ?_
    show own_F p e below s Z _ _ _ _ _ (T53.setTop (mkF m 31 #[.val (.ref a1), .unset] [(.int mm.toInt32)]))
    refine own_F.of (fun _ => XS.istoreN S53.here S53.hx rfl (S53.dec d10_31) rfl (l' := #[.val (.ref a1), .val (.int mm.toInt32)]) rfl) ?_
    refine own_F.of (fun _ => XS.aloadN S53.here S53.hx rfl (S53.dec d10_32) rfl rfl) ?_
    show own_F p e below s Z _ _ _ _ _ (T53.setTop (mkF m 33 #[.val (.ref a1), .val (.int mm.toInt32)] [(.ref a1)]))
    have fq55 := (F_bucketOf_49.other W53 (Or.inl n1aS))
    refine own_getF S53 (host := "") (Or.inl (own_w hw 20 rfl)) Via.refl fq55 d10_33 (fun T56 S56 => ?_)
    show own_F p e below s Z _ _ _ _ _ (T56.setTop (mkF m 36 #[.val (.ref a1), .val (.int mm.toInt32)] [(.ref aO)]))
    refine own_F.of (fun _ => XS.iloadN S56.here S56.hx rfl (S56.dec d10_36) rfl) ?_
    refine own_F.of (fun _ => XS.iconst S56.here S56.hx rfl (S56.dec d10_37)) ?_
    show own_F p e below s Z _ _ _ _ _ (T56.setTop (mkF m 38 #[.val (.ref a1), .val (.int mm.toInt32)] [(.int (-1 : Int32)), (.int mm.toInt32), (.ref aO)]))
    have fq57 := (AO_49.other W53 (Ne.symm nSO))
    refine own_ist S56 fq57 (own_lt3 hm3).2 (by rw [(own_lt3 hm3).1]; exact hm3) d10_38 (own_news_may gO) (fun T58 h58 S58 W58 A58 => ?_)
    rw [own_setE hm3] at A58
    show own_F p e below s Z _ _ _ _ _ (T58.setTop (mkF m 39 #[.val (.ref a1), .val (.int mm.toInt32)] []))
    refine own_F.of (fun _ => XS.aloadN S58.here S58.hx rfl (S58.dec d10_39) rfl rfl) ?_
    refine own_F.of (fun _ => XS.dup S58.here S58.hx rfl (S58.dec d10_40) rfl rfl) ?_
    show own_F p e below s Z _ _ _ _ _ (T58.setTop (mkF m 41 #[.val (.ref a1), .val (.int mm.toInt32)] [(.ref a1), (.ref a1)]))
    have fq59 := ((F_count_49.other W53 (Or.inl n1aS)).other W58 (Or.inl n1aO))
    refine own_getF S58 (host := "") (Or.inl (own_w hw 34 rfl)) Via.refl fq59 d10_41 (fun T60 S60 => ?_)
    show own_F p e below s Z _ _ _ _ _ (T60.setTop (mkF m 44 #[.val (.ref a1), .val (.int mm.toInt32)] [(.int ct), (.ref a1)]))
    refine own_F.of (fun _ => XS.iconst S60.here S60.hx rfl (S60.dec d10_44)) ?_
    show own_F p e below s Z _ _ _ _ _ (T60.setTop (mkF m 45 #[.val (.ref a1), .val (.int mm.toInt32)] [(.int 1), (.int ct), (.ref a1)]))
    refine own_F.of (fun _ => XS.isub S60.here S60.hx rfl (S60.dec d10_45) rfl) ?_
    show own_F p e below s Z _ _ _ _ _ (T60.setTop (mkF m 46 #[.val (.ref a1), .val (.int mm.toInt32)] [(.int (ct - (1 : Int32))), (.ref a1)]))
    have fq61 := ((E_a1_49.wr W53).wr W58)
    refine own_putF S60 (host := "") (Or.inl (own_w hw 34 rfl)) Via.refl fq59 fq61 (Or.inl (own_w hw 35 rfl)) (own_w hw 3 rfl) (ty := .int) (by decide) rfl rfl d10_46 (own_news_may ga) (fun T62 h62 S62 W62 => ?_)
    have Fw62 := fq59.same W62
    show own_F p e below s Z _ _ _ _ _ (T62.setTop (mkF m 49 #[.val (.ref a1), .val (.int mm.toInt32)] []))
    refine own_F.of (fun _ => XS.aloadN S62.here S62.hx rfl (S62.dec d10_49) rfl rfl) ?_
    show own_F p e below s Z _ _ _ _ _ (T62.setTop (mkF m 50 #[.val (.ref a1), .val (.int mm.toInt32)] [(.ref a1)]))
    refine own_getF S62 (host := "") (Or.inl (own_w hw 34 rfl)) Via.refl Fw62 d10_50 (fun T63 S63 => ?_)
    show own_F p e below s Z _ _ _ _ _ (T63.setTop (mkF m 53 #[.val (.ref a1), .val (.int mm.toInt32)] [(.int (ct - (1 : Int32)))]))
    refine own_if S63 61 d10_53 (by decide) (by decide) (fun (hc53_64 : ¬ ((ct - (1 : Int32)) = (0 : Int32))) => ?_) (fun (hc53_64 : (ct - (1 : Int32)) = (0 : Int32)) => ?_)
    · show own_F p e below s Z _ _ _ _ _ (T63.setTop (mkF m 61 #[.val (.ref a1), .val (.int mm.toInt32)] []))
      refine own_F.of (fun _ => XS.iloadN S63.here S63.hx rfl (S63.dec d10_61) rfl) ?_
      show own_F p e below s Z _ _ _ _ _ (T63.setTop (mkF m 62 #[.val (.ref a1), .val (.int mm.toInt32)] [(.int mm.toInt32)]))
      have fq65 := (fq61.wr W62)
      have fq66 := (((F_buckets_49.other W53 (Or.inl n1aS)).other W58 (Or.inl n1aO)).other W62 (Or.inr (slot_ne (C := "com/example/slackweave/slackweave/paths/RadixHeap") (Or.inr (own_w hw 14 rfl)) (Or.inl (own_w hw 35 rfl)) (by decide) (t := (.array (.array .int))) (t' := .int) (by decide) (by decide))))
      have fq67 := (((F_sizes_49.other W53 (Or.inl n1aS)).other W58 (Or.inl n1aO)).other W62 (Or.inr (slot_ne (C := "com/example/slackweave/slackweave/paths/RadixHeap") (Or.inr (own_w hw 17 rfl)) (Or.inl (own_w hw 35 rfl)) (by decide) (t := (.array .int)) (t' := .int) (by decide) (by decide))))
      have fq68 := (((F_keys_49.other W53 (Or.inl n1aS)).other W58 (Or.inl n1aO)).other W62 (Or.inr (slot_ne (C := "com/example/slackweave/slackweave/paths/RadixHeap") (Or.inr (own_w hw 19 rfl)) (Or.inl (own_w hw 35 rfl)) (by decide) (t := (.array .long)) (t' := .int) (by decide) (by decide))))
      have fq69 := ((fq55.other W58 (Or.inl n1aO)).other W62 (Or.inr (slot_ne (C := "com/example/slackweave/slackweave/paths/RadixHeap") (Or.inr (own_w hw 21 rfl)) (Or.inl (own_w hw 35 rfl)) (by decide) (t := (.array .int)) (t' := .int) (by decide) (by decide))))
      have fq70 := (((F_positions_49.other W53 (Or.inl n1aS)).other W58 (Or.inl n1aO)).other W62 (Or.inr (slot_ne (C := "com/example/slackweave/slackweave/paths/RadixHeap") (Or.inr (own_w hw 27 rfl)) (Or.inl (own_w hw 35 rfl)) (by decide) (t := (.array .int)) (t' := .int) (by decide) (by decide))))
      have fq71 := (((F_last_49.other W53 (Or.inl n1aS)).other W58 (Or.inl n1aO)).other W62 (Or.inr (slot_ne (C := "com/example/slackweave/slackweave/paths/RadixHeap") (Or.inl (own_w hw 50 rfl)) (Or.inl (own_w hw 35 rfl)) (by decide) (t := .long) (t' := .int) (by decide) (by decide))))
      have fq72 := (((RB_49.other W53 naBaS).other W58 naBaO).other W62 (Ne.symm n1aB))
      have fq73 := ((D53.other W58 nSO).other W62 (Ne.symm n1aS))
      have fq74 := (((AK_49.other W53 (Ne.symm naSaK)).other W58 naKaO).other W62 (Ne.symm n1aK))
      have fq75 := (A58.other W62 (Ne.symm n1aO))
      have fq76 := (((AP_49.other W53 (Ne.symm nSP)).other W58 (Ne.symm nOP)).other W62 (Ne.symm n1aP))
      have fq77 := (((AI_49.other W53 (Ne.symm naSaI)).other W58 (Ne.symm naOaI)).other W62 (Ne.symm n1aI))
      have fq78 := ((fq54.oO W58).oA ((E_a1_49.wr W53).wr W58) (own_w hw 3 rfl) W62)
      refine own_retI S63 d10_62 (by decide) (by decide) ?_
      exact ⟨mm, bk49', C49', own_up b49' mm none, p49', la49', rfl, hm3, (fun q => by rw [(ei49 mm hm3).mpr q] at hbm; cases hbm), own_up_self, fun j hj q => by rw [own_up_ne q]; exact ei49 j hj, ⟨⟨ga, gB, gS, gO, gP, gI⟩, ⟨nSO, nSP, nOP⟩, fq65, fq66, fq67, fq68, fq69, fq70, fq71, Fw62, fq72, fq73, fq74, fq75, fq76, fq77, fq78⟩, own_AB.pop B49 hm3 hbm hcc hpm, hl49⟩
    · show own_F p e below s Z _ _ _ _ _ (T63.setTop (mkF m 56 #[.val (.ref a1), .val (.int mm.toInt32)] []))
      refine own_F.of (fun _ => XS.aloadN S63.here S63.hx rfl (S63.dec d10_56) rfl rfl) ?_
      refine own_F.of (fun _ => XS.lconst S63.here S63.hx rfl (S63.dec d10_57)) ?_
      show own_F p e below s Z _ _ _ _ _ (T63.setTop (mkF m 58 #[.val (.ref a1), .val (.int mm.toInt32)] [(.long (0 : Int64)), (.ref a1)]))
      have fq79 := (((F_last_49.other W53 (Or.inl n1aS)).other W58 (Or.inl n1aO)).other W62 (Or.inr (slot_ne (C := "com/example/slackweave/slackweave/paths/RadixHeap") (Or.inl (own_w hw 50 rfl)) (Or.inl (own_w hw 35 rfl)) (by decide) (t := .long) (t' := .int) (by decide) (by decide))))
      have fq80 := (fq61.wr W62)
      refine own_putF S63 (host := "") (Or.inl (own_w hw 49 rfl)) Via.refl fq79 fq80 (Or.inl (own_w hw 50 rfl)) (own_w hw 3 rfl) (ty := .long) (by decide) rfl rfl d10_58 (own_news_may ga) (fun T81 h81 S81 W81 => ?_)
      have Fw81 := fq79.same W81
      show own_F p e below s Z _ _ _ _ _ (T81.setTop (mkF m 61 #[.val (.ref a1), .val (.int mm.toInt32)] []))
      refine own_F.of (fun _ => XS.iloadN S81.here S81.hx rfl (S81.dec d10_61) rfl) ?_
      show own_F p e below s Z _ _ _ _ _ (T81.setTop (mkF m 62 #[.val (.ref a1), .val (.int mm.toInt32)] [(.int mm.toInt32)]))
      have fq82 := (fq80.wr W81)
      have fq83 := ((((F_buckets_49.other W53 (Or.inl n1aS)).other W58 (Or.inl n1aO)).other W62 (Or.inr (slot_ne (C := "com/example/slackweave/slackweave/paths/RadixHeap") (Or.inr (own_w hw 14 rfl)) (Or.inl (own_w hw 35 rfl)) (by decide) (t := (.array (.array .int))) (t' := .int) (by decide) (by decide)))).other W81 (Or.inr (slot_ne (C := "com/example/slackweave/slackweave/paths/RadixHeap") (Or.inr (own_w hw 14 rfl)) (Or.inl (own_w hw 50 rfl)) (by decide) (t := (.array (.array .int))) (t' := .long) (by decide) (by decide))))
      have fq84 := ((((F_sizes_49.other W53 (Or.inl n1aS)).other W58 (Or.inl n1aO)).other W62 (Or.inr (slot_ne (C := "com/example/slackweave/slackweave/paths/RadixHeap") (Or.inr (own_w hw 17 rfl)) (Or.inl (own_w hw 35 rfl)) (by decide) (t := (.array .int)) (t' := .int) (by decide) (by decide)))).other W81 (Or.inr (slot_ne (C := "com/example/slackweave/slackweave/paths/RadixHeap") (Or.inr (own_w hw 17 rfl)) (Or.inl (own_w hw 50 rfl)) (by decide) (t := (.array .int)) (t' := .long) (by decide) (by decide))))
      have fq85 := ((((F_keys_49.other W53 (Or.inl n1aS)).other W58 (Or.inl n1aO)).other W62 (Or.inr (slot_ne (C := "com/example/slackweave/slackweave/paths/RadixHeap") (Or.inr (own_w hw 19 rfl)) (Or.inl (own_w hw 35 rfl)) (by decide) (t := (.array .long)) (t' := .int) (by decide) (by decide)))).other W81 (Or.inr (slot_ne (C := "com/example/slackweave/slackweave/paths/RadixHeap") (Or.inr (own_w hw 19 rfl)) (Or.inl (own_w hw 50 rfl)) (by decide) (t := (.array .long)) (t' := .long) (by decide) (by decide))))
      have fq86 := (((fq55.other W58 (Or.inl n1aO)).other W62 (Or.inr (slot_ne (C := "com/example/slackweave/slackweave/paths/RadixHeap") (Or.inr (own_w hw 21 rfl)) (Or.inl (own_w hw 35 rfl)) (by decide) (t := (.array .int)) (t' := .int) (by decide) (by decide)))).other W81 (Or.inr (slot_ne (C := "com/example/slackweave/slackweave/paths/RadixHeap") (Or.inr (own_w hw 21 rfl)) (Or.inl (own_w hw 50 rfl)) (by decide) (t := (.array .int)) (t' := .long) (by decide) (by decide))))
      have fq87 := ((((F_positions_49.other W53 (Or.inl n1aS)).other W58 (Or.inl n1aO)).other W62 (Or.inr (slot_ne (C := "com/example/slackweave/slackweave/paths/RadixHeap") (Or.inr (own_w hw 27 rfl)) (Or.inl (own_w hw 35 rfl)) (by decide) (t := (.array .int)) (t' := .int) (by decide) (by decide)))).other W81 (Or.inr (slot_ne (C := "com/example/slackweave/slackweave/paths/RadixHeap") (Or.inr (own_w hw 27 rfl)) (Or.inl (own_w hw 50 rfl)) (by decide) (t := (.array .int)) (t' := .long) (by decide) (by decide))))
      have fq88 := (Fw62.other W81 (Or.inr (slot_ne (C := "com/example/slackweave/slackweave/paths/RadixHeap") (Or.inl (own_w hw 35 rfl)) (Or.inl (own_w hw 50 rfl)) (by decide) (t := .int) (t' := .long) (by decide) (by decide))))
      have fq89 := ((((RB_49.other W53 naBaS).other W58 naBaO).other W62 (Ne.symm n1aB)).other W81 (Ne.symm n1aB))
      have fq90 := (((D53.other W58 nSO).other W62 (Ne.symm n1aS)).other W81 (Ne.symm n1aS))
      have fq91 := ((((AK_49.other W53 (Ne.symm naSaK)).other W58 naKaO).other W62 (Ne.symm n1aK)).other W81 (Ne.symm n1aK))
      have fq92 := ((A58.other W62 (Ne.symm n1aO)).other W81 (Ne.symm n1aO))
      have fq93 := ((((AP_49.other W53 (Ne.symm nSP)).other W58 (Ne.symm nOP)).other W62 (Ne.symm n1aP)).other W81 (Ne.symm n1aP))
      have fq94 := ((((AI_49.other W53 (Ne.symm naSaI)).other W58 (Ne.symm naOaI)).other W62 (Ne.symm n1aI)).other W81 (Ne.symm n1aI))
      have fq95 := (((fq54.oO W58).oA ((E_a1_49.wr W53).wr W58) (own_w hw 3 rfl) W62).oA (((E_a1_49.wr W53).wr W58).wr W62) (own_w hw 3 rfl) W81)
      refine own_retI S81 d10_62 (by decide) (by decide) ?_
      exact ⟨mm, bk49', C49', own_up b49' mm none, p49', (0 : Int64), rfl, hm3, (fun q => by rw [(ei49 mm hm3).mpr q] at hbm; cases hbm), own_up_self, fun j hj q => by rw [own_up_ne q]; exact ei49 j hj, ⟨⟨ga, gB, gS, gO, gP, gI⟩, ⟨nSO, nSP, nOP⟩, fq82, fq83, fq84, fq85, fq86, fq87, Fw81, fq88, fq89, fq90, fq91, fq92, fq93, fq94, fq95⟩, own_AB.pop B49 hm3 hbm hcc hpm, (by decide)⟩
theorem d3_0 : decode jdk_65_method_103_code 0 = .ok (.iconst 0, 1) := by decide +kernel
theorem d3_1 : decode jdk_65_method_103_code 1 = .ok (.istore_n 2, 1) := by decide +kernel
theorem d3_2 : decode jdk_65_method_103_code 2 = .ok (.aload_n 0, 1) := by decide +kernel
theorem d3_3 : decode jdk_65_method_103_code 3 = .ok (.arraylength, 1) := by decide +kernel
theorem d3_4 : decode jdk_65_method_103_code 4 = .ok (.istore_n 3, 1) := by decide +kernel
theorem d3_5 : decode jdk_65_method_103_code 5 = .ok (.iload_n 2, 1) := by decide +kernel
theorem d3_6 : decode jdk_65_method_103_code 6 = .ok (.iload_n 3, 1) := by decide +kernel
theorem d3_7 : decode jdk_65_method_103_code 7 = .ok (.if_icmp .ge 13, 3) := by decide +kernel
theorem d3_10 : decode jdk_65_method_103_code 10 = .ok (.aload_n 0, 1) := by decide +kernel
theorem d3_11 : decode jdk_65_method_103_code 11 = .ok (.iload_n 2, 1) := by decide +kernel
theorem d3_12 : decode jdk_65_method_103_code 12 = .ok (.iload_n 1, 1) := by decide +kernel
theorem d3_13 : decode jdk_65_method_103_code 13 = .ok (.iastore, 1) := by decide +kernel
theorem d3_14 : decode jdk_65_method_103_code 14 = .ok (.iinc 2 1, 3) := by decide +kernel
theorem d3_17 : decode jdk_65_method_103_code 17 = .ok (.goto (-12), 3) := by decide +kernel
theorem d3_20 : decode jdk_65_method_103_code 20 = .ok (.return_, 1) := by decide +kernel
theorem pn3 : plainFor (⟨"java/util/Arrays", "fill", "([II)V"⟩ : MethodName) = true := plainFor_of_name (by first | (simp [plainName, overriddenIn]; done) | decide +kernel)
set_option maxRecDepth 65536 in
set_option maxHeartbeats 40000000 in
theorem own_fill (l : Launch) (Z : State) (a0 : Array Value) (hw : ∀ d ∈ tables_1, d.before a0 Z = true) (aX : Addr) (h0 : Heap) (hO : Ext Z.heap h0) (gX : Z.heap.size ≤ aX) (AX : own_A Z h0 aX .int [(.int (0 : Int32)), (.int (0 : Int32)), (.int (0 : Int32))]) :
    own_C l Z (⟨"java/util/Arrays", "fill", "([II)V"⟩ : MethodName) jdk_65_method_103_code 4 none [] ({ frames := 0, cells := 0, slots := 0, locals := 0 } : Room) [aX] #[(.ref aX), (.int (-1 : Int32))] h0 (fun v h => v = none ∧ own_A Z h aX .int [(.int (-1 : Int32)), (.int (-1 : Int32)), (.int (-1 : Int32))]) := by
  refine own_C.of pn3 hO (allS gX all0) ?_
  intro p e s m below meth c T0 S0
  refine own_F.cast (by first | (simp [entryFrame, mkF, argsToLocals, Value.category]; done) | rfl : entryFrame m #[(.ref aX), (.int (-1 : Int32))] 4 = mkF m 0 #[.val (.ref aX), .val (.int (-1 : Int32)), .unset, .unset] []) ?_
  show own_F p e below s Z _ _ _ _ _ (T0.setTop (mkF m 0 #[.val (.ref aX), .val (.int (-1 : Int32)), .unset, .unset] []))
  refine own_F.of (fun _ => XS.iconst S0.here S0.hx rfl (S0.dec d3_0)) ?_
  show own_F p e below s Z _ _ _ _ _ (T0.setTop (mkF m 1 #[.val (.ref aX), .val (.int (-1 : Int32)), .unset, .unset] [(.int 0)]))
  refine own_F.of (fun _ => XS.istoreN S0.here S0.hx rfl (S0.dec d3_1) rfl (l' := #[.val (.ref aX), .val (.int (-1 : Int32)), .val (.int 0), .unset]) rfl) ?_
  refine own_F.of (fun _ => XS.aloadN S0.here S0.hx rfl (S0.dec d3_2) rfl rfl) ?_
  show own_F p e below s Z _ _ _ _ _ (T0.setTop (mkF m 3 #[.val (.ref aX), .val (.int (-1 : Int32)), .val (.int 0), .unset] [(.ref aX)]))
  refine own_len S0 AX d3_3 ?_
  show own_F p e below s Z _ _ _ _ _ (T0.setTop (mkF m 4 #[.val (.ref aX), .val (.int (-1 : Int32)), .val (.int 0), .unset] [(.int 3)]))
  refine own_F.of (fun _ => XS.istoreN S0.here S0.hx rfl (S0.dec d3_4) rfl (l' := #[.val (.ref aX), .val (.int (-1 : Int32)), .val (.int 0), .val (.int 3)]) rfl) ?_
  refine own_F.of (fun _ => XS.iloadN S0.here S0.hx rfl (S0.dec d3_5) rfl) ?_
  refine own_F.of (fun _ => XS.iloadN S0.here S0.hx rfl (S0.dec d3_6) rfl) ?_
  show own_F p e below s Z _ _ _ _ _ (T0.setTop (mkF m 7 #[.val (.ref aX), .val (.int (-1 : Int32)), .val (.int 0), .val (.int 3)] [(.int 3), (.int 0)]))
  refine own_icmp S0 20 d3_7 (by decide) (by decide) (fun (hc7_1 : ¬ ((0 : Int32) < (3 : Int32))) => False.elim (absurd hc7_1 (by decide))) (fun (hc7_1 : (0 : Int32) < (3 : Int32)) => ?_)
  show own_F p e below s Z _ _ _ _ _ (T0.setTop (mkF m 10 #[.val (.ref aX), .val (.int (-1 : Int32)), .val (.int 0), .val (.int 3)] []))
  refine own_F.of (fun _ => XS.aloadN S0.here S0.hx rfl (S0.dec d3_10) rfl rfl) ?_
  refine own_F.of (fun _ => XS.iloadN S0.here S0.hx rfl (S0.dec d3_11) rfl) ?_
  refine own_F.of (fun _ => XS.iloadN S0.here S0.hx rfl (S0.dec d3_12) rfl) ?_
  show own_F p e below s Z _ _ _ _ _ (T0.setTop (mkF m 13 #[.val (.ref aX), .val (.int (-1 : Int32)), .val (.int 0), .val (.int 3)] [(.int (-1 : Int32)), (.int 0), (.ref aX)]))
  refine own_ist S0 AX (by decide) (Nat.le_of_ble_eq_true rfl) d3_13 (Or.inl (List.mem_of_getElem? (i := 0) rfl)) (fun T2 h2 S2 W2 A2 => ?_)
  have V3 : own_A Z h2 aX .int [(.int (-1 : Int32)), (.int (0 : Int32)), (.int (0 : Int32))] := A2
  show own_F p e below s Z _ _ _ _ _ (T2.setTop (mkF m 14 #[.val (.ref aX), .val (.int (-1 : Int32)), .val (.int 0), .val (.int 3)] []))
  refine own_F.of (fun _ => XS.iinc S2.here S2.hx rfl (S2.dec d3_14) rfl (l' := #[.val (.ref aX), .val (.int (-1 : Int32)), .val (.int 1), .val (.int 3)]) rfl) ?_
  show own_F p e below s Z _ _ _ _ _ (T2.setTop (mkF m 17 #[.val (.ref aX), .val (.int (-1 : Int32)), .val (.int 1), .val (.int 3)] []))
  refine own_F.of (fun _ => XS.goto S2.here S2.hx rfl (pc0 := 17) (pc' := 5) rfl (S2.dec d3_17) (by decide) (by decide)) ?_
  show own_F p e below s Z _ _ _ _ _ (T2.setTop (mkF m 5 #[.val (.ref aX), .val (.int (-1 : Int32)), .val (.int 1), .val (.int 3)] []))
  refine own_F.of (fun _ => XS.iloadN S2.here S2.hx rfl (S2.dec d3_5) rfl) ?_
  refine own_F.of (fun _ => XS.iloadN S2.here S2.hx rfl (S2.dec d3_6) rfl) ?_
  show own_F p e below s Z _ _ _ _ _ (T2.setTop (mkF m 7 #[.val (.ref aX), .val (.int (-1 : Int32)), .val (.int 1), .val (.int 3)] [(.int 3), (.int 1)]))
  refine own_icmp S2 20 d3_7 (by decide) (by decide) (fun (hc7_4 : ¬ ((1 : Int32) < (3 : Int32))) => False.elim (absurd hc7_4 (by decide))) (fun (hc7_4 : (1 : Int32) < (3 : Int32)) => ?_)
  show own_F p e below s Z _ _ _ _ _ (T2.setTop (mkF m 10 #[.val (.ref aX), .val (.int (-1 : Int32)), .val (.int 1), .val (.int 3)] []))
  refine own_F.of (fun _ => XS.aloadN S2.here S2.hx rfl (S2.dec d3_10) rfl rfl) ?_
  refine own_F.of (fun _ => XS.iloadN S2.here S2.hx rfl (S2.dec d3_11) rfl) ?_
  refine own_F.of (fun _ => XS.iloadN S2.here S2.hx rfl (S2.dec d3_12) rfl) ?_
  show own_F p e below s Z _ _ _ _ _ (T2.setTop (mkF m 13 #[.val (.ref aX), .val (.int (-1 : Int32)), .val (.int 1), .val (.int 3)] [(.int (-1 : Int32)), (.int 1), (.ref aX)]))
  refine own_ist S2 V3 (by decide) (Nat.le_of_ble_eq_true rfl) d3_13 (Or.inl (List.mem_of_getElem? (i := 0) rfl)) (fun T5 h5 S5 W5 A5 => ?_)
  have V6 : own_A Z h5 aX .int [(.int (-1 : Int32)), (.int (-1 : Int32)), (.int (0 : Int32))] := A5
  show own_F p e below s Z _ _ _ _ _ (T5.setTop (mkF m 14 #[.val (.ref aX), .val (.int (-1 : Int32)), .val (.int 1), .val (.int 3)] []))
  refine own_F.of (fun _ => XS.iinc S5.here S5.hx rfl (S5.dec d3_14) rfl (l' := #[.val (.ref aX), .val (.int (-1 : Int32)), .val (.int 2), .val (.int 3)]) rfl) ?_
  show own_F p e below s Z _ _ _ _ _ (T5.setTop (mkF m 17 #[.val (.ref aX), .val (.int (-1 : Int32)), .val (.int 2), .val (.int 3)] []))
  refine own_F.of (fun _ => XS.goto S5.here S5.hx rfl (pc0 := 17) (pc' := 5) rfl (S5.dec d3_17) (by decide) (by decide)) ?_
  show own_F p e below s Z _ _ _ _ _ (T5.setTop (mkF m 5 #[.val (.ref aX), .val (.int (-1 : Int32)), .val (.int 2), .val (.int 3)] []))
  refine own_F.of (fun _ => XS.iloadN S5.here S5.hx rfl (S5.dec d3_5) rfl) ?_
  refine own_F.of (fun _ => XS.iloadN S5.here S5.hx rfl (S5.dec d3_6) rfl) ?_
  show own_F p e below s Z _ _ _ _ _ (T5.setTop (mkF m 7 #[.val (.ref aX), .val (.int (-1 : Int32)), .val (.int 2), .val (.int 3)] [(.int 3), (.int 2)]))
  refine own_icmp S5 20 d3_7 (by decide) (by decide) (fun (hc7_7 : ¬ ((2 : Int32) < (3 : Int32))) => False.elim (absurd hc7_7 (by decide))) (fun (hc7_7 : (2 : Int32) < (3 : Int32)) => ?_)
  show own_F p e below s Z _ _ _ _ _ (T5.setTop (mkF m 10 #[.val (.ref aX), .val (.int (-1 : Int32)), .val (.int 2), .val (.int 3)] []))
  refine own_F.of (fun _ => XS.aloadN S5.here S5.hx rfl (S5.dec d3_10) rfl rfl) ?_
  refine own_F.of (fun _ => XS.iloadN S5.here S5.hx rfl (S5.dec d3_11) rfl) ?_
  refine own_F.of (fun _ => XS.iloadN S5.here S5.hx rfl (S5.dec d3_12) rfl) ?_
  show own_F p e below s Z _ _ _ _ _ (T5.setTop (mkF m 13 #[.val (.ref aX), .val (.int (-1 : Int32)), .val (.int 2), .val (.int 3)] [(.int (-1 : Int32)), (.int 2), (.ref aX)]))
  refine own_ist S5 V6 (by decide) (Nat.le_of_ble_eq_true rfl) d3_13 (Or.inl (List.mem_of_getElem? (i := 0) rfl)) (fun T8 h8 S8 W8 A8 => ?_)
  have V9 : own_A Z h8 aX .int [(.int (-1 : Int32)), (.int (-1 : Int32)), (.int (-1 : Int32))] := A8
  show own_F p e below s Z _ _ _ _ _ (T8.setTop (mkF m 14 #[.val (.ref aX), .val (.int (-1 : Int32)), .val (.int 2), .val (.int 3)] []))
  refine own_F.of (fun _ => XS.iinc S8.here S8.hx rfl (S8.dec d3_14) rfl (l' := #[.val (.ref aX), .val (.int (-1 : Int32)), .val (.int 3), .val (.int 3)]) rfl) ?_
  show own_F p e below s Z _ _ _ _ _ (T8.setTop (mkF m 17 #[.val (.ref aX), .val (.int (-1 : Int32)), .val (.int 3), .val (.int 3)] []))
  refine own_F.of (fun _ => XS.goto S8.here S8.hx rfl (pc0 := 17) (pc' := 5) rfl (S8.dec d3_17) (by decide) (by decide)) ?_
  show own_F p e below s Z _ _ _ _ _ (T8.setTop (mkF m 5 #[.val (.ref aX), .val (.int (-1 : Int32)), .val (.int 3), .val (.int 3)] []))
  refine own_F.of (fun _ => XS.iloadN S8.here S8.hx rfl (S8.dec d3_5) rfl) ?_
  refine own_F.of (fun _ => XS.iloadN S8.here S8.hx rfl (S8.dec d3_6) rfl) ?_
  show own_F p e below s Z _ _ _ _ _ (T8.setTop (mkF m 7 #[.val (.ref aX), .val (.int (-1 : Int32)), .val (.int 3), .val (.int 3)] [(.int 3), (.int 3)]))
  refine own_icmp S8 20 d3_7 (by decide) (by decide) (fun (hc7_10 : ¬ ((3 : Int32) < (3 : Int32))) => ?_) (fun (hc7_10 : (3 : Int32) < (3 : Int32)) => False.elim (absurd hc7_10 (by decide)))
  show own_F p e below s Z _ _ _ _ _ (T8.setTop (mkF m 20 #[.val (.ref aX), .val (.int (-1 : Int32)), .val (.int 3), .val (.int 3)] []))
  refine own_retV S8 d3_20 (by decide) (by decide) ?_
  exact ⟨rfl, V9⟩
theorem d1_0 : decode prog_77_method_1_code 0 = .ok (.aload_n 0, 1) := by decide +kernel
theorem d1_1 : decode prog_77_method_1_code 1 = .ok (.invokespecial 1, 3) := by decide +kernel
theorem d1_4 : decode prog_77_method_1_code 4 = .ok (.aload_n 0, 1) := by decide +kernel
theorem d1_5 : decode prog_77_method_1_code 5 = .ok (.bipush 64, 2) := by decide +kernel
theorem d1_7 : decode prog_77_method_1_code 7 = .ok (.anewarray 9, 3) := by decide +kernel
theorem d1_10 : decode prog_77_method_1_code 10 = .ok (.putfield 11, 3) := by decide +kernel
theorem d1_13 : decode prog_77_method_1_code 13 = .ok (.aload_n 0, 1) := by decide +kernel
theorem d1_14 : decode prog_77_method_1_code 14 = .ok (.bipush 64, 2) := by decide +kernel
theorem d1_16 : decode prog_77_method_1_code 16 = .ok (.newarray .int, 2) := by decide +kernel
theorem d1_18 : decode prog_77_method_1_code 18 = .ok (.putfield 15, 3) := by decide +kernel
theorem d1_21 : decode prog_77_method_1_code 21 = .ok (.aload_n 0, 1) := by decide +kernel
theorem d1_22 : decode prog_77_method_1_code 22 = .ok (.aload_n 1, 1) := by decide +kernel
theorem d1_23 : decode prog_77_method_1_code 23 = .ok (.putfield 18, 3) := by decide +kernel
theorem d1_26 : decode prog_77_method_1_code 26 = .ok (.aload_n 0, 1) := by decide +kernel
theorem d1_27 : decode prog_77_method_1_code 27 = .ok (.aload_n 1, 1) := by decide +kernel
theorem d1_28 : decode prog_77_method_1_code 28 = .ok (.arraylength, 1) := by decide +kernel
theorem d1_29 : decode prog_77_method_1_code 29 = .ok (.newarray .int, 2) := by decide +kernel
theorem d1_31 : decode prog_77_method_1_code 31 = .ok (.putfield 22, 3) := by decide +kernel
theorem d1_34 : decode prog_77_method_1_code 34 = .ok (.aload_n 0, 1) := by decide +kernel
theorem d1_35 : decode prog_77_method_1_code 35 = .ok (.getfield 22, 3) := by decide +kernel
theorem d1_38 : decode prog_77_method_1_code 38 = .ok (.iconst (-1), 1) := by decide +kernel
theorem d1_39 : decode prog_77_method_1_code 39 = .ok (.invokestatic 25, 3) := by decide +kernel
theorem d1_42 : decode prog_77_method_1_code 42 = .ok (.aload_n 0, 1) := by decide +kernel
theorem d1_43 : decode prog_77_method_1_code 43 = .ok (.aload_n 1, 1) := by decide +kernel
theorem d1_44 : decode prog_77_method_1_code 44 = .ok (.arraylength, 1) := by decide +kernel
theorem d1_45 : decode prog_77_method_1_code 45 = .ok (.newarray .int, 2) := by decide +kernel
theorem d1_47 : decode prog_77_method_1_code 47 = .ok (.putfield 31, 3) := by decide +kernel
theorem d1_50 : decode prog_77_method_1_code 50 = .ok (.return_, 1) := by decide +kernel
theorem pn1 : plainFor (⟨"com/example/slackweave/slackweave/paths/RadixHeap", "<init>", "([J)V"⟩ : MethodName) = true := plainFor_of_name (by first | (simp [plainName, overriddenIn]; done) | decide +kernel)
set_option maxRecDepth 65536 in
set_option maxHeartbeats 40000000 in
theorem own_init (l : Launch) (Z : State) (a0 : Array Value) (hw : ∀ d ∈ tables_1, d.before a0 Z = true) (a1 aK : Addr) (y0 y1 y2 : Int64) (h0 : Heap) (hO : Ext Z.heap h0) (ga : Z.heap.size ≤ a1) (E_a1 : Exa Z h0 a1 "com/example/slackweave/slackweave/paths/RadixHeap") (F_buckets : Fld Z h0 a1 "com/example/slackweave/slackweave/paths/RadixHeap" "buckets" "[[I" .null) (F_sizes : Fld Z h0 a1 "com/example/slackweave/slackweave/paths/RadixHeap" "sizes" "[I" .null) (F_keys : Fld Z h0 a1 "com/example/slackweave/slackweave/paths/RadixHeap" "keys" "[J" .null) (F_bucketOf : Fld Z h0 a1 "com/example/slackweave/slackweave/paths/RadixHeap" "bucketOf" "[I" .null) (F_positions : Fld Z h0 a1 "com/example/slackweave/slackweave/paths/RadixHeap" "positions" "[I" .null) (F_last : Fld Z h0 a1 "com/example/slackweave/slackweave/paths/RadixHeap" "last" "J" (.long (0 : Int64))) (F_count : Fld Z h0 a1 "com/example/slackweave/slackweave/paths/RadixHeap" "count" "I" (.int (0 : Int32))) (AK : own_A Z h0 aK .long [(.long y0), (.long y1), (.long y2)]) :
    own_C l Z (⟨"com/example/slackweave/slackweave/paths/RadixHeap", "<init>", "([J)V"⟩ : MethodName) prog_77_method_1_code 2 none [] ({ frames := 1, cells := 4, slots := 134, locals := 15 } : Room) [a1] #[(.ref a1), (.ref aK)] h0 (fun v h => v = none ∧ ∃ aB aS aO aP : Addr, (h0.size ≤ aB ∧ h0.size ≤ aS ∧ h0.size ≤ aO ∧ h0.size ≤ aP) ∧ (aS ≠ aO ∧ aS ≠ aP ∧ aO ≠ aP) ∧ Fld Z h a1 "com/example/slackweave/slackweave/paths/RadixHeap" "buckets" "[[I" (.ref aB) ∧ Fld Z h a1 "com/example/slackweave/slackweave/paths/RadixHeap" "sizes" "[I" (.ref aS) ∧ Fld Z h a1 "com/example/slackweave/slackweave/paths/RadixHeap" "keys" "[J" (.ref aK) ∧ Fld Z h a1 "com/example/slackweave/slackweave/paths/RadixHeap" "bucketOf" "[I" (.ref aO) ∧ Fld Z h a1 "com/example/slackweave/slackweave/paths/RadixHeap" "positions" "[I" (.ref aP) ∧ Fld Z h a1 "com/example/slackweave/slackweave/paths/RadixHeap" "last" "J" (.long (0 : Int64)) ∧ Fld Z h a1 "com/example/slackweave/slackweave/paths/RadixHeap" "count" "I" (.int (0 : Int32)) ∧ own_RA Z h aB (List.replicate 64 .null) ∧ own_A Z h aS .int (own_szL fun _ => none) ∧ own_A Z h aK .long [(.long y0), (.long y1), (.long y2)] ∧ own_A Z h aO .int [(.int (-1 : Int32)), (.int (-1 : Int32)), (.int (-1 : Int32))] ∧ own_A Z h aP .int [(.int (0 : Int32)), (.int (0 : Int32)), (.int (0 : Int32))]) := by
  refine own_C.of pn1 hO (allS ga all0) ?_
  intro p e s m below meth c T0 S0
  refine own_F.cast (by first | (simp [entryFrame, mkF, argsToLocals, Value.category]; done) | rfl : entryFrame m #[(.ref a1), (.ref aK)] 2 = mkF m 0 #[.val (.ref a1), .val (.ref aK)] []) ?_
  have n1K := own_neA E_a1 (own_w hw 3 rfl) AK
  show own_F p e below s Z _ _ _ _ _ (T0.setTop (mkF m 0 #[.val (.ref a1), .val (.ref aK)] []))
  refine own_F.of (fun _ => XS.aloadN S0.here S0.hx rfl (S0.dec d1_0) rfl rfl) ?_
  show own_F p e below s Z _ _ _ _ _ (T0.setTop (mkF m 1 #[.val (.ref a1), .val (.ref aK)] [(.ref a1)]))
  refine own_initO S0 (own_w hw 8 rfl) (own_w hw 9 rfl) (own_w hw 10 rfl) rfl d1_1 (by decide) (Nat.le_of_ble_eq_true rfl) (fun T1 S1 => ?_)
  show own_F p e below s Z _ _ _ _ _ (T1.setTop (mkF m 4 #[.val (.ref a1), .val (.ref aK)] []))
  refine own_F.of (fun _ => XS.aloadN S1.here S1.hx rfl (S1.dec d1_4) rfl rfl) ?_
  refine own_F.of (fun _ => XS.bipush S1.here S1.hx rfl (S1.dec d1_5)) ?_
  show own_F p e below s Z _ _ _ _ _ (T1.setTop (mkF m 7 #[.val (.ref a1), .val (.ref aK)] [(.int 64), (.ref a1)]))
  refine own_anewI S1 (own_w hw 11 rfl) (own_w hw 12 rfl) d1_7 (by decide) (cap := 64) (by decide) (by decide) (by decide) (by decide) (fun T2 h2 b2 g2 S2 E2 A2 => ?_)
  show own_F p e below s Z _ _ _ _ _ (T2.setTop (mkF m 10 #[.val (.ref a1), .val (.ref aK)] [(.ref b2), (.ref a1)]))
  have fq3 := (F_buckets.ext E2)
  have fq4 := (E_a1.ext E2)
  refine own_putF S2 (host := "") (Or.inl (own_w hw 13 rfl)) Via.refl fq3 fq4 (Or.inr ⟨(own_w hw 14 rfl), rfl, rfl⟩) (own_w hw 3 rfl) (ty := (.array (.array .int))) (by decide) rfl rfl d1_10 (Or.inl (List.mem_of_getElem? (i := 0) rfl)) (fun T5 h5 S5 W5 => ?_)
  have Fw5 := fq3.same W5
  show own_F p e below s Z _ _ _ _ _ (T5.setTop (mkF m 13 #[.val (.ref a1), .val (.ref aK)] []))
  refine own_F.of (fun _ => XS.aloadN S5.here S5.hx rfl (S5.dec d1_13) rfl rfl) ?_
  refine own_F.of (fun _ => XS.bipush S5.here S5.hx rfl (S5.dec d1_14)) ?_
  show own_F p e below s Z _ _ _ _ _ (T5.setTop (mkF m 16 #[.val (.ref a1), .val (.ref aK)] [(.int 64), (.ref a1)]))
  refine own_newP S5 (own_w hw 15 rfl) d1_16 (by decide) (cap := 64) (by decide) (by decide) (by decide) (by decide) (fun T6 h6 b6 g6 S6 E6 A6 => ?_)
  have V7 : own_A Z h6 b6 .int [(.int (0 : Int32)), (.int (0 : Int32)), (.int (0 : Int32)), (.int (0 : Int32)), (.int (0 : Int32)), (.int (0 : Int32)), (.int (0 : Int32)), (.int (0 : Int32)), (.int (0 : Int32)), (.int (0 : Int32)), (.int (0 : Int32)), (.int (0 : Int32)), (.int (0 : Int32)), (.int (0 : Int32)), (.int (0 : Int32)), (.int (0 : Int32)), (.int (0 : Int32)), (.int (0 : Int32)), (.int (0 : Int32)), (.int (0 : Int32)), (.int (0 : Int32)), (.int (0 : Int32)), (.int (0 : Int32)), (.int (0 : Int32)), (.int (0 : Int32)), (.int (0 : Int32)), (.int (0 : Int32)), (.int (0 : Int32)), (.int (0 : Int32)), (.int (0 : Int32)), (.int (0 : Int32)), (.int (0 : Int32)), (.int (0 : Int32)), (.int (0 : Int32)), (.int (0 : Int32)), (.int (0 : Int32)), (.int (0 : Int32)), (.int (0 : Int32)), (.int (0 : Int32)), (.int (0 : Int32)), (.int (0 : Int32)), (.int (0 : Int32)), (.int (0 : Int32)), (.int (0 : Int32)), (.int (0 : Int32)), (.int (0 : Int32)), (.int (0 : Int32)), (.int (0 : Int32)), (.int (0 : Int32)), (.int (0 : Int32)), (.int (0 : Int32)), (.int (0 : Int32)), (.int (0 : Int32)), (.int (0 : Int32)), (.int (0 : Int32)), (.int (0 : Int32)), (.int (0 : Int32)), (.int (0 : Int32)), (.int (0 : Int32)), (.int (0 : Int32)), (.int (0 : Int32)), (.int (0 : Int32)), (.int (0 : Int32)), (.int (0 : Int32))] := A6
  show own_F p e below s Z _ _ _ _ _ (T6.setTop (mkF m 18 #[.val (.ref a1), .val (.ref aK)] [(.ref b6), (.ref a1)]))
  have fq8 := (((F_sizes.ext E2).other W5 (Or.inr (slot_ne (C := "com/example/slackweave/slackweave/paths/RadixHeap") (Or.inr (own_w hw 17 rfl)) (Or.inr (own_w hw 14 rfl)) (by decide) (t := (.array .int)) (t' := (.array (.array .int))) (by decide) (by decide)))).ext E6)
  have fq9 := ((fq4.wr W5).ext E6)
  refine own_putF S6 (host := "") (Or.inl (own_w hw 16 rfl)) Via.refl fq8 fq9 (Or.inr ⟨(own_w hw 17 rfl), rfl, rfl⟩) (own_w hw 3 rfl) (ty := (.array .int)) (by decide) rfl rfl d1_18 (Or.inl (List.mem_of_getElem? (i := 0) rfl)) (fun T10 h10 S10 W10 => ?_)
  have Fw10 := fq8.same W10
  show own_F p e below s Z _ _ _ _ _ (T10.setTop (mkF m 21 #[.val (.ref a1), .val (.ref aK)] []))
  refine own_F.of (fun _ => XS.aloadN S10.here S10.hx rfl (S10.dec d1_21) rfl rfl) ?_
  refine own_F.of (fun _ => XS.aloadN S10.here S10.hx rfl (S10.dec d1_22) rfl rfl) ?_
  show own_F p e below s Z _ _ _ _ _ (T10.setTop (mkF m 23 #[.val (.ref a1), .val (.ref aK)] [(.ref aK), (.ref a1)]))
  have fq11 := ((((F_keys.ext E2).other W5 (Or.inr (slot_ne (C := "com/example/slackweave/slackweave/paths/RadixHeap") (Or.inr (own_w hw 19 rfl)) (Or.inr (own_w hw 14 rfl)) (by decide) (t := (.array .long)) (t' := (.array (.array .int))) (by decide) (by decide)))).ext E6).other W10 (Or.inr (slot_ne (C := "com/example/slackweave/slackweave/paths/RadixHeap") (Or.inr (own_w hw 19 rfl)) (Or.inr (own_w hw 17 rfl)) (by decide) (t := (.array .long)) (t' := (.array .int)) (by decide) (by decide))))
  have fq12 := (fq9.wr W10)
  refine own_putF S10 (host := "") (Or.inl (own_w hw 18 rfl)) Via.refl fq11 fq12 (Or.inr ⟨(own_w hw 19 rfl), rfl, rfl⟩) (own_w hw 3 rfl) (ty := (.array .long)) (by decide) rfl rfl d1_23 (Or.inl (List.mem_of_getElem? (i := 0) rfl)) (fun T13 h13 S13 W13 => ?_)
  have Fw13 := fq11.same W13
  show own_F p e below s Z _ _ _ _ _ (T13.setTop (mkF m 26 #[.val (.ref a1), .val (.ref aK)] []))
  refine own_F.of (fun _ => XS.aloadN S13.here S13.hx rfl (S13.dec d1_26) rfl rfl) ?_
  refine own_F.of (fun _ => XS.aloadN S13.here S13.hx rfl (S13.dec d1_27) rfl rfl) ?_
  show own_F p e below s Z _ _ _ _ _ (T13.setTop (mkF m 28 #[.val (.ref a1), .val (.ref aK)] [(.ref aK), (.ref a1)]))
  have fq14 := (((((AK.ext E2).other W5 (Ne.symm n1K)).ext E6).other W10 (Ne.symm n1K)).other W13 (Ne.symm n1K))
  refine own_len S13 fq14 d1_28 ?_
  show own_F p e below s Z _ _ _ _ _ (T13.setTop (mkF m 29 #[.val (.ref a1), .val (.ref aK)] [(.int 3), (.ref a1)]))
  refine own_newP S13 (own_w hw 15 rfl) d1_29 (by decide) (cap := 3) (by decide) (by decide) (by decide) (by decide) (fun T15 h15 b15 g15 S15 E15 A15 => ?_)
  have V16 : own_A Z h15 b15 .int [(.int (0 : Int32)), (.int (0 : Int32)), (.int (0 : Int32))] := A15
  show own_F p e below s Z _ _ _ _ _ (T15.setTop (mkF m 31 #[.val (.ref a1), .val (.ref aK)] [(.ref b15), (.ref a1)]))
  have fq17 := ((((((F_bucketOf.ext E2).other W5 (Or.inr (slot_ne (C := "com/example/slackweave/slackweave/paths/RadixHeap") (Or.inr (own_w hw 21 rfl)) (Or.inr (own_w hw 14 rfl)) (by decide) (t := (.array .int)) (t' := (.array (.array .int))) (by decide) (by decide)))).ext E6).other W10 (Or.inr (slot_ne (C := "com/example/slackweave/slackweave/paths/RadixHeap") (Or.inr (own_w hw 21 rfl)) (Or.inr (own_w hw 17 rfl)) (by decide) (t := (.array .int)) (t' := (.array .int)) (by decide) (by decide)))).other W13 (Or.inr (slot_ne (C := "com/example/slackweave/slackweave/paths/RadixHeap") (Or.inr (own_w hw 21 rfl)) (Or.inr (own_w hw 19 rfl)) (by decide) (t := (.array .int)) (t' := (.array .long)) (by decide) (by decide)))).ext E15)
  have fq18 := ((fq12.wr W13).ext E15)
  refine own_putF S15 (host := "") (Or.inl (own_w hw 20 rfl)) Via.refl fq17 fq18 (Or.inr ⟨(own_w hw 21 rfl), rfl, rfl⟩) (own_w hw 3 rfl) (ty := (.array .int)) (by decide) rfl rfl d1_31 (Or.inl (List.mem_of_getElem? (i := 0) rfl)) (fun T19 h19 S19 W19 => ?_)
  have Fw19 := fq17.same W19
  show own_F p e below s Z _ _ _ _ _ (T19.setTop (mkF m 34 #[.val (.ref a1), .val (.ref aK)] []))
  refine own_F.of (fun _ => XS.aloadN S19.here S19.hx rfl (S19.dec d1_34) rfl rfl) ?_
  show own_F p e below s Z _ _ _ _ _ (T19.setTop (mkF m 35 #[.val (.ref a1), .val (.ref aK)] [(.ref a1)]))
  refine own_getF S19 (host := "") (Or.inl (own_w hw 20 rfl)) Via.refl Fw19 d1_35 (fun T20 S20 => ?_)
  show own_F p e below s Z _ _ _ _ _ (T20.setTop (mkF m 38 #[.val (.ref a1), .val (.ref aK)] [(.ref b15)]))
  refine own_F.of (fun _ => XS.iconst S20.here S20.hx rfl (S20.dec d1_38)) ?_
  show own_F p e below s Z _ _ _ _ _ (T20.setTop (mkF m 39 #[.val (.ref a1), .val (.ref aK)] [(.int (-1 : Int32)), (.ref b15)]))
  have fq21 := (V16.other W19 (Ne.symm (Nat.ne_of_lt (by rw [g15]; exact ((((Fw5.ext E6).other W10 (Or.inr (slot_ne (C := "com/example/slackweave/slackweave/paths/RadixHeap") (Or.inr (own_w hw 14 rfl)) (Or.inr (own_w hw 17 rfl)) (by decide) (t := (.array (.array .int))) (t' := (.array .int)) (by decide) (by decide)))).other W13 (Or.inr (slot_ne (C := "com/example/slackweave/slackweave/paths/RadixHeap") (Or.inr (own_w hw 14 rfl)) (Or.inr (own_w hw 19 rfl)) (by decide) (t := (.array (.array .int))) (t' := (.array .long)) (by decide) (by decide))))).lt))))
  refine own_callS S20 (y := (⟨"java/util/Arrays", "fill", "([II)V"⟩ : MethodName)) (own_w hw 22 rfl) (own_w hw 23 rfl) (own_w hw 24 rfl) (own_w hw 25 rfl) (by decide) (argsL := [(.ref b15), (.int (-1 : Int32))]) (rest := []) (own_fill l Z a0 hw b15 h19 S20.old (own_mayN S20 (Or.inr (by rw [g15]; exact S13.size))) fq21) (allS (Or.inr (by rw [g15]; exact S13.size)) all0) (by decide +kernel : parseMethodDescriptor "([II)V" = some ⟨[(.array .int), .int], none⟩) rfl rfl rfl d1_39 (by decide) (Nat.le_of_ble_eq_true rfl) (by decide) (by decide) (fun T22 h22 v22 S22 K22 q22 => ?_)
  obtain ⟨rfl, F22⟩ := q22
  have V23 : own_A Z h22 b15 .int [(.int (-1 : Int32)), (.int (-1 : Int32)), (.int (-1 : Int32))] := F22
  show own_F p e below s Z _ _ _ _ _ (T22.setTop (mkF m 42 #[.val (.ref a1), .val (.ref aK)] []))
  refine own_F.of (fun _ => XS.aloadN S22.here S22.hx rfl (S22.dec d1_42) rfl rfl) ?_
  refine own_F.of (fun _ => XS.aloadN S22.here S22.hx rfl (S22.dec d1_43) rfl rfl) ?_
  show own_F p e below s Z _ _ _ _ _ (T22.setTop (mkF m 44 #[.val (.ref a1), .val (.ref aK)] [(.ref aK), (.ref a1)]))
  have fq24 := (((fq14.ext E15).other W19 (Ne.symm n1K)).keep K22 (ninS (Nat.ne_of_lt (by rw [g15]; exact (fq14).lt)) nin0))
  refine own_len S22 fq24 d1_44 ?_
  show own_F p e below s Z _ _ _ _ _ (T22.setTop (mkF m 45 #[.val (.ref a1), .val (.ref aK)] [(.int 3), (.ref a1)]))
  refine own_newP S22 (own_w hw 15 rfl) d1_45 (by decide) (cap := 3) (by decide) (by decide) (by decide) (by decide) (fun T25 h25 b25 g25 S25 E25 A25 => ?_)
  have V26 : own_A Z h25 b25 .int [(.int (0 : Int32)), (.int (0 : Int32)), (.int (0 : Int32))] := A25
  show own_F p e below s Z _ _ _ _ _ (T25.setTop (mkF m 47 #[.val (.ref a1), .val (.ref aK)] [(.ref b25), (.ref a1)]))
  have fq27 := (((((((((F_positions.ext E2).other W5 (Or.inr (slot_ne (C := "com/example/slackweave/slackweave/paths/RadixHeap") (Or.inr (own_w hw 27 rfl)) (Or.inr (own_w hw 14 rfl)) (by decide) (t := (.array .int)) (t' := (.array (.array .int))) (by decide) (by decide)))).ext E6).other W10 (Or.inr (slot_ne (C := "com/example/slackweave/slackweave/paths/RadixHeap") (Or.inr (own_w hw 27 rfl)) (Or.inr (own_w hw 17 rfl)) (by decide) (t := (.array .int)) (t' := (.array .int)) (by decide) (by decide)))).other W13 (Or.inr (slot_ne (C := "com/example/slackweave/slackweave/paths/RadixHeap") (Or.inr (own_w hw 27 rfl)) (Or.inr (own_w hw 19 rfl)) (by decide) (t := (.array .int)) (t' := (.array .long)) (by decide) (by decide)))).ext E15).other W19 (Or.inr (slot_ne (C := "com/example/slackweave/slackweave/paths/RadixHeap") (Or.inr (own_w hw 27 rfl)) (Or.inr (own_w hw 21 rfl)) (by decide) (t := (.array .int)) (t' := (.array .int)) (by decide) (by decide)))).keep K22 (ninS (Nat.ne_of_lt (by rw [g15]; exact ((((Fw5.ext E6).other W10 (Or.inr (slot_ne (C := "com/example/slackweave/slackweave/paths/RadixHeap") (Or.inr (own_w hw 14 rfl)) (Or.inr (own_w hw 17 rfl)) (by decide) (t := (.array (.array .int))) (t' := (.array .int)) (by decide) (by decide)))).other W13 (Or.inr (slot_ne (C := "com/example/slackweave/slackweave/paths/RadixHeap") (Or.inr (own_w hw 14 rfl)) (Or.inr (own_w hw 19 rfl)) (by decide) (t := (.array (.array .int))) (t' := (.array .long)) (by decide) (by decide))))).lt)) nin0)).ext E25)
  have fq28 := (((fq18.wr W19).keep K22).ext E25)
  refine own_putF S25 (host := "") (Or.inl (own_w hw 26 rfl)) Via.refl fq27 fq28 (Or.inr ⟨(own_w hw 27 rfl), rfl, rfl⟩) (own_w hw 3 rfl) (ty := (.array .int)) (by decide) rfl rfl d1_47 (Or.inl (List.mem_of_getElem? (i := 0) rfl)) (fun T29 h29 S29 W29 => ?_)
  have Fw29 := fq27.same W29
  show own_F p e below s Z _ _ _ _ _ (T29.setTop (mkF m 50 #[.val (.ref a1), .val (.ref aK)] []))
  have fq30 := ((((((((Fw5.ext E6).other W10 (Or.inr (slot_ne (C := "com/example/slackweave/slackweave/paths/RadixHeap") (Or.inr (own_w hw 14 rfl)) (Or.inr (own_w hw 17 rfl)) (by decide) (t := (.array (.array .int))) (t' := (.array .int)) (by decide) (by decide)))).other W13 (Or.inr (slot_ne (C := "com/example/slackweave/slackweave/paths/RadixHeap") (Or.inr (own_w hw 14 rfl)) (Or.inr (own_w hw 19 rfl)) (by decide) (t := (.array (.array .int))) (t' := (.array .long)) (by decide) (by decide)))).ext E15).other W19 (Or.inr (slot_ne (C := "com/example/slackweave/slackweave/paths/RadixHeap") (Or.inr (own_w hw 14 rfl)) (Or.inr (own_w hw 21 rfl)) (by decide) (t := (.array (.array .int))) (t' := (.array .int)) (by decide) (by decide)))).keep K22 (ninS (Nat.ne_of_lt (by rw [g15]; exact ((((Fw5.ext E6).other W10 (Or.inr (slot_ne (C := "com/example/slackweave/slackweave/paths/RadixHeap") (Or.inr (own_w hw 14 rfl)) (Or.inr (own_w hw 17 rfl)) (by decide) (t := (.array (.array .int))) (t' := (.array .int)) (by decide) (by decide)))).other W13 (Or.inr (slot_ne (C := "com/example/slackweave/slackweave/paths/RadixHeap") (Or.inr (own_w hw 14 rfl)) (Or.inr (own_w hw 19 rfl)) (by decide) (t := (.array (.array .int))) (t' := (.array .long)) (by decide) (by decide))))).lt)) nin0)).ext E25).other W29 (Or.inr (slot_ne (C := "com/example/slackweave/slackweave/paths/RadixHeap") (Or.inr (own_w hw 14 rfl)) (Or.inr (own_w hw 27 rfl)) (by decide) (t := (.array (.array .int))) (t' := (.array .int)) (by decide) (by decide))))
  have fq31 := ((((((Fw10.other W13 (Or.inr (slot_ne (C := "com/example/slackweave/slackweave/paths/RadixHeap") (Or.inr (own_w hw 17 rfl)) (Or.inr (own_w hw 19 rfl)) (by decide) (t := (.array .int)) (t' := (.array .long)) (by decide) (by decide)))).ext E15).other W19 (Or.inr (slot_ne (C := "com/example/slackweave/slackweave/paths/RadixHeap") (Or.inr (own_w hw 17 rfl)) (Or.inr (own_w hw 21 rfl)) (by decide) (t := (.array .int)) (t' := (.array .int)) (by decide) (by decide)))).keep K22 (ninS (Nat.ne_of_lt (by rw [g15]; exact ((Fw10.other W13 (Or.inr (slot_ne (C := "com/example/slackweave/slackweave/paths/RadixHeap") (Or.inr (own_w hw 17 rfl)) (Or.inr (own_w hw 19 rfl)) (by decide) (t := (.array .int)) (t' := (.array .long)) (by decide) (by decide))))).lt)) nin0)).ext E25).other W29 (Or.inr (slot_ne (C := "com/example/slackweave/slackweave/paths/RadixHeap") (Or.inr (own_w hw 17 rfl)) (Or.inr (own_w hw 27 rfl)) (by decide) (t := (.array .int)) (t' := (.array .int)) (by decide) (by decide))))
  have fq32 := (((((Fw13.ext E15).other W19 (Or.inr (slot_ne (C := "com/example/slackweave/slackweave/paths/RadixHeap") (Or.inr (own_w hw 19 rfl)) (Or.inr (own_w hw 21 rfl)) (by decide) (t := (.array .long)) (t' := (.array .int)) (by decide) (by decide)))).keep K22 (ninS (Nat.ne_of_lt (by rw [g15]; exact (Fw13).lt)) nin0)).ext E25).other W29 (Or.inr (slot_ne (C := "com/example/slackweave/slackweave/paths/RadixHeap") (Or.inr (own_w hw 19 rfl)) (Or.inr (own_w hw 27 rfl)) (by decide) (t := (.array .long)) (t' := (.array .int)) (by decide) (by decide))))
  have fq33 := (((Fw19.keep K22 (ninS (Nat.ne_of_lt (by rw [g15]; exact ((((((F_last.ext E2).other W5 (Or.inr (slot_ne (C := "com/example/slackweave/slackweave/paths/RadixHeap") (Or.inl (own_w hw 50 rfl)) (Or.inr (own_w hw 14 rfl)) (by decide) (t := .long) (t' := (.array (.array .int))) (by decide) (by decide)))).ext E6).other W10 (Or.inr (slot_ne (C := "com/example/slackweave/slackweave/paths/RadixHeap") (Or.inl (own_w hw 50 rfl)) (Or.inr (own_w hw 17 rfl)) (by decide) (t := .long) (t' := (.array .int)) (by decide) (by decide)))).other W13 (Or.inr (slot_ne (C := "com/example/slackweave/slackweave/paths/RadixHeap") (Or.inl (own_w hw 50 rfl)) (Or.inr (own_w hw 19 rfl)) (by decide) (t := .long) (t' := (.array .long)) (by decide) (by decide))))).lt)) nin0)).ext E25).other W29 (Or.inr (slot_ne (C := "com/example/slackweave/slackweave/paths/RadixHeap") (Or.inr (own_w hw 21 rfl)) (Or.inr (own_w hw 27 rfl)) (by decide) (t := (.array .int)) (t' := (.array .int)) (by decide) (by decide))))
  have fq34 := ((((((((((F_last.ext E2).other W5 (Or.inr (slot_ne (C := "com/example/slackweave/slackweave/paths/RadixHeap") (Or.inl (own_w hw 50 rfl)) (Or.inr (own_w hw 14 rfl)) (by decide) (t := .long) (t' := (.array (.array .int))) (by decide) (by decide)))).ext E6).other W10 (Or.inr (slot_ne (C := "com/example/slackweave/slackweave/paths/RadixHeap") (Or.inl (own_w hw 50 rfl)) (Or.inr (own_w hw 17 rfl)) (by decide) (t := .long) (t' := (.array .int)) (by decide) (by decide)))).other W13 (Or.inr (slot_ne (C := "com/example/slackweave/slackweave/paths/RadixHeap") (Or.inl (own_w hw 50 rfl)) (Or.inr (own_w hw 19 rfl)) (by decide) (t := .long) (t' := (.array .long)) (by decide) (by decide)))).ext E15).other W19 (Or.inr (slot_ne (C := "com/example/slackweave/slackweave/paths/RadixHeap") (Or.inl (own_w hw 50 rfl)) (Or.inr (own_w hw 21 rfl)) (by decide) (t := .long) (t' := (.array .int)) (by decide) (by decide)))).keep K22 (ninS (Nat.ne_of_lt (by rw [g15]; exact ((((((F_last.ext E2).other W5 (Or.inr (slot_ne (C := "com/example/slackweave/slackweave/paths/RadixHeap") (Or.inl (own_w hw 50 rfl)) (Or.inr (own_w hw 14 rfl)) (by decide) (t := .long) (t' := (.array (.array .int))) (by decide) (by decide)))).ext E6).other W10 (Or.inr (slot_ne (C := "com/example/slackweave/slackweave/paths/RadixHeap") (Or.inl (own_w hw 50 rfl)) (Or.inr (own_w hw 17 rfl)) (by decide) (t := .long) (t' := (.array .int)) (by decide) (by decide)))).other W13 (Or.inr (slot_ne (C := "com/example/slackweave/slackweave/paths/RadixHeap") (Or.inl (own_w hw 50 rfl)) (Or.inr (own_w hw 19 rfl)) (by decide) (t := .long) (t' := (.array .long)) (by decide) (by decide))))).lt)) nin0)).ext E25).other W29 (Or.inr (slot_ne (C := "com/example/slackweave/slackweave/paths/RadixHeap") (Or.inl (own_w hw 50 rfl)) (Or.inr (own_w hw 27 rfl)) (by decide) (t := .long) (t' := (.array .int)) (by decide) (by decide))))
  have fq35 := ((((((((((F_count.ext E2).other W5 (Or.inr (slot_ne (C := "com/example/slackweave/slackweave/paths/RadixHeap") (Or.inl (own_w hw 35 rfl)) (Or.inr (own_w hw 14 rfl)) (by decide) (t := .int) (t' := (.array (.array .int))) (by decide) (by decide)))).ext E6).other W10 (Or.inr (slot_ne (C := "com/example/slackweave/slackweave/paths/RadixHeap") (Or.inl (own_w hw 35 rfl)) (Or.inr (own_w hw 17 rfl)) (by decide) (t := .int) (t' := (.array .int)) (by decide) (by decide)))).other W13 (Or.inr (slot_ne (C := "com/example/slackweave/slackweave/paths/RadixHeap") (Or.inl (own_w hw 35 rfl)) (Or.inr (own_w hw 19 rfl)) (by decide) (t := .int) (t' := (.array .long)) (by decide) (by decide)))).ext E15).other W19 (Or.inr (slot_ne (C := "com/example/slackweave/slackweave/paths/RadixHeap") (Or.inl (own_w hw 35 rfl)) (Or.inr (own_w hw 21 rfl)) (by decide) (t := .int) (t' := (.array .int)) (by decide) (by decide)))).keep K22 (ninS (Nat.ne_of_lt (by rw [g15]; exact ((((((F_count.ext E2).other W5 (Or.inr (slot_ne (C := "com/example/slackweave/slackweave/paths/RadixHeap") (Or.inl (own_w hw 35 rfl)) (Or.inr (own_w hw 14 rfl)) (by decide) (t := .int) (t' := (.array (.array .int))) (by decide) (by decide)))).ext E6).other W10 (Or.inr (slot_ne (C := "com/example/slackweave/slackweave/paths/RadixHeap") (Or.inl (own_w hw 35 rfl)) (Or.inr (own_w hw 17 rfl)) (by decide) (t := .int) (t' := (.array .int)) (by decide) (by decide)))).other W13 (Or.inr (slot_ne (C := "com/example/slackweave/slackweave/paths/RadixHeap") (Or.inl (own_w hw 35 rfl)) (Or.inr (own_w hw 19 rfl)) (by decide) (t := .int) (t' := (.array .long)) (by decide) (by decide))))).lt)) nin0)).ext E25).other W29 (Or.inr (slot_ne (C := "com/example/slackweave/slackweave/paths/RadixHeap") (Or.inl (own_w hw 35 rfl)) (Or.inr (own_w hw 27 rfl)) (by decide) (t := .int) (t' := (.array .int)) (by decide) (by decide))))
  have fq36 := (((((((((A2.other W5 (Ne.symm (Nat.ne_of_lt (by rw [g2]; exact (E_a1).lt)))).ext E6).other W10 (Ne.symm (Nat.ne_of_lt (by rw [g2]; exact (E_a1).lt)))).other W13 (Ne.symm (Nat.ne_of_lt (by rw [g2]; exact (E_a1).lt)))).ext E15).other W19 (Ne.symm (Nat.ne_of_lt (by rw [g2]; exact (E_a1).lt)))).keep K22 (ninS (Nat.ne_of_lt (by rw [g15]; exact (((((A2.other W5 (Ne.symm (Nat.ne_of_lt (by rw [g2]; exact (E_a1).lt)))).ext E6).other W10 (Ne.symm (Nat.ne_of_lt (by rw [g2]; exact (E_a1).lt)))).other W13 (Ne.symm (Nat.ne_of_lt (by rw [g2]; exact (E_a1).lt))))).lt)) nin0)).ext E25).other W29 (Ne.symm (Nat.ne_of_lt (by rw [g2]; exact (E_a1).lt))))
  have fq37 := (((((((V7.other W10 (Ne.symm (Nat.ne_of_lt (by rw [g6]; exact (((E_a1.ext E2).wr W5)).lt)))).other W13 (Ne.symm (Nat.ne_of_lt (by rw [g6]; exact (((E_a1.ext E2).wr W5)).lt)))).ext E15).other W19 (Ne.symm (Nat.ne_of_lt (by rw [g6]; exact (((E_a1.ext E2).wr W5)).lt)))).keep K22 (ninS (Nat.ne_of_lt (by rw [g15]; exact (((V7.other W10 (Ne.symm (Nat.ne_of_lt (by rw [g6]; exact (((E_a1.ext E2).wr W5)).lt)))).other W13 (Ne.symm (Nat.ne_of_lt (by rw [g6]; exact (((E_a1.ext E2).wr W5)).lt))))).lt)) nin0)).ext E25).other W29 (Ne.symm (Nat.ne_of_lt (by rw [g6]; exact (((E_a1.ext E2).wr W5)).lt))))
  have fq38 := ((fq24.ext E25).other W29 (Ne.symm n1K))
  have fq39 := ((V23.ext E25).other W29 (Ne.symm (Nat.ne_of_lt (by rw [g15]; exact ((((((E_a1.ext E2).wr W5).ext E6).wr W10).wr W13)).lt))))
  have fq40 := (V26.other W29 (Ne.symm (Nat.ne_of_lt (by rw [g25]; exact (((((((((E_a1.ext E2).wr W5).ext E6).wr W10).wr W13).ext E15).wr W19).keep K22)).lt))))
  refine own_retV S29 d1_50 (by decide) (by decide) ?_
  exact ⟨rfl, b2, b6, b15, b25, ⟨(by rw [g2]; exact S1.size), (by rw [g6]; exact S5.size), (by rw [g15]; exact S13.size), (by rw [g25]; exact S22.size)⟩, ⟨(Nat.ne_of_lt (by rw [g15]; exact (((V7.other W10 (Ne.symm (Nat.ne_of_lt (by rw [g6]; exact (Fw5).lt)))).other W13 (Ne.symm (Nat.ne_of_lt (by rw [g6]; exact (Fw5).lt))))).lt)), (Nat.ne_of_lt (by rw [g25]; exact ((((((V7.other W10 (Ne.symm (Nat.ne_of_lt (by rw [g6]; exact (Fw5).lt)))).other W13 (Ne.symm (Nat.ne_of_lt (by rw [g6]; exact (Fw5).lt)))).ext E15).other W19 (Ne.symm (Nat.ne_of_lt (by rw [g6]; exact (Fw5).lt)))).keep K22 (ninS (Nat.ne_of_lt (by rw [g15]; exact (((V7.other W10 (Ne.symm (Nat.ne_of_lt (by rw [g6]; exact (Fw5).lt)))).other W13 (Ne.symm (Nat.ne_of_lt (by rw [g6]; exact (Fw5).lt))))).lt)) nin0))).lt)), (Nat.ne_of_lt (by rw [g25]; exact (V23).lt))⟩, fq30, fq31, fq32, fq33, Fw29, fq34, fq35, fq36, fq37, fq38, fq39, fq40⟩
theorem d5_0 : decode method_3_code 0 = .ok (.aload_n 1, 1) := by decide +kernel
theorem d5_1 : decode method_3_code 1 = .ok (.iconst 0, 1) := by decide +kernel
theorem d5_2 : decode method_3_code 2 = .ok (.baload, 1) := by decide +kernel
theorem d5_3 : decode method_3_code 3 = .ok (.ifCond .ne 15, 3) := by decide +kernel
theorem d5_6 : decode method_3_code 6 = .ok (.aload_n 1, 1) := by decide +kernel
theorem d5_7 : decode method_3_code 7 = .ok (.iconst 1, 1) := by decide +kernel
theorem d5_8 : decode method_3_code 8 = .ok (.baload, 1) := by decide +kernel
theorem d5_9 : decode method_3_code 9 = .ok (.ifCond .ne 9, 3) := by decide +kernel
theorem d5_12 : decode method_3_code 12 = .ok (.aload_n 1, 1) := by decide +kernel
theorem d5_13 : decode method_3_code 13 = .ok (.iconst 2, 1) := by decide +kernel
theorem d5_14 : decode method_3_code 14 = .ok (.baload, 1) := by decide +kernel
theorem d5_15 : decode method_3_code 15 = .ok (.ifCond .eq 7, 3) := by decide +kernel
theorem d5_18 : decode method_3_code 18 = .ok (.iconst 1, 1) := by decide +kernel
theorem d5_19 : decode method_3_code 19 = .ok (.goto 4, 3) := by decide +kernel
theorem d5_22 : decode method_3_code 22 = .ok (.iconst 0, 1) := by decide +kernel
theorem d5_23 : decode method_3_code 23 = .ok (.istore_n 3, 1) := by decide +kernel
theorem d5_24 : decode method_3_code 24 = .ok (.iload_n 2, 1) := by decide +kernel
theorem d5_25 : decode method_3_code 25 = .ok (.iconst 4, 1) := by decide +kernel
theorem d5_26 : decode method_3_code 26 = .ok (.iand, 1) := by decide +kernel
theorem d5_27 : decode method_3_code 27 = .ok (.ifCond .eq 41, 3) := by decide +kernel
theorem d5_30 : decode method_3_code 30 = .ok (.iload_n 3, 1) := by decide +kernel
theorem d5_31 : decode method_3_code 31 = .ok (.ifCond .eq 37, 3) := by decide +kernel
theorem d5_34 : decode method_3_code 34 = .ok (.aload_n 0, 1) := by decide +kernel
theorem d5_35 : decode method_3_code 35 = .ok (.invokevirtual 26, 3) := by decide +kernel
theorem d5_38 : decode method_3_code 38 = .ok (.istore 4, 2) := by decide +kernel
theorem d5_40 : decode method_3_code 40 = .ok (.iload 4, 2) := by decide +kernel
theorem d5_42 : decode method_3_code 42 = .ok (.ifCond .lt 16, 3) := by decide +kernel
theorem d5_45 : decode method_3_code 45 = .ok (.iload 4, 2) := by decide +kernel
theorem d5_47 : decode method_3_code 47 = .ok (.iconst 2, 1) := by decide +kernel
theorem d5_48 : decode method_3_code 48 = .ok (.if_icmp .gt 10, 3) := by decide +kernel
theorem d5_51 : decode method_3_code 51 = .ok (.aload_n 1, 1) := by decide +kernel
theorem d5_52 : decode method_3_code 52 = .ok (.iload 4, 2) := by decide +kernel
theorem d5_54 : decode method_3_code 54 = .ok (.baload, 1) := by decide +kernel
theorem d5_55 : decode method_3_code 55 = .ok (.ifCond .ne 5, 3) := by decide +kernel
theorem d5_58 : decode method_3_code 58 = .ok (.iconst 0, 1) := by decide +kernel
theorem d5_59 : decode method_3_code 59 = .ok (.ireturn, 1) := by decide +kernel
theorem d5_60 : decode method_3_code 60 = .ok (.aload_n 1, 1) := by decide +kernel
theorem d5_61 : decode method_3_code 61 = .ok (.iload 4, 2) := by decide +kernel
theorem d5_63 : decode method_3_code 63 = .ok (.iconst 0, 1) := by decide +kernel
theorem d5_64 : decode method_3_code 64 = .ok (.bastore, 1) := by decide +kernel
theorem d5_65 : decode method_3_code 65 = .ok (.goto 21, 3) := by decide +kernel
theorem d5_68 : decode method_3_code 68 = .ok (.iload_n 2, 1) := by decide +kernel
theorem d5_69 : decode method_3_code 69 = .ok (.iconst 3, 1) := by decide +kernel
theorem d5_70 : decode method_3_code 70 = .ok (.iand, 1) := by decide +kernel
theorem d5_71 : decode method_3_code 71 = .ok (.iconst 3, 1) := by decide +kernel
theorem d5_72 : decode method_3_code 72 = .ok (.irem, 1) := by decide +kernel
theorem d5_73 : decode method_3_code 73 = .ok (.istore 4, 2) := by decide +kernel
theorem d5_75 : decode method_3_code 75 = .ok (.aload_n 0, 1) := by decide +kernel
theorem d5_76 : decode method_3_code 76 = .ok (.iload 4, 2) := by decide +kernel
theorem d5_78 : decode method_3_code 78 = .ok (.invokevirtual 30, 3) := by decide +kernel
theorem d5_81 : decode method_3_code 81 = .ok (.aload_n 1, 1) := by decide +kernel
theorem d5_82 : decode method_3_code 82 = .ok (.iload 4, 2) := by decide +kernel
theorem d5_84 : decode method_3_code 84 = .ok (.iconst 1, 1) := by decide +kernel
theorem d5_85 : decode method_3_code 85 = .ok (.bastore, 1) := by decide +kernel
theorem d5_86 : decode method_3_code 86 = .ok (.aload_n 1, 1) := by decide +kernel
theorem d5_87 : decode method_3_code 87 = .ok (.iconst 0, 1) := by decide +kernel
theorem d5_88 : decode method_3_code 88 = .ok (.baload, 1) := by decide +kernel
theorem d5_89 : decode method_3_code 89 = .ok (.ifCond .ne 19, 3) := by decide +kernel
theorem d5_92 : decode method_3_code 92 = .ok (.aload_n 1, 1) := by decide +kernel
theorem d5_93 : decode method_3_code 93 = .ok (.iconst 1, 1) := by decide +kernel
theorem d5_94 : decode method_3_code 94 = .ok (.baload, 1) := by decide +kernel
theorem d5_95 : decode method_3_code 95 = .ok (.ifCond .ne 13, 3) := by decide +kernel
theorem d5_98 : decode method_3_code 98 = .ok (.aload_n 1, 1) := by decide +kernel
theorem d5_99 : decode method_3_code 99 = .ok (.iconst 2, 1) := by decide +kernel
theorem d5_100 : decode method_3_code 100 = .ok (.baload, 1) := by decide +kernel
theorem d5_101 : decode method_3_code 101 = .ok (.ifCond .ne 7, 3) := by decide +kernel
theorem d5_104 : decode method_3_code 104 = .ok (.iconst 1, 1) := by decide +kernel
theorem d5_105 : decode method_3_code 105 = .ok (.goto 4, 3) := by decide +kernel
theorem d5_108 : decode method_3_code 108 = .ok (.iconst 0, 1) := by decide +kernel
theorem d5_109 : decode method_3_code 109 = .ok (.istore 4, 2) := by decide +kernel
theorem d5_111 : decode method_3_code 111 = .ok (.aload_n 0, 1) := by decide +kernel
theorem d5_112 : decode method_3_code 112 = .ok (.invokevirtual 16, 3) := by decide +kernel
theorem d5_115 : decode method_3_code 115 = .ok (.iload 4, 2) := by decide +kernel
theorem d5_117 : decode method_3_code 117 = .ok (.if_icmp .ne 7, 3) := by decide +kernel
theorem d5_120 : decode method_3_code 120 = .ok (.iconst 1, 1) := by decide +kernel
theorem d5_121 : decode method_3_code 121 = .ok (.goto 4, 3) := by decide +kernel
theorem d5_124 : decode method_3_code 124 = .ok (.iconst 0, 1) := by decide +kernel
theorem d5_125 : decode method_3_code 125 = .ok (.ireturn, 1) := by decide +kernel
theorem pn5 : plainFor (⟨"com/example/slackweave/slackweave/paths/RadixHeapIsEmptyPinLaw", "step", "(Lcom/example/slackweave/slackweave/paths/RadixHeap;[ZI)Z"⟩ : MethodName) = true := plainFor_of_name (by first | (simp [plainName, overriddenIn]; done) | decide +kernel)
def own_in : Option Nat → Int32
  | none => 0
  | some _ => 1
def own_ct (b : Nat → Option Nat) : Int32 := own_in (b 0) + own_in (b 1) + own_in (b 2)
theorem own_in_iff {x y : Option Nat} (h : x = none ↔ y = none) : own_in x = own_in y := by
  cases x <;> cases y <;> simp at h <;> rfl
theorem own_opt (x : Option Nat) : x = none ∨ ∃ k, x = some k := by cases x <;> simp
def own_ST (Z : State) (h : Heap) (a1 aB aS aK aO aP aI : Addr) (yf : Nat → Int64) : Prop :=
  ∃ (bk : List Value) (Cf : Nat → List Value) (bf : Nat → Option Nat) (pf : Nat → Nat) (la : Int64), own_RH Z h a1 aB aS aK aO aP aI bk Cf bf la (own_ct bf) (own_enc (bf 0)) (own_enc (bf 1)) (own_enc (bf 2)) (pf 0).toInt32 (pf 1).toInt32 (pf 2).toInt32 (yf 0) (yf 1) (yf 2) (own_in (bf 0)) (own_in (bf 1)) (own_in (bf 2)) ∧ own_AB bf pf bk Cf ∧ ¬ la < 0
theorem own_ST.mk {Z : State} {h : Heap} {a1 aB aS aK aO aP aI : Addr} {bk : List Value} {Cf : Nat → List Value} {bf : Nat → Option Nat} {pf : Nat → Nat} {la : Int64} {ct : Int32} {yf : Nat → Int64} {i0 i1 i2 : Int32} (H : own_RH Z h a1 aB aS aK aO aP aI bk Cf bf la ct (own_enc (bf 0)) (own_enc (bf 1)) (own_enc (bf 2)) (pf 0).toInt32 (pf 1).toInt32 (pf 2).toInt32 (yf 0) (yf 1) (yf 2) i0 i1 i2) (AB : own_AB bf pf bk Cf) (hla : ¬ la < 0) (hc : ct = own_ct bf) (q0 : i0 = own_in (bf 0)) (q1 : i1 = own_in (bf 1)) (q2 : i2 = own_in (bf 2)) : own_ST Z h a1 aB aS aK aO aP aI yf := by
  subst hc q0 q1 q2
  exact ⟨bk, Cf, bf, pf, la, H, AB, hla⟩
theorem own_BK.oI {Z : State} {h h' : Heap} {aS aO aP aI : Addr} {bk us : List Value} {C : Nat → List Value} {sl : Nat} {w : Value} (F : own_BK Z h aS aO aP bk C) (A : own_A Z h aI .boolean us) (Wt : Wr h h' aI sl w) : own_BK Z h' aS aO aP bk C := F.oth Wt fun k r e => (F.2.1 k r e).1.neT A (by decide)
theorem own_and3 (x : Int32) : (x &&& (3 : Int32)) = (0 : Int32) ∨ (x &&& (3 : Int32)) = (1 : Int32) ∨ (x &&& (3 : Int32)) = (2 : Int32) ∨ (x &&& (3 : Int32)) = (3 : Int32) := by
  have h := c_mask x 3 2 (by decide) rfl
  have e : ∀ k : Int32, (x &&& 3).toInt = k.toInt → (x &&& 3) = k := fun k => Int32.toInt_inj.mp
  have h1 : (x &&& 3).toInt = 0 ∨ (x &&& 3).toInt = 1 ∨ (x &&& 3).toInt = 2 ∨ (x &&& 3).toInt = 3 := by
    rw [h]; have := Int.emod_nonneg x.toInt (b := ((2 ^ 2 : Nat) : Int)) (by decide); have := Int.emod_lt_of_pos x.toInt (b := ((2 ^ 2 : Nat) : Int)) (by decide); omega
  rcases h1 with q | q | q | q
  · exact Or.inl (e 0 q)
  · exact Or.inr (Or.inl (e 1 q))
  · exact Or.inr (Or.inr (Or.inl (e 2 q)))
  · exact Or.inr (Or.inr (Or.inr (e 3 q)))
theorem own_m3 (x : Int32) : ((x &&& (3 : Int32)) % (3 : Int32)) = (0 : Int32) ∨ ((x &&& (3 : Int32)) % (3 : Int32)) = (1 : Int32) ∨ ((x &&& (3 : Int32)) % (3 : Int32)) = (2 : Int32) := by
  rcases own_and3 x with q | q | q | q <;> rw [q] <;> decide

theorem own_in01 (x : Option Nat) : own_in x = 0 ∨ own_in x = 1 := by
  cases x
  · exact Or.inl rfl
  · exact Or.inr rfl
theorem own_ctA {b : Nat → Option Nat} {n k : Nat} (hn : n < 3) (e : b n = none) : own_ct b + 1 = own_ct (own_up b n (some k)) := by
  match n, hn, e with
  | 0, _, e =>
    show own_in (b 0) + own_in (b 1) + own_in (b 2) + 1 = own_in (some k) + own_in (b 1) + own_in (b 2)
    rw [e]; rcases own_in01 (b 1) with q | q <;> rcases own_in01 (b 2) with r | r <;> rw [q, r] <;> rfl
  | 1, _, e =>
    show own_in (b 0) + own_in (b 1) + own_in (b 2) + 1 = own_in (b 0) + own_in (some k) + own_in (b 2)
    rw [e]; rcases own_in01 (b 0) with q | q <;> rcases own_in01 (b 2) with r | r <;> rw [q, r] <;> rfl
  | 2, _, e =>
    show own_in (b 0) + own_in (b 1) + own_in (b 2) + 1 = own_in (b 0) + own_in (b 1) + own_in (some k)
    rw [e]; rcases own_in01 (b 0) with q | q <;> rcases own_in01 (b 1) with r | r <;> rw [q, r] <;> rfl
theorem own_ctP {b : Nat → Option Nat} {n k i : Nat} (hn : n < 3) (e : b n = some i) : own_ct b = own_ct (own_up b n (some k)) := by
  match n, hn, e with
  | 0, _, e =>
    show own_in (b 0) + own_in (b 1) + own_in (b 2) = own_in (some k) + own_in (b 1) + own_in (b 2)
    rw [e]; rfl
  | 1, _, e =>
    show own_in (b 0) + own_in (b 1) + own_in (b 2) = own_in (b 0) + own_in (some k) + own_in (b 2)
    rw [e]; rfl
  | 2, _, e =>
    show own_in (b 0) + own_in (b 1) + own_in (b 2) = own_in (b 0) + own_in (b 1) + own_in (some k)
    rw [e]; rfl

set_option maxRecDepth 65536 in
set_option maxHeartbeats 40000000 in
theorem own_step (l : Launch) (Z : State) (a0 : Array Value) (hw : ∀ d ∈ tables_1, d.before a0 Z = true) (a1 aB aS aK aO aP aI : Addr) (yf : Nat → Int64) (sv : Int32) (h0 : Heap) (hO : Ext Z.heap h0) (ST : own_ST Z h0 a1 aB aS aK aO aP aI yf) (hyf : ∀ j, j < 3 → ¬ yf j < 0) :
    own_C l Z (⟨"com/example/slackweave/slackweave/paths/RadixHeapIsEmptyPinLaw", "step", "(Lcom/example/slackweave/slackweave/paths/RadixHeap;[ZI)Z"⟩ : MethodName) method_3_code 5 (some .boolean) [] ({ frames := 5, cells := 3, slots := 48, locals := 117 } : Room) (own_news Z h0) #[(.ref a1), (.ref aI), (.int sv)] h0 (fun v h => v = some (.int 1) ∧ own_ST Z h a1 aB aS aK aO aP aI yf) := by
  refine own_C.of pn5 hO own_news_le ?_
  intro p e s m below meth c T0 S0
  refine own_F.cast (by first | (simp [entryFrame, mkF, argsToLocals, Value.category]; done) | rfl : entryFrame m #[(.ref a1), (.ref aI), (.int sv)] 5 = mkF m 0 #[.val (.ref a1), .val (.ref aI), .val (.int sv), .unset, .unset] []) ?_
  have J86 : ∀ (TJ : State) (hJ : Heap) (cJ sJ : Nat) (SJ : own_S Z h0 (own_news Z h0) (⟨"com/example/slackweave/slackweave/paths/RadixHeapIsEmptyPinLaw", "step", "(Lcom/example/slackweave/slackweave/paths/RadixHeap;[ZI)Z"⟩ : MethodName).cls method_3_code 5 (some .boolean) (⟨"com/example/slackweave/slackweave/paths/RadixHeapIsEmptyPinLaw", "step", "(Lcom/example/slackweave/slackweave/paths/RadixHeap;[ZI)Z"⟩ : MethodName).name p l e ({ frames := 5, cells := 3, slots := 48, locals := 117 } : Room) s m #[.ref a1, .ref aI, .int sv] below meth c TJ hJ cJ sJ) (ST : own_ST Z hJ a1 aB aS aK aO aP aI yf) (v3 v4 : Int32), cJ ≤ 3 → sJ ≤ 48 → own_F p e below s Z h0 (own_news Z h0) ({ frames := 5, cells := 3, slots := 48, locals := 117 } : Room).cells ({ frames := 5, cells := 3, slots := 48, locals := 117 } : Room).slots (fun v h => v = some (.int 1) ∧ own_ST Z h a1 aB aS aK aO aP aI yf) (TJ.setTop (mkF m 86 #[.val (.ref a1), .val (.ref aI), .val (.int sv), .val (.int v3), .val (.int v4)] [])) := by
    intro TJ hJ cJ sJ SJ ST v3 v4 hcJ hsJ
    have SC := ST
    obtain ⟨bk, Cf, bf, pf, la, H, AB, hla⟩ := ST
    rcases own_opt (bf 0) with e0 | ⟨k0, e0⟩ <;> rcases own_opt (bf 1) with e1 | ⟨k1, e1⟩ <;> rcases own_opt (bf 2) with e2 | ⟨k2, e2⟩
    · have g0 : own_in (bf 0) = (0 : Int32) := by rw [e0]; rfl
      have g1 : own_in (bf 1) = (0 : Int32) := by rw [e1]; rfl
      have g2 : own_in (bf 2) = (0 : Int32) := by rw [e2]; rfl
      have gc : own_ct bf = (0 : Int32) := by unfold own_ct; rw [g0, g1, g2]; rfl
      rw [gc, g0, g1, g2] at H
      have HC := H
      obtain ⟨⟨ga, gB, gS, gO, gP, gI⟩, ⟨nSO, nSP, nOP⟩, E_a1, F_buckets, F_sizes, F_keys, F_bucketOf, F_positions, F_last, F_count, RB, AS, AK, AO, AP, AI, BK⟩ := H
      have n1aB := own_neA E_a1 (own_w hw 3 rfl) RB.A
      have naBaS := own_A.neT RB.A AS (by decide)
      have naBaK := own_A.neT RB.A AK (by decide)
      have naBaO := own_A.neT RB.A AO (by decide)
      have naBaP := own_A.neT RB.A AP (by decide)
      have naBaI := own_A.neT RB.A AI (by decide)
      have n1aS := own_neA E_a1 (own_w hw 3 rfl) AS
      have naSaK := own_A.neT AS AK (by decide)
      have naSaI := own_A.neT AS AI (by decide)
      have n1aK := own_neA E_a1 (own_w hw 3 rfl) AK
      have naKaO := own_A.neT AK AO (by decide)
      have naKaP := own_A.neT AK AP (by decide)
      have naKaI := own_A.neT AK AI (by decide)
      have n1aO := own_neA E_a1 (own_w hw 3 rfl) AO
      have naOaI := own_A.neT AO AI (by decide)
      have n1aP := own_neA E_a1 (own_w hw 3 rfl) AP
      have naPaI := own_A.neT AP AI (by decide)
      have n1aI := own_neA E_a1 (own_w hw 3 rfl) AI
      show own_F p e below s Z _ _ _ _ _ (TJ.setTop (mkF m 86 #[.val (.ref a1), .val (.ref aI), .val (.int sv), .val (.int v3), .val (.int v4)] []))
      refine own_F.of (fun _ => XS.aloadN SJ.here SJ.hx rfl (SJ.dec d5_86) rfl rfl) ?_
      refine own_F.of (fun _ => XS.iconst SJ.here SJ.hx rfl (SJ.dec d5_87)) ?_
      show own_F p e below s Z _ _ _ _ _ (TJ.setTop (mkF m 88 #[.val (.ref a1), .val (.ref aI), .val (.int sv), .val (.int v3), .val (.int v4)] [(.int 0), (.ref aI)]))
      refine own_zald SJ AI (by decide) rfl d5_88 ?_
      show own_F p e below s Z _ _ _ _ _ (TJ.setTop (mkF m 89 #[.val (.ref a1), .val (.ref aI), .val (.int sv), .val (.int v3), .val (.int v4)] [(.int 0)]))
      refine own_if SJ 108 d5_89 (by decide) (by decide) (fun (hc89_1 : ¬ ((0 : Int32) = (0 : Int32))) => False.elim (absurd hc89_1 (by decide))) (fun (hc89_1 : (0 : Int32) = (0 : Int32)) => ?_)
      show own_F p e below s Z _ _ _ _ _ (TJ.setTop (mkF m 92 #[.val (.ref a1), .val (.ref aI), .val (.int sv), .val (.int v3), .val (.int v4)] []))
      refine own_F.of (fun _ => XS.aloadN SJ.here SJ.hx rfl (SJ.dec d5_92) rfl rfl) ?_
      refine own_F.of (fun _ => XS.iconst SJ.here SJ.hx rfl (SJ.dec d5_93)) ?_
      show own_F p e below s Z _ _ _ _ _ (TJ.setTop (mkF m 94 #[.val (.ref a1), .val (.ref aI), .val (.int sv), .val (.int v3), .val (.int v4)] [(.int 1), (.ref aI)]))
      refine own_zald SJ AI (by decide) rfl d5_94 ?_
      show own_F p e below s Z _ _ _ _ _ (TJ.setTop (mkF m 95 #[.val (.ref a1), .val (.ref aI), .val (.int sv), .val (.int v3), .val (.int v4)] [(.int 0)]))
      refine own_if SJ 108 d5_95 (by decide) (by decide) (fun (hc95_2 : ¬ ((0 : Int32) = (0 : Int32))) => False.elim (absurd hc95_2 (by decide))) (fun (hc95_2 : (0 : Int32) = (0 : Int32)) => ?_)
      show own_F p e below s Z _ _ _ _ _ (TJ.setTop (mkF m 98 #[.val (.ref a1), .val (.ref aI), .val (.int sv), .val (.int v3), .val (.int v4)] []))
      refine own_F.of (fun _ => XS.aloadN SJ.here SJ.hx rfl (SJ.dec d5_98) rfl rfl) ?_
      refine own_F.of (fun _ => XS.iconst SJ.here SJ.hx rfl (SJ.dec d5_99)) ?_
      show own_F p e below s Z _ _ _ _ _ (TJ.setTop (mkF m 100 #[.val (.ref a1), .val (.ref aI), .val (.int sv), .val (.int v3), .val (.int v4)] [(.int 2), (.ref aI)]))
      refine own_zald SJ AI (by decide) rfl d5_100 ?_
      show own_F p e below s Z _ _ _ _ _ (TJ.setTop (mkF m 101 #[.val (.ref a1), .val (.ref aI), .val (.int sv), .val (.int v3), .val (.int v4)] [(.int 0)]))
      refine own_if SJ 108 d5_101 (by decide) (by decide) (fun (hc101_3 : ¬ ((0 : Int32) = (0 : Int32))) => False.elim (absurd hc101_3 (by decide))) (fun (hc101_3 : (0 : Int32) = (0 : Int32)) => ?_)
      show own_F p e below s Z _ _ _ _ _ (TJ.setTop (mkF m 104 #[.val (.ref a1), .val (.ref aI), .val (.int sv), .val (.int v3), .val (.int v4)] []))
      refine own_F.of (fun _ => XS.iconst SJ.here SJ.hx rfl (SJ.dec d5_104)) ?_
      show own_F p e below s Z _ _ _ _ _ (TJ.setTop (mkF m 105 #[.val (.ref a1), .val (.ref aI), .val (.int sv), .val (.int v3), .val (.int v4)] [(.int 1)]))
      refine own_F.of (fun _ => XS.goto SJ.here SJ.hx rfl (pc0 := 105) (pc' := 109) rfl (SJ.dec d5_105) (by decide) (by decide)) ?_
      show own_F p e below s Z _ _ _ _ _ (TJ.setTop (mkF m 109 #[.val (.ref a1), .val (.ref aI), .val (.int sv), .val (.int v3), .val (.int v4)] [(.int 1)]))
      refine own_F.of (fun _ => XS.istore SJ.here SJ.hx rfl (SJ.dec d5_109) rfl (l' := #[.val (.ref a1), .val (.ref aI), .val (.int sv), .val (.int v3), .val (.int 1)]) rfl) ?_
      refine own_F.of (fun _ => XS.aloadN SJ.here SJ.hx rfl (SJ.dec d5_111) rfl rfl) ?_
      show own_F p e below s Z _ _ _ _ _ (TJ.setTop (mkF m 112 #[.val (.ref a1), .val (.ref aI), .val (.int sv), .val (.int v3), .val (.int 1)] [(.ref a1)]))
      refine own_callV SJ (y := (⟨"com/example/slackweave/slackweave/paths/RadixHeap", "isEmpty", "()Z"⟩ : MethodName)) (y' := (⟨"com/example/slackweave/slackweave/paths/RadixHeap", "isEmpty", "()Z"⟩ : MethodName)) (own_w hw 29 rfl) (own_w hw 30 rfl) (own_nf SJ (own_w hw 32 rfl)) (own_w hw 32 rfl) (own_w hw 31 rfl) (own_w hw 33 rfl) (own_w hw 4 rfl) (by decide) E_a1 (argsL := []) (rest := []) (own_isE l Z a0 hw a1 (0 : Int32) hJ SJ.old F_count) all0 (by decide +kernel : parseMethodDescriptor "()Z" = some ⟨[], some .boolean⟩) rfl rfl rfl d5_112 (by decide) (Nat.le_of_ble_eq_true rfl) hcJ hsJ (fun T4 h4 v4 S4 K4 q4 => ?_)
      obtain ⟨hv4, rfl⟩ := q4
      rw [if_pos (by decide)] at hv4
      subst hv4
      show own_F p e below s Z _ _ _ _ _ (T4.setTop (mkF m 115 #[.val (.ref a1), .val (.ref aI), .val (.int sv), .val (.int v3), .val (.int 1)] [(.int 1)]))
      refine own_F.of (fun _ => XS.iload S4.here S4.hx rfl (S4.dec d5_115) rfl) ?_
      show own_F p e below s Z _ _ _ _ _ (T4.setTop (mkF m 117 #[.val (.ref a1), .val (.ref aI), .val (.int sv), .val (.int v3), .val (.int 1)] [(.int 1), (.int 1)]))
      refine own_icmp S4 124 d5_117 (by decide) (by decide) (fun (hc117_5 : ¬ ((1 : Int32) = (1 : Int32))) => False.elim (absurd hc117_5 (by decide))) (fun (hc117_5 : (1 : Int32) = (1 : Int32)) => ?_)
      show own_F p e below s Z _ _ _ _ _ (T4.setTop (mkF m 120 #[.val (.ref a1), .val (.ref aI), .val (.int sv), .val (.int v3), .val (.int 1)] []))
      refine own_F.of (fun _ => XS.iconst S4.here S4.hx rfl (S4.dec d5_120)) ?_
      show own_F p e below s Z _ _ _ _ _ (T4.setTop (mkF m 121 #[.val (.ref a1), .val (.ref aI), .val (.int sv), .val (.int v3), .val (.int 1)] [(.int 1)]))
      refine own_F.of (fun _ => XS.goto S4.here S4.hx rfl (pc0 := 121) (pc' := 125) rfl (S4.dec d5_121) (by decide) (by decide)) ?_
      show own_F p e below s Z _ _ _ _ _ (T4.setTop (mkF m 125 #[.val (.ref a1), .val (.ref aI), .val (.int sv), .val (.int v3), .val (.int 1)] [(.int 1)]))
      refine own_retZ S4 (by simp) d5_125 hcJ hsJ ?_
      exact ⟨rfl, SC⟩
    · have g0 : own_in (bf 0) = (0 : Int32) := by rw [e0]; rfl
      have g1 : own_in (bf 1) = (0 : Int32) := by rw [e1]; rfl
      have g2 : own_in (bf 2) = (1 : Int32) := by rw [e2]; rfl
      have gc : own_ct bf = (1 : Int32) := by unfold own_ct; rw [g0, g1, g2]; rfl
      rw [gc, g0, g1, g2] at H
      have HC := H
      obtain ⟨⟨ga, gB, gS, gO, gP, gI⟩, ⟨nSO, nSP, nOP⟩, E_a1, F_buckets, F_sizes, F_keys, F_bucketOf, F_positions, F_last, F_count, RB, AS, AK, AO, AP, AI, BK⟩ := H
      have n1aB := own_neA E_a1 (own_w hw 3 rfl) RB.A
      have naBaS := own_A.neT RB.A AS (by decide)
      have naBaK := own_A.neT RB.A AK (by decide)
      have naBaO := own_A.neT RB.A AO (by decide)
      have naBaP := own_A.neT RB.A AP (by decide)
      have naBaI := own_A.neT RB.A AI (by decide)
      have n1aS := own_neA E_a1 (own_w hw 3 rfl) AS
      have naSaK := own_A.neT AS AK (by decide)
      have naSaI := own_A.neT AS AI (by decide)
      have n1aK := own_neA E_a1 (own_w hw 3 rfl) AK
      have naKaO := own_A.neT AK AO (by decide)
      have naKaP := own_A.neT AK AP (by decide)
      have naKaI := own_A.neT AK AI (by decide)
      have n1aO := own_neA E_a1 (own_w hw 3 rfl) AO
      have naOaI := own_A.neT AO AI (by decide)
      have n1aP := own_neA E_a1 (own_w hw 3 rfl) AP
      have naPaI := own_A.neT AP AI (by decide)
      have n1aI := own_neA E_a1 (own_w hw 3 rfl) AI
      show own_F p e below s Z _ _ _ _ _ (TJ.setTop (mkF m 86 #[.val (.ref a1), .val (.ref aI), .val (.int sv), .val (.int v3), .val (.int v4)] []))
      refine own_F.of (fun _ => XS.aloadN SJ.here SJ.hx rfl (SJ.dec d5_86) rfl rfl) ?_
      refine own_F.of (fun _ => XS.iconst SJ.here SJ.hx rfl (SJ.dec d5_87)) ?_
      show own_F p e below s Z _ _ _ _ _ (TJ.setTop (mkF m 88 #[.val (.ref a1), .val (.ref aI), .val (.int sv), .val (.int v3), .val (.int v4)] [(.int 0), (.ref aI)]))
      refine own_zald SJ AI (by decide) rfl d5_88 ?_
      show own_F p e below s Z _ _ _ _ _ (TJ.setTop (mkF m 89 #[.val (.ref a1), .val (.ref aI), .val (.int sv), .val (.int v3), .val (.int v4)] [(.int 0)]))
      refine own_if SJ 108 d5_89 (by decide) (by decide) (fun (hc89_6 : ¬ ((0 : Int32) = (0 : Int32))) => False.elim (absurd hc89_6 (by decide))) (fun (hc89_6 : (0 : Int32) = (0 : Int32)) => ?_)
      show own_F p e below s Z _ _ _ _ _ (TJ.setTop (mkF m 92 #[.val (.ref a1), .val (.ref aI), .val (.int sv), .val (.int v3), .val (.int v4)] []))
      refine own_F.of (fun _ => XS.aloadN SJ.here SJ.hx rfl (SJ.dec d5_92) rfl rfl) ?_
      refine own_F.of (fun _ => XS.iconst SJ.here SJ.hx rfl (SJ.dec d5_93)) ?_
      show own_F p e below s Z _ _ _ _ _ (TJ.setTop (mkF m 94 #[.val (.ref a1), .val (.ref aI), .val (.int sv), .val (.int v3), .val (.int v4)] [(.int 1), (.ref aI)]))
      refine own_zald SJ AI (by decide) rfl d5_94 ?_
      show own_F p e below s Z _ _ _ _ _ (TJ.setTop (mkF m 95 #[.val (.ref a1), .val (.ref aI), .val (.int sv), .val (.int v3), .val (.int v4)] [(.int 0)]))
      refine own_if SJ 108 d5_95 (by decide) (by decide) (fun (hc95_7 : ¬ ((0 : Int32) = (0 : Int32))) => False.elim (absurd hc95_7 (by decide))) (fun (hc95_7 : (0 : Int32) = (0 : Int32)) => ?_)
      show own_F p e below s Z _ _ _ _ _ (TJ.setTop (mkF m 98 #[.val (.ref a1), .val (.ref aI), .val (.int sv), .val (.int v3), .val (.int v4)] []))
      refine own_F.of (fun _ => XS.aloadN SJ.here SJ.hx rfl (SJ.dec d5_98) rfl rfl) ?_
      refine own_F.of (fun _ => XS.iconst SJ.here SJ.hx rfl (SJ.dec d5_99)) ?_
      show own_F p e below s Z _ _ _ _ _ (TJ.setTop (mkF m 100 #[.val (.ref a1), .val (.ref aI), .val (.int sv), .val (.int v3), .val (.int v4)] [(.int 2), (.ref aI)]))
      refine own_zald SJ AI (by decide) rfl d5_100 ?_
      show own_F p e below s Z _ _ _ _ _ (TJ.setTop (mkF m 101 #[.val (.ref a1), .val (.ref aI), .val (.int sv), .val (.int v3), .val (.int v4)] [(.int 1)]))
      refine own_if SJ 108 d5_101 (by decide) (by decide) (fun (hc101_8 : ¬ ((1 : Int32) = (0 : Int32))) => ?_) (fun (hc101_8 : (1 : Int32) = (0 : Int32)) => False.elim (absurd hc101_8 (by decide)))
      show own_F p e below s Z _ _ _ _ _ (TJ.setTop (mkF m 108 #[.val (.ref a1), .val (.ref aI), .val (.int sv), .val (.int v3), .val (.int v4)] []))
      refine own_F.of (fun _ => XS.iconst SJ.here SJ.hx rfl (SJ.dec d5_108)) ?_
      show own_F p e below s Z _ _ _ _ _ (TJ.setTop (mkF m 109 #[.val (.ref a1), .val (.ref aI), .val (.int sv), .val (.int v3), .val (.int v4)] [(.int 0)]))
      refine own_F.of (fun _ => XS.istore SJ.here SJ.hx rfl (SJ.dec d5_109) rfl (l' := #[.val (.ref a1), .val (.ref aI), .val (.int sv), .val (.int v3), .val (.int 0)]) rfl) ?_
      refine own_F.of (fun _ => XS.aloadN SJ.here SJ.hx rfl (SJ.dec d5_111) rfl rfl) ?_
      show own_F p e below s Z _ _ _ _ _ (TJ.setTop (mkF m 112 #[.val (.ref a1), .val (.ref aI), .val (.int sv), .val (.int v3), .val (.int 0)] [(.ref a1)]))
      refine own_callV SJ (y := (⟨"com/example/slackweave/slackweave/paths/RadixHeap", "isEmpty", "()Z"⟩ : MethodName)) (y' := (⟨"com/example/slackweave/slackweave/paths/RadixHeap", "isEmpty", "()Z"⟩ : MethodName)) (own_w hw 29 rfl) (own_w hw 30 rfl) (own_nf SJ (own_w hw 32 rfl)) (own_w hw 32 rfl) (own_w hw 31 rfl) (own_w hw 33 rfl) (own_w hw 4 rfl) (by decide) E_a1 (argsL := []) (rest := []) (own_isE l Z a0 hw a1 (1 : Int32) hJ SJ.old F_count) all0 (by decide +kernel : parseMethodDescriptor "()Z" = some ⟨[], some .boolean⟩) rfl rfl rfl d5_112 (by decide) (Nat.le_of_ble_eq_true rfl) hcJ hsJ (fun T9 h9 v9 S9 K9 q9 => ?_)
      obtain ⟨hv9, rfl⟩ := q9
      rw [if_neg (by decide)] at hv9
      subst hv9
      show own_F p e below s Z _ _ _ _ _ (T9.setTop (mkF m 115 #[.val (.ref a1), .val (.ref aI), .val (.int sv), .val (.int v3), .val (.int 0)] [(.int 0)]))
      refine own_F.of (fun _ => XS.iload S9.here S9.hx rfl (S9.dec d5_115) rfl) ?_
      show own_F p e below s Z _ _ _ _ _ (T9.setTop (mkF m 117 #[.val (.ref a1), .val (.ref aI), .val (.int sv), .val (.int v3), .val (.int 0)] [(.int 0), (.int 0)]))
      refine own_icmp S9 124 d5_117 (by decide) (by decide) (fun (hc117_10 : ¬ ((0 : Int32) = (0 : Int32))) => False.elim (absurd hc117_10 (by decide))) (fun (hc117_10 : (0 : Int32) = (0 : Int32)) => ?_)
      show own_F p e below s Z _ _ _ _ _ (T9.setTop (mkF m 120 #[.val (.ref a1), .val (.ref aI), .val (.int sv), .val (.int v3), .val (.int 0)] []))
      refine own_F.of (fun _ => XS.iconst S9.here S9.hx rfl (S9.dec d5_120)) ?_
      show own_F p e below s Z _ _ _ _ _ (T9.setTop (mkF m 121 #[.val (.ref a1), .val (.ref aI), .val (.int sv), .val (.int v3), .val (.int 0)] [(.int 1)]))
      refine own_F.of (fun _ => XS.goto S9.here S9.hx rfl (pc0 := 121) (pc' := 125) rfl (S9.dec d5_121) (by decide) (by decide)) ?_
      show own_F p e below s Z _ _ _ _ _ (T9.setTop (mkF m 125 #[.val (.ref a1), .val (.ref aI), .val (.int sv), .val (.int v3), .val (.int 0)] [(.int 1)]))
      refine own_retZ S9 (by simp) d5_125 hcJ hsJ ?_
      exact ⟨rfl, SC⟩
    · have g0 : own_in (bf 0) = (0 : Int32) := by rw [e0]; rfl
      have g1 : own_in (bf 1) = (1 : Int32) := by rw [e1]; rfl
      have g2 : own_in (bf 2) = (0 : Int32) := by rw [e2]; rfl
      have gc : own_ct bf = (1 : Int32) := by unfold own_ct; rw [g0, g1, g2]; rfl
      rw [gc, g0, g1, g2] at H
      have HC := H
      obtain ⟨⟨ga, gB, gS, gO, gP, gI⟩, ⟨nSO, nSP, nOP⟩, E_a1, F_buckets, F_sizes, F_keys, F_bucketOf, F_positions, F_last, F_count, RB, AS, AK, AO, AP, AI, BK⟩ := H
      have n1aB := own_neA E_a1 (own_w hw 3 rfl) RB.A
      have naBaS := own_A.neT RB.A AS (by decide)
      have naBaK := own_A.neT RB.A AK (by decide)
      have naBaO := own_A.neT RB.A AO (by decide)
      have naBaP := own_A.neT RB.A AP (by decide)
      have naBaI := own_A.neT RB.A AI (by decide)
      have n1aS := own_neA E_a1 (own_w hw 3 rfl) AS
      have naSaK := own_A.neT AS AK (by decide)
      have naSaI := own_A.neT AS AI (by decide)
      have n1aK := own_neA E_a1 (own_w hw 3 rfl) AK
      have naKaO := own_A.neT AK AO (by decide)
      have naKaP := own_A.neT AK AP (by decide)
      have naKaI := own_A.neT AK AI (by decide)
      have n1aO := own_neA E_a1 (own_w hw 3 rfl) AO
      have naOaI := own_A.neT AO AI (by decide)
      have n1aP := own_neA E_a1 (own_w hw 3 rfl) AP
      have naPaI := own_A.neT AP AI (by decide)
      have n1aI := own_neA E_a1 (own_w hw 3 rfl) AI
      show own_F p e below s Z _ _ _ _ _ (TJ.setTop (mkF m 86 #[.val (.ref a1), .val (.ref aI), .val (.int sv), .val (.int v3), .val (.int v4)] []))
      refine own_F.of (fun _ => XS.aloadN SJ.here SJ.hx rfl (SJ.dec d5_86) rfl rfl) ?_
      refine own_F.of (fun _ => XS.iconst SJ.here SJ.hx rfl (SJ.dec d5_87)) ?_
      show own_F p e below s Z _ _ _ _ _ (TJ.setTop (mkF m 88 #[.val (.ref a1), .val (.ref aI), .val (.int sv), .val (.int v3), .val (.int v4)] [(.int 0), (.ref aI)]))
      refine own_zald SJ AI (by decide) rfl d5_88 ?_
      show own_F p e below s Z _ _ _ _ _ (TJ.setTop (mkF m 89 #[.val (.ref a1), .val (.ref aI), .val (.int sv), .val (.int v3), .val (.int v4)] [(.int 0)]))
      refine own_if SJ 108 d5_89 (by decide) (by decide) (fun (hc89_11 : ¬ ((0 : Int32) = (0 : Int32))) => False.elim (absurd hc89_11 (by decide))) (fun (hc89_11 : (0 : Int32) = (0 : Int32)) => ?_)
      show own_F p e below s Z _ _ _ _ _ (TJ.setTop (mkF m 92 #[.val (.ref a1), .val (.ref aI), .val (.int sv), .val (.int v3), .val (.int v4)] []))
      refine own_F.of (fun _ => XS.aloadN SJ.here SJ.hx rfl (SJ.dec d5_92) rfl rfl) ?_
      refine own_F.of (fun _ => XS.iconst SJ.here SJ.hx rfl (SJ.dec d5_93)) ?_
      show own_F p e below s Z _ _ _ _ _ (TJ.setTop (mkF m 94 #[.val (.ref a1), .val (.ref aI), .val (.int sv), .val (.int v3), .val (.int v4)] [(.int 1), (.ref aI)]))
      refine own_zald SJ AI (by decide) rfl d5_94 ?_
      show own_F p e below s Z _ _ _ _ _ (TJ.setTop (mkF m 95 #[.val (.ref a1), .val (.ref aI), .val (.int sv), .val (.int v3), .val (.int v4)] [(.int 1)]))
      refine own_if SJ 108 d5_95 (by decide) (by decide) (fun (hc95_12 : ¬ ((1 : Int32) = (0 : Int32))) => ?_) (fun (hc95_12 : (1 : Int32) = (0 : Int32)) => False.elim (absurd hc95_12 (by decide)))
      show own_F p e below s Z _ _ _ _ _ (TJ.setTop (mkF m 108 #[.val (.ref a1), .val (.ref aI), .val (.int sv), .val (.int v3), .val (.int v4)] []))
      refine own_F.of (fun _ => XS.iconst SJ.here SJ.hx rfl (SJ.dec d5_108)) ?_
      show own_F p e below s Z _ _ _ _ _ (TJ.setTop (mkF m 109 #[.val (.ref a1), .val (.ref aI), .val (.int sv), .val (.int v3), .val (.int v4)] [(.int 0)]))
      refine own_F.of (fun _ => XS.istore SJ.here SJ.hx rfl (SJ.dec d5_109) rfl (l' := #[.val (.ref a1), .val (.ref aI), .val (.int sv), .val (.int v3), .val (.int 0)]) rfl) ?_
      refine own_F.of (fun _ => XS.aloadN SJ.here SJ.hx rfl (SJ.dec d5_111) rfl rfl) ?_
      show own_F p e below s Z _ _ _ _ _ (TJ.setTop (mkF m 112 #[.val (.ref a1), .val (.ref aI), .val (.int sv), .val (.int v3), .val (.int 0)] [(.ref a1)]))
      refine own_callV SJ (y := (⟨"com/example/slackweave/slackweave/paths/RadixHeap", "isEmpty", "()Z"⟩ : MethodName)) (y' := (⟨"com/example/slackweave/slackweave/paths/RadixHeap", "isEmpty", "()Z"⟩ : MethodName)) (own_w hw 29 rfl) (own_w hw 30 rfl) (own_nf SJ (own_w hw 32 rfl)) (own_w hw 32 rfl) (own_w hw 31 rfl) (own_w hw 33 rfl) (own_w hw 4 rfl) (by decide) E_a1 (argsL := []) (rest := []) (own_isE l Z a0 hw a1 (1 : Int32) hJ SJ.old F_count) all0 (by decide +kernel : parseMethodDescriptor "()Z" = some ⟨[], some .boolean⟩) rfl rfl rfl d5_112 (by decide) (Nat.le_of_ble_eq_true rfl) hcJ hsJ (fun T13 h13 v13 S13 K13 q13 => ?_)
      obtain ⟨hv13, rfl⟩ := q13
      rw [if_neg (by decide)] at hv13
      subst hv13
      show own_F p e below s Z _ _ _ _ _ (T13.setTop (mkF m 115 #[.val (.ref a1), .val (.ref aI), .val (.int sv), .val (.int v3), .val (.int 0)] [(.int 0)]))
      refine own_F.of (fun _ => XS.iload S13.here S13.hx rfl (S13.dec d5_115) rfl) ?_
      show own_F p e below s Z _ _ _ _ _ (T13.setTop (mkF m 117 #[.val (.ref a1), .val (.ref aI), .val (.int sv), .val (.int v3), .val (.int 0)] [(.int 0), (.int 0)]))
      refine own_icmp S13 124 d5_117 (by decide) (by decide) (fun (hc117_14 : ¬ ((0 : Int32) = (0 : Int32))) => False.elim (absurd hc117_14 (by decide))) (fun (hc117_14 : (0 : Int32) = (0 : Int32)) => ?_)
      show own_F p e below s Z _ _ _ _ _ (T13.setTop (mkF m 120 #[.val (.ref a1), .val (.ref aI), .val (.int sv), .val (.int v3), .val (.int 0)] []))
      refine own_F.of (fun _ => XS.iconst S13.here S13.hx rfl (S13.dec d5_120)) ?_
      show own_F p e below s Z _ _ _ _ _ (T13.setTop (mkF m 121 #[.val (.ref a1), .val (.ref aI), .val (.int sv), .val (.int v3), .val (.int 0)] [(.int 1)]))
      refine own_F.of (fun _ => XS.goto S13.here S13.hx rfl (pc0 := 121) (pc' := 125) rfl (S13.dec d5_121) (by decide) (by decide)) ?_
      show own_F p e below s Z _ _ _ _ _ (T13.setTop (mkF m 125 #[.val (.ref a1), .val (.ref aI), .val (.int sv), .val (.int v3), .val (.int 0)] [(.int 1)]))
      refine own_retZ S13 (by simp) d5_125 hcJ hsJ ?_
      exact ⟨rfl, SC⟩
    · have g0 : own_in (bf 0) = (0 : Int32) := by rw [e0]; rfl
      have g1 : own_in (bf 1) = (1 : Int32) := by rw [e1]; rfl
      have g2 : own_in (bf 2) = (1 : Int32) := by rw [e2]; rfl
      have gc : own_ct bf = (2 : Int32) := by unfold own_ct; rw [g0, g1, g2]; rfl
      rw [gc, g0, g1, g2] at H
      have HC := H
      obtain ⟨⟨ga, gB, gS, gO, gP, gI⟩, ⟨nSO, nSP, nOP⟩, E_a1, F_buckets, F_sizes, F_keys, F_bucketOf, F_positions, F_last, F_count, RB, AS, AK, AO, AP, AI, BK⟩ := H
      have n1aB := own_neA E_a1 (own_w hw 3 rfl) RB.A
      have naBaS := own_A.neT RB.A AS (by decide)
      have naBaK := own_A.neT RB.A AK (by decide)
      have naBaO := own_A.neT RB.A AO (by decide)
      have naBaP := own_A.neT RB.A AP (by decide)
      have naBaI := own_A.neT RB.A AI (by decide)
      have n1aS := own_neA E_a1 (own_w hw 3 rfl) AS
      have naSaK := own_A.neT AS AK (by decide)
      have naSaI := own_A.neT AS AI (by decide)
      have n1aK := own_neA E_a1 (own_w hw 3 rfl) AK
      have naKaO := own_A.neT AK AO (by decide)
      have naKaP := own_A.neT AK AP (by decide)
      have naKaI := own_A.neT AK AI (by decide)
      have n1aO := own_neA E_a1 (own_w hw 3 rfl) AO
      have naOaI := own_A.neT AO AI (by decide)
      have n1aP := own_neA E_a1 (own_w hw 3 rfl) AP
      have naPaI := own_A.neT AP AI (by decide)
      have n1aI := own_neA E_a1 (own_w hw 3 rfl) AI
      show own_F p e below s Z _ _ _ _ _ (TJ.setTop (mkF m 86 #[.val (.ref a1), .val (.ref aI), .val (.int sv), .val (.int v3), .val (.int v4)] []))
      refine own_F.of (fun _ => XS.aloadN SJ.here SJ.hx rfl (SJ.dec d5_86) rfl rfl) ?_
      refine own_F.of (fun _ => XS.iconst SJ.here SJ.hx rfl (SJ.dec d5_87)) ?_
      show own_F p e below s Z _ _ _ _ _ (TJ.setTop (mkF m 88 #[.val (.ref a1), .val (.ref aI), .val (.int sv), .val (.int v3), .val (.int v4)] [(.int 0), (.ref aI)]))
      refine own_zald SJ AI (by decide) rfl d5_88 ?_
      show own_F p e below s Z _ _ _ _ _ (TJ.setTop (mkF m 89 #[.val (.ref a1), .val (.ref aI), .val (.int sv), .val (.int v3), .val (.int v4)] [(.int 0)]))
      refine own_if SJ 108 d5_89 (by decide) (by decide) (fun (hc89_15 : ¬ ((0 : Int32) = (0 : Int32))) => False.elim (absurd hc89_15 (by decide))) (fun (hc89_15 : (0 : Int32) = (0 : Int32)) => ?_)
      show own_F p e below s Z _ _ _ _ _ (TJ.setTop (mkF m 92 #[.val (.ref a1), .val (.ref aI), .val (.int sv), .val (.int v3), .val (.int v4)] []))
      refine own_F.of (fun _ => XS.aloadN SJ.here SJ.hx rfl (SJ.dec d5_92) rfl rfl) ?_
      refine own_F.of (fun _ => XS.iconst SJ.here SJ.hx rfl (SJ.dec d5_93)) ?_
      show own_F p e below s Z _ _ _ _ _ (TJ.setTop (mkF m 94 #[.val (.ref a1), .val (.ref aI), .val (.int sv), .val (.int v3), .val (.int v4)] [(.int 1), (.ref aI)]))
      refine own_zald SJ AI (by decide) rfl d5_94 ?_
      show own_F p e below s Z _ _ _ _ _ (TJ.setTop (mkF m 95 #[.val (.ref a1), .val (.ref aI), .val (.int sv), .val (.int v3), .val (.int v4)] [(.int 1)]))
      refine own_if SJ 108 d5_95 (by decide) (by decide) (fun (hc95_16 : ¬ ((1 : Int32) = (0 : Int32))) => ?_) (fun (hc95_16 : (1 : Int32) = (0 : Int32)) => False.elim (absurd hc95_16 (by decide)))
      show own_F p e below s Z _ _ _ _ _ (TJ.setTop (mkF m 108 #[.val (.ref a1), .val (.ref aI), .val (.int sv), .val (.int v3), .val (.int v4)] []))
      refine own_F.of (fun _ => XS.iconst SJ.here SJ.hx rfl (SJ.dec d5_108)) ?_
      show own_F p e below s Z _ _ _ _ _ (TJ.setTop (mkF m 109 #[.val (.ref a1), .val (.ref aI), .val (.int sv), .val (.int v3), .val (.int v4)] [(.int 0)]))
      refine own_F.of (fun _ => XS.istore SJ.here SJ.hx rfl (SJ.dec d5_109) rfl (l' := #[.val (.ref a1), .val (.ref aI), .val (.int sv), .val (.int v3), .val (.int 0)]) rfl) ?_
      refine own_F.of (fun _ => XS.aloadN SJ.here SJ.hx rfl (SJ.dec d5_111) rfl rfl) ?_
      show own_F p e below s Z _ _ _ _ _ (TJ.setTop (mkF m 112 #[.val (.ref a1), .val (.ref aI), .val (.int sv), .val (.int v3), .val (.int 0)] [(.ref a1)]))
      refine own_callV SJ (y := (⟨"com/example/slackweave/slackweave/paths/RadixHeap", "isEmpty", "()Z"⟩ : MethodName)) (y' := (⟨"com/example/slackweave/slackweave/paths/RadixHeap", "isEmpty", "()Z"⟩ : MethodName)) (own_w hw 29 rfl) (own_w hw 30 rfl) (own_nf SJ (own_w hw 32 rfl)) (own_w hw 32 rfl) (own_w hw 31 rfl) (own_w hw 33 rfl) (own_w hw 4 rfl) (by decide) E_a1 (argsL := []) (rest := []) (own_isE l Z a0 hw a1 (2 : Int32) hJ SJ.old F_count) all0 (by decide +kernel : parseMethodDescriptor "()Z" = some ⟨[], some .boolean⟩) rfl rfl rfl d5_112 (by decide) (Nat.le_of_ble_eq_true rfl) hcJ hsJ (fun T17 h17 v17 S17 K17 q17 => ?_)
      obtain ⟨hv17, rfl⟩ := q17
      rw [if_neg (by decide)] at hv17
      subst hv17
      show own_F p e below s Z _ _ _ _ _ (T17.setTop (mkF m 115 #[.val (.ref a1), .val (.ref aI), .val (.int sv), .val (.int v3), .val (.int 0)] [(.int 0)]))
      refine own_F.of (fun _ => XS.iload S17.here S17.hx rfl (S17.dec d5_115) rfl) ?_
      show own_F p e below s Z _ _ _ _ _ (T17.setTop (mkF m 117 #[.val (.ref a1), .val (.ref aI), .val (.int sv), .val (.int v3), .val (.int 0)] [(.int 0), (.int 0)]))
      refine own_icmp S17 124 d5_117 (by decide) (by decide) (fun (hc117_18 : ¬ ((0 : Int32) = (0 : Int32))) => False.elim (absurd hc117_18 (by decide))) (fun (hc117_18 : (0 : Int32) = (0 : Int32)) => ?_)
      show own_F p e below s Z _ _ _ _ _ (T17.setTop (mkF m 120 #[.val (.ref a1), .val (.ref aI), .val (.int sv), .val (.int v3), .val (.int 0)] []))
      refine own_F.of (fun _ => XS.iconst S17.here S17.hx rfl (S17.dec d5_120)) ?_
      show own_F p e below s Z _ _ _ _ _ (T17.setTop (mkF m 121 #[.val (.ref a1), .val (.ref aI), .val (.int sv), .val (.int v3), .val (.int 0)] [(.int 1)]))
      refine own_F.of (fun _ => XS.goto S17.here S17.hx rfl (pc0 := 121) (pc' := 125) rfl (S17.dec d5_121) (by decide) (by decide)) ?_
      show own_F p e below s Z _ _ _ _ _ (T17.setTop (mkF m 125 #[.val (.ref a1), .val (.ref aI), .val (.int sv), .val (.int v3), .val (.int 0)] [(.int 1)]))
      refine own_retZ S17 (by simp) d5_125 hcJ hsJ ?_
      exact ⟨rfl, SC⟩
    · have g0 : own_in (bf 0) = (1 : Int32) := by rw [e0]; rfl
      have g1 : own_in (bf 1) = (0 : Int32) := by rw [e1]; rfl
      have g2 : own_in (bf 2) = (0 : Int32) := by rw [e2]; rfl
      have gc : own_ct bf = (1 : Int32) := by unfold own_ct; rw [g0, g1, g2]; rfl
      rw [gc, g0, g1, g2] at H
      have HC := H
      obtain ⟨⟨ga, gB, gS, gO, gP, gI⟩, ⟨nSO, nSP, nOP⟩, E_a1, F_buckets, F_sizes, F_keys, F_bucketOf, F_positions, F_last, F_count, RB, AS, AK, AO, AP, AI, BK⟩ := H
      have n1aB := own_neA E_a1 (own_w hw 3 rfl) RB.A
      have naBaS := own_A.neT RB.A AS (by decide)
      have naBaK := own_A.neT RB.A AK (by decide)
      have naBaO := own_A.neT RB.A AO (by decide)
      have naBaP := own_A.neT RB.A AP (by decide)
      have naBaI := own_A.neT RB.A AI (by decide)
      have n1aS := own_neA E_a1 (own_w hw 3 rfl) AS
      have naSaK := own_A.neT AS AK (by decide)
      have naSaI := own_A.neT AS AI (by decide)
      have n1aK := own_neA E_a1 (own_w hw 3 rfl) AK
      have naKaO := own_A.neT AK AO (by decide)
      have naKaP := own_A.neT AK AP (by decide)
      have naKaI := own_A.neT AK AI (by decide)
      have n1aO := own_neA E_a1 (own_w hw 3 rfl) AO
      have naOaI := own_A.neT AO AI (by decide)
      have n1aP := own_neA E_a1 (own_w hw 3 rfl) AP
      have naPaI := own_A.neT AP AI (by decide)
      have n1aI := own_neA E_a1 (own_w hw 3 rfl) AI
      show own_F p e below s Z _ _ _ _ _ (TJ.setTop (mkF m 86 #[.val (.ref a1), .val (.ref aI), .val (.int sv), .val (.int v3), .val (.int v4)] []))
      refine own_F.of (fun _ => XS.aloadN SJ.here SJ.hx rfl (SJ.dec d5_86) rfl rfl) ?_
      refine own_F.of (fun _ => XS.iconst SJ.here SJ.hx rfl (SJ.dec d5_87)) ?_
      show own_F p e below s Z _ _ _ _ _ (TJ.setTop (mkF m 88 #[.val (.ref a1), .val (.ref aI), .val (.int sv), .val (.int v3), .val (.int v4)] [(.int 0), (.ref aI)]))
      refine own_zald SJ AI (by decide) rfl d5_88 ?_
      show own_F p e below s Z _ _ _ _ _ (TJ.setTop (mkF m 89 #[.val (.ref a1), .val (.ref aI), .val (.int sv), .val (.int v3), .val (.int v4)] [(.int 1)]))
      refine own_if SJ 108 d5_89 (by decide) (by decide) (fun (hc89_19 : ¬ ((1 : Int32) = (0 : Int32))) => ?_) (fun (hc89_19 : (1 : Int32) = (0 : Int32)) => False.elim (absurd hc89_19 (by decide)))
      show own_F p e below s Z _ _ _ _ _ (TJ.setTop (mkF m 108 #[.val (.ref a1), .val (.ref aI), .val (.int sv), .val (.int v3), .val (.int v4)] []))
      refine own_F.of (fun _ => XS.iconst SJ.here SJ.hx rfl (SJ.dec d5_108)) ?_
      show own_F p e below s Z _ _ _ _ _ (TJ.setTop (mkF m 109 #[.val (.ref a1), .val (.ref aI), .val (.int sv), .val (.int v3), .val (.int v4)] [(.int 0)]))
      refine own_F.of (fun _ => XS.istore SJ.here SJ.hx rfl (SJ.dec d5_109) rfl (l' := #[.val (.ref a1), .val (.ref aI), .val (.int sv), .val (.int v3), .val (.int 0)]) rfl) ?_
      refine own_F.of (fun _ => XS.aloadN SJ.here SJ.hx rfl (SJ.dec d5_111) rfl rfl) ?_
      show own_F p e below s Z _ _ _ _ _ (TJ.setTop (mkF m 112 #[.val (.ref a1), .val (.ref aI), .val (.int sv), .val (.int v3), .val (.int 0)] [(.ref a1)]))
      refine own_callV SJ (y := (⟨"com/example/slackweave/slackweave/paths/RadixHeap", "isEmpty", "()Z"⟩ : MethodName)) (y' := (⟨"com/example/slackweave/slackweave/paths/RadixHeap", "isEmpty", "()Z"⟩ : MethodName)) (own_w hw 29 rfl) (own_w hw 30 rfl) (own_nf SJ (own_w hw 32 rfl)) (own_w hw 32 rfl) (own_w hw 31 rfl) (own_w hw 33 rfl) (own_w hw 4 rfl) (by decide) E_a1 (argsL := []) (rest := []) (own_isE l Z a0 hw a1 (1 : Int32) hJ SJ.old F_count) all0 (by decide +kernel : parseMethodDescriptor "()Z" = some ⟨[], some .boolean⟩) rfl rfl rfl d5_112 (by decide) (Nat.le_of_ble_eq_true rfl) hcJ hsJ (fun T20 h20 v20 S20 K20 q20 => ?_)
      obtain ⟨hv20, rfl⟩ := q20
      rw [if_neg (by decide)] at hv20
      subst hv20
      show own_F p e below s Z _ _ _ _ _ (T20.setTop (mkF m 115 #[.val (.ref a1), .val (.ref aI), .val (.int sv), .val (.int v3), .val (.int 0)] [(.int 0)]))
      refine own_F.of (fun _ => XS.iload S20.here S20.hx rfl (S20.dec d5_115) rfl) ?_
      show own_F p e below s Z _ _ _ _ _ (T20.setTop (mkF m 117 #[.val (.ref a1), .val (.ref aI), .val (.int sv), .val (.int v3), .val (.int 0)] [(.int 0), (.int 0)]))
      refine own_icmp S20 124 d5_117 (by decide) (by decide) (fun (hc117_21 : ¬ ((0 : Int32) = (0 : Int32))) => False.elim (absurd hc117_21 (by decide))) (fun (hc117_21 : (0 : Int32) = (0 : Int32)) => ?_)
      show own_F p e below s Z _ _ _ _ _ (T20.setTop (mkF m 120 #[.val (.ref a1), .val (.ref aI), .val (.int sv), .val (.int v3), .val (.int 0)] []))
      refine own_F.of (fun _ => XS.iconst S20.here S20.hx rfl (S20.dec d5_120)) ?_
      show own_F p e below s Z _ _ _ _ _ (T20.setTop (mkF m 121 #[.val (.ref a1), .val (.ref aI), .val (.int sv), .val (.int v3), .val (.int 0)] [(.int 1)]))
      refine own_F.of (fun _ => XS.goto S20.here S20.hx rfl (pc0 := 121) (pc' := 125) rfl (S20.dec d5_121) (by decide) (by decide)) ?_
      show own_F p e below s Z _ _ _ _ _ (T20.setTop (mkF m 125 #[.val (.ref a1), .val (.ref aI), .val (.int sv), .val (.int v3), .val (.int 0)] [(.int 1)]))
      refine own_retZ S20 (by simp) d5_125 hcJ hsJ ?_
      exact ⟨rfl, SC⟩
    · have g0 : own_in (bf 0) = (1 : Int32) := by rw [e0]; rfl
      have g1 : own_in (bf 1) = (0 : Int32) := by rw [e1]; rfl
      have g2 : own_in (bf 2) = (1 : Int32) := by rw [e2]; rfl
      have gc : own_ct bf = (2 : Int32) := by unfold own_ct; rw [g0, g1, g2]; rfl
      rw [gc, g0, g1, g2] at H
      have HC := H
      obtain ⟨⟨ga, gB, gS, gO, gP, gI⟩, ⟨nSO, nSP, nOP⟩, E_a1, F_buckets, F_sizes, F_keys, F_bucketOf, F_positions, F_last, F_count, RB, AS, AK, AO, AP, AI, BK⟩ := H
      have n1aB := own_neA E_a1 (own_w hw 3 rfl) RB.A
      have naBaS := own_A.neT RB.A AS (by decide)
      have naBaK := own_A.neT RB.A AK (by decide)
      have naBaO := own_A.neT RB.A AO (by decide)
      have naBaP := own_A.neT RB.A AP (by decide)
      have naBaI := own_A.neT RB.A AI (by decide)
      have n1aS := own_neA E_a1 (own_w hw 3 rfl) AS
      have naSaK := own_A.neT AS AK (by decide)
      have naSaI := own_A.neT AS AI (by decide)
      have n1aK := own_neA E_a1 (own_w hw 3 rfl) AK
      have naKaO := own_A.neT AK AO (by decide)
      have naKaP := own_A.neT AK AP (by decide)
      have naKaI := own_A.neT AK AI (by decide)
      have n1aO := own_neA E_a1 (own_w hw 3 rfl) AO
      have naOaI := own_A.neT AO AI (by decide)
      have n1aP := own_neA E_a1 (own_w hw 3 rfl) AP
      have naPaI := own_A.neT AP AI (by decide)
      have n1aI := own_neA E_a1 (own_w hw 3 rfl) AI
      show own_F p e below s Z _ _ _ _ _ (TJ.setTop (mkF m 86 #[.val (.ref a1), .val (.ref aI), .val (.int sv), .val (.int v3), .val (.int v4)] []))
      refine own_F.of (fun _ => XS.aloadN SJ.here SJ.hx rfl (SJ.dec d5_86) rfl rfl) ?_
      refine own_F.of (fun _ => XS.iconst SJ.here SJ.hx rfl (SJ.dec d5_87)) ?_
      show own_F p e below s Z _ _ _ _ _ (TJ.setTop (mkF m 88 #[.val (.ref a1), .val (.ref aI), .val (.int sv), .val (.int v3), .val (.int v4)] [(.int 0), (.ref aI)]))
      refine own_zald SJ AI (by decide) rfl d5_88 ?_
      show own_F p e below s Z _ _ _ _ _ (TJ.setTop (mkF m 89 #[.val (.ref a1), .val (.ref aI), .val (.int sv), .val (.int v3), .val (.int v4)] [(.int 1)]))
      refine own_if SJ 108 d5_89 (by decide) (by decide) (fun (hc89_22 : ¬ ((1 : Int32) = (0 : Int32))) => ?_) (fun (hc89_22 : (1 : Int32) = (0 : Int32)) => False.elim (absurd hc89_22 (by decide)))
      show own_F p e below s Z _ _ _ _ _ (TJ.setTop (mkF m 108 #[.val (.ref a1), .val (.ref aI), .val (.int sv), .val (.int v3), .val (.int v4)] []))
      refine own_F.of (fun _ => XS.iconst SJ.here SJ.hx rfl (SJ.dec d5_108)) ?_
      show own_F p e below s Z _ _ _ _ _ (TJ.setTop (mkF m 109 #[.val (.ref a1), .val (.ref aI), .val (.int sv), .val (.int v3), .val (.int v4)] [(.int 0)]))
      refine own_F.of (fun _ => XS.istore SJ.here SJ.hx rfl (SJ.dec d5_109) rfl (l' := #[.val (.ref a1), .val (.ref aI), .val (.int sv), .val (.int v3), .val (.int 0)]) rfl) ?_
      refine own_F.of (fun _ => XS.aloadN SJ.here SJ.hx rfl (SJ.dec d5_111) rfl rfl) ?_
      show own_F p e below s Z _ _ _ _ _ (TJ.setTop (mkF m 112 #[.val (.ref a1), .val (.ref aI), .val (.int sv), .val (.int v3), .val (.int 0)] [(.ref a1)]))
      refine own_callV SJ (y := (⟨"com/example/slackweave/slackweave/paths/RadixHeap", "isEmpty", "()Z"⟩ : MethodName)) (y' := (⟨"com/example/slackweave/slackweave/paths/RadixHeap", "isEmpty", "()Z"⟩ : MethodName)) (own_w hw 29 rfl) (own_w hw 30 rfl) (own_nf SJ (own_w hw 32 rfl)) (own_w hw 32 rfl) (own_w hw 31 rfl) (own_w hw 33 rfl) (own_w hw 4 rfl) (by decide) E_a1 (argsL := []) (rest := []) (own_isE l Z a0 hw a1 (2 : Int32) hJ SJ.old F_count) all0 (by decide +kernel : parseMethodDescriptor "()Z" = some ⟨[], some .boolean⟩) rfl rfl rfl d5_112 (by decide) (Nat.le_of_ble_eq_true rfl) hcJ hsJ (fun T23 h23 v23 S23 K23 q23 => ?_)
      obtain ⟨hv23, rfl⟩ := q23
      rw [if_neg (by decide)] at hv23
      subst hv23
      show own_F p e below s Z _ _ _ _ _ (T23.setTop (mkF m 115 #[.val (.ref a1), .val (.ref aI), .val (.int sv), .val (.int v3), .val (.int 0)] [(.int 0)]))
      refine own_F.of (fun _ => XS.iload S23.here S23.hx rfl (S23.dec d5_115) rfl) ?_
      show own_F p e below s Z _ _ _ _ _ (T23.setTop (mkF m 117 #[.val (.ref a1), .val (.ref aI), .val (.int sv), .val (.int v3), .val (.int 0)] [(.int 0), (.int 0)]))
      refine own_icmp S23 124 d5_117 (by decide) (by decide) (fun (hc117_24 : ¬ ((0 : Int32) = (0 : Int32))) => False.elim (absurd hc117_24 (by decide))) (fun (hc117_24 : (0 : Int32) = (0 : Int32)) => ?_)
      show own_F p e below s Z _ _ _ _ _ (T23.setTop (mkF m 120 #[.val (.ref a1), .val (.ref aI), .val (.int sv), .val (.int v3), .val (.int 0)] []))
      refine own_F.of (fun _ => XS.iconst S23.here S23.hx rfl (S23.dec d5_120)) ?_
      show own_F p e below s Z _ _ _ _ _ (T23.setTop (mkF m 121 #[.val (.ref a1), .val (.ref aI), .val (.int sv), .val (.int v3), .val (.int 0)] [(.int 1)]))
      refine own_F.of (fun _ => XS.goto S23.here S23.hx rfl (pc0 := 121) (pc' := 125) rfl (S23.dec d5_121) (by decide) (by decide)) ?_
      show own_F p e below s Z _ _ _ _ _ (T23.setTop (mkF m 125 #[.val (.ref a1), .val (.ref aI), .val (.int sv), .val (.int v3), .val (.int 0)] [(.int 1)]))
      refine own_retZ S23 (by simp) d5_125 hcJ hsJ ?_
      exact ⟨rfl, SC⟩
    · have g0 : own_in (bf 0) = (1 : Int32) := by rw [e0]; rfl
      have g1 : own_in (bf 1) = (1 : Int32) := by rw [e1]; rfl
      have g2 : own_in (bf 2) = (0 : Int32) := by rw [e2]; rfl
      have gc : own_ct bf = (2 : Int32) := by unfold own_ct; rw [g0, g1, g2]; rfl
      rw [gc, g0, g1, g2] at H
      have HC := H
      obtain ⟨⟨ga, gB, gS, gO, gP, gI⟩, ⟨nSO, nSP, nOP⟩, E_a1, F_buckets, F_sizes, F_keys, F_bucketOf, F_positions, F_last, F_count, RB, AS, AK, AO, AP, AI, BK⟩ := H
      have n1aB := own_neA E_a1 (own_w hw 3 rfl) RB.A
      have naBaS := own_A.neT RB.A AS (by decide)
      have naBaK := own_A.neT RB.A AK (by decide)
      have naBaO := own_A.neT RB.A AO (by decide)
      have naBaP := own_A.neT RB.A AP (by decide)
      have naBaI := own_A.neT RB.A AI (by decide)
      have n1aS := own_neA E_a1 (own_w hw 3 rfl) AS
      have naSaK := own_A.neT AS AK (by decide)
      have naSaI := own_A.neT AS AI (by decide)
      have n1aK := own_neA E_a1 (own_w hw 3 rfl) AK
      have naKaO := own_A.neT AK AO (by decide)
      have naKaP := own_A.neT AK AP (by decide)
      have naKaI := own_A.neT AK AI (by decide)
      have n1aO := own_neA E_a1 (own_w hw 3 rfl) AO
      have naOaI := own_A.neT AO AI (by decide)
      have n1aP := own_neA E_a1 (own_w hw 3 rfl) AP
      have naPaI := own_A.neT AP AI (by decide)
      have n1aI := own_neA E_a1 (own_w hw 3 rfl) AI
      show own_F p e below s Z _ _ _ _ _ (TJ.setTop (mkF m 86 #[.val (.ref a1), .val (.ref aI), .val (.int sv), .val (.int v3), .val (.int v4)] []))
      refine own_F.of (fun _ => XS.aloadN SJ.here SJ.hx rfl (SJ.dec d5_86) rfl rfl) ?_
      refine own_F.of (fun _ => XS.iconst SJ.here SJ.hx rfl (SJ.dec d5_87)) ?_
      show own_F p e below s Z _ _ _ _ _ (TJ.setTop (mkF m 88 #[.val (.ref a1), .val (.ref aI), .val (.int sv), .val (.int v3), .val (.int v4)] [(.int 0), (.ref aI)]))
      refine own_zald SJ AI (by decide) rfl d5_88 ?_
      show own_F p e below s Z _ _ _ _ _ (TJ.setTop (mkF m 89 #[.val (.ref a1), .val (.ref aI), .val (.int sv), .val (.int v3), .val (.int v4)] [(.int 1)]))
      refine own_if SJ 108 d5_89 (by decide) (by decide) (fun (hc89_25 : ¬ ((1 : Int32) = (0 : Int32))) => ?_) (fun (hc89_25 : (1 : Int32) = (0 : Int32)) => False.elim (absurd hc89_25 (by decide)))
      show own_F p e below s Z _ _ _ _ _ (TJ.setTop (mkF m 108 #[.val (.ref a1), .val (.ref aI), .val (.int sv), .val (.int v3), .val (.int v4)] []))
      refine own_F.of (fun _ => XS.iconst SJ.here SJ.hx rfl (SJ.dec d5_108)) ?_
      show own_F p e below s Z _ _ _ _ _ (TJ.setTop (mkF m 109 #[.val (.ref a1), .val (.ref aI), .val (.int sv), .val (.int v3), .val (.int v4)] [(.int 0)]))
      refine own_F.of (fun _ => XS.istore SJ.here SJ.hx rfl (SJ.dec d5_109) rfl (l' := #[.val (.ref a1), .val (.ref aI), .val (.int sv), .val (.int v3), .val (.int 0)]) rfl) ?_
      refine own_F.of (fun _ => XS.aloadN SJ.here SJ.hx rfl (SJ.dec d5_111) rfl rfl) ?_
      show own_F p e below s Z _ _ _ _ _ (TJ.setTop (mkF m 112 #[.val (.ref a1), .val (.ref aI), .val (.int sv), .val (.int v3), .val (.int 0)] [(.ref a1)]))
      refine own_callV SJ (y := (⟨"com/example/slackweave/slackweave/paths/RadixHeap", "isEmpty", "()Z"⟩ : MethodName)) (y' := (⟨"com/example/slackweave/slackweave/paths/RadixHeap", "isEmpty", "()Z"⟩ : MethodName)) (own_w hw 29 rfl) (own_w hw 30 rfl) (own_nf SJ (own_w hw 32 rfl)) (own_w hw 32 rfl) (own_w hw 31 rfl) (own_w hw 33 rfl) (own_w hw 4 rfl) (by decide) E_a1 (argsL := []) (rest := []) (own_isE l Z a0 hw a1 (2 : Int32) hJ SJ.old F_count) all0 (by decide +kernel : parseMethodDescriptor "()Z" = some ⟨[], some .boolean⟩) rfl rfl rfl d5_112 (by decide) (Nat.le_of_ble_eq_true rfl) hcJ hsJ (fun T26 h26 v26 S26 K26 q26 => ?_)
      obtain ⟨hv26, rfl⟩ := q26
      rw [if_neg (by decide)] at hv26
      subst hv26
      show own_F p e below s Z _ _ _ _ _ (T26.setTop (mkF m 115 #[.val (.ref a1), .val (.ref aI), .val (.int sv), .val (.int v3), .val (.int 0)] [(.int 0)]))
      refine own_F.of (fun _ => XS.iload S26.here S26.hx rfl (S26.dec d5_115) rfl) ?_
      show own_F p e below s Z _ _ _ _ _ (T26.setTop (mkF m 117 #[.val (.ref a1), .val (.ref aI), .val (.int sv), .val (.int v3), .val (.int 0)] [(.int 0), (.int 0)]))
      refine own_icmp S26 124 d5_117 (by decide) (by decide) (fun (hc117_27 : ¬ ((0 : Int32) = (0 : Int32))) => False.elim (absurd hc117_27 (by decide))) (fun (hc117_27 : (0 : Int32) = (0 : Int32)) => ?_)
      show own_F p e below s Z _ _ _ _ _ (T26.setTop (mkF m 120 #[.val (.ref a1), .val (.ref aI), .val (.int sv), .val (.int v3), .val (.int 0)] []))
      refine own_F.of (fun _ => XS.iconst S26.here S26.hx rfl (S26.dec d5_120)) ?_
      show own_F p e below s Z _ _ _ _ _ (T26.setTop (mkF m 121 #[.val (.ref a1), .val (.ref aI), .val (.int sv), .val (.int v3), .val (.int 0)] [(.int 1)]))
      refine own_F.of (fun _ => XS.goto S26.here S26.hx rfl (pc0 := 121) (pc' := 125) rfl (S26.dec d5_121) (by decide) (by decide)) ?_
      show own_F p e below s Z _ _ _ _ _ (T26.setTop (mkF m 125 #[.val (.ref a1), .val (.ref aI), .val (.int sv), .val (.int v3), .val (.int 0)] [(.int 1)]))
      refine own_retZ S26 (by simp) d5_125 hcJ hsJ ?_
      exact ⟨rfl, SC⟩
    · have g0 : own_in (bf 0) = (1 : Int32) := by rw [e0]; rfl
      have g1 : own_in (bf 1) = (1 : Int32) := by rw [e1]; rfl
      have g2 : own_in (bf 2) = (1 : Int32) := by rw [e2]; rfl
      have gc : own_ct bf = (3 : Int32) := by unfold own_ct; rw [g0, g1, g2]; rfl
      rw [gc, g0, g1, g2] at H
      have HC := H
      obtain ⟨⟨ga, gB, gS, gO, gP, gI⟩, ⟨nSO, nSP, nOP⟩, E_a1, F_buckets, F_sizes, F_keys, F_bucketOf, F_positions, F_last, F_count, RB, AS, AK, AO, AP, AI, BK⟩ := H
      have n1aB := own_neA E_a1 (own_w hw 3 rfl) RB.A
      have naBaS := own_A.neT RB.A AS (by decide)
      have naBaK := own_A.neT RB.A AK (by decide)
      have naBaO := own_A.neT RB.A AO (by decide)
      have naBaP := own_A.neT RB.A AP (by decide)
      have naBaI := own_A.neT RB.A AI (by decide)
      have n1aS := own_neA E_a1 (own_w hw 3 rfl) AS
      have naSaK := own_A.neT AS AK (by decide)
      have naSaI := own_A.neT AS AI (by decide)
      have n1aK := own_neA E_a1 (own_w hw 3 rfl) AK
      have naKaO := own_A.neT AK AO (by decide)
      have naKaP := own_A.neT AK AP (by decide)
      have naKaI := own_A.neT AK AI (by decide)
      have n1aO := own_neA E_a1 (own_w hw 3 rfl) AO
      have naOaI := own_A.neT AO AI (by decide)
      have n1aP := own_neA E_a1 (own_w hw 3 rfl) AP
      have naPaI := own_A.neT AP AI (by decide)
      have n1aI := own_neA E_a1 (own_w hw 3 rfl) AI
      show own_F p e below s Z _ _ _ _ _ (TJ.setTop (mkF m 86 #[.val (.ref a1), .val (.ref aI), .val (.int sv), .val (.int v3), .val (.int v4)] []))
      refine own_F.of (fun _ => XS.aloadN SJ.here SJ.hx rfl (SJ.dec d5_86) rfl rfl) ?_
      refine own_F.of (fun _ => XS.iconst SJ.here SJ.hx rfl (SJ.dec d5_87)) ?_
      show own_F p e below s Z _ _ _ _ _ (TJ.setTop (mkF m 88 #[.val (.ref a1), .val (.ref aI), .val (.int sv), .val (.int v3), .val (.int v4)] [(.int 0), (.ref aI)]))
      refine own_zald SJ AI (by decide) rfl d5_88 ?_
      show own_F p e below s Z _ _ _ _ _ (TJ.setTop (mkF m 89 #[.val (.ref a1), .val (.ref aI), .val (.int sv), .val (.int v3), .val (.int v4)] [(.int 1)]))
      refine own_if SJ 108 d5_89 (by decide) (by decide) (fun (hc89_28 : ¬ ((1 : Int32) = (0 : Int32))) => ?_) (fun (hc89_28 : (1 : Int32) = (0 : Int32)) => False.elim (absurd hc89_28 (by decide)))
      show own_F p e below s Z _ _ _ _ _ (TJ.setTop (mkF m 108 #[.val (.ref a1), .val (.ref aI), .val (.int sv), .val (.int v3), .val (.int v4)] []))
      refine own_F.of (fun _ => XS.iconst SJ.here SJ.hx rfl (SJ.dec d5_108)) ?_
      show own_F p e below s Z _ _ _ _ _ (TJ.setTop (mkF m 109 #[.val (.ref a1), .val (.ref aI), .val (.int sv), .val (.int v3), .val (.int v4)] [(.int 0)]))
      refine own_F.of (fun _ => XS.istore SJ.here SJ.hx rfl (SJ.dec d5_109) rfl (l' := #[.val (.ref a1), .val (.ref aI), .val (.int sv), .val (.int v3), .val (.int 0)]) rfl) ?_
      refine own_F.of (fun _ => XS.aloadN SJ.here SJ.hx rfl (SJ.dec d5_111) rfl rfl) ?_
      show own_F p e below s Z _ _ _ _ _ (TJ.setTop (mkF m 112 #[.val (.ref a1), .val (.ref aI), .val (.int sv), .val (.int v3), .val (.int 0)] [(.ref a1)]))
      refine own_callV SJ (y := (⟨"com/example/slackweave/slackweave/paths/RadixHeap", "isEmpty", "()Z"⟩ : MethodName)) (y' := (⟨"com/example/slackweave/slackweave/paths/RadixHeap", "isEmpty", "()Z"⟩ : MethodName)) (own_w hw 29 rfl) (own_w hw 30 rfl) (own_nf SJ (own_w hw 32 rfl)) (own_w hw 32 rfl) (own_w hw 31 rfl) (own_w hw 33 rfl) (own_w hw 4 rfl) (by decide) E_a1 (argsL := []) (rest := []) (own_isE l Z a0 hw a1 (3 : Int32) hJ SJ.old F_count) all0 (by decide +kernel : parseMethodDescriptor "()Z" = some ⟨[], some .boolean⟩) rfl rfl rfl d5_112 (by decide) (Nat.le_of_ble_eq_true rfl) hcJ hsJ (fun T29 h29 v29 S29 K29 q29 => ?_)
      obtain ⟨hv29, rfl⟩ := q29
      rw [if_neg (by decide)] at hv29
      subst hv29
      show own_F p e below s Z _ _ _ _ _ (T29.setTop (mkF m 115 #[.val (.ref a1), .val (.ref aI), .val (.int sv), .val (.int v3), .val (.int 0)] [(.int 0)]))
      refine own_F.of (fun _ => XS.iload S29.here S29.hx rfl (S29.dec d5_115) rfl) ?_
      show own_F p e below s Z _ _ _ _ _ (T29.setTop (mkF m 117 #[.val (.ref a1), .val (.ref aI), .val (.int sv), .val (.int v3), .val (.int 0)] [(.int 0), (.int 0)]))
      refine own_icmp S29 124 d5_117 (by decide) (by decide) (fun (hc117_30 : ¬ ((0 : Int32) = (0 : Int32))) => False.elim (absurd hc117_30 (by decide))) (fun (hc117_30 : (0 : Int32) = (0 : Int32)) => ?_)
      show own_F p e below s Z _ _ _ _ _ (T29.setTop (mkF m 120 #[.val (.ref a1), .val (.ref aI), .val (.int sv), .val (.int v3), .val (.int 0)] []))
      refine own_F.of (fun _ => XS.iconst S29.here S29.hx rfl (S29.dec d5_120)) ?_
      show own_F p e below s Z _ _ _ _ _ (T29.setTop (mkF m 121 #[.val (.ref a1), .val (.ref aI), .val (.int sv), .val (.int v3), .val (.int 0)] [(.int 1)]))
      refine own_F.of (fun _ => XS.goto S29.here S29.hx rfl (pc0 := 121) (pc' := 125) rfl (S29.dec d5_121) (by decide) (by decide)) ?_
      show own_F p e below s Z _ _ _ _ _ (T29.setTop (mkF m 125 #[.val (.ref a1), .val (.ref aI), .val (.int sv), .val (.int v3), .val (.int 0)] [(.int 1)]))
      refine own_retZ S29 (by simp) d5_125 hcJ hsJ ?_
      exact ⟨rfl, SC⟩
  have J68 : ∀ (TJ : State) (SJ : own_S Z h0 (own_news Z h0) (⟨"com/example/slackweave/slackweave/paths/RadixHeapIsEmptyPinLaw", "step", "(Lcom/example/slackweave/slackweave/paths/RadixHeap;[ZI)Z"⟩ : MethodName).cls method_3_code 5 (some .boolean) (⟨"com/example/slackweave/slackweave/paths/RadixHeapIsEmptyPinLaw", "step", "(Lcom/example/slackweave/slackweave/paths/RadixHeap;[ZI)Z"⟩ : MethodName).name p l e ({ frames := 5, cells := 3, slots := 48, locals := 117 } : Room) s m #[.ref a1, .ref aI, .int sv] below meth c TJ h0 0 0) (v3 : Int32), own_F p e below s Z h0 (own_news Z h0) ({ frames := 5, cells := 3, slots := 48, locals := 117 } : Room).cells ({ frames := 5, cells := 3, slots := 48, locals := 117 } : Room).slots (fun v h => v = some (.int 1) ∧ own_ST Z h a1 aB aS aK aO aP aI yf) (TJ.setTop (mkF m 68 #[.val (.ref a1), .val (.ref aI), .val (.int sv), .val (.int v3), .unset] [])) := by
    intro TJ SJ v3
    obtain ⟨bk, Cf, bf, pf, la, H, AB, hla⟩ := ST
    have HC := H
    obtain ⟨⟨ga, gB, gS, gO, gP, gI⟩, ⟨nSO, nSP, nOP⟩, E_a1, F_buckets, F_sizes, F_keys, F_bucketOf, F_positions, F_last, F_count, RB, AS, AK, AO, AP, AI, BK⟩ := H
    have n1aB := own_neA E_a1 (own_w hw 3 rfl) RB.A
    have naBaS := own_A.neT RB.A AS (by decide)
    have naBaK := own_A.neT RB.A AK (by decide)
    have naBaO := own_A.neT RB.A AO (by decide)
    have naBaP := own_A.neT RB.A AP (by decide)
    have naBaI := own_A.neT RB.A AI (by decide)
    have n1aS := own_neA E_a1 (own_w hw 3 rfl) AS
    have naSaK := own_A.neT AS AK (by decide)
    have naSaI := own_A.neT AS AI (by decide)
    have n1aK := own_neA E_a1 (own_w hw 3 rfl) AK
    have naKaO := own_A.neT AK AO (by decide)
    have naKaP := own_A.neT AK AP (by decide)
    have naKaI := own_A.neT AK AI (by decide)
    have n1aO := own_neA E_a1 (own_w hw 3 rfl) AO
    have naOaI := own_A.neT AO AI (by decide)
    have n1aP := own_neA E_a1 (own_w hw 3 rfl) AP
    have naPaI := own_A.neT AP AI (by decide)
    have n1aI := own_neA E_a1 (own_w hw 3 rfl) AI
    show own_F p e below s Z _ _ _ _ _ (TJ.setTop (mkF m 68 #[.val (.ref a1), .val (.ref aI), .val (.int sv), .val (.int v3), .unset] []))
    refine own_F.of (fun _ => XS.iloadN SJ.here SJ.hx rfl (SJ.dec d5_68) rfl) ?_
    refine own_F.of (fun _ => XS.iconst SJ.here SJ.hx rfl (SJ.dec d5_69)) ?_
    show own_F p e below s Z _ _ _ _ _ (TJ.setTop (mkF m 70 #[.val (.ref a1), .val (.ref aI), .val (.int sv), .val (.int v3), .unset] [(.int 3), (.int sv)]))
    refine own_F.of (fun _ => XS.iand SJ.here SJ.hx rfl (SJ.dec d5_70) rfl) ?_
    show own_F p e below s Z _ _ _ _ _ (TJ.setTop (mkF m 71 #[.val (.ref a1), .val (.ref aI), .val (.int sv), .val (.int v3), .unset] [(.int (sv &&& (3 : Int32)))]))
    refine own_F.of (fun _ => XS.iconst SJ.here SJ.hx rfl (SJ.dec d5_71)) ?_
    show own_F p e below s Z _ _ _ _ _ (TJ.setTop (mkF m 72 #[.val (.ref a1), .val (.ref aI), .val (.int sv), .val (.int v3), .unset] [(.int 3), (.int (sv &&& (3 : Int32)))]))
    refine own_F.of (fun _ => own_irem SJ d5_72 (by decide)) ?_
    show own_F p e below s Z _ _ _ _ _ (TJ.setTop (mkF m 73 #[.val (.ref a1), .val (.ref aI), .val (.int sv), .val (.int v3), .unset] [(.int ((sv &&& (3 : Int32)) % (3 : Int32)))]))
    rcases own_m3 sv with hm | hm | hm
    · rw [hm]
      show own_F p e below s Z _ _ _ _ _ (TJ.setTop (mkF m 73 #[.val (.ref a1), .val (.ref aI), .val (.int sv), .val (.int v3), .unset] [(.int 0)]))
      rcases own_opt (bf 0) with e0 | ⟨k0, e0⟩
      · show own_F p e below s Z _ _ _ _ _ (TJ.setTop (mkF m 73 #[.val (.ref a1), .val (.ref aI), .val (.int sv), .val (.int v3), .unset] [(.int 0)]))
        refine own_F.of (fun _ => XS.istore SJ.here SJ.hx rfl (SJ.dec d5_73) rfl (l' := #[.val (.ref a1), .val (.ref aI), .val (.int sv), .val (.int v3), .val (.int 0)]) rfl) ?_
        refine own_F.of (fun _ => XS.aloadN SJ.here SJ.hx rfl (SJ.dec d5_75) rfl rfl) ?_
        refine own_F.of (fun _ => XS.iload SJ.here SJ.hx rfl (SJ.dec d5_76) rfl) ?_
        show own_F p e below s Z _ _ _ _ _ (TJ.setTop (mkF m 78 #[.val (.ref a1), .val (.ref aI), .val (.int sv), .val (.int v3), .val (.int 0)] [(.int 0), (.ref a1)]))
        refine own_callV SJ (y := (⟨"com/example/slackweave/slackweave/paths/RadixHeap", "push", "(I)V"⟩ : MethodName)) (y' := (⟨"com/example/slackweave/slackweave/paths/RadixHeap", "push", "(I)V"⟩ : MethodName)) (own_w hw 40 rfl) (own_w hw 41 rfl) (own_nf SJ (own_w hw 43 rfl)) (own_w hw 43 rfl) (own_w hw 42 rfl) (own_w hw 44 rfl) (own_w hw 4 rfl) (by decide) E_a1 (argsL := [(.int (0 : Int32))]) (rest := []) (own_pushA0 l Z a0 hw a1 aB aS aK aO aP aI bk Cf bf pf la (own_ct bf) (yf 0) (yf 1) (yf 2) (own_in (bf 0)) (own_in (bf 1)) (own_in (bf 2)) h0 SJ.old (by have hh := HC; rw [show own_enc (bf 0) = (-1 : Int32) by rw [e0]; rfl] at hh; exact hh) AB e0 hla (hyf 0 (by decide))) own_news_sub (by decide +kernel : parseMethodDescriptor "(I)V" = some ⟨[.int], none⟩) rfl rfl rfl d5_78 (by decide) (Nat.le_of_ble_eq_true rfl) (by decide) (by decide) (fun T31 h31 v31 S31 K31 q31 => ?_)
        obtain ⟨rfl, k31', bq31, cq31, pq31, hq31, H31, B31⟩ := q31
        obtain ⟨-, -, E_a1_31, F_buckets_31, F_sizes_31, F_keys_31, F_bucketOf_31, F_positions_31, F_last_31, F_count_31, RB_31, AS_31, AK_31, AO_31, AP_31, AI_31, BK_31⟩ := H31
        show own_F p e below s Z _ _ _ _ _ (T31.setTop (mkF m 81 #[.val (.ref a1), .val (.ref aI), .val (.int sv), .val (.int v3), .val (.int 0)] []))
        refine own_F.of (fun _ => XS.aloadN S31.here S31.hx rfl (S31.dec d5_81) rfl rfl) ?_
        refine own_F.of (fun _ => XS.iload S31.here S31.hx rfl (S31.dec d5_82) rfl) ?_
        refine own_F.of (fun _ => XS.iconst S31.here S31.hx rfl (S31.dec d5_84)) ?_
        show own_F p e below s Z _ _ _ _ _ (T31.setTop (mkF m 85 #[.val (.ref a1), .val (.ref aI), .val (.int sv), .val (.int v3), .val (.int 0)] [(.int 1), (.int 0), (.ref aI)]))
        refine own_zst S31 AI_31 (by decide) (Nat.le_of_ble_eq_true rfl) d5_85 (own_news_may gI) (fun T32 h32 S32 W32 A32 => ?_)
        have V33 : own_A Z h32 aI .boolean [(.int (1 : Int32)), (.int (own_in (bf 1))), (.int (own_in (bf 2)))] := A32
        show own_F p e below s Z _ _ _ _ _ (T32.setTop (mkF m 86 #[.val (.ref a1), .val (.ref aI), .val (.int sv), .val (.int v3), .val (.int 0)] []))
        have fq34 := (E_a1_31.wr W32)
        have fq35 := (F_buckets_31.other W32 (Or.inl n1aI))
        have fq36 := (F_sizes_31.other W32 (Or.inl n1aI))
        have fq37 := (F_keys_31.other W32 (Or.inl n1aI))
        have fq38 := (F_bucketOf_31.other W32 (Or.inl n1aI))
        have fq39 := (F_positions_31.other W32 (Or.inl n1aI))
        have fq40 := (F_last_31.other W32 (Or.inl n1aI))
        have fq41 := (F_count_31.other W32 (Or.inl n1aI))
        have fq42 := (RB_31.other W32 naBaI)
        have fq43 := (AS_31.other W32 naSaI)
        have fq44 := (AK_31.other W32 naKaI)
        have fq45 := (AO_31.other W32 naOaI)
        have fq46 := (AP_31.other W32 naPaI)
        have fq47 := (BK_31.oI AI_31 W32)
        exact J86 T32 h32 _ _ S32 (own_ST.mk ⟨⟨ga, gB, gS, gO, gP, gI⟩, ⟨nSO, nSP, nOP⟩, fq34, fq35, fq36, fq37, fq38, fq39, fq40, fq41, fq42, fq43, fq44, fq45, fq46, V33, fq47⟩ B31 hla (own_ctA (by decide) e0) (by rw [own_up_self]; rfl) (by rw [own_up_ne (by decide)]) (by rw [own_up_ne (by decide)])) v3 (0 : Int32) (by decide) (by decide)
      · show own_F p e below s Z _ _ _ _ _ (TJ.setTop (mkF m 73 #[.val (.ref a1), .val (.ref aI), .val (.int sv), .val (.int v3), .unset] [(.int 0)]))
        refine own_F.of (fun _ => XS.istore SJ.here SJ.hx rfl (SJ.dec d5_73) rfl (l' := #[.val (.ref a1), .val (.ref aI), .val (.int sv), .val (.int v3), .val (.int 0)]) rfl) ?_
        refine own_F.of (fun _ => XS.aloadN SJ.here SJ.hx rfl (SJ.dec d5_75) rfl rfl) ?_
        refine own_F.of (fun _ => XS.iload SJ.here SJ.hx rfl (SJ.dec d5_76) rfl) ?_
        show own_F p e below s Z _ _ _ _ _ (TJ.setTop (mkF m 78 #[.val (.ref a1), .val (.ref aI), .val (.int sv), .val (.int v3), .val (.int 0)] [(.int 0), (.ref a1)]))
        refine own_callV SJ (y := (⟨"com/example/slackweave/slackweave/paths/RadixHeap", "push", "(I)V"⟩ : MethodName)) (y' := (⟨"com/example/slackweave/slackweave/paths/RadixHeap", "push", "(I)V"⟩ : MethodName)) (own_w hw 40 rfl) (own_w hw 41 rfl) (own_nf SJ (own_w hw 43 rfl)) (own_w hw 43 rfl) (own_w hw 42 rfl) (own_w hw 44 rfl) (own_w hw 4 rfl) (by decide) E_a1 (argsL := [(.int (0 : Int32))]) (rest := []) (own_pushP0 l Z a0 hw a1 aB aS aK aO aP aI bk Cf bf pf la (own_ct bf) (yf 0) (yf 1) (yf 2) (own_in (bf 0)) (own_in (bf 1)) (own_in (bf 2)) k0 h0 SJ.old (by have hh := HC; rw [show own_enc (bf 0) = k0.toInt32 by rw [e0]; rfl] at hh; exact hh) AB e0 hla (hyf 0 (by decide))) own_news_sub (by decide +kernel : parseMethodDescriptor "(I)V" = some ⟨[.int], none⟩) rfl rfl rfl d5_78 (by decide) (Nat.le_of_ble_eq_true rfl) (by decide) (by decide) (fun T48 h48 v48 S48 K48 q48 => ?_)
        obtain ⟨rfl, k48', bq48, cq48, pq48, hq48, H48, B48⟩ := q48
        obtain ⟨-, -, E_a1_48, F_buckets_48, F_sizes_48, F_keys_48, F_bucketOf_48, F_positions_48, F_last_48, F_count_48, RB_48, AS_48, AK_48, AO_48, AP_48, AI_48, BK_48⟩ := H48
        show own_F p e below s Z _ _ _ _ _ (T48.setTop (mkF m 81 #[.val (.ref a1), .val (.ref aI), .val (.int sv), .val (.int v3), .val (.int 0)] []))
        refine own_F.of (fun _ => XS.aloadN S48.here S48.hx rfl (S48.dec d5_81) rfl rfl) ?_
        refine own_F.of (fun _ => XS.iload S48.here S48.hx rfl (S48.dec d5_82) rfl) ?_
        refine own_F.of (fun _ => XS.iconst S48.here S48.hx rfl (S48.dec d5_84)) ?_
        show own_F p e below s Z _ _ _ _ _ (T48.setTop (mkF m 85 #[.val (.ref a1), .val (.ref aI), .val (.int sv), .val (.int v3), .val (.int 0)] [(.int 1), (.int 0), (.ref aI)]))
        refine own_zst S48 AI_48 (by decide) (Nat.le_of_ble_eq_true rfl) d5_85 (own_news_may gI) (fun T49 h49 S49 W49 A49 => ?_)
        have V50 : own_A Z h49 aI .boolean [(.int (1 : Int32)), (.int (own_in (bf 1))), (.int (own_in (bf 2)))] := A49
        show own_F p e below s Z _ _ _ _ _ (T49.setTop (mkF m 86 #[.val (.ref a1), .val (.ref aI), .val (.int sv), .val (.int v3), .val (.int 0)] []))
        have fq51 := (E_a1_48.wr W49)
        have fq52 := (F_buckets_48.other W49 (Or.inl n1aI))
        have fq53 := (F_sizes_48.other W49 (Or.inl n1aI))
        have fq54 := (F_keys_48.other W49 (Or.inl n1aI))
        have fq55 := (F_bucketOf_48.other W49 (Or.inl n1aI))
        have fq56 := (F_positions_48.other W49 (Or.inl n1aI))
        have fq57 := (F_last_48.other W49 (Or.inl n1aI))
        have fq58 := (F_count_48.other W49 (Or.inl n1aI))
        have fq59 := (RB_48.other W49 naBaI)
        have fq60 := (AS_48.other W49 naSaI)
        have fq61 := (AK_48.other W49 naKaI)
        have fq62 := (AO_48.other W49 naOaI)
        have fq63 := (AP_48.other W49 naPaI)
        have fq64 := (BK_48.oI AI_48 W49)
        exact J86 T49 h49 _ _ S49 (own_ST.mk ⟨⟨ga, gB, gS, gO, gP, gI⟩, ⟨nSO, nSP, nOP⟩, fq51, fq52, fq53, fq54, fq55, fq56, fq57, fq58, fq59, fq60, fq61, fq62, fq63, V50, fq64⟩ B48 hla (own_ctP (by decide) e0) (by rw [own_up_self]; rfl) (by rw [own_up_ne (by decide)]) (by rw [own_up_ne (by decide)])) v3 (0 : Int32) (by decide) (by decide)
    · rw [hm]
      show own_F p e below s Z _ _ _ _ _ (TJ.setTop (mkF m 73 #[.val (.ref a1), .val (.ref aI), .val (.int sv), .val (.int v3), .unset] [(.int 1)]))
      rcases own_opt (bf 1) with e1 | ⟨k1, e1⟩
      · show own_F p e below s Z _ _ _ _ _ (TJ.setTop (mkF m 73 #[.val (.ref a1), .val (.ref aI), .val (.int sv), .val (.int v3), .unset] [(.int 1)]))
        refine own_F.of (fun _ => XS.istore SJ.here SJ.hx rfl (SJ.dec d5_73) rfl (l' := #[.val (.ref a1), .val (.ref aI), .val (.int sv), .val (.int v3), .val (.int 1)]) rfl) ?_
        refine own_F.of (fun _ => XS.aloadN SJ.here SJ.hx rfl (SJ.dec d5_75) rfl rfl) ?_
        refine own_F.of (fun _ => XS.iload SJ.here SJ.hx rfl (SJ.dec d5_76) rfl) ?_
        show own_F p e below s Z _ _ _ _ _ (TJ.setTop (mkF m 78 #[.val (.ref a1), .val (.ref aI), .val (.int sv), .val (.int v3), .val (.int 1)] [(.int 1), (.ref a1)]))
        refine own_callV SJ (y := (⟨"com/example/slackweave/slackweave/paths/RadixHeap", "push", "(I)V"⟩ : MethodName)) (y' := (⟨"com/example/slackweave/slackweave/paths/RadixHeap", "push", "(I)V"⟩ : MethodName)) (own_w hw 40 rfl) (own_w hw 41 rfl) (own_nf SJ (own_w hw 43 rfl)) (own_w hw 43 rfl) (own_w hw 42 rfl) (own_w hw 44 rfl) (own_w hw 4 rfl) (by decide) E_a1 (argsL := [(.int (1 : Int32))]) (rest := []) (own_pushA1 l Z a0 hw a1 aB aS aK aO aP aI bk Cf bf pf la (own_ct bf) (yf 0) (yf 1) (yf 2) (own_in (bf 0)) (own_in (bf 1)) (own_in (bf 2)) h0 SJ.old (by have hh := HC; rw [show own_enc (bf 1) = (-1 : Int32) by rw [e1]; rfl] at hh; exact hh) AB e1 hla (hyf 1 (by decide))) own_news_sub (by decide +kernel : parseMethodDescriptor "(I)V" = some ⟨[.int], none⟩) rfl rfl rfl d5_78 (by decide) (Nat.le_of_ble_eq_true rfl) (by decide) (by decide) (fun T65 h65 v65 S65 K65 q65 => ?_)
        obtain ⟨rfl, k65', bq65, cq65, pq65, hq65, H65, B65⟩ := q65
        obtain ⟨-, -, E_a1_65, F_buckets_65, F_sizes_65, F_keys_65, F_bucketOf_65, F_positions_65, F_last_65, F_count_65, RB_65, AS_65, AK_65, AO_65, AP_65, AI_65, BK_65⟩ := H65
        show own_F p e below s Z _ _ _ _ _ (T65.setTop (mkF m 81 #[.val (.ref a1), .val (.ref aI), .val (.int sv), .val (.int v3), .val (.int 1)] []))
        refine own_F.of (fun _ => XS.aloadN S65.here S65.hx rfl (S65.dec d5_81) rfl rfl) ?_
        refine own_F.of (fun _ => XS.iload S65.here S65.hx rfl (S65.dec d5_82) rfl) ?_
        refine own_F.of (fun _ => XS.iconst S65.here S65.hx rfl (S65.dec d5_84)) ?_
        show own_F p e below s Z _ _ _ _ _ (T65.setTop (mkF m 85 #[.val (.ref a1), .val (.ref aI), .val (.int sv), .val (.int v3), .val (.int 1)] [(.int 1), (.int 1), (.ref aI)]))
        refine own_zst S65 AI_65 (by decide) (Nat.le_of_ble_eq_true rfl) d5_85 (own_news_may gI) (fun T66 h66 S66 W66 A66 => ?_)
        have V67 : own_A Z h66 aI .boolean [(.int (own_in (bf 0))), (.int (1 : Int32)), (.int (own_in (bf 2)))] := A66
        show own_F p e below s Z _ _ _ _ _ (T66.setTop (mkF m 86 #[.val (.ref a1), .val (.ref aI), .val (.int sv), .val (.int v3), .val (.int 1)] []))
        have fq68 := (E_a1_65.wr W66)
        have fq69 := (F_buckets_65.other W66 (Or.inl n1aI))
        have fq70 := (F_sizes_65.other W66 (Or.inl n1aI))
        have fq71 := (F_keys_65.other W66 (Or.inl n1aI))
        have fq72 := (F_bucketOf_65.other W66 (Or.inl n1aI))
        have fq73 := (F_positions_65.other W66 (Or.inl n1aI))
        have fq74 := (F_last_65.other W66 (Or.inl n1aI))
        have fq75 := (F_count_65.other W66 (Or.inl n1aI))
        have fq76 := (RB_65.other W66 naBaI)
        have fq77 := (AS_65.other W66 naSaI)
        have fq78 := (AK_65.other W66 naKaI)
        have fq79 := (AO_65.other W66 naOaI)
        have fq80 := (AP_65.other W66 naPaI)
        have fq81 := (BK_65.oI AI_65 W66)
        exact J86 T66 h66 _ _ S66 (own_ST.mk ⟨⟨ga, gB, gS, gO, gP, gI⟩, ⟨nSO, nSP, nOP⟩, fq68, fq69, fq70, fq71, fq72, fq73, fq74, fq75, fq76, fq77, fq78, fq79, fq80, V67, fq81⟩ B65 hla (own_ctA (by decide) e1) (by rw [own_up_ne (by decide)]) (by rw [own_up_self]; rfl) (by rw [own_up_ne (by decide)])) v3 (1 : Int32) (by decide) (by decide)
      · show own_F p e below s Z _ _ _ _ _ (TJ.setTop (mkF m 73 #[.val (.ref a1), .val (.ref aI), .val (.int sv), .val (.int v3), .unset] [(.int 1)]))
        refine own_F.of (fun _ => XS.istore SJ.here SJ.hx rfl (SJ.dec d5_73) rfl (l' := #[.val (.ref a1), .val (.ref aI), .val (.int sv), .val (.int v3), .val (.int 1)]) rfl) ?_
        refine own_F.of (fun _ => XS.aloadN SJ.here SJ.hx rfl (SJ.dec d5_75) rfl rfl) ?_
        refine own_F.of (fun _ => XS.iload SJ.here SJ.hx rfl (SJ.dec d5_76) rfl) ?_
        show own_F p e below s Z _ _ _ _ _ (TJ.setTop (mkF m 78 #[.val (.ref a1), .val (.ref aI), .val (.int sv), .val (.int v3), .val (.int 1)] [(.int 1), (.ref a1)]))
        refine own_callV SJ (y := (⟨"com/example/slackweave/slackweave/paths/RadixHeap", "push", "(I)V"⟩ : MethodName)) (y' := (⟨"com/example/slackweave/slackweave/paths/RadixHeap", "push", "(I)V"⟩ : MethodName)) (own_w hw 40 rfl) (own_w hw 41 rfl) (own_nf SJ (own_w hw 43 rfl)) (own_w hw 43 rfl) (own_w hw 42 rfl) (own_w hw 44 rfl) (own_w hw 4 rfl) (by decide) E_a1 (argsL := [(.int (1 : Int32))]) (rest := []) (own_pushP1 l Z a0 hw a1 aB aS aK aO aP aI bk Cf bf pf la (own_ct bf) (yf 0) (yf 1) (yf 2) (own_in (bf 0)) (own_in (bf 1)) (own_in (bf 2)) k1 h0 SJ.old (by have hh := HC; rw [show own_enc (bf 1) = k1.toInt32 by rw [e1]; rfl] at hh; exact hh) AB e1 hla (hyf 1 (by decide))) own_news_sub (by decide +kernel : parseMethodDescriptor "(I)V" = some ⟨[.int], none⟩) rfl rfl rfl d5_78 (by decide) (Nat.le_of_ble_eq_true rfl) (by decide) (by decide) (fun T82 h82 v82 S82 K82 q82 => ?_)
        obtain ⟨rfl, k82', bq82, cq82, pq82, hq82, H82, B82⟩ := q82
        obtain ⟨-, -, E_a1_82, F_buckets_82, F_sizes_82, F_keys_82, F_bucketOf_82, F_positions_82, F_last_82, F_count_82, RB_82, AS_82, AK_82, AO_82, AP_82, AI_82, BK_82⟩ := H82
        show own_F p e below s Z _ _ _ _ _ (T82.setTop (mkF m 81 #[.val (.ref a1), .val (.ref aI), .val (.int sv), .val (.int v3), .val (.int 1)] []))
        refine own_F.of (fun _ => XS.aloadN S82.here S82.hx rfl (S82.dec d5_81) rfl rfl) ?_
        refine own_F.of (fun _ => XS.iload S82.here S82.hx rfl (S82.dec d5_82) rfl) ?_
        refine own_F.of (fun _ => XS.iconst S82.here S82.hx rfl (S82.dec d5_84)) ?_
        show own_F p e below s Z _ _ _ _ _ (T82.setTop (mkF m 85 #[.val (.ref a1), .val (.ref aI), .val (.int sv), .val (.int v3), .val (.int 1)] [(.int 1), (.int 1), (.ref aI)]))
        refine own_zst S82 AI_82 (by decide) (Nat.le_of_ble_eq_true rfl) d5_85 (own_news_may gI) (fun T83 h83 S83 W83 A83 => ?_)
        have V84 : own_A Z h83 aI .boolean [(.int (own_in (bf 0))), (.int (1 : Int32)), (.int (own_in (bf 2)))] := A83
        show own_F p e below s Z _ _ _ _ _ (T83.setTop (mkF m 86 #[.val (.ref a1), .val (.ref aI), .val (.int sv), .val (.int v3), .val (.int 1)] []))
        have fq85 := (E_a1_82.wr W83)
        have fq86 := (F_buckets_82.other W83 (Or.inl n1aI))
        have fq87 := (F_sizes_82.other W83 (Or.inl n1aI))
        have fq88 := (F_keys_82.other W83 (Or.inl n1aI))
        have fq89 := (F_bucketOf_82.other W83 (Or.inl n1aI))
        have fq90 := (F_positions_82.other W83 (Or.inl n1aI))
        have fq91 := (F_last_82.other W83 (Or.inl n1aI))
        have fq92 := (F_count_82.other W83 (Or.inl n1aI))
        have fq93 := (RB_82.other W83 naBaI)
        have fq94 := (AS_82.other W83 naSaI)
        have fq95 := (AK_82.other W83 naKaI)
        have fq96 := (AO_82.other W83 naOaI)
        have fq97 := (AP_82.other W83 naPaI)
        have fq98 := (BK_82.oI AI_82 W83)
        exact J86 T83 h83 _ _ S83 (own_ST.mk ⟨⟨ga, gB, gS, gO, gP, gI⟩, ⟨nSO, nSP, nOP⟩, fq85, fq86, fq87, fq88, fq89, fq90, fq91, fq92, fq93, fq94, fq95, fq96, fq97, V84, fq98⟩ B82 hla (own_ctP (by decide) e1) (by rw [own_up_ne (by decide)]) (by rw [own_up_self]; rfl) (by rw [own_up_ne (by decide)])) v3 (1 : Int32) (by decide) (by decide)
    · rw [hm]
      show own_F p e below s Z _ _ _ _ _ (TJ.setTop (mkF m 73 #[.val (.ref a1), .val (.ref aI), .val (.int sv), .val (.int v3), .unset] [(.int 2)]))
      rcases own_opt (bf 2) with e2 | ⟨k2, e2⟩
      · show own_F p e below s Z _ _ _ _ _ (TJ.setTop (mkF m 73 #[.val (.ref a1), .val (.ref aI), .val (.int sv), .val (.int v3), .unset] [(.int 2)]))
        refine own_F.of (fun _ => XS.istore SJ.here SJ.hx rfl (SJ.dec d5_73) rfl (l' := #[.val (.ref a1), .val (.ref aI), .val (.int sv), .val (.int v3), .val (.int 2)]) rfl) ?_
        refine own_F.of (fun _ => XS.aloadN SJ.here SJ.hx rfl (SJ.dec d5_75) rfl rfl) ?_
        refine own_F.of (fun _ => XS.iload SJ.here SJ.hx rfl (SJ.dec d5_76) rfl) ?_
        show own_F p e below s Z _ _ _ _ _ (TJ.setTop (mkF m 78 #[.val (.ref a1), .val (.ref aI), .val (.int sv), .val (.int v3), .val (.int 2)] [(.int 2), (.ref a1)]))
        refine own_callV SJ (y := (⟨"com/example/slackweave/slackweave/paths/RadixHeap", "push", "(I)V"⟩ : MethodName)) (y' := (⟨"com/example/slackweave/slackweave/paths/RadixHeap", "push", "(I)V"⟩ : MethodName)) (own_w hw 40 rfl) (own_w hw 41 rfl) (own_nf SJ (own_w hw 43 rfl)) (own_w hw 43 rfl) (own_w hw 42 rfl) (own_w hw 44 rfl) (own_w hw 4 rfl) (by decide) E_a1 (argsL := [(.int (2 : Int32))]) (rest := []) (own_pushA2 l Z a0 hw a1 aB aS aK aO aP aI bk Cf bf pf la (own_ct bf) (yf 0) (yf 1) (yf 2) (own_in (bf 0)) (own_in (bf 1)) (own_in (bf 2)) h0 SJ.old (by have hh := HC; rw [show own_enc (bf 2) = (-1 : Int32) by rw [e2]; rfl] at hh; exact hh) AB e2 hla (hyf 2 (by decide))) own_news_sub (by decide +kernel : parseMethodDescriptor "(I)V" = some ⟨[.int], none⟩) rfl rfl rfl d5_78 (by decide) (Nat.le_of_ble_eq_true rfl) (by decide) (by decide) (fun T99 h99 v99 S99 K99 q99 => ?_)
        obtain ⟨rfl, k99', bq99, cq99, pq99, hq99, H99, B99⟩ := q99
        obtain ⟨-, -, E_a1_99, F_buckets_99, F_sizes_99, F_keys_99, F_bucketOf_99, F_positions_99, F_last_99, F_count_99, RB_99, AS_99, AK_99, AO_99, AP_99, AI_99, BK_99⟩ := H99
        show own_F p e below s Z _ _ _ _ _ (T99.setTop (mkF m 81 #[.val (.ref a1), .val (.ref aI), .val (.int sv), .val (.int v3), .val (.int 2)] []))
        refine own_F.of (fun _ => XS.aloadN S99.here S99.hx rfl (S99.dec d5_81) rfl rfl) ?_
        refine own_F.of (fun _ => XS.iload S99.here S99.hx rfl (S99.dec d5_82) rfl) ?_
        refine own_F.of (fun _ => XS.iconst S99.here S99.hx rfl (S99.dec d5_84)) ?_
        show own_F p e below s Z _ _ _ _ _ (T99.setTop (mkF m 85 #[.val (.ref a1), .val (.ref aI), .val (.int sv), .val (.int v3), .val (.int 2)] [(.int 1), (.int 2), (.ref aI)]))
        refine own_zst S99 AI_99 (by decide) (Nat.le_of_ble_eq_true rfl) d5_85 (own_news_may gI) (fun T100 h100 S100 W100 A100 => ?_)
        have V101 : own_A Z h100 aI .boolean [(.int (own_in (bf 0))), (.int (own_in (bf 1))), (.int (1 : Int32))] := A100
        show own_F p e below s Z _ _ _ _ _ (T100.setTop (mkF m 86 #[.val (.ref a1), .val (.ref aI), .val (.int sv), .val (.int v3), .val (.int 2)] []))
        have fq102 := (E_a1_99.wr W100)
        have fq103 := (F_buckets_99.other W100 (Or.inl n1aI))
        have fq104 := (F_sizes_99.other W100 (Or.inl n1aI))
        have fq105 := (F_keys_99.other W100 (Or.inl n1aI))
        have fq106 := (F_bucketOf_99.other W100 (Or.inl n1aI))
        have fq107 := (F_positions_99.other W100 (Or.inl n1aI))
        have fq108 := (F_last_99.other W100 (Or.inl n1aI))
        have fq109 := (F_count_99.other W100 (Or.inl n1aI))
        have fq110 := (RB_99.other W100 naBaI)
        have fq111 := (AS_99.other W100 naSaI)
        have fq112 := (AK_99.other W100 naKaI)
        have fq113 := (AO_99.other W100 naOaI)
        have fq114 := (AP_99.other W100 naPaI)
        have fq115 := (BK_99.oI AI_99 W100)
        exact J86 T100 h100 _ _ S100 (own_ST.mk ⟨⟨ga, gB, gS, gO, gP, gI⟩, ⟨nSO, nSP, nOP⟩, fq102, fq103, fq104, fq105, fq106, fq107, fq108, fq109, fq110, fq111, fq112, fq113, fq114, V101, fq115⟩ B99 hla (own_ctA (by decide) e2) (by rw [own_up_ne (by decide)]) (by rw [own_up_ne (by decide)]) (by rw [own_up_self]; rfl)) v3 (2 : Int32) (by decide) (by decide)
      · show own_F p e below s Z _ _ _ _ _ (TJ.setTop (mkF m 73 #[.val (.ref a1), .val (.ref aI), .val (.int sv), .val (.int v3), .unset] [(.int 2)]))
        refine own_F.of (fun _ => XS.istore SJ.here SJ.hx rfl (SJ.dec d5_73) rfl (l' := #[.val (.ref a1), .val (.ref aI), .val (.int sv), .val (.int v3), .val (.int 2)]) rfl) ?_
        refine own_F.of (fun _ => XS.aloadN SJ.here SJ.hx rfl (SJ.dec d5_75) rfl rfl) ?_
        refine own_F.of (fun _ => XS.iload SJ.here SJ.hx rfl (SJ.dec d5_76) rfl) ?_
        show own_F p e below s Z _ _ _ _ _ (TJ.setTop (mkF m 78 #[.val (.ref a1), .val (.ref aI), .val (.int sv), .val (.int v3), .val (.int 2)] [(.int 2), (.ref a1)]))
        refine own_callV SJ (y := (⟨"com/example/slackweave/slackweave/paths/RadixHeap", "push", "(I)V"⟩ : MethodName)) (y' := (⟨"com/example/slackweave/slackweave/paths/RadixHeap", "push", "(I)V"⟩ : MethodName)) (own_w hw 40 rfl) (own_w hw 41 rfl) (own_nf SJ (own_w hw 43 rfl)) (own_w hw 43 rfl) (own_w hw 42 rfl) (own_w hw 44 rfl) (own_w hw 4 rfl) (by decide) E_a1 (argsL := [(.int (2 : Int32))]) (rest := []) (own_pushP2 l Z a0 hw a1 aB aS aK aO aP aI bk Cf bf pf la (own_ct bf) (yf 0) (yf 1) (yf 2) (own_in (bf 0)) (own_in (bf 1)) (own_in (bf 2)) k2 h0 SJ.old (by have hh := HC; rw [show own_enc (bf 2) = k2.toInt32 by rw [e2]; rfl] at hh; exact hh) AB e2 hla (hyf 2 (by decide))) own_news_sub (by decide +kernel : parseMethodDescriptor "(I)V" = some ⟨[.int], none⟩) rfl rfl rfl d5_78 (by decide) (Nat.le_of_ble_eq_true rfl) (by decide) (by decide) (fun T116 h116 v116 S116 K116 q116 => ?_)
        obtain ⟨rfl, k116', bq116, cq116, pq116, hq116, H116, B116⟩ := q116
        obtain ⟨-, -, E_a1_116, F_buckets_116, F_sizes_116, F_keys_116, F_bucketOf_116, F_positions_116, F_last_116, F_count_116, RB_116, AS_116, AK_116, AO_116, AP_116, AI_116, BK_116⟩ := H116
        show own_F p e below s Z _ _ _ _ _ (T116.setTop (mkF m 81 #[.val (.ref a1), .val (.ref aI), .val (.int sv), .val (.int v3), .val (.int 2)] []))
        refine own_F.of (fun _ => XS.aloadN S116.here S116.hx rfl (S116.dec d5_81) rfl rfl) ?_
        refine own_F.of (fun _ => XS.iload S116.here S116.hx rfl (S116.dec d5_82) rfl) ?_
        refine own_F.of (fun _ => XS.iconst S116.here S116.hx rfl (S116.dec d5_84)) ?_
        show own_F p e below s Z _ _ _ _ _ (T116.setTop (mkF m 85 #[.val (.ref a1), .val (.ref aI), .val (.int sv), .val (.int v3), .val (.int 2)] [(.int 1), (.int 2), (.ref aI)]))
        refine own_zst S116 AI_116 (by decide) (Nat.le_of_ble_eq_true rfl) d5_85 (own_news_may gI) (fun T117 h117 S117 W117 A117 => ?_)
        have V118 : own_A Z h117 aI .boolean [(.int (own_in (bf 0))), (.int (own_in (bf 1))), (.int (1 : Int32))] := A117
        show own_F p e below s Z _ _ _ _ _ (T117.setTop (mkF m 86 #[.val (.ref a1), .val (.ref aI), .val (.int sv), .val (.int v3), .val (.int 2)] []))
        have fq119 := (E_a1_116.wr W117)
        have fq120 := (F_buckets_116.other W117 (Or.inl n1aI))
        have fq121 := (F_sizes_116.other W117 (Or.inl n1aI))
        have fq122 := (F_keys_116.other W117 (Or.inl n1aI))
        have fq123 := (F_bucketOf_116.other W117 (Or.inl n1aI))
        have fq124 := (F_positions_116.other W117 (Or.inl n1aI))
        have fq125 := (F_last_116.other W117 (Or.inl n1aI))
        have fq126 := (F_count_116.other W117 (Or.inl n1aI))
        have fq127 := (RB_116.other W117 naBaI)
        have fq128 := (AS_116.other W117 naSaI)
        have fq129 := (AK_116.other W117 naKaI)
        have fq130 := (AO_116.other W117 naOaI)
        have fq131 := (AP_116.other W117 naPaI)
        have fq132 := (BK_116.oI AI_116 W117)
        exact J86 T117 h117 _ _ S117 (own_ST.mk ⟨⟨ga, gB, gS, gO, gP, gI⟩, ⟨nSO, nSP, nOP⟩, fq119, fq120, fq121, fq122, fq123, fq124, fq125, fq126, fq127, fq128, fq129, fq130, fq131, V118, fq132⟩ B116 hla (own_ctP (by decide) e2) (by rw [own_up_ne (by decide)]) (by rw [own_up_ne (by decide)]) (by rw [own_up_self]; rfl)) v3 (2 : Int32) (by decide) (by decide)
  show own_F p e below s Z _ _ _ _ _ (T0.setTop (mkF m 0 #[.val (.ref a1), .val (.ref aI), .val (.int sv), .unset, .unset] []))
  obtain ⟨bk, Cf, bf, pf, la, H, AB, hla⟩ := ST
  rcases own_opt (bf 0) with e0 | ⟨k0, e0⟩ <;> rcases own_opt (bf 1) with e1 | ⟨k1, e1⟩ <;> rcases own_opt (bf 2) with e2 | ⟨k2, e2⟩
  · have g0 : own_in (bf 0) = (0 : Int32) := by rw [e0]; rfl
    have g1 : own_in (bf 1) = (0 : Int32) := by rw [e1]; rfl
    have g2 : own_in (bf 2) = (0 : Int32) := by rw [e2]; rfl
    have gc : own_ct bf = (0 : Int32) := by unfold own_ct; rw [g0, g1, g2]; rfl
    rw [gc, g0, g1, g2] at H
    have HC := H
    obtain ⟨⟨ga, gB, gS, gO, gP, gI⟩, ⟨nSO, nSP, nOP⟩, E_a1, F_buckets, F_sizes, F_keys, F_bucketOf, F_positions, F_last, F_count, RB, AS, AK, AO, AP, AI, BK⟩ := H
    have n1aB := own_neA E_a1 (own_w hw 3 rfl) RB.A
    have naBaS := own_A.neT RB.A AS (by decide)
    have naBaK := own_A.neT RB.A AK (by decide)
    have naBaO := own_A.neT RB.A AO (by decide)
    have naBaP := own_A.neT RB.A AP (by decide)
    have naBaI := own_A.neT RB.A AI (by decide)
    have n1aS := own_neA E_a1 (own_w hw 3 rfl) AS
    have naSaK := own_A.neT AS AK (by decide)
    have naSaI := own_A.neT AS AI (by decide)
    have n1aK := own_neA E_a1 (own_w hw 3 rfl) AK
    have naKaO := own_A.neT AK AO (by decide)
    have naKaP := own_A.neT AK AP (by decide)
    have naKaI := own_A.neT AK AI (by decide)
    have n1aO := own_neA E_a1 (own_w hw 3 rfl) AO
    have naOaI := own_A.neT AO AI (by decide)
    have n1aP := own_neA E_a1 (own_w hw 3 rfl) AP
    have naPaI := own_A.neT AP AI (by decide)
    have n1aI := own_neA E_a1 (own_w hw 3 rfl) AI
    show own_F p e below s Z _ _ _ _ _ (T0.setTop (mkF m 0 #[.val (.ref a1), .val (.ref aI), .val (.int sv), .unset, .unset] []))
    refine own_F.of (fun _ => XS.aloadN S0.here S0.hx rfl (S0.dec d5_0) rfl rfl) ?_
    refine own_F.of (fun _ => XS.iconst S0.here S0.hx rfl (S0.dec d5_1)) ?_
    show own_F p e below s Z _ _ _ _ _ (T0.setTop (mkF m 2 #[.val (.ref a1), .val (.ref aI), .val (.int sv), .unset, .unset] [(.int 0), (.ref aI)]))
    refine own_zald S0 AI (by decide) rfl d5_2 ?_
    show own_F p e below s Z _ _ _ _ _ (T0.setTop (mkF m 3 #[.val (.ref a1), .val (.ref aI), .val (.int sv), .unset, .unset] [(.int 0)]))
    refine own_if S0 18 d5_3 (by decide) (by decide) (fun (hc3_133 : ¬ ((0 : Int32) = (0 : Int32))) => False.elim (absurd hc3_133 (by decide))) (fun (hc3_133 : (0 : Int32) = (0 : Int32)) => ?_)
    show own_F p e below s Z _ _ _ _ _ (T0.setTop (mkF m 6 #[.val (.ref a1), .val (.ref aI), .val (.int sv), .unset, .unset] []))
    refine own_F.of (fun _ => XS.aloadN S0.here S0.hx rfl (S0.dec d5_6) rfl rfl) ?_
    refine own_F.of (fun _ => XS.iconst S0.here S0.hx rfl (S0.dec d5_7)) ?_
    show own_F p e below s Z _ _ _ _ _ (T0.setTop (mkF m 8 #[.val (.ref a1), .val (.ref aI), .val (.int sv), .unset, .unset] [(.int 1), (.ref aI)]))
    refine own_zald S0 AI (by decide) rfl d5_8 ?_
    show own_F p e below s Z _ _ _ _ _ (T0.setTop (mkF m 9 #[.val (.ref a1), .val (.ref aI), .val (.int sv), .unset, .unset] [(.int 0)]))
    refine own_if S0 18 d5_9 (by decide) (by decide) (fun (hc9_134 : ¬ ((0 : Int32) = (0 : Int32))) => False.elim (absurd hc9_134 (by decide))) (fun (hc9_134 : (0 : Int32) = (0 : Int32)) => ?_)
    show own_F p e below s Z _ _ _ _ _ (T0.setTop (mkF m 12 #[.val (.ref a1), .val (.ref aI), .val (.int sv), .unset, .unset] []))
    refine own_F.of (fun _ => XS.aloadN S0.here S0.hx rfl (S0.dec d5_12) rfl rfl) ?_
    refine own_F.of (fun _ => XS.iconst S0.here S0.hx rfl (S0.dec d5_13)) ?_
    show own_F p e below s Z _ _ _ _ _ (T0.setTop (mkF m 14 #[.val (.ref a1), .val (.ref aI), .val (.int sv), .unset, .unset] [(.int 2), (.ref aI)]))
    refine own_zald S0 AI (by decide) rfl d5_14 ?_
    show own_F p e below s Z _ _ _ _ _ (T0.setTop (mkF m 15 #[.val (.ref a1), .val (.ref aI), .val (.int sv), .unset, .unset] [(.int 0)]))
    refine own_if S0 22 d5_15 (by decide) (by decide) (fun (hc15_135 : (0 : Int32) = (0 : Int32)) => ?_) (fun (hc15_135 : ¬ ((0 : Int32) = (0 : Int32))) => False.elim (absurd hc15_135 (by decide)))
    show own_F p e below s Z _ _ _ _ _ (T0.setTop (mkF m 22 #[.val (.ref a1), .val (.ref aI), .val (.int sv), .unset, .unset] []))
    refine own_F.of (fun _ => XS.iconst S0.here S0.hx rfl (S0.dec d5_22)) ?_
    show own_F p e below s Z _ _ _ _ _ (T0.setTop (mkF m 23 #[.val (.ref a1), .val (.ref aI), .val (.int sv), .unset, .unset] [(.int 0)]))
    refine own_F.of (fun _ => XS.istoreN S0.here S0.hx rfl (S0.dec d5_23) rfl (l' := #[.val (.ref a1), .val (.ref aI), .val (.int sv), .val (.int 0), .unset]) rfl) ?_
    refine own_F.of (fun _ => XS.iloadN S0.here S0.hx rfl (S0.dec d5_24) rfl) ?_
    refine own_F.of (fun _ => XS.iconst S0.here S0.hx rfl (S0.dec d5_25)) ?_
    show own_F p e below s Z _ _ _ _ _ (T0.setTop (mkF m 26 #[.val (.ref a1), .val (.ref aI), .val (.int sv), .val (.int 0), .unset] [(.int 4), (.int sv)]))
    refine own_F.of (fun _ => XS.iand S0.here S0.hx rfl (S0.dec d5_26) rfl) ?_
    show own_F p e below s Z _ _ _ _ _ (T0.setTop (mkF m 27 #[.val (.ref a1), .val (.ref aI), .val (.int sv), .val (.int 0), .unset] [(.int (sv &&& (4 : Int32)))]))
    refine own_if S0 68 d5_27 (by decide) (by decide) (fun (hc27_136 : (sv &&& (4 : Int32)) = (0 : Int32)) => ?_) (fun (hc27_136 : ¬ ((sv &&& (4 : Int32)) = (0 : Int32))) => ?_)
    · show own_F p e below s Z _ _ _ _ _ (T0.setTop (mkF m 68 #[.val (.ref a1), .val (.ref aI), .val (.int sv), .val (.int 0), .unset] []))
      exact J68 T0 S0 (0 : Int32)
    · show own_F p e below s Z _ _ _ _ _ (T0.setTop (mkF m 30 #[.val (.ref a1), .val (.ref aI), .val (.int sv), .val (.int 0), .unset] []))
      refine own_F.of (fun _ => XS.iloadN S0.here S0.hx rfl (S0.dec d5_30) rfl) ?_
      show own_F p e below s Z _ _ _ _ _ (T0.setTop (mkF m 31 #[.val (.ref a1), .val (.ref aI), .val (.int sv), .val (.int 0), .unset] [(.int 0)]))
      refine own_if S0 68 d5_31 (by decide) (by decide) (fun (hc31_137 : (0 : Int32) = (0 : Int32)) => ?_) (fun (hc31_137 : ¬ ((0 : Int32) = (0 : Int32))) => False.elim (absurd hc31_137 (by decide)))
      show own_F p e below s Z _ _ _ _ _ (T0.setTop (mkF m 68 #[.val (.ref a1), .val (.ref aI), .val (.int sv), .val (.int 0), .unset] []))
      exact J68 T0 S0 (0 : Int32)
  · have g0 : own_in (bf 0) = (0 : Int32) := by rw [e0]; rfl
    have g1 : own_in (bf 1) = (0 : Int32) := by rw [e1]; rfl
    have g2 : own_in (bf 2) = (1 : Int32) := by rw [e2]; rfl
    have gc : own_ct bf = (1 : Int32) := by unfold own_ct; rw [g0, g1, g2]; rfl
    rw [gc, g0, g1, g2] at H
    have HC := H
    obtain ⟨⟨ga, gB, gS, gO, gP, gI⟩, ⟨nSO, nSP, nOP⟩, E_a1, F_buckets, F_sizes, F_keys, F_bucketOf, F_positions, F_last, F_count, RB, AS, AK, AO, AP, AI, BK⟩ := H
    have n1aB := own_neA E_a1 (own_w hw 3 rfl) RB.A
    have naBaS := own_A.neT RB.A AS (by decide)
    have naBaK := own_A.neT RB.A AK (by decide)
    have naBaO := own_A.neT RB.A AO (by decide)
    have naBaP := own_A.neT RB.A AP (by decide)
    have naBaI := own_A.neT RB.A AI (by decide)
    have n1aS := own_neA E_a1 (own_w hw 3 rfl) AS
    have naSaK := own_A.neT AS AK (by decide)
    have naSaI := own_A.neT AS AI (by decide)
    have n1aK := own_neA E_a1 (own_w hw 3 rfl) AK
    have naKaO := own_A.neT AK AO (by decide)
    have naKaP := own_A.neT AK AP (by decide)
    have naKaI := own_A.neT AK AI (by decide)
    have n1aO := own_neA E_a1 (own_w hw 3 rfl) AO
    have naOaI := own_A.neT AO AI (by decide)
    have n1aP := own_neA E_a1 (own_w hw 3 rfl) AP
    have naPaI := own_A.neT AP AI (by decide)
    have n1aI := own_neA E_a1 (own_w hw 3 rfl) AI
    show own_F p e below s Z _ _ _ _ _ (T0.setTop (mkF m 0 #[.val (.ref a1), .val (.ref aI), .val (.int sv), .unset, .unset] []))
    refine own_F.of (fun _ => XS.aloadN S0.here S0.hx rfl (S0.dec d5_0) rfl rfl) ?_
    refine own_F.of (fun _ => XS.iconst S0.here S0.hx rfl (S0.dec d5_1)) ?_
    show own_F p e below s Z _ _ _ _ _ (T0.setTop (mkF m 2 #[.val (.ref a1), .val (.ref aI), .val (.int sv), .unset, .unset] [(.int 0), (.ref aI)]))
    refine own_zald S0 AI (by decide) rfl d5_2 ?_
    show own_F p e below s Z _ _ _ _ _ (T0.setTop (mkF m 3 #[.val (.ref a1), .val (.ref aI), .val (.int sv), .unset, .unset] [(.int 0)]))
    refine own_if S0 18 d5_3 (by decide) (by decide) (fun (hc3_138 : ¬ ((0 : Int32) = (0 : Int32))) => False.elim (absurd hc3_138 (by decide))) (fun (hc3_138 : (0 : Int32) = (0 : Int32)) => ?_)
    show own_F p e below s Z _ _ _ _ _ (T0.setTop (mkF m 6 #[.val (.ref a1), .val (.ref aI), .val (.int sv), .unset, .unset] []))
    refine own_F.of (fun _ => XS.aloadN S0.here S0.hx rfl (S0.dec d5_6) rfl rfl) ?_
    refine own_F.of (fun _ => XS.iconst S0.here S0.hx rfl (S0.dec d5_7)) ?_
    show own_F p e below s Z _ _ _ _ _ (T0.setTop (mkF m 8 #[.val (.ref a1), .val (.ref aI), .val (.int sv), .unset, .unset] [(.int 1), (.ref aI)]))
    refine own_zald S0 AI (by decide) rfl d5_8 ?_
    show own_F p e below s Z _ _ _ _ _ (T0.setTop (mkF m 9 #[.val (.ref a1), .val (.ref aI), .val (.int sv), .unset, .unset] [(.int 0)]))
    refine own_if S0 18 d5_9 (by decide) (by decide) (fun (hc9_139 : ¬ ((0 : Int32) = (0 : Int32))) => False.elim (absurd hc9_139 (by decide))) (fun (hc9_139 : (0 : Int32) = (0 : Int32)) => ?_)
    show own_F p e below s Z _ _ _ _ _ (T0.setTop (mkF m 12 #[.val (.ref a1), .val (.ref aI), .val (.int sv), .unset, .unset] []))
    refine own_F.of (fun _ => XS.aloadN S0.here S0.hx rfl (S0.dec d5_12) rfl rfl) ?_
    refine own_F.of (fun _ => XS.iconst S0.here S0.hx rfl (S0.dec d5_13)) ?_
    show own_F p e below s Z _ _ _ _ _ (T0.setTop (mkF m 14 #[.val (.ref a1), .val (.ref aI), .val (.int sv), .unset, .unset] [(.int 2), (.ref aI)]))
    refine own_zald S0 AI (by decide) rfl d5_14 ?_
    show own_F p e below s Z _ _ _ _ _ (T0.setTop (mkF m 15 #[.val (.ref a1), .val (.ref aI), .val (.int sv), .unset, .unset] [(.int 1)]))
    refine own_if S0 22 d5_15 (by decide) (by decide) (fun (hc15_140 : (1 : Int32) = (0 : Int32)) => False.elim (absurd hc15_140 (by decide))) (fun (hc15_140 : ¬ ((1 : Int32) = (0 : Int32))) => ?_)
    show own_F p e below s Z _ _ _ _ _ (T0.setTop (mkF m 18 #[.val (.ref a1), .val (.ref aI), .val (.int sv), .unset, .unset] []))
    refine own_F.of (fun _ => XS.iconst S0.here S0.hx rfl (S0.dec d5_18)) ?_
    show own_F p e below s Z _ _ _ _ _ (T0.setTop (mkF m 19 #[.val (.ref a1), .val (.ref aI), .val (.int sv), .unset, .unset] [(.int 1)]))
    refine own_F.of (fun _ => XS.goto S0.here S0.hx rfl (pc0 := 19) (pc' := 23) rfl (S0.dec d5_19) (by decide) (by decide)) ?_
    show own_F p e below s Z _ _ _ _ _ (T0.setTop (mkF m 23 #[.val (.ref a1), .val (.ref aI), .val (.int sv), .unset, .unset] [(.int 1)]))
    refine own_F.of (fun _ => XS.istoreN S0.here S0.hx rfl (S0.dec d5_23) rfl (l' := #[.val (.ref a1), .val (.ref aI), .val (.int sv), .val (.int 1), .unset]) rfl) ?_
    refine own_F.of (fun _ => XS.iloadN S0.here S0.hx rfl (S0.dec d5_24) rfl) ?_
    refine own_F.of (fun _ => XS.iconst S0.here S0.hx rfl (S0.dec d5_25)) ?_
    show own_F p e below s Z _ _ _ _ _ (T0.setTop (mkF m 26 #[.val (.ref a1), .val (.ref aI), .val (.int sv), .val (.int 1), .unset] [(.int 4), (.int sv)]))
    refine own_F.of (fun _ => XS.iand S0.here S0.hx rfl (S0.dec d5_26) rfl) ?_
    show own_F p e below s Z _ _ _ _ _ (T0.setTop (mkF m 27 #[.val (.ref a1), .val (.ref aI), .val (.int sv), .val (.int 1), .unset] [(.int (sv &&& (4 : Int32)))]))
    refine own_if S0 68 d5_27 (by decide) (by decide) (fun (hc27_141 : (sv &&& (4 : Int32)) = (0 : Int32)) => ?_) (fun (hc27_141 : ¬ ((sv &&& (4 : Int32)) = (0 : Int32))) => ?_)
    · show own_F p e below s Z _ _ _ _ _ (T0.setTop (mkF m 68 #[.val (.ref a1), .val (.ref aI), .val (.int sv), .val (.int 1), .unset] []))
      exact J68 T0 S0 (1 : Int32)
    · show own_F p e below s Z _ _ _ _ _ (T0.setTop (mkF m 30 #[.val (.ref a1), .val (.ref aI), .val (.int sv), .val (.int 1), .unset] []))
      refine own_F.of (fun _ => XS.iloadN S0.here S0.hx rfl (S0.dec d5_30) rfl) ?_
      show own_F p e below s Z _ _ _ _ _ (T0.setTop (mkF m 31 #[.val (.ref a1), .val (.ref aI), .val (.int sv), .val (.int 1), .unset] [(.int 1)]))
      refine own_if S0 68 d5_31 (by decide) (by decide) (fun (hc31_142 : (1 : Int32) = (0 : Int32)) => False.elim (absurd hc31_142 (by decide))) (fun (hc31_142 : ¬ ((1 : Int32) = (0 : Int32))) => ?_)
      show own_F p e below s Z _ _ _ _ _ (T0.setTop (mkF m 34 #[.val (.ref a1), .val (.ref aI), .val (.int sv), .val (.int 1), .unset] []))
      refine own_F.of (fun _ => XS.aloadN S0.here S0.hx rfl (S0.dec d5_34) rfl rfl) ?_
      show own_F p e below s Z _ _ _ _ _ (T0.setTop (mkF m 35 #[.val (.ref a1), .val (.ref aI), .val (.int sv), .val (.int 1), .unset] [(.ref a1)]))
      refine own_callV S0 (y := (⟨"com/example/slackweave/slackweave/paths/RadixHeap", "pop", "()I"⟩ : MethodName)) (y' := (⟨"com/example/slackweave/slackweave/paths/RadixHeap", "pop", "()I"⟩ : MethodName)) (own_w hw 61 rfl) (own_w hw 62 rfl) (own_nf S0 (own_w hw 64 rfl)) (own_w hw 64 rfl) (own_w hw 63 rfl) (own_w hw 65 rfl) (own_w hw 4 rfl) (by decide) E_a1 (argsL := []) (rest := []) (own_pop l Z a0 hw a1 aB aS aK aO aP aI bk Cf bf pf la (1 : Int32) yf (0 : Int32) (0 : Int32) (1 : Int32) h0 S0.old HC AB ⟨2, by decide, by rw [e2]; exact fun q => by cases q⟩ hla hyf) own_news_sub (by decide +kernel : parseMethodDescriptor "()I" = some ⟨[], some .int⟩) rfl rfl rfl d5_35 (by decide) (Nat.le_of_ble_eq_true rfl) (by decide) (by decide) (fun T143 h143 v143 S143 K143 q143 => ?_)
      obtain ⟨mm143, bq143, cq143, bz143, pq143, lq143, rfl, hm143, hn143, hz143, hi143, H143, B143, hl143⟩ := q143
      obtain ⟨-, -, E_a1_143, F_buckets_143, F_sizes_143, F_keys_143, F_bucketOf_143, F_positions_143, F_last_143, F_count_143, RB_143, AS_143, AK_143, AO_143, AP_143, AI_143, BK_143⟩ := H143
      show own_F p e below s Z _ _ _ _ _ (T143.setTop (mkF m 38 #[.val (.ref a1), .val (.ref aI), .val (.int sv), .val (.int 1), .unset] [(.int mm143.toInt32)]))
      obtain rfl | rfl | rfl : mm143 = 0 ∨ mm143 = 1 ∨ mm143 = 2 := by omega
      · exact absurd e0 hn143
      · exact absurd e1 hn143
      · show own_F p e below s Z _ _ _ _ _ (T143.setTop (mkF m 38 #[.val (.ref a1), .val (.ref aI), .val (.int sv), .val (.int 1), .unset] [(.int 2)]))
        refine own_F.of (fun _ => XS.istore S143.here S143.hx rfl (S143.dec d5_38) rfl (l' := #[.val (.ref a1), .val (.ref aI), .val (.int sv), .val (.int 1), .val (.int 2)]) rfl) ?_
        refine own_F.of (fun _ => XS.iload S143.here S143.hx rfl (S143.dec d5_40) rfl) ?_
        show own_F p e below s Z _ _ _ _ _ (T143.setTop (mkF m 42 #[.val (.ref a1), .val (.ref aI), .val (.int sv), .val (.int 1), .val (.int 2)] [(.int 2)]))
        refine own_if S143 58 d5_42 (by decide) (by decide) (fun (hc42_144 : (2 : Int32) < (0 : Int32)) => False.elim (absurd hc42_144 (by decide))) (fun (hc42_144 : ¬ ((2 : Int32) < (0 : Int32))) => ?_)
        show own_F p e below s Z _ _ _ _ _ (T143.setTop (mkF m 45 #[.val (.ref a1), .val (.ref aI), .val (.int sv), .val (.int 1), .val (.int 2)] []))
        refine own_F.of (fun _ => XS.iload S143.here S143.hx rfl (S143.dec d5_45) rfl) ?_
        refine own_F.of (fun _ => XS.iconst S143.here S143.hx rfl (S143.dec d5_47)) ?_
        show own_F p e below s Z _ _ _ _ _ (T143.setTop (mkF m 48 #[.val (.ref a1), .val (.ref aI), .val (.int sv), .val (.int 1), .val (.int 2)] [(.int 2), (.int 2)]))
        refine own_icmp S143 58 d5_48 (by decide) (by decide) (fun (hc48_145 : (2 : Int32) < (2 : Int32)) => False.elim (absurd hc48_145 (by decide))) (fun (hc48_145 : ¬ ((2 : Int32) < (2 : Int32))) => ?_)
        show own_F p e below s Z _ _ _ _ _ (T143.setTop (mkF m 51 #[.val (.ref a1), .val (.ref aI), .val (.int sv), .val (.int 1), .val (.int 2)] []))
        refine own_F.of (fun _ => XS.aloadN S143.here S143.hx rfl (S143.dec d5_51) rfl rfl) ?_
        refine own_F.of (fun _ => XS.iload S143.here S143.hx rfl (S143.dec d5_52) rfl) ?_
        show own_F p e below s Z _ _ _ _ _ (T143.setTop (mkF m 54 #[.val (.ref a1), .val (.ref aI), .val (.int sv), .val (.int 1), .val (.int 2)] [(.int 2), (.ref aI)]))
        refine own_zald S143 AI_143 (by decide) rfl d5_54 ?_
        show own_F p e below s Z _ _ _ _ _ (T143.setTop (mkF m 55 #[.val (.ref a1), .val (.ref aI), .val (.int sv), .val (.int 1), .val (.int 2)] [(.int 1)]))
        refine own_if S143 60 d5_55 (by decide) (by decide) (fun (hc55_146 : ¬ ((1 : Int32) = (0 : Int32))) => ?_) (fun (hc55_146 : (1 : Int32) = (0 : Int32)) => False.elim (absurd hc55_146 (by decide)))
        show own_F p e below s Z _ _ _ _ _ (T143.setTop (mkF m 60 #[.val (.ref a1), .val (.ref aI), .val (.int sv), .val (.int 1), .val (.int 2)] []))
        refine own_F.of (fun _ => XS.aloadN S143.here S143.hx rfl (S143.dec d5_60) rfl rfl) ?_
        refine own_F.of (fun _ => XS.iload S143.here S143.hx rfl (S143.dec d5_61) rfl) ?_
        refine own_F.of (fun _ => XS.iconst S143.here S143.hx rfl (S143.dec d5_63)) ?_
        show own_F p e below s Z _ _ _ _ _ (T143.setTop (mkF m 64 #[.val (.ref a1), .val (.ref aI), .val (.int sv), .val (.int 1), .val (.int 2)] [(.int 0), (.int 2), (.ref aI)]))
        refine own_zst S143 AI_143 (by decide) (Nat.le_of_ble_eq_true rfl) d5_64 (own_news_may gI) (fun T147 h147 S147 W147 A147 => ?_)
        have V148 : own_A Z h147 aI .boolean [(.int (0 : Int32)), (.int (0 : Int32)), (.int (0 : Int32))] := A147
        show own_F p e below s Z _ _ _ _ _ (T147.setTop (mkF m 65 #[.val (.ref a1), .val (.ref aI), .val (.int sv), .val (.int 1), .val (.int 2)] []))
        refine own_F.of (fun _ => XS.goto S147.here S147.hx rfl (pc0 := 65) (pc' := 86) rfl (S147.dec d5_65) (by decide) (by decide)) ?_
        show own_F p e below s Z _ _ _ _ _ (T147.setTop (mkF m 86 #[.val (.ref a1), .val (.ref aI), .val (.int sv), .val (.int 1), .val (.int 2)] []))
        have fq149 := (E_a1_143.wr W147)
        have fq150 := (F_buckets_143.other W147 (Or.inl n1aI))
        have fq151 := (F_sizes_143.other W147 (Or.inl n1aI))
        have fq152 := (F_keys_143.other W147 (Or.inl n1aI))
        have fq153 := (F_bucketOf_143.other W147 (Or.inl n1aI))
        have fq154 := (F_positions_143.other W147 (Or.inl n1aI))
        have fq155 := (F_last_143.other W147 (Or.inl n1aI))
        have fq156 := (F_count_143.other W147 (Or.inl n1aI))
        have fq157 := (RB_143.other W147 naBaI)
        have fq158 := (AS_143.other W147 naSaI)
        have fq159 := (AK_143.other W147 naKaI)
        have fq160 := (AO_143.other W147 naOaI)
        have fq161 := (AP_143.other W147 naPaI)
        have fq162 := (BK_143.oI AI_143 W147)
        have f0 : own_in (bz143 0) = (0 : Int32) := (own_in_iff (hi143 0 (by decide) (by decide))).trans g0
        have f1 : own_in (bz143 1) = (0 : Int32) := (own_in_iff (hi143 1 (by decide) (by decide))).trans g1
        have f2 : own_in (bz143 2) = (0 : Int32) := by rw [hz143]; rfl
        exact J86 T147 h147 _ _ S147 (own_ST.mk ⟨⟨ga, gB, gS, gO, gP, gI⟩, ⟨nSO, nSP, nOP⟩, fq149, fq150, fq151, fq152, fq153, fq154, fq155, fq156, fq157, fq158, fq159, fq160, fq161, V148, fq162⟩ B143 hl143 (by unfold own_ct; rw [f0, f1, f2]; rfl) (f0.symm) (f1.symm) (f2.symm)) (1 : Int32) (2 : Int32) (by decide) (by decide)
  · have g0 : own_in (bf 0) = (0 : Int32) := by rw [e0]; rfl
    have g1 : own_in (bf 1) = (1 : Int32) := by rw [e1]; rfl
    have g2 : own_in (bf 2) = (0 : Int32) := by rw [e2]; rfl
    have gc : own_ct bf = (1 : Int32) := by unfold own_ct; rw [g0, g1, g2]; rfl
    rw [gc, g0, g1, g2] at H
    have HC := H
    obtain ⟨⟨ga, gB, gS, gO, gP, gI⟩, ⟨nSO, nSP, nOP⟩, E_a1, F_buckets, F_sizes, F_keys, F_bucketOf, F_positions, F_last, F_count, RB, AS, AK, AO, AP, AI, BK⟩ := H
    have n1aB := own_neA E_a1 (own_w hw 3 rfl) RB.A
    have naBaS := own_A.neT RB.A AS (by decide)
    have naBaK := own_A.neT RB.A AK (by decide)
    have naBaO := own_A.neT RB.A AO (by decide)
    have naBaP := own_A.neT RB.A AP (by decide)
    have naBaI := own_A.neT RB.A AI (by decide)
    have n1aS := own_neA E_a1 (own_w hw 3 rfl) AS
    have naSaK := own_A.neT AS AK (by decide)
    have naSaI := own_A.neT AS AI (by decide)
    have n1aK := own_neA E_a1 (own_w hw 3 rfl) AK
    have naKaO := own_A.neT AK AO (by decide)
    have naKaP := own_A.neT AK AP (by decide)
    have naKaI := own_A.neT AK AI (by decide)
    have n1aO := own_neA E_a1 (own_w hw 3 rfl) AO
    have naOaI := own_A.neT AO AI (by decide)
    have n1aP := own_neA E_a1 (own_w hw 3 rfl) AP
    have naPaI := own_A.neT AP AI (by decide)
    have n1aI := own_neA E_a1 (own_w hw 3 rfl) AI
    show own_F p e below s Z _ _ _ _ _ (T0.setTop (mkF m 0 #[.val (.ref a1), .val (.ref aI), .val (.int sv), .unset, .unset] []))
    refine own_F.of (fun _ => XS.aloadN S0.here S0.hx rfl (S0.dec d5_0) rfl rfl) ?_
    refine own_F.of (fun _ => XS.iconst S0.here S0.hx rfl (S0.dec d5_1)) ?_
    show own_F p e below s Z _ _ _ _ _ (T0.setTop (mkF m 2 #[.val (.ref a1), .val (.ref aI), .val (.int sv), .unset, .unset] [(.int 0), (.ref aI)]))
    refine own_zald S0 AI (by decide) rfl d5_2 ?_
    show own_F p e below s Z _ _ _ _ _ (T0.setTop (mkF m 3 #[.val (.ref a1), .val (.ref aI), .val (.int sv), .unset, .unset] [(.int 0)]))
    refine own_if S0 18 d5_3 (by decide) (by decide) (fun (hc3_163 : ¬ ((0 : Int32) = (0 : Int32))) => False.elim (absurd hc3_163 (by decide))) (fun (hc3_163 : (0 : Int32) = (0 : Int32)) => ?_)
    show own_F p e below s Z _ _ _ _ _ (T0.setTop (mkF m 6 #[.val (.ref a1), .val (.ref aI), .val (.int sv), .unset, .unset] []))
    refine own_F.of (fun _ => XS.aloadN S0.here S0.hx rfl (S0.dec d5_6) rfl rfl) ?_
    refine own_F.of (fun _ => XS.iconst S0.here S0.hx rfl (S0.dec d5_7)) ?_
    show own_F p e below s Z _ _ _ _ _ (T0.setTop (mkF m 8 #[.val (.ref a1), .val (.ref aI), .val (.int sv), .unset, .unset] [(.int 1), (.ref aI)]))
    refine own_zald S0 AI (by decide) rfl d5_8 ?_
    show own_F p e below s Z _ _ _ _ _ (T0.setTop (mkF m 9 #[.val (.ref a1), .val (.ref aI), .val (.int sv), .unset, .unset] [(.int 1)]))
    refine own_if S0 18 d5_9 (by decide) (by decide) (fun (hc9_164 : ¬ ((1 : Int32) = (0 : Int32))) => ?_) (fun (hc9_164 : (1 : Int32) = (0 : Int32)) => False.elim (absurd hc9_164 (by decide)))
    show own_F p e below s Z _ _ _ _ _ (T0.setTop (mkF m 18 #[.val (.ref a1), .val (.ref aI), .val (.int sv), .unset, .unset] []))
    refine own_F.of (fun _ => XS.iconst S0.here S0.hx rfl (S0.dec d5_18)) ?_
    show own_F p e below s Z _ _ _ _ _ (T0.setTop (mkF m 19 #[.val (.ref a1), .val (.ref aI), .val (.int sv), .unset, .unset] [(.int 1)]))
    refine own_F.of (fun _ => XS.goto S0.here S0.hx rfl (pc0 := 19) (pc' := 23) rfl (S0.dec d5_19) (by decide) (by decide)) ?_
    show own_F p e below s Z _ _ _ _ _ (T0.setTop (mkF m 23 #[.val (.ref a1), .val (.ref aI), .val (.int sv), .unset, .unset] [(.int 1)]))
    refine own_F.of (fun _ => XS.istoreN S0.here S0.hx rfl (S0.dec d5_23) rfl (l' := #[.val (.ref a1), .val (.ref aI), .val (.int sv), .val (.int 1), .unset]) rfl) ?_
    refine own_F.of (fun _ => XS.iloadN S0.here S0.hx rfl (S0.dec d5_24) rfl) ?_
    refine own_F.of (fun _ => XS.iconst S0.here S0.hx rfl (S0.dec d5_25)) ?_
    show own_F p e below s Z _ _ _ _ _ (T0.setTop (mkF m 26 #[.val (.ref a1), .val (.ref aI), .val (.int sv), .val (.int 1), .unset] [(.int 4), (.int sv)]))
    refine own_F.of (fun _ => XS.iand S0.here S0.hx rfl (S0.dec d5_26) rfl) ?_
    show own_F p e below s Z _ _ _ _ _ (T0.setTop (mkF m 27 #[.val (.ref a1), .val (.ref aI), .val (.int sv), .val (.int 1), .unset] [(.int (sv &&& (4 : Int32)))]))
    refine own_if S0 68 d5_27 (by decide) (by decide) (fun (hc27_165 : (sv &&& (4 : Int32)) = (0 : Int32)) => ?_) (fun (hc27_165 : ¬ ((sv &&& (4 : Int32)) = (0 : Int32))) => ?_)
    · show own_F p e below s Z _ _ _ _ _ (T0.setTop (mkF m 68 #[.val (.ref a1), .val (.ref aI), .val (.int sv), .val (.int 1), .unset] []))
      exact J68 T0 S0 (1 : Int32)
    · show own_F p e below s Z _ _ _ _ _ (T0.setTop (mkF m 30 #[.val (.ref a1), .val (.ref aI), .val (.int sv), .val (.int 1), .unset] []))
      refine own_F.of (fun _ => XS.iloadN S0.here S0.hx rfl (S0.dec d5_30) rfl) ?_
      show own_F p e below s Z _ _ _ _ _ (T0.setTop (mkF m 31 #[.val (.ref a1), .val (.ref aI), .val (.int sv), .val (.int 1), .unset] [(.int 1)]))
      refine own_if S0 68 d5_31 (by decide) (by decide) (fun (hc31_166 : (1 : Int32) = (0 : Int32)) => False.elim (absurd hc31_166 (by decide))) (fun (hc31_166 : ¬ ((1 : Int32) = (0 : Int32))) => ?_)
      show own_F p e below s Z _ _ _ _ _ (T0.setTop (mkF m 34 #[.val (.ref a1), .val (.ref aI), .val (.int sv), .val (.int 1), .unset] []))
      refine own_F.of (fun _ => XS.aloadN S0.here S0.hx rfl (S0.dec d5_34) rfl rfl) ?_
      show own_F p e below s Z _ _ _ _ _ (T0.setTop (mkF m 35 #[.val (.ref a1), .val (.ref aI), .val (.int sv), .val (.int 1), .unset] [(.ref a1)]))
      refine own_callV S0 (y := (⟨"com/example/slackweave/slackweave/paths/RadixHeap", "pop", "()I"⟩ : MethodName)) (y' := (⟨"com/example/slackweave/slackweave/paths/RadixHeap", "pop", "()I"⟩ : MethodName)) (own_w hw 61 rfl) (own_w hw 62 rfl) (own_nf S0 (own_w hw 64 rfl)) (own_w hw 64 rfl) (own_w hw 63 rfl) (own_w hw 65 rfl) (own_w hw 4 rfl) (by decide) E_a1 (argsL := []) (rest := []) (own_pop l Z a0 hw a1 aB aS aK aO aP aI bk Cf bf pf la (1 : Int32) yf (0 : Int32) (1 : Int32) (0 : Int32) h0 S0.old HC AB ⟨1, by decide, by rw [e1]; exact fun q => by cases q⟩ hla hyf) own_news_sub (by decide +kernel : parseMethodDescriptor "()I" = some ⟨[], some .int⟩) rfl rfl rfl d5_35 (by decide) (Nat.le_of_ble_eq_true rfl) (by decide) (by decide) (fun T167 h167 v167 S167 K167 q167 => ?_)
      obtain ⟨mm167, bq167, cq167, bz167, pq167, lq167, rfl, hm167, hn167, hz167, hi167, H167, B167, hl167⟩ := q167
      obtain ⟨-, -, E_a1_167, F_buckets_167, F_sizes_167, F_keys_167, F_bucketOf_167, F_positions_167, F_last_167, F_count_167, RB_167, AS_167, AK_167, AO_167, AP_167, AI_167, BK_167⟩ := H167
      show own_F p e below s Z _ _ _ _ _ (T167.setTop (mkF m 38 #[.val (.ref a1), .val (.ref aI), .val (.int sv), .val (.int 1), .unset] [(.int mm167.toInt32)]))
      obtain rfl | rfl | rfl : mm167 = 0 ∨ mm167 = 1 ∨ mm167 = 2 := by omega
      · exact absurd e0 hn167
      · show own_F p e below s Z _ _ _ _ _ (T167.setTop (mkF m 38 #[.val (.ref a1), .val (.ref aI), .val (.int sv), .val (.int 1), .unset] [(.int 1)]))
        refine own_F.of (fun _ => XS.istore S167.here S167.hx rfl (S167.dec d5_38) rfl (l' := #[.val (.ref a1), .val (.ref aI), .val (.int sv), .val (.int 1), .val (.int 1)]) rfl) ?_
        refine own_F.of (fun _ => XS.iload S167.here S167.hx rfl (S167.dec d5_40) rfl) ?_
        show own_F p e below s Z _ _ _ _ _ (T167.setTop (mkF m 42 #[.val (.ref a1), .val (.ref aI), .val (.int sv), .val (.int 1), .val (.int 1)] [(.int 1)]))
        refine own_if S167 58 d5_42 (by decide) (by decide) (fun (hc42_168 : (1 : Int32) < (0 : Int32)) => False.elim (absurd hc42_168 (by decide))) (fun (hc42_168 : ¬ ((1 : Int32) < (0 : Int32))) => ?_)
        show own_F p e below s Z _ _ _ _ _ (T167.setTop (mkF m 45 #[.val (.ref a1), .val (.ref aI), .val (.int sv), .val (.int 1), .val (.int 1)] []))
        refine own_F.of (fun _ => XS.iload S167.here S167.hx rfl (S167.dec d5_45) rfl) ?_
        refine own_F.of (fun _ => XS.iconst S167.here S167.hx rfl (S167.dec d5_47)) ?_
        show own_F p e below s Z _ _ _ _ _ (T167.setTop (mkF m 48 #[.val (.ref a1), .val (.ref aI), .val (.int sv), .val (.int 1), .val (.int 1)] [(.int 2), (.int 1)]))
        refine own_icmp S167 58 d5_48 (by decide) (by decide) (fun (hc48_169 : (2 : Int32) < (1 : Int32)) => False.elim (absurd hc48_169 (by decide))) (fun (hc48_169 : ¬ ((2 : Int32) < (1 : Int32))) => ?_)
        show own_F p e below s Z _ _ _ _ _ (T167.setTop (mkF m 51 #[.val (.ref a1), .val (.ref aI), .val (.int sv), .val (.int 1), .val (.int 1)] []))
        refine own_F.of (fun _ => XS.aloadN S167.here S167.hx rfl (S167.dec d5_51) rfl rfl) ?_
        refine own_F.of (fun _ => XS.iload S167.here S167.hx rfl (S167.dec d5_52) rfl) ?_
        show own_F p e below s Z _ _ _ _ _ (T167.setTop (mkF m 54 #[.val (.ref a1), .val (.ref aI), .val (.int sv), .val (.int 1), .val (.int 1)] [(.int 1), (.ref aI)]))
        refine own_zald S167 AI_167 (by decide) rfl d5_54 ?_
        show own_F p e below s Z _ _ _ _ _ (T167.setTop (mkF m 55 #[.val (.ref a1), .val (.ref aI), .val (.int sv), .val (.int 1), .val (.int 1)] [(.int 1)]))
        refine own_if S167 60 d5_55 (by decide) (by decide) (fun (hc55_170 : ¬ ((1 : Int32) = (0 : Int32))) => ?_) (fun (hc55_170 : (1 : Int32) = (0 : Int32)) => False.elim (absurd hc55_170 (by decide)))
        show own_F p e below s Z _ _ _ _ _ (T167.setTop (mkF m 60 #[.val (.ref a1), .val (.ref aI), .val (.int sv), .val (.int 1), .val (.int 1)] []))
        refine own_F.of (fun _ => XS.aloadN S167.here S167.hx rfl (S167.dec d5_60) rfl rfl) ?_
        refine own_F.of (fun _ => XS.iload S167.here S167.hx rfl (S167.dec d5_61) rfl) ?_
        refine own_F.of (fun _ => XS.iconst S167.here S167.hx rfl (S167.dec d5_63)) ?_
        show own_F p e below s Z _ _ _ _ _ (T167.setTop (mkF m 64 #[.val (.ref a1), .val (.ref aI), .val (.int sv), .val (.int 1), .val (.int 1)] [(.int 0), (.int 1), (.ref aI)]))
        refine own_zst S167 AI_167 (by decide) (Nat.le_of_ble_eq_true rfl) d5_64 (own_news_may gI) (fun T171 h171 S171 W171 A171 => ?_)
        have V172 : own_A Z h171 aI .boolean [(.int (0 : Int32)), (.int (0 : Int32)), (.int (0 : Int32))] := A171
        show own_F p e below s Z _ _ _ _ _ (T171.setTop (mkF m 65 #[.val (.ref a1), .val (.ref aI), .val (.int sv), .val (.int 1), .val (.int 1)] []))
        refine own_F.of (fun _ => XS.goto S171.here S171.hx rfl (pc0 := 65) (pc' := 86) rfl (S171.dec d5_65) (by decide) (by decide)) ?_
        show own_F p e below s Z _ _ _ _ _ (T171.setTop (mkF m 86 #[.val (.ref a1), .val (.ref aI), .val (.int sv), .val (.int 1), .val (.int 1)] []))
        have fq173 := (E_a1_167.wr W171)
        have fq174 := (F_buckets_167.other W171 (Or.inl n1aI))
        have fq175 := (F_sizes_167.other W171 (Or.inl n1aI))
        have fq176 := (F_keys_167.other W171 (Or.inl n1aI))
        have fq177 := (F_bucketOf_167.other W171 (Or.inl n1aI))
        have fq178 := (F_positions_167.other W171 (Or.inl n1aI))
        have fq179 := (F_last_167.other W171 (Or.inl n1aI))
        have fq180 := (F_count_167.other W171 (Or.inl n1aI))
        have fq181 := (RB_167.other W171 naBaI)
        have fq182 := (AS_167.other W171 naSaI)
        have fq183 := (AK_167.other W171 naKaI)
        have fq184 := (AO_167.other W171 naOaI)
        have fq185 := (AP_167.other W171 naPaI)
        have fq186 := (BK_167.oI AI_167 W171)
        have f0 : own_in (bz167 0) = (0 : Int32) := (own_in_iff (hi167 0 (by decide) (by decide))).trans g0
        have f1 : own_in (bz167 1) = (0 : Int32) := by rw [hz167]; rfl
        have f2 : own_in (bz167 2) = (0 : Int32) := (own_in_iff (hi167 2 (by decide) (by decide))).trans g2
        exact J86 T171 h171 _ _ S171 (own_ST.mk ⟨⟨ga, gB, gS, gO, gP, gI⟩, ⟨nSO, nSP, nOP⟩, fq173, fq174, fq175, fq176, fq177, fq178, fq179, fq180, fq181, fq182, fq183, fq184, fq185, V172, fq186⟩ B167 hl167 (by unfold own_ct; rw [f0, f1, f2]; rfl) (f0.symm) (f1.symm) (f2.symm)) (1 : Int32) (1 : Int32) (by decide) (by decide)
      · exact absurd e2 hn167
  · have g0 : own_in (bf 0) = (0 : Int32) := by rw [e0]; rfl
    have g1 : own_in (bf 1) = (1 : Int32) := by rw [e1]; rfl
    have g2 : own_in (bf 2) = (1 : Int32) := by rw [e2]; rfl
    have gc : own_ct bf = (2 : Int32) := by unfold own_ct; rw [g0, g1, g2]; rfl
    rw [gc, g0, g1, g2] at H
    have HC := H
    obtain ⟨⟨ga, gB, gS, gO, gP, gI⟩, ⟨nSO, nSP, nOP⟩, E_a1, F_buckets, F_sizes, F_keys, F_bucketOf, F_positions, F_last, F_count, RB, AS, AK, AO, AP, AI, BK⟩ := H
    have n1aB := own_neA E_a1 (own_w hw 3 rfl) RB.A
    have naBaS := own_A.neT RB.A AS (by decide)
    have naBaK := own_A.neT RB.A AK (by decide)
    have naBaO := own_A.neT RB.A AO (by decide)
    have naBaP := own_A.neT RB.A AP (by decide)
    have naBaI := own_A.neT RB.A AI (by decide)
    have n1aS := own_neA E_a1 (own_w hw 3 rfl) AS
    have naSaK := own_A.neT AS AK (by decide)
    have naSaI := own_A.neT AS AI (by decide)
    have n1aK := own_neA E_a1 (own_w hw 3 rfl) AK
    have naKaO := own_A.neT AK AO (by decide)
    have naKaP := own_A.neT AK AP (by decide)
    have naKaI := own_A.neT AK AI (by decide)
    have n1aO := own_neA E_a1 (own_w hw 3 rfl) AO
    have naOaI := own_A.neT AO AI (by decide)
    have n1aP := own_neA E_a1 (own_w hw 3 rfl) AP
    have naPaI := own_A.neT AP AI (by decide)
    have n1aI := own_neA E_a1 (own_w hw 3 rfl) AI
    show own_F p e below s Z _ _ _ _ _ (T0.setTop (mkF m 0 #[.val (.ref a1), .val (.ref aI), .val (.int sv), .unset, .unset] []))
    refine own_F.of (fun _ => XS.aloadN S0.here S0.hx rfl (S0.dec d5_0) rfl rfl) ?_
    refine own_F.of (fun _ => XS.iconst S0.here S0.hx rfl (S0.dec d5_1)) ?_
    show own_F p e below s Z _ _ _ _ _ (T0.setTop (mkF m 2 #[.val (.ref a1), .val (.ref aI), .val (.int sv), .unset, .unset] [(.int 0), (.ref aI)]))
    refine own_zald S0 AI (by decide) rfl d5_2 ?_
    show own_F p e below s Z _ _ _ _ _ (T0.setTop (mkF m 3 #[.val (.ref a1), .val (.ref aI), .val (.int sv), .unset, .unset] [(.int 0)]))
    refine own_if S0 18 d5_3 (by decide) (by decide) (fun (hc3_187 : ¬ ((0 : Int32) = (0 : Int32))) => False.elim (absurd hc3_187 (by decide))) (fun (hc3_187 : (0 : Int32) = (0 : Int32)) => ?_)
    show own_F p e below s Z _ _ _ _ _ (T0.setTop (mkF m 6 #[.val (.ref a1), .val (.ref aI), .val (.int sv), .unset, .unset] []))
    refine own_F.of (fun _ => XS.aloadN S0.here S0.hx rfl (S0.dec d5_6) rfl rfl) ?_
    refine own_F.of (fun _ => XS.iconst S0.here S0.hx rfl (S0.dec d5_7)) ?_
    show own_F p e below s Z _ _ _ _ _ (T0.setTop (mkF m 8 #[.val (.ref a1), .val (.ref aI), .val (.int sv), .unset, .unset] [(.int 1), (.ref aI)]))
    refine own_zald S0 AI (by decide) rfl d5_8 ?_
    show own_F p e below s Z _ _ _ _ _ (T0.setTop (mkF m 9 #[.val (.ref a1), .val (.ref aI), .val (.int sv), .unset, .unset] [(.int 1)]))
    refine own_if S0 18 d5_9 (by decide) (by decide) (fun (hc9_188 : ¬ ((1 : Int32) = (0 : Int32))) => ?_) (fun (hc9_188 : (1 : Int32) = (0 : Int32)) => False.elim (absurd hc9_188 (by decide)))
    show own_F p e below s Z _ _ _ _ _ (T0.setTop (mkF m 18 #[.val (.ref a1), .val (.ref aI), .val (.int sv), .unset, .unset] []))
    refine own_F.of (fun _ => XS.iconst S0.here S0.hx rfl (S0.dec d5_18)) ?_
    show own_F p e below s Z _ _ _ _ _ (T0.setTop (mkF m 19 #[.val (.ref a1), .val (.ref aI), .val (.int sv), .unset, .unset] [(.int 1)]))
    refine own_F.of (fun _ => XS.goto S0.here S0.hx rfl (pc0 := 19) (pc' := 23) rfl (S0.dec d5_19) (by decide) (by decide)) ?_
    show own_F p e below s Z _ _ _ _ _ (T0.setTop (mkF m 23 #[.val (.ref a1), .val (.ref aI), .val (.int sv), .unset, .unset] [(.int 1)]))
    refine own_F.of (fun _ => XS.istoreN S0.here S0.hx rfl (S0.dec d5_23) rfl (l' := #[.val (.ref a1), .val (.ref aI), .val (.int sv), .val (.int 1), .unset]) rfl) ?_
    refine own_F.of (fun _ => XS.iloadN S0.here S0.hx rfl (S0.dec d5_24) rfl) ?_
    refine own_F.of (fun _ => XS.iconst S0.here S0.hx rfl (S0.dec d5_25)) ?_
    show own_F p e below s Z _ _ _ _ _ (T0.setTop (mkF m 26 #[.val (.ref a1), .val (.ref aI), .val (.int sv), .val (.int 1), .unset] [(.int 4), (.int sv)]))
    refine own_F.of (fun _ => XS.iand S0.here S0.hx rfl (S0.dec d5_26) rfl) ?_
    show own_F p e below s Z _ _ _ _ _ (T0.setTop (mkF m 27 #[.val (.ref a1), .val (.ref aI), .val (.int sv), .val (.int 1), .unset] [(.int (sv &&& (4 : Int32)))]))
    refine own_if S0 68 d5_27 (by decide) (by decide) (fun (hc27_189 : (sv &&& (4 : Int32)) = (0 : Int32)) => ?_) (fun (hc27_189 : ¬ ((sv &&& (4 : Int32)) = (0 : Int32))) => ?_)
    · show own_F p e below s Z _ _ _ _ _ (T0.setTop (mkF m 68 #[.val (.ref a1), .val (.ref aI), .val (.int sv), .val (.int 1), .unset] []))
      exact J68 T0 S0 (1 : Int32)
    · show own_F p e below s Z _ _ _ _ _ (T0.setTop (mkF m 30 #[.val (.ref a1), .val (.ref aI), .val (.int sv), .val (.int 1), .unset] []))
      refine own_F.of (fun _ => XS.iloadN S0.here S0.hx rfl (S0.dec d5_30) rfl) ?_
      show own_F p e below s Z _ _ _ _ _ (T0.setTop (mkF m 31 #[.val (.ref a1), .val (.ref aI), .val (.int sv), .val (.int 1), .unset] [(.int 1)]))
      refine own_if S0 68 d5_31 (by decide) (by decide) (fun (hc31_190 : (1 : Int32) = (0 : Int32)) => False.elim (absurd hc31_190 (by decide))) (fun (hc31_190 : ¬ ((1 : Int32) = (0 : Int32))) => ?_)
      show own_F p e below s Z _ _ _ _ _ (T0.setTop (mkF m 34 #[.val (.ref a1), .val (.ref aI), .val (.int sv), .val (.int 1), .unset] []))
      refine own_F.of (fun _ => XS.aloadN S0.here S0.hx rfl (S0.dec d5_34) rfl rfl) ?_
      show own_F p e below s Z _ _ _ _ _ (T0.setTop (mkF m 35 #[.val (.ref a1), .val (.ref aI), .val (.int sv), .val (.int 1), .unset] [(.ref a1)]))
      refine own_callV S0 (y := (⟨"com/example/slackweave/slackweave/paths/RadixHeap", "pop", "()I"⟩ : MethodName)) (y' := (⟨"com/example/slackweave/slackweave/paths/RadixHeap", "pop", "()I"⟩ : MethodName)) (own_w hw 61 rfl) (own_w hw 62 rfl) (own_nf S0 (own_w hw 64 rfl)) (own_w hw 64 rfl) (own_w hw 63 rfl) (own_w hw 65 rfl) (own_w hw 4 rfl) (by decide) E_a1 (argsL := []) (rest := []) (own_pop l Z a0 hw a1 aB aS aK aO aP aI bk Cf bf pf la (2 : Int32) yf (0 : Int32) (1 : Int32) (1 : Int32) h0 S0.old HC AB ⟨1, by decide, by rw [e1]; exact fun q => by cases q⟩ hla hyf) own_news_sub (by decide +kernel : parseMethodDescriptor "()I" = some ⟨[], some .int⟩) rfl rfl rfl d5_35 (by decide) (Nat.le_of_ble_eq_true rfl) (by decide) (by decide) (fun T191 h191 v191 S191 K191 q191 => ?_)
      obtain ⟨mm191, bq191, cq191, bz191, pq191, lq191, rfl, hm191, hn191, hz191, hi191, H191, B191, hl191⟩ := q191
      obtain ⟨-, -, E_a1_191, F_buckets_191, F_sizes_191, F_keys_191, F_bucketOf_191, F_positions_191, F_last_191, F_count_191, RB_191, AS_191, AK_191, AO_191, AP_191, AI_191, BK_191⟩ := H191
      show own_F p e below s Z _ _ _ _ _ (T191.setTop (mkF m 38 #[.val (.ref a1), .val (.ref aI), .val (.int sv), .val (.int 1), .unset] [(.int mm191.toInt32)]))
      obtain rfl | rfl | rfl : mm191 = 0 ∨ mm191 = 1 ∨ mm191 = 2 := by omega
      · exact absurd e0 hn191
      · show own_F p e below s Z _ _ _ _ _ (T191.setTop (mkF m 38 #[.val (.ref a1), .val (.ref aI), .val (.int sv), .val (.int 1), .unset] [(.int 1)]))
        refine own_F.of (fun _ => XS.istore S191.here S191.hx rfl (S191.dec d5_38) rfl (l' := #[.val (.ref a1), .val (.ref aI), .val (.int sv), .val (.int 1), .val (.int 1)]) rfl) ?_
        refine own_F.of (fun _ => XS.iload S191.here S191.hx rfl (S191.dec d5_40) rfl) ?_
        show own_F p e below s Z _ _ _ _ _ (T191.setTop (mkF m 42 #[.val (.ref a1), .val (.ref aI), .val (.int sv), .val (.int 1), .val (.int 1)] [(.int 1)]))
        refine own_if S191 58 d5_42 (by decide) (by decide) (fun (hc42_192 : (1 : Int32) < (0 : Int32)) => False.elim (absurd hc42_192 (by decide))) (fun (hc42_192 : ¬ ((1 : Int32) < (0 : Int32))) => ?_)
        show own_F p e below s Z _ _ _ _ _ (T191.setTop (mkF m 45 #[.val (.ref a1), .val (.ref aI), .val (.int sv), .val (.int 1), .val (.int 1)] []))
        refine own_F.of (fun _ => XS.iload S191.here S191.hx rfl (S191.dec d5_45) rfl) ?_
        refine own_F.of (fun _ => XS.iconst S191.here S191.hx rfl (S191.dec d5_47)) ?_
        show own_F p e below s Z _ _ _ _ _ (T191.setTop (mkF m 48 #[.val (.ref a1), .val (.ref aI), .val (.int sv), .val (.int 1), .val (.int 1)] [(.int 2), (.int 1)]))
        refine own_icmp S191 58 d5_48 (by decide) (by decide) (fun (hc48_193 : (2 : Int32) < (1 : Int32)) => False.elim (absurd hc48_193 (by decide))) (fun (hc48_193 : ¬ ((2 : Int32) < (1 : Int32))) => ?_)
        show own_F p e below s Z _ _ _ _ _ (T191.setTop (mkF m 51 #[.val (.ref a1), .val (.ref aI), .val (.int sv), .val (.int 1), .val (.int 1)] []))
        refine own_F.of (fun _ => XS.aloadN S191.here S191.hx rfl (S191.dec d5_51) rfl rfl) ?_
        refine own_F.of (fun _ => XS.iload S191.here S191.hx rfl (S191.dec d5_52) rfl) ?_
        show own_F p e below s Z _ _ _ _ _ (T191.setTop (mkF m 54 #[.val (.ref a1), .val (.ref aI), .val (.int sv), .val (.int 1), .val (.int 1)] [(.int 1), (.ref aI)]))
        refine own_zald S191 AI_191 (by decide) rfl d5_54 ?_
        show own_F p e below s Z _ _ _ _ _ (T191.setTop (mkF m 55 #[.val (.ref a1), .val (.ref aI), .val (.int sv), .val (.int 1), .val (.int 1)] [(.int 1)]))
        refine own_if S191 60 d5_55 (by decide) (by decide) (fun (hc55_194 : ¬ ((1 : Int32) = (0 : Int32))) => ?_) (fun (hc55_194 : (1 : Int32) = (0 : Int32)) => False.elim (absurd hc55_194 (by decide)))
        show own_F p e below s Z _ _ _ _ _ (T191.setTop (mkF m 60 #[.val (.ref a1), .val (.ref aI), .val (.int sv), .val (.int 1), .val (.int 1)] []))
        refine own_F.of (fun _ => XS.aloadN S191.here S191.hx rfl (S191.dec d5_60) rfl rfl) ?_
        refine own_F.of (fun _ => XS.iload S191.here S191.hx rfl (S191.dec d5_61) rfl) ?_
        refine own_F.of (fun _ => XS.iconst S191.here S191.hx rfl (S191.dec d5_63)) ?_
        show own_F p e below s Z _ _ _ _ _ (T191.setTop (mkF m 64 #[.val (.ref a1), .val (.ref aI), .val (.int sv), .val (.int 1), .val (.int 1)] [(.int 0), (.int 1), (.ref aI)]))
        refine own_zst S191 AI_191 (by decide) (Nat.le_of_ble_eq_true rfl) d5_64 (own_news_may gI) (fun T195 h195 S195 W195 A195 => ?_)
        have V196 : own_A Z h195 aI .boolean [(.int (0 : Int32)), (.int (0 : Int32)), (.int (1 : Int32))] := A195
        show own_F p e below s Z _ _ _ _ _ (T195.setTop (mkF m 65 #[.val (.ref a1), .val (.ref aI), .val (.int sv), .val (.int 1), .val (.int 1)] []))
        refine own_F.of (fun _ => XS.goto S195.here S195.hx rfl (pc0 := 65) (pc' := 86) rfl (S195.dec d5_65) (by decide) (by decide)) ?_
        show own_F p e below s Z _ _ _ _ _ (T195.setTop (mkF m 86 #[.val (.ref a1), .val (.ref aI), .val (.int sv), .val (.int 1), .val (.int 1)] []))
        have fq197 := (E_a1_191.wr W195)
        have fq198 := (F_buckets_191.other W195 (Or.inl n1aI))
        have fq199 := (F_sizes_191.other W195 (Or.inl n1aI))
        have fq200 := (F_keys_191.other W195 (Or.inl n1aI))
        have fq201 := (F_bucketOf_191.other W195 (Or.inl n1aI))
        have fq202 := (F_positions_191.other W195 (Or.inl n1aI))
        have fq203 := (F_last_191.other W195 (Or.inl n1aI))
        have fq204 := (F_count_191.other W195 (Or.inl n1aI))
        have fq205 := (RB_191.other W195 naBaI)
        have fq206 := (AS_191.other W195 naSaI)
        have fq207 := (AK_191.other W195 naKaI)
        have fq208 := (AO_191.other W195 naOaI)
        have fq209 := (AP_191.other W195 naPaI)
        have fq210 := (BK_191.oI AI_191 W195)
        have f0 : own_in (bz191 0) = (0 : Int32) := (own_in_iff (hi191 0 (by decide) (by decide))).trans g0
        have f1 : own_in (bz191 1) = (0 : Int32) := by rw [hz191]; rfl
        have f2 : own_in (bz191 2) = (1 : Int32) := (own_in_iff (hi191 2 (by decide) (by decide))).trans g2
        exact J86 T195 h195 _ _ S195 (own_ST.mk ⟨⟨ga, gB, gS, gO, gP, gI⟩, ⟨nSO, nSP, nOP⟩, fq197, fq198, fq199, fq200, fq201, fq202, fq203, fq204, fq205, fq206, fq207, fq208, fq209, V196, fq210⟩ B191 hl191 (by unfold own_ct; rw [f0, f1, f2]; rfl) (f0.symm) (f1.symm) (f2.symm)) (1 : Int32) (1 : Int32) (by decide) (by decide)
      · show own_F p e below s Z _ _ _ _ _ (T191.setTop (mkF m 38 #[.val (.ref a1), .val (.ref aI), .val (.int sv), .val (.int 1), .unset] [(.int 2)]))
        refine own_F.of (fun _ => XS.istore S191.here S191.hx rfl (S191.dec d5_38) rfl (l' := #[.val (.ref a1), .val (.ref aI), .val (.int sv), .val (.int 1), .val (.int 2)]) rfl) ?_
        refine own_F.of (fun _ => XS.iload S191.here S191.hx rfl (S191.dec d5_40) rfl) ?_
        show own_F p e below s Z _ _ _ _ _ (T191.setTop (mkF m 42 #[.val (.ref a1), .val (.ref aI), .val (.int sv), .val (.int 1), .val (.int 2)] [(.int 2)]))
        refine own_if S191 58 d5_42 (by decide) (by decide) (fun (hc42_211 : (2 : Int32) < (0 : Int32)) => False.elim (absurd hc42_211 (by decide))) (fun (hc42_211 : ¬ ((2 : Int32) < (0 : Int32))) => ?_)
        show own_F p e below s Z _ _ _ _ _ (T191.setTop (mkF m 45 #[.val (.ref a1), .val (.ref aI), .val (.int sv), .val (.int 1), .val (.int 2)] []))
        refine own_F.of (fun _ => XS.iload S191.here S191.hx rfl (S191.dec d5_45) rfl) ?_
        refine own_F.of (fun _ => XS.iconst S191.here S191.hx rfl (S191.dec d5_47)) ?_
        show own_F p e below s Z _ _ _ _ _ (T191.setTop (mkF m 48 #[.val (.ref a1), .val (.ref aI), .val (.int sv), .val (.int 1), .val (.int 2)] [(.int 2), (.int 2)]))
        refine own_icmp S191 58 d5_48 (by decide) (by decide) (fun (hc48_212 : (2 : Int32) < (2 : Int32)) => False.elim (absurd hc48_212 (by decide))) (fun (hc48_212 : ¬ ((2 : Int32) < (2 : Int32))) => ?_)
        show own_F p e below s Z _ _ _ _ _ (T191.setTop (mkF m 51 #[.val (.ref a1), .val (.ref aI), .val (.int sv), .val (.int 1), .val (.int 2)] []))
        refine own_F.of (fun _ => XS.aloadN S191.here S191.hx rfl (S191.dec d5_51) rfl rfl) ?_
        refine own_F.of (fun _ => XS.iload S191.here S191.hx rfl (S191.dec d5_52) rfl) ?_
        show own_F p e below s Z _ _ _ _ _ (T191.setTop (mkF m 54 #[.val (.ref a1), .val (.ref aI), .val (.int sv), .val (.int 1), .val (.int 2)] [(.int 2), (.ref aI)]))
        refine own_zald S191 AI_191 (by decide) rfl d5_54 ?_
        show own_F p e below s Z _ _ _ _ _ (T191.setTop (mkF m 55 #[.val (.ref a1), .val (.ref aI), .val (.int sv), .val (.int 1), .val (.int 2)] [(.int 1)]))
        refine own_if S191 60 d5_55 (by decide) (by decide) (fun (hc55_213 : ¬ ((1 : Int32) = (0 : Int32))) => ?_) (fun (hc55_213 : (1 : Int32) = (0 : Int32)) => False.elim (absurd hc55_213 (by decide)))
        show own_F p e below s Z _ _ _ _ _ (T191.setTop (mkF m 60 #[.val (.ref a1), .val (.ref aI), .val (.int sv), .val (.int 1), .val (.int 2)] []))
        refine own_F.of (fun _ => XS.aloadN S191.here S191.hx rfl (S191.dec d5_60) rfl rfl) ?_
        refine own_F.of (fun _ => XS.iload S191.here S191.hx rfl (S191.dec d5_61) rfl) ?_
        refine own_F.of (fun _ => XS.iconst S191.here S191.hx rfl (S191.dec d5_63)) ?_
        show own_F p e below s Z _ _ _ _ _ (T191.setTop (mkF m 64 #[.val (.ref a1), .val (.ref aI), .val (.int sv), .val (.int 1), .val (.int 2)] [(.int 0), (.int 2), (.ref aI)]))
        refine own_zst S191 AI_191 (by decide) (Nat.le_of_ble_eq_true rfl) d5_64 (own_news_may gI) (fun T214 h214 S214 W214 A214 => ?_)
        have V215 : own_A Z h214 aI .boolean [(.int (0 : Int32)), (.int (1 : Int32)), (.int (0 : Int32))] := A214
        show own_F p e below s Z _ _ _ _ _ (T214.setTop (mkF m 65 #[.val (.ref a1), .val (.ref aI), .val (.int sv), .val (.int 1), .val (.int 2)] []))
        refine own_F.of (fun _ => XS.goto S214.here S214.hx rfl (pc0 := 65) (pc' := 86) rfl (S214.dec d5_65) (by decide) (by decide)) ?_
        show own_F p e below s Z _ _ _ _ _ (T214.setTop (mkF m 86 #[.val (.ref a1), .val (.ref aI), .val (.int sv), .val (.int 1), .val (.int 2)] []))
        have fq216 := (E_a1_191.wr W214)
        have fq217 := (F_buckets_191.other W214 (Or.inl n1aI))
        have fq218 := (F_sizes_191.other W214 (Or.inl n1aI))
        have fq219 := (F_keys_191.other W214 (Or.inl n1aI))
        have fq220 := (F_bucketOf_191.other W214 (Or.inl n1aI))
        have fq221 := (F_positions_191.other W214 (Or.inl n1aI))
        have fq222 := (F_last_191.other W214 (Or.inl n1aI))
        have fq223 := (F_count_191.other W214 (Or.inl n1aI))
        have fq224 := (RB_191.other W214 naBaI)
        have fq225 := (AS_191.other W214 naSaI)
        have fq226 := (AK_191.other W214 naKaI)
        have fq227 := (AO_191.other W214 naOaI)
        have fq228 := (AP_191.other W214 naPaI)
        have fq229 := (BK_191.oI AI_191 W214)
        have f0 : own_in (bz191 0) = (0 : Int32) := (own_in_iff (hi191 0 (by decide) (by decide))).trans g0
        have f1 : own_in (bz191 1) = (1 : Int32) := (own_in_iff (hi191 1 (by decide) (by decide))).trans g1
        have f2 : own_in (bz191 2) = (0 : Int32) := by rw [hz191]; rfl
        exact J86 T214 h214 _ _ S214 (own_ST.mk ⟨⟨ga, gB, gS, gO, gP, gI⟩, ⟨nSO, nSP, nOP⟩, fq216, fq217, fq218, fq219, fq220, fq221, fq222, fq223, fq224, fq225, fq226, fq227, fq228, V215, fq229⟩ B191 hl191 (by unfold own_ct; rw [f0, f1, f2]; rfl) (f0.symm) (f1.symm) (f2.symm)) (1 : Int32) (2 : Int32) (by decide) (by decide)
  · have g0 : own_in (bf 0) = (1 : Int32) := by rw [e0]; rfl
    have g1 : own_in (bf 1) = (0 : Int32) := by rw [e1]; rfl
    have g2 : own_in (bf 2) = (0 : Int32) := by rw [e2]; rfl
    have gc : own_ct bf = (1 : Int32) := by unfold own_ct; rw [g0, g1, g2]; rfl
    rw [gc, g0, g1, g2] at H
    have HC := H
    obtain ⟨⟨ga, gB, gS, gO, gP, gI⟩, ⟨nSO, nSP, nOP⟩, E_a1, F_buckets, F_sizes, F_keys, F_bucketOf, F_positions, F_last, F_count, RB, AS, AK, AO, AP, AI, BK⟩ := H
    have n1aB := own_neA E_a1 (own_w hw 3 rfl) RB.A
    have naBaS := own_A.neT RB.A AS (by decide)
    have naBaK := own_A.neT RB.A AK (by decide)
    have naBaO := own_A.neT RB.A AO (by decide)
    have naBaP := own_A.neT RB.A AP (by decide)
    have naBaI := own_A.neT RB.A AI (by decide)
    have n1aS := own_neA E_a1 (own_w hw 3 rfl) AS
    have naSaK := own_A.neT AS AK (by decide)
    have naSaI := own_A.neT AS AI (by decide)
    have n1aK := own_neA E_a1 (own_w hw 3 rfl) AK
    have naKaO := own_A.neT AK AO (by decide)
    have naKaP := own_A.neT AK AP (by decide)
    have naKaI := own_A.neT AK AI (by decide)
    have n1aO := own_neA E_a1 (own_w hw 3 rfl) AO
    have naOaI := own_A.neT AO AI (by decide)
    have n1aP := own_neA E_a1 (own_w hw 3 rfl) AP
    have naPaI := own_A.neT AP AI (by decide)
    have n1aI := own_neA E_a1 (own_w hw 3 rfl) AI
    show own_F p e below s Z _ _ _ _ _ (T0.setTop (mkF m 0 #[.val (.ref a1), .val (.ref aI), .val (.int sv), .unset, .unset] []))
    refine own_F.of (fun _ => XS.aloadN S0.here S0.hx rfl (S0.dec d5_0) rfl rfl) ?_
    refine own_F.of (fun _ => XS.iconst S0.here S0.hx rfl (S0.dec d5_1)) ?_
    show own_F p e below s Z _ _ _ _ _ (T0.setTop (mkF m 2 #[.val (.ref a1), .val (.ref aI), .val (.int sv), .unset, .unset] [(.int 0), (.ref aI)]))
    refine own_zald S0 AI (by decide) rfl d5_2 ?_
    show own_F p e below s Z _ _ _ _ _ (T0.setTop (mkF m 3 #[.val (.ref a1), .val (.ref aI), .val (.int sv), .unset, .unset] [(.int 1)]))
    refine own_if S0 18 d5_3 (by decide) (by decide) (fun (hc3_230 : ¬ ((1 : Int32) = (0 : Int32))) => ?_) (fun (hc3_230 : (1 : Int32) = (0 : Int32)) => False.elim (absurd hc3_230 (by decide)))
    show own_F p e below s Z _ _ _ _ _ (T0.setTop (mkF m 18 #[.val (.ref a1), .val (.ref aI), .val (.int sv), .unset, .unset] []))
    refine own_F.of (fun _ => XS.iconst S0.here S0.hx rfl (S0.dec d5_18)) ?_
    show own_F p e below s Z _ _ _ _ _ (T0.setTop (mkF m 19 #[.val (.ref a1), .val (.ref aI), .val (.int sv), .unset, .unset] [(.int 1)]))
    refine own_F.of (fun _ => XS.goto S0.here S0.hx rfl (pc0 := 19) (pc' := 23) rfl (S0.dec d5_19) (by decide) (by decide)) ?_
    show own_F p e below s Z _ _ _ _ _ (T0.setTop (mkF m 23 #[.val (.ref a1), .val (.ref aI), .val (.int sv), .unset, .unset] [(.int 1)]))
    refine own_F.of (fun _ => XS.istoreN S0.here S0.hx rfl (S0.dec d5_23) rfl (l' := #[.val (.ref a1), .val (.ref aI), .val (.int sv), .val (.int 1), .unset]) rfl) ?_
    refine own_F.of (fun _ => XS.iloadN S0.here S0.hx rfl (S0.dec d5_24) rfl) ?_
    refine own_F.of (fun _ => XS.iconst S0.here S0.hx rfl (S0.dec d5_25)) ?_
    show own_F p e below s Z _ _ _ _ _ (T0.setTop (mkF m 26 #[.val (.ref a1), .val (.ref aI), .val (.int sv), .val (.int 1), .unset] [(.int 4), (.int sv)]))
    refine own_F.of (fun _ => XS.iand S0.here S0.hx rfl (S0.dec d5_26) rfl) ?_
    show own_F p e below s Z _ _ _ _ _ (T0.setTop (mkF m 27 #[.val (.ref a1), .val (.ref aI), .val (.int sv), .val (.int 1), .unset] [(.int (sv &&& (4 : Int32)))]))
    refine own_if S0 68 d5_27 (by decide) (by decide) (fun (hc27_231 : (sv &&& (4 : Int32)) = (0 : Int32)) => ?_) (fun (hc27_231 : ¬ ((sv &&& (4 : Int32)) = (0 : Int32))) => ?_)
    · show own_F p e below s Z _ _ _ _ _ (T0.setTop (mkF m 68 #[.val (.ref a1), .val (.ref aI), .val (.int sv), .val (.int 1), .unset] []))
      exact J68 T0 S0 (1 : Int32)
    · show own_F p e below s Z _ _ _ _ _ (T0.setTop (mkF m 30 #[.val (.ref a1), .val (.ref aI), .val (.int sv), .val (.int 1), .unset] []))
      refine own_F.of (fun _ => XS.iloadN S0.here S0.hx rfl (S0.dec d5_30) rfl) ?_
      show own_F p e below s Z _ _ _ _ _ (T0.setTop (mkF m 31 #[.val (.ref a1), .val (.ref aI), .val (.int sv), .val (.int 1), .unset] [(.int 1)]))
      refine own_if S0 68 d5_31 (by decide) (by decide) (fun (hc31_232 : (1 : Int32) = (0 : Int32)) => False.elim (absurd hc31_232 (by decide))) (fun (hc31_232 : ¬ ((1 : Int32) = (0 : Int32))) => ?_)
      show own_F p e below s Z _ _ _ _ _ (T0.setTop (mkF m 34 #[.val (.ref a1), .val (.ref aI), .val (.int sv), .val (.int 1), .unset] []))
      refine own_F.of (fun _ => XS.aloadN S0.here S0.hx rfl (S0.dec d5_34) rfl rfl) ?_
      show own_F p e below s Z _ _ _ _ _ (T0.setTop (mkF m 35 #[.val (.ref a1), .val (.ref aI), .val (.int sv), .val (.int 1), .unset] [(.ref a1)]))
      refine own_callV S0 (y := (⟨"com/example/slackweave/slackweave/paths/RadixHeap", "pop", "()I"⟩ : MethodName)) (y' := (⟨"com/example/slackweave/slackweave/paths/RadixHeap", "pop", "()I"⟩ : MethodName)) (own_w hw 61 rfl) (own_w hw 62 rfl) (own_nf S0 (own_w hw 64 rfl)) (own_w hw 64 rfl) (own_w hw 63 rfl) (own_w hw 65 rfl) (own_w hw 4 rfl) (by decide) E_a1 (argsL := []) (rest := []) (own_pop l Z a0 hw a1 aB aS aK aO aP aI bk Cf bf pf la (1 : Int32) yf (1 : Int32) (0 : Int32) (0 : Int32) h0 S0.old HC AB ⟨0, by decide, by rw [e0]; exact fun q => by cases q⟩ hla hyf) own_news_sub (by decide +kernel : parseMethodDescriptor "()I" = some ⟨[], some .int⟩) rfl rfl rfl d5_35 (by decide) (Nat.le_of_ble_eq_true rfl) (by decide) (by decide) (fun T233 h233 v233 S233 K233 q233 => ?_)
      obtain ⟨mm233, bq233, cq233, bz233, pq233, lq233, rfl, hm233, hn233, hz233, hi233, H233, B233, hl233⟩ := q233
      obtain ⟨-, -, E_a1_233, F_buckets_233, F_sizes_233, F_keys_233, F_bucketOf_233, F_positions_233, F_last_233, F_count_233, RB_233, AS_233, AK_233, AO_233, AP_233, AI_233, BK_233⟩ := H233
      show own_F p e below s Z _ _ _ _ _ (T233.setTop (mkF m 38 #[.val (.ref a1), .val (.ref aI), .val (.int sv), .val (.int 1), .unset] [(.int mm233.toInt32)]))
      obtain rfl | rfl | rfl : mm233 = 0 ∨ mm233 = 1 ∨ mm233 = 2 := by omega
      · show own_F p e below s Z _ _ _ _ _ (T233.setTop (mkF m 38 #[.val (.ref a1), .val (.ref aI), .val (.int sv), .val (.int 1), .unset] [(.int 0)]))
        refine own_F.of (fun _ => XS.istore S233.here S233.hx rfl (S233.dec d5_38) rfl (l' := #[.val (.ref a1), .val (.ref aI), .val (.int sv), .val (.int 1), .val (.int 0)]) rfl) ?_
        refine own_F.of (fun _ => XS.iload S233.here S233.hx rfl (S233.dec d5_40) rfl) ?_
        show own_F p e below s Z _ _ _ _ _ (T233.setTop (mkF m 42 #[.val (.ref a1), .val (.ref aI), .val (.int sv), .val (.int 1), .val (.int 0)] [(.int 0)]))
        refine own_if S233 58 d5_42 (by decide) (by decide) (fun (hc42_234 : (0 : Int32) < (0 : Int32)) => False.elim (absurd hc42_234 (by decide))) (fun (hc42_234 : ¬ ((0 : Int32) < (0 : Int32))) => ?_)
        show own_F p e below s Z _ _ _ _ _ (T233.setTop (mkF m 45 #[.val (.ref a1), .val (.ref aI), .val (.int sv), .val (.int 1), .val (.int 0)] []))
        refine own_F.of (fun _ => XS.iload S233.here S233.hx rfl (S233.dec d5_45) rfl) ?_
        refine own_F.of (fun _ => XS.iconst S233.here S233.hx rfl (S233.dec d5_47)) ?_
        show own_F p e below s Z _ _ _ _ _ (T233.setTop (mkF m 48 #[.val (.ref a1), .val (.ref aI), .val (.int sv), .val (.int 1), .val (.int 0)] [(.int 2), (.int 0)]))
        refine own_icmp S233 58 d5_48 (by decide) (by decide) (fun (hc48_235 : (2 : Int32) < (0 : Int32)) => False.elim (absurd hc48_235 (by decide))) (fun (hc48_235 : ¬ ((2 : Int32) < (0 : Int32))) => ?_)
        show own_F p e below s Z _ _ _ _ _ (T233.setTop (mkF m 51 #[.val (.ref a1), .val (.ref aI), .val (.int sv), .val (.int 1), .val (.int 0)] []))
        refine own_F.of (fun _ => XS.aloadN S233.here S233.hx rfl (S233.dec d5_51) rfl rfl) ?_
        refine own_F.of (fun _ => XS.iload S233.here S233.hx rfl (S233.dec d5_52) rfl) ?_
        show own_F p e below s Z _ _ _ _ _ (T233.setTop (mkF m 54 #[.val (.ref a1), .val (.ref aI), .val (.int sv), .val (.int 1), .val (.int 0)] [(.int 0), (.ref aI)]))
        refine own_zald S233 AI_233 (by decide) rfl d5_54 ?_
        show own_F p e below s Z _ _ _ _ _ (T233.setTop (mkF m 55 #[.val (.ref a1), .val (.ref aI), .val (.int sv), .val (.int 1), .val (.int 0)] [(.int 1)]))
        refine own_if S233 60 d5_55 (by decide) (by decide) (fun (hc55_236 : ¬ ((1 : Int32) = (0 : Int32))) => ?_) (fun (hc55_236 : (1 : Int32) = (0 : Int32)) => False.elim (absurd hc55_236 (by decide)))
        show own_F p e below s Z _ _ _ _ _ (T233.setTop (mkF m 60 #[.val (.ref a1), .val (.ref aI), .val (.int sv), .val (.int 1), .val (.int 0)] []))
        refine own_F.of (fun _ => XS.aloadN S233.here S233.hx rfl (S233.dec d5_60) rfl rfl) ?_
        refine own_F.of (fun _ => XS.iload S233.here S233.hx rfl (S233.dec d5_61) rfl) ?_
        refine own_F.of (fun _ => XS.iconst S233.here S233.hx rfl (S233.dec d5_63)) ?_
        show own_F p e below s Z _ _ _ _ _ (T233.setTop (mkF m 64 #[.val (.ref a1), .val (.ref aI), .val (.int sv), .val (.int 1), .val (.int 0)] [(.int 0), (.int 0), (.ref aI)]))
        refine own_zst S233 AI_233 (by decide) (Nat.le_of_ble_eq_true rfl) d5_64 (own_news_may gI) (fun T237 h237 S237 W237 A237 => ?_)
        have V238 : own_A Z h237 aI .boolean [(.int (0 : Int32)), (.int (0 : Int32)), (.int (0 : Int32))] := A237
        show own_F p e below s Z _ _ _ _ _ (T237.setTop (mkF m 65 #[.val (.ref a1), .val (.ref aI), .val (.int sv), .val (.int 1), .val (.int 0)] []))
        refine own_F.of (fun _ => XS.goto S237.here S237.hx rfl (pc0 := 65) (pc' := 86) rfl (S237.dec d5_65) (by decide) (by decide)) ?_
        show own_F p e below s Z _ _ _ _ _ (T237.setTop (mkF m 86 #[.val (.ref a1), .val (.ref aI), .val (.int sv), .val (.int 1), .val (.int 0)] []))
        have fq239 := (E_a1_233.wr W237)
        have fq240 := (F_buckets_233.other W237 (Or.inl n1aI))
        have fq241 := (F_sizes_233.other W237 (Or.inl n1aI))
        have fq242 := (F_keys_233.other W237 (Or.inl n1aI))
        have fq243 := (F_bucketOf_233.other W237 (Or.inl n1aI))
        have fq244 := (F_positions_233.other W237 (Or.inl n1aI))
        have fq245 := (F_last_233.other W237 (Or.inl n1aI))
        have fq246 := (F_count_233.other W237 (Or.inl n1aI))
        have fq247 := (RB_233.other W237 naBaI)
        have fq248 := (AS_233.other W237 naSaI)
        have fq249 := (AK_233.other W237 naKaI)
        have fq250 := (AO_233.other W237 naOaI)
        have fq251 := (AP_233.other W237 naPaI)
        have fq252 := (BK_233.oI AI_233 W237)
        have f0 : own_in (bz233 0) = (0 : Int32) := by rw [hz233]; rfl
        have f1 : own_in (bz233 1) = (0 : Int32) := (own_in_iff (hi233 1 (by decide) (by decide))).trans g1
        have f2 : own_in (bz233 2) = (0 : Int32) := (own_in_iff (hi233 2 (by decide) (by decide))).trans g2
        exact J86 T237 h237 _ _ S237 (own_ST.mk ⟨⟨ga, gB, gS, gO, gP, gI⟩, ⟨nSO, nSP, nOP⟩, fq239, fq240, fq241, fq242, fq243, fq244, fq245, fq246, fq247, fq248, fq249, fq250, fq251, V238, fq252⟩ B233 hl233 (by unfold own_ct; rw [f0, f1, f2]; rfl) (f0.symm) (f1.symm) (f2.symm)) (1 : Int32) (0 : Int32) (by decide) (by decide)
      · exact absurd e1 hn233
      · exact absurd e2 hn233
  · have g0 : own_in (bf 0) = (1 : Int32) := by rw [e0]; rfl
    have g1 : own_in (bf 1) = (0 : Int32) := by rw [e1]; rfl
    have g2 : own_in (bf 2) = (1 : Int32) := by rw [e2]; rfl
    have gc : own_ct bf = (2 : Int32) := by unfold own_ct; rw [g0, g1, g2]; rfl
    rw [gc, g0, g1, g2] at H
    have HC := H
    obtain ⟨⟨ga, gB, gS, gO, gP, gI⟩, ⟨nSO, nSP, nOP⟩, E_a1, F_buckets, F_sizes, F_keys, F_bucketOf, F_positions, F_last, F_count, RB, AS, AK, AO, AP, AI, BK⟩ := H
    have n1aB := own_neA E_a1 (own_w hw 3 rfl) RB.A
    have naBaS := own_A.neT RB.A AS (by decide)
    have naBaK := own_A.neT RB.A AK (by decide)
    have naBaO := own_A.neT RB.A AO (by decide)
    have naBaP := own_A.neT RB.A AP (by decide)
    have naBaI := own_A.neT RB.A AI (by decide)
    have n1aS := own_neA E_a1 (own_w hw 3 rfl) AS
    have naSaK := own_A.neT AS AK (by decide)
    have naSaI := own_A.neT AS AI (by decide)
    have n1aK := own_neA E_a1 (own_w hw 3 rfl) AK
    have naKaO := own_A.neT AK AO (by decide)
    have naKaP := own_A.neT AK AP (by decide)
    have naKaI := own_A.neT AK AI (by decide)
    have n1aO := own_neA E_a1 (own_w hw 3 rfl) AO
    have naOaI := own_A.neT AO AI (by decide)
    have n1aP := own_neA E_a1 (own_w hw 3 rfl) AP
    have naPaI := own_A.neT AP AI (by decide)
    have n1aI := own_neA E_a1 (own_w hw 3 rfl) AI
    show own_F p e below s Z _ _ _ _ _ (T0.setTop (mkF m 0 #[.val (.ref a1), .val (.ref aI), .val (.int sv), .unset, .unset] []))
    refine own_F.of (fun _ => XS.aloadN S0.here S0.hx rfl (S0.dec d5_0) rfl rfl) ?_
    refine own_F.of (fun _ => XS.iconst S0.here S0.hx rfl (S0.dec d5_1)) ?_
    show own_F p e below s Z _ _ _ _ _ (T0.setTop (mkF m 2 #[.val (.ref a1), .val (.ref aI), .val (.int sv), .unset, .unset] [(.int 0), (.ref aI)]))
    refine own_zald S0 AI (by decide) rfl d5_2 ?_
    show own_F p e below s Z _ _ _ _ _ (T0.setTop (mkF m 3 #[.val (.ref a1), .val (.ref aI), .val (.int sv), .unset, .unset] [(.int 1)]))
    refine own_if S0 18 d5_3 (by decide) (by decide) (fun (hc3_253 : ¬ ((1 : Int32) = (0 : Int32))) => ?_) (fun (hc3_253 : (1 : Int32) = (0 : Int32)) => False.elim (absurd hc3_253 (by decide)))
    show own_F p e below s Z _ _ _ _ _ (T0.setTop (mkF m 18 #[.val (.ref a1), .val (.ref aI), .val (.int sv), .unset, .unset] []))
    refine own_F.of (fun _ => XS.iconst S0.here S0.hx rfl (S0.dec d5_18)) ?_
    show own_F p e below s Z _ _ _ _ _ (T0.setTop (mkF m 19 #[.val (.ref a1), .val (.ref aI), .val (.int sv), .unset, .unset] [(.int 1)]))
    refine own_F.of (fun _ => XS.goto S0.here S0.hx rfl (pc0 := 19) (pc' := 23) rfl (S0.dec d5_19) (by decide) (by decide)) ?_
    show own_F p e below s Z _ _ _ _ _ (T0.setTop (mkF m 23 #[.val (.ref a1), .val (.ref aI), .val (.int sv), .unset, .unset] [(.int 1)]))
    refine own_F.of (fun _ => XS.istoreN S0.here S0.hx rfl (S0.dec d5_23) rfl (l' := #[.val (.ref a1), .val (.ref aI), .val (.int sv), .val (.int 1), .unset]) rfl) ?_
    refine own_F.of (fun _ => XS.iloadN S0.here S0.hx rfl (S0.dec d5_24) rfl) ?_
    refine own_F.of (fun _ => XS.iconst S0.here S0.hx rfl (S0.dec d5_25)) ?_
    show own_F p e below s Z _ _ _ _ _ (T0.setTop (mkF m 26 #[.val (.ref a1), .val (.ref aI), .val (.int sv), .val (.int 1), .unset] [(.int 4), (.int sv)]))
    refine own_F.of (fun _ => XS.iand S0.here S0.hx rfl (S0.dec d5_26) rfl) ?_
    show own_F p e below s Z _ _ _ _ _ (T0.setTop (mkF m 27 #[.val (.ref a1), .val (.ref aI), .val (.int sv), .val (.int 1), .unset] [(.int (sv &&& (4 : Int32)))]))
    refine own_if S0 68 d5_27 (by decide) (by decide) (fun (hc27_254 : (sv &&& (4 : Int32)) = (0 : Int32)) => ?_) (fun (hc27_254 : ¬ ((sv &&& (4 : Int32)) = (0 : Int32))) => ?_)
    · show own_F p e below s Z _ _ _ _ _ (T0.setTop (mkF m 68 #[.val (.ref a1), .val (.ref aI), .val (.int sv), .val (.int 1), .unset] []))
      exact J68 T0 S0 (1 : Int32)
    · show own_F p e below s Z _ _ _ _ _ (T0.setTop (mkF m 30 #[.val (.ref a1), .val (.ref aI), .val (.int sv), .val (.int 1), .unset] []))
      refine own_F.of (fun _ => XS.iloadN S0.here S0.hx rfl (S0.dec d5_30) rfl) ?_
      show own_F p e below s Z _ _ _ _ _ (T0.setTop (mkF m 31 #[.val (.ref a1), .val (.ref aI), .val (.int sv), .val (.int 1), .unset] [(.int 1)]))
      refine own_if S0 68 d5_31 (by decide) (by decide) (fun (hc31_255 : (1 : Int32) = (0 : Int32)) => False.elim (absurd hc31_255 (by decide))) (fun (hc31_255 : ¬ ((1 : Int32) = (0 : Int32))) => ?_)
      show own_F p e below s Z _ _ _ _ _ (T0.setTop (mkF m 34 #[.val (.ref a1), .val (.ref aI), .val (.int sv), .val (.int 1), .unset] []))
      refine own_F.of (fun _ => XS.aloadN S0.here S0.hx rfl (S0.dec d5_34) rfl rfl) ?_
      show own_F p e below s Z _ _ _ _ _ (T0.setTop (mkF m 35 #[.val (.ref a1), .val (.ref aI), .val (.int sv), .val (.int 1), .unset] [(.ref a1)]))
      refine own_callV S0 (y := (⟨"com/example/slackweave/slackweave/paths/RadixHeap", "pop", "()I"⟩ : MethodName)) (y' := (⟨"com/example/slackweave/slackweave/paths/RadixHeap", "pop", "()I"⟩ : MethodName)) (own_w hw 61 rfl) (own_w hw 62 rfl) (own_nf S0 (own_w hw 64 rfl)) (own_w hw 64 rfl) (own_w hw 63 rfl) (own_w hw 65 rfl) (own_w hw 4 rfl) (by decide) E_a1 (argsL := []) (rest := []) (own_pop l Z a0 hw a1 aB aS aK aO aP aI bk Cf bf pf la (2 : Int32) yf (1 : Int32) (0 : Int32) (1 : Int32) h0 S0.old HC AB ⟨0, by decide, by rw [e0]; exact fun q => by cases q⟩ hla hyf) own_news_sub (by decide +kernel : parseMethodDescriptor "()I" = some ⟨[], some .int⟩) rfl rfl rfl d5_35 (by decide) (Nat.le_of_ble_eq_true rfl) (by decide) (by decide) (fun T256 h256 v256 S256 K256 q256 => ?_)
      obtain ⟨mm256, bq256, cq256, bz256, pq256, lq256, rfl, hm256, hn256, hz256, hi256, H256, B256, hl256⟩ := q256
      obtain ⟨-, -, E_a1_256, F_buckets_256, F_sizes_256, F_keys_256, F_bucketOf_256, F_positions_256, F_last_256, F_count_256, RB_256, AS_256, AK_256, AO_256, AP_256, AI_256, BK_256⟩ := H256
      show own_F p e below s Z _ _ _ _ _ (T256.setTop (mkF m 38 #[.val (.ref a1), .val (.ref aI), .val (.int sv), .val (.int 1), .unset] [(.int mm256.toInt32)]))
      obtain rfl | rfl | rfl : mm256 = 0 ∨ mm256 = 1 ∨ mm256 = 2 := by omega
      · show own_F p e below s Z _ _ _ _ _ (T256.setTop (mkF m 38 #[.val (.ref a1), .val (.ref aI), .val (.int sv), .val (.int 1), .unset] [(.int 0)]))
        refine own_F.of (fun _ => XS.istore S256.here S256.hx rfl (S256.dec d5_38) rfl (l' := #[.val (.ref a1), .val (.ref aI), .val (.int sv), .val (.int 1), .val (.int 0)]) rfl) ?_
        refine own_F.of (fun _ => XS.iload S256.here S256.hx rfl (S256.dec d5_40) rfl) ?_
        show own_F p e below s Z _ _ _ _ _ (T256.setTop (mkF m 42 #[.val (.ref a1), .val (.ref aI), .val (.int sv), .val (.int 1), .val (.int 0)] [(.int 0)]))
        refine own_if S256 58 d5_42 (by decide) (by decide) (fun (hc42_257 : (0 : Int32) < (0 : Int32)) => False.elim (absurd hc42_257 (by decide))) (fun (hc42_257 : ¬ ((0 : Int32) < (0 : Int32))) => ?_)
        show own_F p e below s Z _ _ _ _ _ (T256.setTop (mkF m 45 #[.val (.ref a1), .val (.ref aI), .val (.int sv), .val (.int 1), .val (.int 0)] []))
        refine own_F.of (fun _ => XS.iload S256.here S256.hx rfl (S256.dec d5_45) rfl) ?_
        refine own_F.of (fun _ => XS.iconst S256.here S256.hx rfl (S256.dec d5_47)) ?_
        show own_F p e below s Z _ _ _ _ _ (T256.setTop (mkF m 48 #[.val (.ref a1), .val (.ref aI), .val (.int sv), .val (.int 1), .val (.int 0)] [(.int 2), (.int 0)]))
        refine own_icmp S256 58 d5_48 (by decide) (by decide) (fun (hc48_258 : (2 : Int32) < (0 : Int32)) => False.elim (absurd hc48_258 (by decide))) (fun (hc48_258 : ¬ ((2 : Int32) < (0 : Int32))) => ?_)
        show own_F p e below s Z _ _ _ _ _ (T256.setTop (mkF m 51 #[.val (.ref a1), .val (.ref aI), .val (.int sv), .val (.int 1), .val (.int 0)] []))
        refine own_F.of (fun _ => XS.aloadN S256.here S256.hx rfl (S256.dec d5_51) rfl rfl) ?_
        refine own_F.of (fun _ => XS.iload S256.here S256.hx rfl (S256.dec d5_52) rfl) ?_
        show own_F p e below s Z _ _ _ _ _ (T256.setTop (mkF m 54 #[.val (.ref a1), .val (.ref aI), .val (.int sv), .val (.int 1), .val (.int 0)] [(.int 0), (.ref aI)]))
        refine own_zald S256 AI_256 (by decide) rfl d5_54 ?_
        show own_F p e below s Z _ _ _ _ _ (T256.setTop (mkF m 55 #[.val (.ref a1), .val (.ref aI), .val (.int sv), .val (.int 1), .val (.int 0)] [(.int 1)]))
        refine own_if S256 60 d5_55 (by decide) (by decide) (fun (hc55_259 : ¬ ((1 : Int32) = (0 : Int32))) => ?_) (fun (hc55_259 : (1 : Int32) = (0 : Int32)) => False.elim (absurd hc55_259 (by decide)))
        show own_F p e below s Z _ _ _ _ _ (T256.setTop (mkF m 60 #[.val (.ref a1), .val (.ref aI), .val (.int sv), .val (.int 1), .val (.int 0)] []))
        refine own_F.of (fun _ => XS.aloadN S256.here S256.hx rfl (S256.dec d5_60) rfl rfl) ?_
        refine own_F.of (fun _ => XS.iload S256.here S256.hx rfl (S256.dec d5_61) rfl) ?_
        refine own_F.of (fun _ => XS.iconst S256.here S256.hx rfl (S256.dec d5_63)) ?_
        show own_F p e below s Z _ _ _ _ _ (T256.setTop (mkF m 64 #[.val (.ref a1), .val (.ref aI), .val (.int sv), .val (.int 1), .val (.int 0)] [(.int 0), (.int 0), (.ref aI)]))
        refine own_zst S256 AI_256 (by decide) (Nat.le_of_ble_eq_true rfl) d5_64 (own_news_may gI) (fun T260 h260 S260 W260 A260 => ?_)
        have V261 : own_A Z h260 aI .boolean [(.int (0 : Int32)), (.int (0 : Int32)), (.int (1 : Int32))] := A260
        show own_F p e below s Z _ _ _ _ _ (T260.setTop (mkF m 65 #[.val (.ref a1), .val (.ref aI), .val (.int sv), .val (.int 1), .val (.int 0)] []))
        refine own_F.of (fun _ => XS.goto S260.here S260.hx rfl (pc0 := 65) (pc' := 86) rfl (S260.dec d5_65) (by decide) (by decide)) ?_
        show own_F p e below s Z _ _ _ _ _ (T260.setTop (mkF m 86 #[.val (.ref a1), .val (.ref aI), .val (.int sv), .val (.int 1), .val (.int 0)] []))
        have fq262 := (E_a1_256.wr W260)
        have fq263 := (F_buckets_256.other W260 (Or.inl n1aI))
        have fq264 := (F_sizes_256.other W260 (Or.inl n1aI))
        have fq265 := (F_keys_256.other W260 (Or.inl n1aI))
        have fq266 := (F_bucketOf_256.other W260 (Or.inl n1aI))
        have fq267 := (F_positions_256.other W260 (Or.inl n1aI))
        have fq268 := (F_last_256.other W260 (Or.inl n1aI))
        have fq269 := (F_count_256.other W260 (Or.inl n1aI))
        have fq270 := (RB_256.other W260 naBaI)
        have fq271 := (AS_256.other W260 naSaI)
        have fq272 := (AK_256.other W260 naKaI)
        have fq273 := (AO_256.other W260 naOaI)
        have fq274 := (AP_256.other W260 naPaI)
        have fq275 := (BK_256.oI AI_256 W260)
        have f0 : own_in (bz256 0) = (0 : Int32) := by rw [hz256]; rfl
        have f1 : own_in (bz256 1) = (0 : Int32) := (own_in_iff (hi256 1 (by decide) (by decide))).trans g1
        have f2 : own_in (bz256 2) = (1 : Int32) := (own_in_iff (hi256 2 (by decide) (by decide))).trans g2
        exact J86 T260 h260 _ _ S260 (own_ST.mk ⟨⟨ga, gB, gS, gO, gP, gI⟩, ⟨nSO, nSP, nOP⟩, fq262, fq263, fq264, fq265, fq266, fq267, fq268, fq269, fq270, fq271, fq272, fq273, fq274, V261, fq275⟩ B256 hl256 (by unfold own_ct; rw [f0, f1, f2]; rfl) (f0.symm) (f1.symm) (f2.symm)) (1 : Int32) (0 : Int32) (by decide) (by decide)
      · exact absurd e1 hn256
      · show own_F p e below s Z _ _ _ _ _ (T256.setTop (mkF m 38 #[.val (.ref a1), .val (.ref aI), .val (.int sv), .val (.int 1), .unset] [(.int 2)]))
        refine own_F.of (fun _ => XS.istore S256.here S256.hx rfl (S256.dec d5_38) rfl (l' := #[.val (.ref a1), .val (.ref aI), .val (.int sv), .val (.int 1), .val (.int 2)]) rfl) ?_
        refine own_F.of (fun _ => XS.iload S256.here S256.hx rfl (S256.dec d5_40) rfl) ?_
        show own_F p e below s Z _ _ _ _ _ (T256.setTop (mkF m 42 #[.val (.ref a1), .val (.ref aI), .val (.int sv), .val (.int 1), .val (.int 2)] [(.int 2)]))
        refine own_if S256 58 d5_42 (by decide) (by decide) (fun (hc42_276 : (2 : Int32) < (0 : Int32)) => False.elim (absurd hc42_276 (by decide))) (fun (hc42_276 : ¬ ((2 : Int32) < (0 : Int32))) => ?_)
        show own_F p e below s Z _ _ _ _ _ (T256.setTop (mkF m 45 #[.val (.ref a1), .val (.ref aI), .val (.int sv), .val (.int 1), .val (.int 2)] []))
        refine own_F.of (fun _ => XS.iload S256.here S256.hx rfl (S256.dec d5_45) rfl) ?_
        refine own_F.of (fun _ => XS.iconst S256.here S256.hx rfl (S256.dec d5_47)) ?_
        show own_F p e below s Z _ _ _ _ _ (T256.setTop (mkF m 48 #[.val (.ref a1), .val (.ref aI), .val (.int sv), .val (.int 1), .val (.int 2)] [(.int 2), (.int 2)]))
        refine own_icmp S256 58 d5_48 (by decide) (by decide) (fun (hc48_277 : (2 : Int32) < (2 : Int32)) => False.elim (absurd hc48_277 (by decide))) (fun (hc48_277 : ¬ ((2 : Int32) < (2 : Int32))) => ?_)
        show own_F p e below s Z _ _ _ _ _ (T256.setTop (mkF m 51 #[.val (.ref a1), .val (.ref aI), .val (.int sv), .val (.int 1), .val (.int 2)] []))
        refine own_F.of (fun _ => XS.aloadN S256.here S256.hx rfl (S256.dec d5_51) rfl rfl) ?_
        refine own_F.of (fun _ => XS.iload S256.here S256.hx rfl (S256.dec d5_52) rfl) ?_
        show own_F p e below s Z _ _ _ _ _ (T256.setTop (mkF m 54 #[.val (.ref a1), .val (.ref aI), .val (.int sv), .val (.int 1), .val (.int 2)] [(.int 2), (.ref aI)]))
        refine own_zald S256 AI_256 (by decide) rfl d5_54 ?_
        show own_F p e below s Z _ _ _ _ _ (T256.setTop (mkF m 55 #[.val (.ref a1), .val (.ref aI), .val (.int sv), .val (.int 1), .val (.int 2)] [(.int 1)]))
        refine own_if S256 60 d5_55 (by decide) (by decide) (fun (hc55_278 : ¬ ((1 : Int32) = (0 : Int32))) => ?_) (fun (hc55_278 : (1 : Int32) = (0 : Int32)) => False.elim (absurd hc55_278 (by decide)))
        show own_F p e below s Z _ _ _ _ _ (T256.setTop (mkF m 60 #[.val (.ref a1), .val (.ref aI), .val (.int sv), .val (.int 1), .val (.int 2)] []))
        refine own_F.of (fun _ => XS.aloadN S256.here S256.hx rfl (S256.dec d5_60) rfl rfl) ?_
        refine own_F.of (fun _ => XS.iload S256.here S256.hx rfl (S256.dec d5_61) rfl) ?_
        refine own_F.of (fun _ => XS.iconst S256.here S256.hx rfl (S256.dec d5_63)) ?_
        show own_F p e below s Z _ _ _ _ _ (T256.setTop (mkF m 64 #[.val (.ref a1), .val (.ref aI), .val (.int sv), .val (.int 1), .val (.int 2)] [(.int 0), (.int 2), (.ref aI)]))
        refine own_zst S256 AI_256 (by decide) (Nat.le_of_ble_eq_true rfl) d5_64 (own_news_may gI) (fun T279 h279 S279 W279 A279 => ?_)
        have V280 : own_A Z h279 aI .boolean [(.int (1 : Int32)), (.int (0 : Int32)), (.int (0 : Int32))] := A279
        show own_F p e below s Z _ _ _ _ _ (T279.setTop (mkF m 65 #[.val (.ref a1), .val (.ref aI), .val (.int sv), .val (.int 1), .val (.int 2)] []))
        refine own_F.of (fun _ => XS.goto S279.here S279.hx rfl (pc0 := 65) (pc' := 86) rfl (S279.dec d5_65) (by decide) (by decide)) ?_
        show own_F p e below s Z _ _ _ _ _ (T279.setTop (mkF m 86 #[.val (.ref a1), .val (.ref aI), .val (.int sv), .val (.int 1), .val (.int 2)] []))
        have fq281 := (E_a1_256.wr W279)
        have fq282 := (F_buckets_256.other W279 (Or.inl n1aI))
        have fq283 := (F_sizes_256.other W279 (Or.inl n1aI))
        have fq284 := (F_keys_256.other W279 (Or.inl n1aI))
        have fq285 := (F_bucketOf_256.other W279 (Or.inl n1aI))
        have fq286 := (F_positions_256.other W279 (Or.inl n1aI))
        have fq287 := (F_last_256.other W279 (Or.inl n1aI))
        have fq288 := (F_count_256.other W279 (Or.inl n1aI))
        have fq289 := (RB_256.other W279 naBaI)
        have fq290 := (AS_256.other W279 naSaI)
        have fq291 := (AK_256.other W279 naKaI)
        have fq292 := (AO_256.other W279 naOaI)
        have fq293 := (AP_256.other W279 naPaI)
        have fq294 := (BK_256.oI AI_256 W279)
        have f0 : own_in (bz256 0) = (1 : Int32) := (own_in_iff (hi256 0 (by decide) (by decide))).trans g0
        have f1 : own_in (bz256 1) = (0 : Int32) := (own_in_iff (hi256 1 (by decide) (by decide))).trans g1
        have f2 : own_in (bz256 2) = (0 : Int32) := by rw [hz256]; rfl
        exact J86 T279 h279 _ _ S279 (own_ST.mk ⟨⟨ga, gB, gS, gO, gP, gI⟩, ⟨nSO, nSP, nOP⟩, fq281, fq282, fq283, fq284, fq285, fq286, fq287, fq288, fq289, fq290, fq291, fq292, fq293, V280, fq294⟩ B256 hl256 (by unfold own_ct; rw [f0, f1, f2]; rfl) (f0.symm) (f1.symm) (f2.symm)) (1 : Int32) (2 : Int32) (by decide) (by decide)
  · have g0 : own_in (bf 0) = (1 : Int32) := by rw [e0]; rfl
    have g1 : own_in (bf 1) = (1 : Int32) := by rw [e1]; rfl
    have g2 : own_in (bf 2) = (0 : Int32) := by rw [e2]; rfl
    have gc : own_ct bf = (2 : Int32) := by unfold own_ct; rw [g0, g1, g2]; rfl
    rw [gc, g0, g1, g2] at H
    have HC := H
    obtain ⟨⟨ga, gB, gS, gO, gP, gI⟩, ⟨nSO, nSP, nOP⟩, E_a1, F_buckets, F_sizes, F_keys, F_bucketOf, F_positions, F_last, F_count, RB, AS, AK, AO, AP, AI, BK⟩ := H
    have n1aB := own_neA E_a1 (own_w hw 3 rfl) RB.A
    have naBaS := own_A.neT RB.A AS (by decide)
    have naBaK := own_A.neT RB.A AK (by decide)
    have naBaO := own_A.neT RB.A AO (by decide)
    have naBaP := own_A.neT RB.A AP (by decide)
    have naBaI := own_A.neT RB.A AI (by decide)
    have n1aS := own_neA E_a1 (own_w hw 3 rfl) AS
    have naSaK := own_A.neT AS AK (by decide)
    have naSaI := own_A.neT AS AI (by decide)
    have n1aK := own_neA E_a1 (own_w hw 3 rfl) AK
    have naKaO := own_A.neT AK AO (by decide)
    have naKaP := own_A.neT AK AP (by decide)
    have naKaI := own_A.neT AK AI (by decide)
    have n1aO := own_neA E_a1 (own_w hw 3 rfl) AO
    have naOaI := own_A.neT AO AI (by decide)
    have n1aP := own_neA E_a1 (own_w hw 3 rfl) AP
    have naPaI := own_A.neT AP AI (by decide)
    have n1aI := own_neA E_a1 (own_w hw 3 rfl) AI
    show own_F p e below s Z _ _ _ _ _ (T0.setTop (mkF m 0 #[.val (.ref a1), .val (.ref aI), .val (.int sv), .unset, .unset] []))
    refine own_F.of (fun _ => XS.aloadN S0.here S0.hx rfl (S0.dec d5_0) rfl rfl) ?_
    refine own_F.of (fun _ => XS.iconst S0.here S0.hx rfl (S0.dec d5_1)) ?_
    show own_F p e below s Z _ _ _ _ _ (T0.setTop (mkF m 2 #[.val (.ref a1), .val (.ref aI), .val (.int sv), .unset, .unset] [(.int 0), (.ref aI)]))
    refine own_zald S0 AI (by decide) rfl d5_2 ?_
    show own_F p e below s Z _ _ _ _ _ (T0.setTop (mkF m 3 #[.val (.ref a1), .val (.ref aI), .val (.int sv), .unset, .unset] [(.int 1)]))
    refine own_if S0 18 d5_3 (by decide) (by decide) (fun (hc3_295 : ¬ ((1 : Int32) = (0 : Int32))) => ?_) (fun (hc3_295 : (1 : Int32) = (0 : Int32)) => False.elim (absurd hc3_295 (by decide)))
    show own_F p e below s Z _ _ _ _ _ (T0.setTop (mkF m 18 #[.val (.ref a1), .val (.ref aI), .val (.int sv), .unset, .unset] []))
    refine own_F.of (fun _ => XS.iconst S0.here S0.hx rfl (S0.dec d5_18)) ?_
    show own_F p e below s Z _ _ _ _ _ (T0.setTop (mkF m 19 #[.val (.ref a1), .val (.ref aI), .val (.int sv), .unset, .unset] [(.int 1)]))
    refine own_F.of (fun _ => XS.goto S0.here S0.hx rfl (pc0 := 19) (pc' := 23) rfl (S0.dec d5_19) (by decide) (by decide)) ?_
    show own_F p e below s Z _ _ _ _ _ (T0.setTop (mkF m 23 #[.val (.ref a1), .val (.ref aI), .val (.int sv), .unset, .unset] [(.int 1)]))
    refine own_F.of (fun _ => XS.istoreN S0.here S0.hx rfl (S0.dec d5_23) rfl (l' := #[.val (.ref a1), .val (.ref aI), .val (.int sv), .val (.int 1), .unset]) rfl) ?_
    refine own_F.of (fun _ => XS.iloadN S0.here S0.hx rfl (S0.dec d5_24) rfl) ?_
    refine own_F.of (fun _ => XS.iconst S0.here S0.hx rfl (S0.dec d5_25)) ?_
    show own_F p e below s Z _ _ _ _ _ (T0.setTop (mkF m 26 #[.val (.ref a1), .val (.ref aI), .val (.int sv), .val (.int 1), .unset] [(.int 4), (.int sv)]))
    refine own_F.of (fun _ => XS.iand S0.here S0.hx rfl (S0.dec d5_26) rfl) ?_
    show own_F p e below s Z _ _ _ _ _ (T0.setTop (mkF m 27 #[.val (.ref a1), .val (.ref aI), .val (.int sv), .val (.int 1), .unset] [(.int (sv &&& (4 : Int32)))]))
    refine own_if S0 68 d5_27 (by decide) (by decide) (fun (hc27_296 : (sv &&& (4 : Int32)) = (0 : Int32)) => ?_) (fun (hc27_296 : ¬ ((sv &&& (4 : Int32)) = (0 : Int32))) => ?_)
    · show own_F p e below s Z _ _ _ _ _ (T0.setTop (mkF m 68 #[.val (.ref a1), .val (.ref aI), .val (.int sv), .val (.int 1), .unset] []))
      exact J68 T0 S0 (1 : Int32)
    · show own_F p e below s Z _ _ _ _ _ (T0.setTop (mkF m 30 #[.val (.ref a1), .val (.ref aI), .val (.int sv), .val (.int 1), .unset] []))
      refine own_F.of (fun _ => XS.iloadN S0.here S0.hx rfl (S0.dec d5_30) rfl) ?_
      show own_F p e below s Z _ _ _ _ _ (T0.setTop (mkF m 31 #[.val (.ref a1), .val (.ref aI), .val (.int sv), .val (.int 1), .unset] [(.int 1)]))
      refine own_if S0 68 d5_31 (by decide) (by decide) (fun (hc31_297 : (1 : Int32) = (0 : Int32)) => False.elim (absurd hc31_297 (by decide))) (fun (hc31_297 : ¬ ((1 : Int32) = (0 : Int32))) => ?_)
      show own_F p e below s Z _ _ _ _ _ (T0.setTop (mkF m 34 #[.val (.ref a1), .val (.ref aI), .val (.int sv), .val (.int 1), .unset] []))
      refine own_F.of (fun _ => XS.aloadN S0.here S0.hx rfl (S0.dec d5_34) rfl rfl) ?_
      show own_F p e below s Z _ _ _ _ _ (T0.setTop (mkF m 35 #[.val (.ref a1), .val (.ref aI), .val (.int sv), .val (.int 1), .unset] [(.ref a1)]))
      refine own_callV S0 (y := (⟨"com/example/slackweave/slackweave/paths/RadixHeap", "pop", "()I"⟩ : MethodName)) (y' := (⟨"com/example/slackweave/slackweave/paths/RadixHeap", "pop", "()I"⟩ : MethodName)) (own_w hw 61 rfl) (own_w hw 62 rfl) (own_nf S0 (own_w hw 64 rfl)) (own_w hw 64 rfl) (own_w hw 63 rfl) (own_w hw 65 rfl) (own_w hw 4 rfl) (by decide) E_a1 (argsL := []) (rest := []) (own_pop l Z a0 hw a1 aB aS aK aO aP aI bk Cf bf pf la (2 : Int32) yf (1 : Int32) (1 : Int32) (0 : Int32) h0 S0.old HC AB ⟨0, by decide, by rw [e0]; exact fun q => by cases q⟩ hla hyf) own_news_sub (by decide +kernel : parseMethodDescriptor "()I" = some ⟨[], some .int⟩) rfl rfl rfl d5_35 (by decide) (Nat.le_of_ble_eq_true rfl) (by decide) (by decide) (fun T298 h298 v298 S298 K298 q298 => ?_)
      obtain ⟨mm298, bq298, cq298, bz298, pq298, lq298, rfl, hm298, hn298, hz298, hi298, H298, B298, hl298⟩ := q298
      obtain ⟨-, -, E_a1_298, F_buckets_298, F_sizes_298, F_keys_298, F_bucketOf_298, F_positions_298, F_last_298, F_count_298, RB_298, AS_298, AK_298, AO_298, AP_298, AI_298, BK_298⟩ := H298
      show own_F p e below s Z _ _ _ _ _ (T298.setTop (mkF m 38 #[.val (.ref a1), .val (.ref aI), .val (.int sv), .val (.int 1), .unset] [(.int mm298.toInt32)]))
      obtain rfl | rfl | rfl : mm298 = 0 ∨ mm298 = 1 ∨ mm298 = 2 := by omega
      · show own_F p e below s Z _ _ _ _ _ (T298.setTop (mkF m 38 #[.val (.ref a1), .val (.ref aI), .val (.int sv), .val (.int 1), .unset] [(.int 0)]))
        refine own_F.of (fun _ => XS.istore S298.here S298.hx rfl (S298.dec d5_38) rfl (l' := #[.val (.ref a1), .val (.ref aI), .val (.int sv), .val (.int 1), .val (.int 0)]) rfl) ?_
        refine own_F.of (fun _ => XS.iload S298.here S298.hx rfl (S298.dec d5_40) rfl) ?_
        show own_F p e below s Z _ _ _ _ _ (T298.setTop (mkF m 42 #[.val (.ref a1), .val (.ref aI), .val (.int sv), .val (.int 1), .val (.int 0)] [(.int 0)]))
        refine own_if S298 58 d5_42 (by decide) (by decide) (fun (hc42_299 : (0 : Int32) < (0 : Int32)) => False.elim (absurd hc42_299 (by decide))) (fun (hc42_299 : ¬ ((0 : Int32) < (0 : Int32))) => ?_)
        show own_F p e below s Z _ _ _ _ _ (T298.setTop (mkF m 45 #[.val (.ref a1), .val (.ref aI), .val (.int sv), .val (.int 1), .val (.int 0)] []))
        refine own_F.of (fun _ => XS.iload S298.here S298.hx rfl (S298.dec d5_45) rfl) ?_
        refine own_F.of (fun _ => XS.iconst S298.here S298.hx rfl (S298.dec d5_47)) ?_
        show own_F p e below s Z _ _ _ _ _ (T298.setTop (mkF m 48 #[.val (.ref a1), .val (.ref aI), .val (.int sv), .val (.int 1), .val (.int 0)] [(.int 2), (.int 0)]))
        refine own_icmp S298 58 d5_48 (by decide) (by decide) (fun (hc48_300 : (2 : Int32) < (0 : Int32)) => False.elim (absurd hc48_300 (by decide))) (fun (hc48_300 : ¬ ((2 : Int32) < (0 : Int32))) => ?_)
        show own_F p e below s Z _ _ _ _ _ (T298.setTop (mkF m 51 #[.val (.ref a1), .val (.ref aI), .val (.int sv), .val (.int 1), .val (.int 0)] []))
        refine own_F.of (fun _ => XS.aloadN S298.here S298.hx rfl (S298.dec d5_51) rfl rfl) ?_
        refine own_F.of (fun _ => XS.iload S298.here S298.hx rfl (S298.dec d5_52) rfl) ?_
        show own_F p e below s Z _ _ _ _ _ (T298.setTop (mkF m 54 #[.val (.ref a1), .val (.ref aI), .val (.int sv), .val (.int 1), .val (.int 0)] [(.int 0), (.ref aI)]))
        refine own_zald S298 AI_298 (by decide) rfl d5_54 ?_
        show own_F p e below s Z _ _ _ _ _ (T298.setTop (mkF m 55 #[.val (.ref a1), .val (.ref aI), .val (.int sv), .val (.int 1), .val (.int 0)] [(.int 1)]))
        refine own_if S298 60 d5_55 (by decide) (by decide) (fun (hc55_301 : ¬ ((1 : Int32) = (0 : Int32))) => ?_) (fun (hc55_301 : (1 : Int32) = (0 : Int32)) => False.elim (absurd hc55_301 (by decide)))
        show own_F p e below s Z _ _ _ _ _ (T298.setTop (mkF m 60 #[.val (.ref a1), .val (.ref aI), .val (.int sv), .val (.int 1), .val (.int 0)] []))
        refine own_F.of (fun _ => XS.aloadN S298.here S298.hx rfl (S298.dec d5_60) rfl rfl) ?_
        refine own_F.of (fun _ => XS.iload S298.here S298.hx rfl (S298.dec d5_61) rfl) ?_
        refine own_F.of (fun _ => XS.iconst S298.here S298.hx rfl (S298.dec d5_63)) ?_
        show own_F p e below s Z _ _ _ _ _ (T298.setTop (mkF m 64 #[.val (.ref a1), .val (.ref aI), .val (.int sv), .val (.int 1), .val (.int 0)] [(.int 0), (.int 0), (.ref aI)]))
        refine own_zst S298 AI_298 (by decide) (Nat.le_of_ble_eq_true rfl) d5_64 (own_news_may gI) (fun T302 h302 S302 W302 A302 => ?_)
        have V303 : own_A Z h302 aI .boolean [(.int (0 : Int32)), (.int (1 : Int32)), (.int (0 : Int32))] := A302
        show own_F p e below s Z _ _ _ _ _ (T302.setTop (mkF m 65 #[.val (.ref a1), .val (.ref aI), .val (.int sv), .val (.int 1), .val (.int 0)] []))
        refine own_F.of (fun _ => XS.goto S302.here S302.hx rfl (pc0 := 65) (pc' := 86) rfl (S302.dec d5_65) (by decide) (by decide)) ?_
        show own_F p e below s Z _ _ _ _ _ (T302.setTop (mkF m 86 #[.val (.ref a1), .val (.ref aI), .val (.int sv), .val (.int 1), .val (.int 0)] []))
        have fq304 := (E_a1_298.wr W302)
        have fq305 := (F_buckets_298.other W302 (Or.inl n1aI))
        have fq306 := (F_sizes_298.other W302 (Or.inl n1aI))
        have fq307 := (F_keys_298.other W302 (Or.inl n1aI))
        have fq308 := (F_bucketOf_298.other W302 (Or.inl n1aI))
        have fq309 := (F_positions_298.other W302 (Or.inl n1aI))
        have fq310 := (F_last_298.other W302 (Or.inl n1aI))
        have fq311 := (F_count_298.other W302 (Or.inl n1aI))
        have fq312 := (RB_298.other W302 naBaI)
        have fq313 := (AS_298.other W302 naSaI)
        have fq314 := (AK_298.other W302 naKaI)
        have fq315 := (AO_298.other W302 naOaI)
        have fq316 := (AP_298.other W302 naPaI)
        have fq317 := (BK_298.oI AI_298 W302)
        have f0 : own_in (bz298 0) = (0 : Int32) := by rw [hz298]; rfl
        have f1 : own_in (bz298 1) = (1 : Int32) := (own_in_iff (hi298 1 (by decide) (by decide))).trans g1
        have f2 : own_in (bz298 2) = (0 : Int32) := (own_in_iff (hi298 2 (by decide) (by decide))).trans g2
        exact J86 T302 h302 _ _ S302 (own_ST.mk ⟨⟨ga, gB, gS, gO, gP, gI⟩, ⟨nSO, nSP, nOP⟩, fq304, fq305, fq306, fq307, fq308, fq309, fq310, fq311, fq312, fq313, fq314, fq315, fq316, V303, fq317⟩ B298 hl298 (by unfold own_ct; rw [f0, f1, f2]; rfl) (f0.symm) (f1.symm) (f2.symm)) (1 : Int32) (0 : Int32) (by decide) (by decide)
      · show own_F p e below s Z _ _ _ _ _ (T298.setTop (mkF m 38 #[.val (.ref a1), .val (.ref aI), .val (.int sv), .val (.int 1), .unset] [(.int 1)]))
        refine own_F.of (fun _ => XS.istore S298.here S298.hx rfl (S298.dec d5_38) rfl (l' := #[.val (.ref a1), .val (.ref aI), .val (.int sv), .val (.int 1), .val (.int 1)]) rfl) ?_
        refine own_F.of (fun _ => XS.iload S298.here S298.hx rfl (S298.dec d5_40) rfl) ?_
        show own_F p e below s Z _ _ _ _ _ (T298.setTop (mkF m 42 #[.val (.ref a1), .val (.ref aI), .val (.int sv), .val (.int 1), .val (.int 1)] [(.int 1)]))
        refine own_if S298 58 d5_42 (by decide) (by decide) (fun (hc42_318 : (1 : Int32) < (0 : Int32)) => False.elim (absurd hc42_318 (by decide))) (fun (hc42_318 : ¬ ((1 : Int32) < (0 : Int32))) => ?_)
        show own_F p e below s Z _ _ _ _ _ (T298.setTop (mkF m 45 #[.val (.ref a1), .val (.ref aI), .val (.int sv), .val (.int 1), .val (.int 1)] []))
        refine own_F.of (fun _ => XS.iload S298.here S298.hx rfl (S298.dec d5_45) rfl) ?_
        refine own_F.of (fun _ => XS.iconst S298.here S298.hx rfl (S298.dec d5_47)) ?_
        show own_F p e below s Z _ _ _ _ _ (T298.setTop (mkF m 48 #[.val (.ref a1), .val (.ref aI), .val (.int sv), .val (.int 1), .val (.int 1)] [(.int 2), (.int 1)]))
        refine own_icmp S298 58 d5_48 (by decide) (by decide) (fun (hc48_319 : (2 : Int32) < (1 : Int32)) => False.elim (absurd hc48_319 (by decide))) (fun (hc48_319 : ¬ ((2 : Int32) < (1 : Int32))) => ?_)
        show own_F p e below s Z _ _ _ _ _ (T298.setTop (mkF m 51 #[.val (.ref a1), .val (.ref aI), .val (.int sv), .val (.int 1), .val (.int 1)] []))
        refine own_F.of (fun _ => XS.aloadN S298.here S298.hx rfl (S298.dec d5_51) rfl rfl) ?_
        refine own_F.of (fun _ => XS.iload S298.here S298.hx rfl (S298.dec d5_52) rfl) ?_
        show own_F p e below s Z _ _ _ _ _ (T298.setTop (mkF m 54 #[.val (.ref a1), .val (.ref aI), .val (.int sv), .val (.int 1), .val (.int 1)] [(.int 1), (.ref aI)]))
        refine own_zald S298 AI_298 (by decide) rfl d5_54 ?_
        show own_F p e below s Z _ _ _ _ _ (T298.setTop (mkF m 55 #[.val (.ref a1), .val (.ref aI), .val (.int sv), .val (.int 1), .val (.int 1)] [(.int 1)]))
        refine own_if S298 60 d5_55 (by decide) (by decide) (fun (hc55_320 : ¬ ((1 : Int32) = (0 : Int32))) => ?_) (fun (hc55_320 : (1 : Int32) = (0 : Int32)) => False.elim (absurd hc55_320 (by decide)))
        show own_F p e below s Z _ _ _ _ _ (T298.setTop (mkF m 60 #[.val (.ref a1), .val (.ref aI), .val (.int sv), .val (.int 1), .val (.int 1)] []))
        refine own_F.of (fun _ => XS.aloadN S298.here S298.hx rfl (S298.dec d5_60) rfl rfl) ?_
        refine own_F.of (fun _ => XS.iload S298.here S298.hx rfl (S298.dec d5_61) rfl) ?_
        refine own_F.of (fun _ => XS.iconst S298.here S298.hx rfl (S298.dec d5_63)) ?_
        show own_F p e below s Z _ _ _ _ _ (T298.setTop (mkF m 64 #[.val (.ref a1), .val (.ref aI), .val (.int sv), .val (.int 1), .val (.int 1)] [(.int 0), (.int 1), (.ref aI)]))
        refine own_zst S298 AI_298 (by decide) (Nat.le_of_ble_eq_true rfl) d5_64 (own_news_may gI) (fun T321 h321 S321 W321 A321 => ?_)
        have V322 : own_A Z h321 aI .boolean [(.int (1 : Int32)), (.int (0 : Int32)), (.int (0 : Int32))] := A321
        show own_F p e below s Z _ _ _ _ _ (T321.setTop (mkF m 65 #[.val (.ref a1), .val (.ref aI), .val (.int sv), .val (.int 1), .val (.int 1)] []))
        refine own_F.of (fun _ => XS.goto S321.here S321.hx rfl (pc0 := 65) (pc' := 86) rfl (S321.dec d5_65) (by decide) (by decide)) ?_
        show own_F p e below s Z _ _ _ _ _ (T321.setTop (mkF m 86 #[.val (.ref a1), .val (.ref aI), .val (.int sv), .val (.int 1), .val (.int 1)] []))
        have fq323 := (E_a1_298.wr W321)
        have fq324 := (F_buckets_298.other W321 (Or.inl n1aI))
        have fq325 := (F_sizes_298.other W321 (Or.inl n1aI))
        have fq326 := (F_keys_298.other W321 (Or.inl n1aI))
        have fq327 := (F_bucketOf_298.other W321 (Or.inl n1aI))
        have fq328 := (F_positions_298.other W321 (Or.inl n1aI))
        have fq329 := (F_last_298.other W321 (Or.inl n1aI))
        have fq330 := (F_count_298.other W321 (Or.inl n1aI))
        have fq331 := (RB_298.other W321 naBaI)
        have fq332 := (AS_298.other W321 naSaI)
        have fq333 := (AK_298.other W321 naKaI)
        have fq334 := (AO_298.other W321 naOaI)
        have fq335 := (AP_298.other W321 naPaI)
        have fq336 := (BK_298.oI AI_298 W321)
        have f0 : own_in (bz298 0) = (1 : Int32) := (own_in_iff (hi298 0 (by decide) (by decide))).trans g0
        have f1 : own_in (bz298 1) = (0 : Int32) := by rw [hz298]; rfl
        have f2 : own_in (bz298 2) = (0 : Int32) := (own_in_iff (hi298 2 (by decide) (by decide))).trans g2
        exact J86 T321 h321 _ _ S321 (own_ST.mk ⟨⟨ga, gB, gS, gO, gP, gI⟩, ⟨nSO, nSP, nOP⟩, fq323, fq324, fq325, fq326, fq327, fq328, fq329, fq330, fq331, fq332, fq333, fq334, fq335, V322, fq336⟩ B298 hl298 (by unfold own_ct; rw [f0, f1, f2]; rfl) (f0.symm) (f1.symm) (f2.symm)) (1 : Int32) (1 : Int32) (by decide) (by decide)
      · exact absurd e2 hn298
  · have g0 : own_in (bf 0) = (1 : Int32) := by rw [e0]; rfl
    have g1 : own_in (bf 1) = (1 : Int32) := by rw [e1]; rfl
    have g2 : own_in (bf 2) = (1 : Int32) := by rw [e2]; rfl
    have gc : own_ct bf = (3 : Int32) := by unfold own_ct; rw [g0, g1, g2]; rfl
    rw [gc, g0, g1, g2] at H
    have HC := H
    obtain ⟨⟨ga, gB, gS, gO, gP, gI⟩, ⟨nSO, nSP, nOP⟩, E_a1, F_buckets, F_sizes, F_keys, F_bucketOf, F_positions, F_last, F_count, RB, AS, AK, AO, AP, AI, BK⟩ := H
    have n1aB := own_neA E_a1 (own_w hw 3 rfl) RB.A
    have naBaS := own_A.neT RB.A AS (by decide)
    have naBaK := own_A.neT RB.A AK (by decide)
    have naBaO := own_A.neT RB.A AO (by decide)
    have naBaP := own_A.neT RB.A AP (by decide)
    have naBaI := own_A.neT RB.A AI (by decide)
    have n1aS := own_neA E_a1 (own_w hw 3 rfl) AS
    have naSaK := own_A.neT AS AK (by decide)
    have naSaI := own_A.neT AS AI (by decide)
    have n1aK := own_neA E_a1 (own_w hw 3 rfl) AK
    have naKaO := own_A.neT AK AO (by decide)
    have naKaP := own_A.neT AK AP (by decide)
    have naKaI := own_A.neT AK AI (by decide)
    have n1aO := own_neA E_a1 (own_w hw 3 rfl) AO
    have naOaI := own_A.neT AO AI (by decide)
    have n1aP := own_neA E_a1 (own_w hw 3 rfl) AP
    have naPaI := own_A.neT AP AI (by decide)
    have n1aI := own_neA E_a1 (own_w hw 3 rfl) AI
    show own_F p e below s Z _ _ _ _ _ (T0.setTop (mkF m 0 #[.val (.ref a1), .val (.ref aI), .val (.int sv), .unset, .unset] []))
    refine own_F.of (fun _ => XS.aloadN S0.here S0.hx rfl (S0.dec d5_0) rfl rfl) ?_
    refine own_F.of (fun _ => XS.iconst S0.here S0.hx rfl (S0.dec d5_1)) ?_
    show own_F p e below s Z _ _ _ _ _ (T0.setTop (mkF m 2 #[.val (.ref a1), .val (.ref aI), .val (.int sv), .unset, .unset] [(.int 0), (.ref aI)]))
    refine own_zald S0 AI (by decide) rfl d5_2 ?_
    show own_F p e below s Z _ _ _ _ _ (T0.setTop (mkF m 3 #[.val (.ref a1), .val (.ref aI), .val (.int sv), .unset, .unset] [(.int 1)]))
    refine own_if S0 18 d5_3 (by decide) (by decide) (fun (hc3_337 : ¬ ((1 : Int32) = (0 : Int32))) => ?_) (fun (hc3_337 : (1 : Int32) = (0 : Int32)) => False.elim (absurd hc3_337 (by decide)))
    show own_F p e below s Z _ _ _ _ _ (T0.setTop (mkF m 18 #[.val (.ref a1), .val (.ref aI), .val (.int sv), .unset, .unset] []))
    refine own_F.of (fun _ => XS.iconst S0.here S0.hx rfl (S0.dec d5_18)) ?_
    show own_F p e below s Z _ _ _ _ _ (T0.setTop (mkF m 19 #[.val (.ref a1), .val (.ref aI), .val (.int sv), .unset, .unset] [(.int 1)]))
    refine own_F.of (fun _ => XS.goto S0.here S0.hx rfl (pc0 := 19) (pc' := 23) rfl (S0.dec d5_19) (by decide) (by decide)) ?_
    show own_F p e below s Z _ _ _ _ _ (T0.setTop (mkF m 23 #[.val (.ref a1), .val (.ref aI), .val (.int sv), .unset, .unset] [(.int 1)]))
    refine own_F.of (fun _ => XS.istoreN S0.here S0.hx rfl (S0.dec d5_23) rfl (l' := #[.val (.ref a1), .val (.ref aI), .val (.int sv), .val (.int 1), .unset]) rfl) ?_
    refine own_F.of (fun _ => XS.iloadN S0.here S0.hx rfl (S0.dec d5_24) rfl) ?_
    refine own_F.of (fun _ => XS.iconst S0.here S0.hx rfl (S0.dec d5_25)) ?_
    show own_F p e below s Z _ _ _ _ _ (T0.setTop (mkF m 26 #[.val (.ref a1), .val (.ref aI), .val (.int sv), .val (.int 1), .unset] [(.int 4), (.int sv)]))
    refine own_F.of (fun _ => XS.iand S0.here S0.hx rfl (S0.dec d5_26) rfl) ?_
    show own_F p e below s Z _ _ _ _ _ (T0.setTop (mkF m 27 #[.val (.ref a1), .val (.ref aI), .val (.int sv), .val (.int 1), .unset] [(.int (sv &&& (4 : Int32)))]))
    refine own_if S0 68 d5_27 (by decide) (by decide) (fun (hc27_338 : (sv &&& (4 : Int32)) = (0 : Int32)) => ?_) (fun (hc27_338 : ¬ ((sv &&& (4 : Int32)) = (0 : Int32))) => ?_)
    · show own_F p e below s Z _ _ _ _ _ (T0.setTop (mkF m 68 #[.val (.ref a1), .val (.ref aI), .val (.int sv), .val (.int 1), .unset] []))
      exact J68 T0 S0 (1 : Int32)
    · show own_F p e below s Z _ _ _ _ _ (T0.setTop (mkF m 30 #[.val (.ref a1), .val (.ref aI), .val (.int sv), .val (.int 1), .unset] []))
      refine own_F.of (fun _ => XS.iloadN S0.here S0.hx rfl (S0.dec d5_30) rfl) ?_
      show own_F p e below s Z _ _ _ _ _ (T0.setTop (mkF m 31 #[.val (.ref a1), .val (.ref aI), .val (.int sv), .val (.int 1), .unset] [(.int 1)]))
      refine own_if S0 68 d5_31 (by decide) (by decide) (fun (hc31_339 : (1 : Int32) = (0 : Int32)) => False.elim (absurd hc31_339 (by decide))) (fun (hc31_339 : ¬ ((1 : Int32) = (0 : Int32))) => ?_)
      show own_F p e below s Z _ _ _ _ _ (T0.setTop (mkF m 34 #[.val (.ref a1), .val (.ref aI), .val (.int sv), .val (.int 1), .unset] []))
      refine own_F.of (fun _ => XS.aloadN S0.here S0.hx rfl (S0.dec d5_34) rfl rfl) ?_
      show own_F p e below s Z _ _ _ _ _ (T0.setTop (mkF m 35 #[.val (.ref a1), .val (.ref aI), .val (.int sv), .val (.int 1), .unset] [(.ref a1)]))
      refine own_callV S0 (y := (⟨"com/example/slackweave/slackweave/paths/RadixHeap", "pop", "()I"⟩ : MethodName)) (y' := (⟨"com/example/slackweave/slackweave/paths/RadixHeap", "pop", "()I"⟩ : MethodName)) (own_w hw 61 rfl) (own_w hw 62 rfl) (own_nf S0 (own_w hw 64 rfl)) (own_w hw 64 rfl) (own_w hw 63 rfl) (own_w hw 65 rfl) (own_w hw 4 rfl) (by decide) E_a1 (argsL := []) (rest := []) (own_pop l Z a0 hw a1 aB aS aK aO aP aI bk Cf bf pf la (3 : Int32) yf (1 : Int32) (1 : Int32) (1 : Int32) h0 S0.old HC AB ⟨0, by decide, by rw [e0]; exact fun q => by cases q⟩ hla hyf) own_news_sub (by decide +kernel : parseMethodDescriptor "()I" = some ⟨[], some .int⟩) rfl rfl rfl d5_35 (by decide) (Nat.le_of_ble_eq_true rfl) (by decide) (by decide) (fun T340 h340 v340 S340 K340 q340 => ?_)
      obtain ⟨mm340, bq340, cq340, bz340, pq340, lq340, rfl, hm340, hn340, hz340, hi340, H340, B340, hl340⟩ := q340
      obtain ⟨-, -, E_a1_340, F_buckets_340, F_sizes_340, F_keys_340, F_bucketOf_340, F_positions_340, F_last_340, F_count_340, RB_340, AS_340, AK_340, AO_340, AP_340, AI_340, BK_340⟩ := H340
      show own_F p e below s Z _ _ _ _ _ (T340.setTop (mkF m 38 #[.val (.ref a1), .val (.ref aI), .val (.int sv), .val (.int 1), .unset] [(.int mm340.toInt32)]))
      obtain rfl | rfl | rfl : mm340 = 0 ∨ mm340 = 1 ∨ mm340 = 2 := by omega
      · show own_F p e below s Z _ _ _ _ _ (T340.setTop (mkF m 38 #[.val (.ref a1), .val (.ref aI), .val (.int sv), .val (.int 1), .unset] [(.int 0)]))
        refine own_F.of (fun _ => XS.istore S340.here S340.hx rfl (S340.dec d5_38) rfl (l' := #[.val (.ref a1), .val (.ref aI), .val (.int sv), .val (.int 1), .val (.int 0)]) rfl) ?_
        refine own_F.of (fun _ => XS.iload S340.here S340.hx rfl (S340.dec d5_40) rfl) ?_
        show own_F p e below s Z _ _ _ _ _ (T340.setTop (mkF m 42 #[.val (.ref a1), .val (.ref aI), .val (.int sv), .val (.int 1), .val (.int 0)] [(.int 0)]))
        refine own_if S340 58 d5_42 (by decide) (by decide) (fun (hc42_341 : (0 : Int32) < (0 : Int32)) => False.elim (absurd hc42_341 (by decide))) (fun (hc42_341 : ¬ ((0 : Int32) < (0 : Int32))) => ?_)
        show own_F p e below s Z _ _ _ _ _ (T340.setTop (mkF m 45 #[.val (.ref a1), .val (.ref aI), .val (.int sv), .val (.int 1), .val (.int 0)] []))
        refine own_F.of (fun _ => XS.iload S340.here S340.hx rfl (S340.dec d5_45) rfl) ?_
        refine own_F.of (fun _ => XS.iconst S340.here S340.hx rfl (S340.dec d5_47)) ?_
        show own_F p e below s Z _ _ _ _ _ (T340.setTop (mkF m 48 #[.val (.ref a1), .val (.ref aI), .val (.int sv), .val (.int 1), .val (.int 0)] [(.int 2), (.int 0)]))
        refine own_icmp S340 58 d5_48 (by decide) (by decide) (fun (hc48_342 : (2 : Int32) < (0 : Int32)) => False.elim (absurd hc48_342 (by decide))) (fun (hc48_342 : ¬ ((2 : Int32) < (0 : Int32))) => ?_)
        show own_F p e below s Z _ _ _ _ _ (T340.setTop (mkF m 51 #[.val (.ref a1), .val (.ref aI), .val (.int sv), .val (.int 1), .val (.int 0)] []))
        refine own_F.of (fun _ => XS.aloadN S340.here S340.hx rfl (S340.dec d5_51) rfl rfl) ?_
        refine own_F.of (fun _ => XS.iload S340.here S340.hx rfl (S340.dec d5_52) rfl) ?_
        show own_F p e below s Z _ _ _ _ _ (T340.setTop (mkF m 54 #[.val (.ref a1), .val (.ref aI), .val (.int sv), .val (.int 1), .val (.int 0)] [(.int 0), (.ref aI)]))
        refine own_zald S340 AI_340 (by decide) rfl d5_54 ?_
        show own_F p e below s Z _ _ _ _ _ (T340.setTop (mkF m 55 #[.val (.ref a1), .val (.ref aI), .val (.int sv), .val (.int 1), .val (.int 0)] [(.int 1)]))
        refine own_if S340 60 d5_55 (by decide) (by decide) (fun (hc55_343 : ¬ ((1 : Int32) = (0 : Int32))) => ?_) (fun (hc55_343 : (1 : Int32) = (0 : Int32)) => False.elim (absurd hc55_343 (by decide)))
        show own_F p e below s Z _ _ _ _ _ (T340.setTop (mkF m 60 #[.val (.ref a1), .val (.ref aI), .val (.int sv), .val (.int 1), .val (.int 0)] []))
        refine own_F.of (fun _ => XS.aloadN S340.here S340.hx rfl (S340.dec d5_60) rfl rfl) ?_
        refine own_F.of (fun _ => XS.iload S340.here S340.hx rfl (S340.dec d5_61) rfl) ?_
        refine own_F.of (fun _ => XS.iconst S340.here S340.hx rfl (S340.dec d5_63)) ?_
        show own_F p e below s Z _ _ _ _ _ (T340.setTop (mkF m 64 #[.val (.ref a1), .val (.ref aI), .val (.int sv), .val (.int 1), .val (.int 0)] [(.int 0), (.int 0), (.ref aI)]))
        refine own_zst S340 AI_340 (by decide) (Nat.le_of_ble_eq_true rfl) d5_64 (own_news_may gI) (fun T344 h344 S344 W344 A344 => ?_)
        have V345 : own_A Z h344 aI .boolean [(.int (0 : Int32)), (.int (1 : Int32)), (.int (1 : Int32))] := A344
        show own_F p e below s Z _ _ _ _ _ (T344.setTop (mkF m 65 #[.val (.ref a1), .val (.ref aI), .val (.int sv), .val (.int 1), .val (.int 0)] []))
        refine own_F.of (fun _ => XS.goto S344.here S344.hx rfl (pc0 := 65) (pc' := 86) rfl (S344.dec d5_65) (by decide) (by decide)) ?_
        show own_F p e below s Z _ _ _ _ _ (T344.setTop (mkF m 86 #[.val (.ref a1), .val (.ref aI), .val (.int sv), .val (.int 1), .val (.int 0)] []))
        have fq346 := (E_a1_340.wr W344)
        have fq347 := (F_buckets_340.other W344 (Or.inl n1aI))
        have fq348 := (F_sizes_340.other W344 (Or.inl n1aI))
        have fq349 := (F_keys_340.other W344 (Or.inl n1aI))
        have fq350 := (F_bucketOf_340.other W344 (Or.inl n1aI))
        have fq351 := (F_positions_340.other W344 (Or.inl n1aI))
        have fq352 := (F_last_340.other W344 (Or.inl n1aI))
        have fq353 := (F_count_340.other W344 (Or.inl n1aI))
        have fq354 := (RB_340.other W344 naBaI)
        have fq355 := (AS_340.other W344 naSaI)
        have fq356 := (AK_340.other W344 naKaI)
        have fq357 := (AO_340.other W344 naOaI)
        have fq358 := (AP_340.other W344 naPaI)
        have fq359 := (BK_340.oI AI_340 W344)
        have f0 : own_in (bz340 0) = (0 : Int32) := by rw [hz340]; rfl
        have f1 : own_in (bz340 1) = (1 : Int32) := (own_in_iff (hi340 1 (by decide) (by decide))).trans g1
        have f2 : own_in (bz340 2) = (1 : Int32) := (own_in_iff (hi340 2 (by decide) (by decide))).trans g2
        exact J86 T344 h344 _ _ S344 (own_ST.mk ⟨⟨ga, gB, gS, gO, gP, gI⟩, ⟨nSO, nSP, nOP⟩, fq346, fq347, fq348, fq349, fq350, fq351, fq352, fq353, fq354, fq355, fq356, fq357, fq358, V345, fq359⟩ B340 hl340 (by unfold own_ct; rw [f0, f1, f2]; rfl) (f0.symm) (f1.symm) (f2.symm)) (1 : Int32) (0 : Int32) (by decide) (by decide)
      · show own_F p e below s Z _ _ _ _ _ (T340.setTop (mkF m 38 #[.val (.ref a1), .val (.ref aI), .val (.int sv), .val (.int 1), .unset] [(.int 1)]))
        refine own_F.of (fun _ => XS.istore S340.here S340.hx rfl (S340.dec d5_38) rfl (l' := #[.val (.ref a1), .val (.ref aI), .val (.int sv), .val (.int 1), .val (.int 1)]) rfl) ?_
        refine own_F.of (fun _ => XS.iload S340.here S340.hx rfl (S340.dec d5_40) rfl) ?_
        show own_F p e below s Z _ _ _ _ _ (T340.setTop (mkF m 42 #[.val (.ref a1), .val (.ref aI), .val (.int sv), .val (.int 1), .val (.int 1)] [(.int 1)]))
        refine own_if S340 58 d5_42 (by decide) (by decide) (fun (hc42_360 : (1 : Int32) < (0 : Int32)) => False.elim (absurd hc42_360 (by decide))) (fun (hc42_360 : ¬ ((1 : Int32) < (0 : Int32))) => ?_)
        show own_F p e below s Z _ _ _ _ _ (T340.setTop (mkF m 45 #[.val (.ref a1), .val (.ref aI), .val (.int sv), .val (.int 1), .val (.int 1)] []))
        refine own_F.of (fun _ => XS.iload S340.here S340.hx rfl (S340.dec d5_45) rfl) ?_
        refine own_F.of (fun _ => XS.iconst S340.here S340.hx rfl (S340.dec d5_47)) ?_
        show own_F p e below s Z _ _ _ _ _ (T340.setTop (mkF m 48 #[.val (.ref a1), .val (.ref aI), .val (.int sv), .val (.int 1), .val (.int 1)] [(.int 2), (.int 1)]))
        refine own_icmp S340 58 d5_48 (by decide) (by decide) (fun (hc48_361 : (2 : Int32) < (1 : Int32)) => False.elim (absurd hc48_361 (by decide))) (fun (hc48_361 : ¬ ((2 : Int32) < (1 : Int32))) => ?_)
        show own_F p e below s Z _ _ _ _ _ (T340.setTop (mkF m 51 #[.val (.ref a1), .val (.ref aI), .val (.int sv), .val (.int 1), .val (.int 1)] []))
        refine own_F.of (fun _ => XS.aloadN S340.here S340.hx rfl (S340.dec d5_51) rfl rfl) ?_
        refine own_F.of (fun _ => XS.iload S340.here S340.hx rfl (S340.dec d5_52) rfl) ?_
        show own_F p e below s Z _ _ _ _ _ (T340.setTop (mkF m 54 #[.val (.ref a1), .val (.ref aI), .val (.int sv), .val (.int 1), .val (.int 1)] [(.int 1), (.ref aI)]))
        refine own_zald S340 AI_340 (by decide) rfl d5_54 ?_
        show own_F p e below s Z _ _ _ _ _ (T340.setTop (mkF m 55 #[.val (.ref a1), .val (.ref aI), .val (.int sv), .val (.int 1), .val (.int 1)] [(.int 1)]))
        refine own_if S340 60 d5_55 (by decide) (by decide) (fun (hc55_362 : ¬ ((1 : Int32) = (0 : Int32))) => ?_) (fun (hc55_362 : (1 : Int32) = (0 : Int32)) => False.elim (absurd hc55_362 (by decide)))
        show own_F p e below s Z _ _ _ _ _ (T340.setTop (mkF m 60 #[.val (.ref a1), .val (.ref aI), .val (.int sv), .val (.int 1), .val (.int 1)] []))
        refine own_F.of (fun _ => XS.aloadN S340.here S340.hx rfl (S340.dec d5_60) rfl rfl) ?_
        refine own_F.of (fun _ => XS.iload S340.here S340.hx rfl (S340.dec d5_61) rfl) ?_
        refine own_F.of (fun _ => XS.iconst S340.here S340.hx rfl (S340.dec d5_63)) ?_
        show own_F p e below s Z _ _ _ _ _ (T340.setTop (mkF m 64 #[.val (.ref a1), .val (.ref aI), .val (.int sv), .val (.int 1), .val (.int 1)] [(.int 0), (.int 1), (.ref aI)]))
        refine own_zst S340 AI_340 (by decide) (Nat.le_of_ble_eq_true rfl) d5_64 (own_news_may gI) (fun T363 h363 S363 W363 A363 => ?_)
        have V364 : own_A Z h363 aI .boolean [(.int (1 : Int32)), (.int (0 : Int32)), (.int (1 : Int32))] := A363
        show own_F p e below s Z _ _ _ _ _ (T363.setTop (mkF m 65 #[.val (.ref a1), .val (.ref aI), .val (.int sv), .val (.int 1), .val (.int 1)] []))
        refine own_F.of (fun _ => XS.goto S363.here S363.hx rfl (pc0 := 65) (pc' := 86) rfl (S363.dec d5_65) (by decide) (by decide)) ?_
        show own_F p e below s Z _ _ _ _ _ (T363.setTop (mkF m 86 #[.val (.ref a1), .val (.ref aI), .val (.int sv), .val (.int 1), .val (.int 1)] []))
        have fq365 := (E_a1_340.wr W363)
        have fq366 := (F_buckets_340.other W363 (Or.inl n1aI))
        have fq367 := (F_sizes_340.other W363 (Or.inl n1aI))
        have fq368 := (F_keys_340.other W363 (Or.inl n1aI))
        have fq369 := (F_bucketOf_340.other W363 (Or.inl n1aI))
        have fq370 := (F_positions_340.other W363 (Or.inl n1aI))
        have fq371 := (F_last_340.other W363 (Or.inl n1aI))
        have fq372 := (F_count_340.other W363 (Or.inl n1aI))
        have fq373 := (RB_340.other W363 naBaI)
        have fq374 := (AS_340.other W363 naSaI)
        have fq375 := (AK_340.other W363 naKaI)
        have fq376 := (AO_340.other W363 naOaI)
        have fq377 := (AP_340.other W363 naPaI)
        have fq378 := (BK_340.oI AI_340 W363)
        have f0 : own_in (bz340 0) = (1 : Int32) := (own_in_iff (hi340 0 (by decide) (by decide))).trans g0
        have f1 : own_in (bz340 1) = (0 : Int32) := by rw [hz340]; rfl
        have f2 : own_in (bz340 2) = (1 : Int32) := (own_in_iff (hi340 2 (by decide) (by decide))).trans g2
        exact J86 T363 h363 _ _ S363 (own_ST.mk ⟨⟨ga, gB, gS, gO, gP, gI⟩, ⟨nSO, nSP, nOP⟩, fq365, fq366, fq367, fq368, fq369, fq370, fq371, fq372, fq373, fq374, fq375, fq376, fq377, V364, fq378⟩ B340 hl340 (by unfold own_ct; rw [f0, f1, f2]; rfl) (f0.symm) (f1.symm) (f2.symm)) (1 : Int32) (1 : Int32) (by decide) (by decide)
      · show own_F p e below s Z _ _ _ _ _ (T340.setTop (mkF m 38 #[.val (.ref a1), .val (.ref aI), .val (.int sv), .val (.int 1), .unset] [(.int 2)]))
        refine own_F.of (fun _ => XS.istore S340.here S340.hx rfl (S340.dec d5_38) rfl (l' := #[.val (.ref a1), .val (.ref aI), .val (.int sv), .val (.int 1), .val (.int 2)]) rfl) ?_
        refine own_F.of (fun _ => XS.iload S340.here S340.hx rfl (S340.dec d5_40) rfl) ?_
        show own_F p e below s Z _ _ _ _ _ (T340.setTop (mkF m 42 #[.val (.ref a1), .val (.ref aI), .val (.int sv), .val (.int 1), .val (.int 2)] [(.int 2)]))
        refine own_if S340 58 d5_42 (by decide) (by decide) (fun (hc42_379 : (2 : Int32) < (0 : Int32)) => False.elim (absurd hc42_379 (by decide))) (fun (hc42_379 : ¬ ((2 : Int32) < (0 : Int32))) => ?_)
        show own_F p e below s Z _ _ _ _ _ (T340.setTop (mkF m 45 #[.val (.ref a1), .val (.ref aI), .val (.int sv), .val (.int 1), .val (.int 2)] []))
        refine own_F.of (fun _ => XS.iload S340.here S340.hx rfl (S340.dec d5_45) rfl) ?_
        refine own_F.of (fun _ => XS.iconst S340.here S340.hx rfl (S340.dec d5_47)) ?_
        show own_F p e below s Z _ _ _ _ _ (T340.setTop (mkF m 48 #[.val (.ref a1), .val (.ref aI), .val (.int sv), .val (.int 1), .val (.int 2)] [(.int 2), (.int 2)]))
        refine own_icmp S340 58 d5_48 (by decide) (by decide) (fun (hc48_380 : (2 : Int32) < (2 : Int32)) => False.elim (absurd hc48_380 (by decide))) (fun (hc48_380 : ¬ ((2 : Int32) < (2 : Int32))) => ?_)
        show own_F p e below s Z _ _ _ _ _ (T340.setTop (mkF m 51 #[.val (.ref a1), .val (.ref aI), .val (.int sv), .val (.int 1), .val (.int 2)] []))
        refine own_F.of (fun _ => XS.aloadN S340.here S340.hx rfl (S340.dec d5_51) rfl rfl) ?_
        refine own_F.of (fun _ => XS.iload S340.here S340.hx rfl (S340.dec d5_52) rfl) ?_
        show own_F p e below s Z _ _ _ _ _ (T340.setTop (mkF m 54 #[.val (.ref a1), .val (.ref aI), .val (.int sv), .val (.int 1), .val (.int 2)] [(.int 2), (.ref aI)]))
        refine own_zald S340 AI_340 (by decide) rfl d5_54 ?_
        show own_F p e below s Z _ _ _ _ _ (T340.setTop (mkF m 55 #[.val (.ref a1), .val (.ref aI), .val (.int sv), .val (.int 1), .val (.int 2)] [(.int 1)]))
        refine own_if S340 60 d5_55 (by decide) (by decide) (fun (hc55_381 : ¬ ((1 : Int32) = (0 : Int32))) => ?_) (fun (hc55_381 : (1 : Int32) = (0 : Int32)) => False.elim (absurd hc55_381 (by decide)))
        show own_F p e below s Z _ _ _ _ _ (T340.setTop (mkF m 60 #[.val (.ref a1), .val (.ref aI), .val (.int sv), .val (.int 1), .val (.int 2)] []))
        refine own_F.of (fun _ => XS.aloadN S340.here S340.hx rfl (S340.dec d5_60) rfl rfl) ?_
        refine own_F.of (fun _ => XS.iload S340.here S340.hx rfl (S340.dec d5_61) rfl) ?_
        refine own_F.of (fun _ => XS.iconst S340.here S340.hx rfl (S340.dec d5_63)) ?_
        show own_F p e below s Z _ _ _ _ _ (T340.setTop (mkF m 64 #[.val (.ref a1), .val (.ref aI), .val (.int sv), .val (.int 1), .val (.int 2)] [(.int 0), (.int 2), (.ref aI)]))
        refine own_zst S340 AI_340 (by decide) (Nat.le_of_ble_eq_true rfl) d5_64 (own_news_may gI) (fun T382 h382 S382 W382 A382 => ?_)
        have V383 : own_A Z h382 aI .boolean [(.int (1 : Int32)), (.int (1 : Int32)), (.int (0 : Int32))] := A382
        show own_F p e below s Z _ _ _ _ _ (T382.setTop (mkF m 65 #[.val (.ref a1), .val (.ref aI), .val (.int sv), .val (.int 1), .val (.int 2)] []))
        refine own_F.of (fun _ => XS.goto S382.here S382.hx rfl (pc0 := 65) (pc' := 86) rfl (S382.dec d5_65) (by decide) (by decide)) ?_
        show own_F p e below s Z _ _ _ _ _ (T382.setTop (mkF m 86 #[.val (.ref a1), .val (.ref aI), .val (.int sv), .val (.int 1), .val (.int 2)] []))
        have fq384 := (E_a1_340.wr W382)
        have fq385 := (F_buckets_340.other W382 (Or.inl n1aI))
        have fq386 := (F_sizes_340.other W382 (Or.inl n1aI))
        have fq387 := (F_keys_340.other W382 (Or.inl n1aI))
        have fq388 := (F_bucketOf_340.other W382 (Or.inl n1aI))
        have fq389 := (F_positions_340.other W382 (Or.inl n1aI))
        have fq390 := (F_last_340.other W382 (Or.inl n1aI))
        have fq391 := (F_count_340.other W382 (Or.inl n1aI))
        have fq392 := (RB_340.other W382 naBaI)
        have fq393 := (AS_340.other W382 naSaI)
        have fq394 := (AK_340.other W382 naKaI)
        have fq395 := (AO_340.other W382 naOaI)
        have fq396 := (AP_340.other W382 naPaI)
        have fq397 := (BK_340.oI AI_340 W382)
        have f0 : own_in (bz340 0) = (1 : Int32) := (own_in_iff (hi340 0 (by decide) (by decide))).trans g0
        have f1 : own_in (bz340 1) = (1 : Int32) := (own_in_iff (hi340 1 (by decide) (by decide))).trans g1
        have f2 : own_in (bz340 2) = (0 : Int32) := by rw [hz340]; rfl
        exact J86 T382 h382 _ _ S382 (own_ST.mk ⟨⟨ga, gB, gS, gO, gP, gI⟩, ⟨nSO, nSP, nOP⟩, fq384, fq385, fq386, fq387, fq388, fq389, fq390, fq391, fq392, fq393, fq394, fq395, fq396, V383, fq397⟩ B340 hl340 (by unfold own_ct; rw [f0, f1, f2]; rfl) (f0.symm) (f1.symm) (f2.symm)) (1 : Int32) (2 : Int32) (by decide) (by decide)
theorem pn0 : plainFor x = true := plainFor_of_name (by first | (simp [plainName, overriddenIn]; done) | decide +kernel)
def own_y3 (x y z : Int64) : Nat → Int64
  | 0 => x
  | 1 => y
  | _ => z
theorem own_max (x : Int64) : ¬ (x &&& (9223372036854775807 : Int64)) < 0 := by
  have h := c_maskL x 9223372036854775807 63 (by decide) (by decide)
  rw [Int64.lt_iff_toInt_lt, h]
  have e : (0 : Int64).toInt = 0 := rfl
  have := Int.emod_nonneg x.toInt (b := ((2 ^ 63 : Nat) : Int)) (by decide)
  omega
theorem own_y3n (x y z : Int64) : ∀ j, j < 3 → ¬ own_y3 (x &&& (9223372036854775807 : Int64)) (y &&& (9223372036854775807 : Int64)) (z &&& (9223372036854775807 : Int64)) j < 0 := fun j hj => by
  match j, hj with
  | 0, _ => exact own_max x
  | 1, _ => exact own_max y
  | 2, _ => exact own_max z
theorem own_BK0 {Z : State} {h : Heap} {aS aO aP : Addr} : own_BK Z h aS aO aP (List.replicate 64 .null) (fun _ => []) := by
  have no : ∀ (k : Nat) (r : Addr), (List.replicate 64 Value.null)[k]? = some (.ref r) → False := fun k r q => by
    rw [List.getElem?_replicate] at q
    split at q <;> cases q
  exact ⟨List.length_replicate, fun k r q => (no k r q).elim, fun j k r q => (no j r q).elim⟩
theorem own_AB0 : own_AB (fun _ => none) (fun _ => 0) (List.replicate 64 .null) (fun _ => []) := ⟨fun n k _ e => (by cases e), fun n m k _ _ _ e => (by cases e)⟩

set_option maxRecDepth 65536 in
set_option maxHeartbeats 40000000 in
theorem own_law (l : Launch) (Z : State) (a0 : Array Value) (hw : ∀ d ∈ tables_1, d.before a0 Z = true) (x0 x1 x2 : Int64) (sv : Int32) (h0 : Heap) (hO : Ext Z.heap h0) :
    own_C l Z x code maxLocals ret tables_1 room_1 (own_news Z h0) #[(.long x0), (.long x1), (.long x2), (.int sv)] h0 (fun v _ => v = some (.int 1)) := by
  refine own_C.of pn0 hO own_news_le ?_
  intro p e s m below meth c T0 S0
  refine own_F.cast (by first | (simp [entryFrame, mkF, argsToLocals, Value.category, maxLocals]; done) | rfl : entryFrame m #[(.long x0), (.long x1), (.long x2), (.int sv)] maxLocals = mkF m 0 #[.val (.long x0), .second, .val (.long x1), .second, .val (.long x2), .second, .val (.int sv), .unset, .unset, .unset] []) ?_
  show own_F p e below s Z _ _ _ _ _ (T0.setTop (mkF m 0 #[.val (.long x0), .second, .val (.long x1), .second, .val (.long x2), .second, .val (.int sv), .unset, .unset, .unset] []))
  refine own_F.of (fun _ => XS.iconst S0.here S0.hx rfl (S0.dec at_0)) ?_
  show own_F p e below s Z _ _ _ _ _ (T0.setTop (mkF m 1 #[.val (.long x0), .second, .val (.long x1), .second, .val (.long x2), .second, .val (.int sv), .unset, .unset, .unset] [(.int 3)]))
  refine own_newP S0 (own_w hw 0 rfl) at_1 (by decide) (cap := 3) (by decide) (by decide) (by decide) (by decide) (fun T1 h1 b1 g1 S1 E1 A1 => ?_)
  have V2 : own_A Z h1 b1 .long [(.long (0 : Int64)), (.long (0 : Int64)), (.long (0 : Int64))] := A1
  show own_F p e below s Z _ _ _ _ _ (T1.setTop (mkF m 3 #[.val (.long x0), .second, .val (.long x1), .second, .val (.long x2), .second, .val (.int sv), .unset, .unset, .unset] [(.ref b1)]))
  refine own_F.of (fun _ => XS.astore S1.here S1.hx rfl (S1.dec at_3) rfl rfl (l' := #[.val (.long x0), .second, .val (.long x1), .second, .val (.long x2), .second, .val (.int sv), .val (.ref b1), .unset, .unset]) rfl) ?_
  refine own_F.of (fun _ => XS.aload S1.here S1.hx rfl (S1.dec at_5) rfl rfl) ?_
  refine own_F.of (fun _ => XS.iconst S1.here S1.hx rfl (S1.dec at_7)) ?_
  refine own_F.of (fun _ => XS.lloadN S1.here S1.hx rfl (S1.dec at_8) rfl) ?_
  show own_F p e below s Z _ _ _ _ _ (T1.setTop (mkF m 9 #[.val (.long x0), .second, .val (.long x1), .second, .val (.long x2), .second, .val (.int sv), .val (.ref b1), .unset, .unset] [(.long x0), (.int 0), (.ref b1)]))
  refine own_ldcJ S1 (own_w hw 1 rfl) at_9 ?_
  show own_F p e below s Z _ _ _ _ _ (T1.setTop (mkF m 12 #[.val (.long x0), .second, .val (.long x1), .second, .val (.long x2), .second, .val (.int sv), .val (.ref b1), .unset, .unset] [(.long (9223372036854775807 : Int64)), (.long x0), (.int 0), (.ref b1)]))
  refine own_F.of (fun _ => XS.land S1.here S1.hx rfl (S1.dec at_12) rfl) ?_
  show own_F p e below s Z _ _ _ _ _ (T1.setTop (mkF m 13 #[.val (.long x0), .second, .val (.long x1), .second, .val (.long x2), .second, .val (.int sv), .val (.ref b1), .unset, .unset] [(.long (x0 &&& (9223372036854775807 : Int64))), (.int 0), (.ref b1)]))
  refine own_jst S1 V2 (by decide) (Nat.le_of_ble_eq_true rfl) at_13 (Or.inr (by rw [g1]; exact S0.size)) (fun T3 h3 S3 W3 A3 => ?_)
  have V4 : own_A Z h3 b1 .long [(.long (x0 &&& (9223372036854775807 : Int64))), (.long (0 : Int64)), (.long (0 : Int64))] := A3
  show own_F p e below s Z _ _ _ _ _ (T3.setTop (mkF m 14 #[.val (.long x0), .second, .val (.long x1), .second, .val (.long x2), .second, .val (.int sv), .val (.ref b1), .unset, .unset] []))
  refine own_F.of (fun _ => XS.aload S3.here S3.hx rfl (S3.dec at_14) rfl rfl) ?_
  refine own_F.of (fun _ => XS.iconst S3.here S3.hx rfl (S3.dec at_16)) ?_
  refine own_F.of (fun _ => XS.lloadN S3.here S3.hx rfl (S3.dec at_17) rfl) ?_
  show own_F p e below s Z _ _ _ _ _ (T3.setTop (mkF m 18 #[.val (.long x0), .second, .val (.long x1), .second, .val (.long x2), .second, .val (.int sv), .val (.ref b1), .unset, .unset] [(.long x1), (.int 1), (.ref b1)]))
  refine own_ldcJ S3 (own_w hw 1 rfl) at_18 ?_
  show own_F p e below s Z _ _ _ _ _ (T3.setTop (mkF m 21 #[.val (.long x0), .second, .val (.long x1), .second, .val (.long x2), .second, .val (.int sv), .val (.ref b1), .unset, .unset] [(.long (9223372036854775807 : Int64)), (.long x1), (.int 1), (.ref b1)]))
  refine own_F.of (fun _ => XS.land S3.here S3.hx rfl (S3.dec at_21) rfl) ?_
  show own_F p e below s Z _ _ _ _ _ (T3.setTop (mkF m 22 #[.val (.long x0), .second, .val (.long x1), .second, .val (.long x2), .second, .val (.int sv), .val (.ref b1), .unset, .unset] [(.long (x1 &&& (9223372036854775807 : Int64))), (.int 1), (.ref b1)]))
  refine own_jst S3 V4 (by decide) (Nat.le_of_ble_eq_true rfl) at_22 (Or.inr (by rw [g1]; exact S0.size)) (fun T5 h5 S5 W5 A5 => ?_)
  have V6 : own_A Z h5 b1 .long [(.long (x0 &&& (9223372036854775807 : Int64))), (.long (x1 &&& (9223372036854775807 : Int64))), (.long (0 : Int64))] := A5
  show own_F p e below s Z _ _ _ _ _ (T5.setTop (mkF m 23 #[.val (.long x0), .second, .val (.long x1), .second, .val (.long x2), .second, .val (.int sv), .val (.ref b1), .unset, .unset] []))
  refine own_F.of (fun _ => XS.aload S5.here S5.hx rfl (S5.dec at_23) rfl rfl) ?_
  refine own_F.of (fun _ => XS.iconst S5.here S5.hx rfl (S5.dec at_25)) ?_
  refine own_F.of (fun _ => XS.lload S5.here S5.hx rfl (S5.dec at_26) rfl) ?_
  show own_F p e below s Z _ _ _ _ _ (T5.setTop (mkF m 28 #[.val (.long x0), .second, .val (.long x1), .second, .val (.long x2), .second, .val (.int sv), .val (.ref b1), .unset, .unset] [(.long x2), (.int 2), (.ref b1)]))
  refine own_ldcJ S5 (own_w hw 1 rfl) at_28 ?_
  show own_F p e below s Z _ _ _ _ _ (T5.setTop (mkF m 31 #[.val (.long x0), .second, .val (.long x1), .second, .val (.long x2), .second, .val (.int sv), .val (.ref b1), .unset, .unset] [(.long (9223372036854775807 : Int64)), (.long x2), (.int 2), (.ref b1)]))
  refine own_F.of (fun _ => XS.land S5.here S5.hx rfl (S5.dec at_31) rfl) ?_
  show own_F p e below s Z _ _ _ _ _ (T5.setTop (mkF m 32 #[.val (.long x0), .second, .val (.long x1), .second, .val (.long x2), .second, .val (.int sv), .val (.ref b1), .unset, .unset] [(.long (x2 &&& (9223372036854775807 : Int64))), (.int 2), (.ref b1)]))
  refine own_jst S5 V6 (by decide) (Nat.le_of_ble_eq_true rfl) at_32 (Or.inr (by rw [g1]; exact S0.size)) (fun T7 h7 S7 W7 A7 => ?_)
  have V8 : own_A Z h7 b1 .long [(.long (x0 &&& (9223372036854775807 : Int64))), (.long (x1 &&& (9223372036854775807 : Int64))), (.long (x2 &&& (9223372036854775807 : Int64)))] := A7
  show own_F p e below s Z _ _ _ _ _ (T7.setTop (mkF m 33 #[.val (.long x0), .second, .val (.long x1), .second, .val (.long x2), .second, .val (.int sv), .val (.ref b1), .unset, .unset] []))
  refine own_new S7 (own_w hw 2 rfl) (own_w hw 3 rfl) (own_w hw 4 rfl) at_33 (by decide) (by decide) (fun T9 h9 b9 g9 S9 E9 A9 D9 => ?_)
  have F9_buckets : Fld Z h9 b9 "com/example/slackweave/slackweave/paths/RadixHeap" "buckets" "[[I" .null := (D9 (Or.inr (own_w hw 14 rfl)) (ty := (.array (.array .int))) (by decide))
  have F9_sizes : Fld Z h9 b9 "com/example/slackweave/slackweave/paths/RadixHeap" "sizes" "[I" .null := (D9 (Or.inr (own_w hw 17 rfl)) (ty := (.array .int)) (by decide))
  have F9_keys : Fld Z h9 b9 "com/example/slackweave/slackweave/paths/RadixHeap" "keys" "[J" .null := (D9 (Or.inr (own_w hw 19 rfl)) (ty := (.array .long)) (by decide))
  have F9_bucketOf : Fld Z h9 b9 "com/example/slackweave/slackweave/paths/RadixHeap" "bucketOf" "[I" .null := (D9 (Or.inr (own_w hw 21 rfl)) (ty := (.array .int)) (by decide))
  have F9_positions : Fld Z h9 b9 "com/example/slackweave/slackweave/paths/RadixHeap" "positions" "[I" .null := (D9 (Or.inr (own_w hw 27 rfl)) (ty := (.array .int)) (by decide))
  have F9_count : Fld Z h9 b9 "com/example/slackweave/slackweave/paths/RadixHeap" "count" "I" (.int (0 : Int32)) := (D9 (Or.inl (own_w hw 35 rfl)) (ty := .int) (by decide))
  have F9_last : Fld Z h9 b9 "com/example/slackweave/slackweave/paths/RadixHeap" "last" "J" (.long (0 : Int64)) := (D9 (Or.inl (own_w hw 50 rfl)) (ty := .long) (by decide))
  show own_F p e below s Z _ _ _ _ _ (T9.setTop (mkF m 36 #[.val (.long x0), .second, .val (.long x1), .second, .val (.long x2), .second, .val (.int sv), .val (.ref b1), .unset, .unset] [(.ref b9)]))
  refine own_F.of (fun _ => XS.dup S9.here S9.hx rfl (S9.dec at_36) rfl rfl) ?_
  refine own_F.of (fun _ => XS.aload S9.here S9.hx rfl (S9.dec at_37) rfl rfl) ?_
  show own_F p e below s Z _ _ _ _ _ (T9.setTop (mkF m 39 #[.val (.long x0), .second, .val (.long x1), .second, .val (.long x2), .second, .val (.int sv), .val (.ref b1), .unset, .unset] [(.ref b1), (.ref b9), (.ref b9)]))
  have fq10 := (V8.ext E9)
  have n_K := own_neA A9 (own_w hw 3 rfl) fq10
  refine own_callI S9 (y := (⟨"com/example/slackweave/slackweave/paths/RadixHeap", "<init>", "([J)V"⟩ : MethodName)) rfl (own_w hw 5 rfl) (own_w hw 6 rfl) (own_w hw 4 rfl) (own_w hw 7 rfl) (by decide) (argsL := [(.ref b1)]) (rest := [(.ref b9)]) (own_init l Z a0 hw b9 b1 (x0 &&& (9223372036854775807 : Int64)) (x1 &&& (9223372036854775807 : Int64)) (x2 &&& (9223372036854775807 : Int64)) h9 S9.old (own_mayN S9 (Or.inr (by rw [g9]; exact S7.size))) A9 F9_buckets F9_sizes F9_keys F9_bucketOf F9_positions F9_last F9_count fq10) (allS (Or.inr (by rw [g9]; exact S7.size)) all0) (by decide +kernel : parseMethodDescriptor "([J)V" = some ⟨[(.array .long)], none⟩) rfl rfl rfl at_39 (by decide) (Nat.le_of_ble_eq_true rfl) (by decide) (by decide) (fun T11 h11 v11 S11 K11 q11 => ?_)
  obtain ⟨rfl, aB, aS, aO, aP, ⟨gB, gS, gO, gP⟩, ⟨nSO, nSP, nOP⟩, F11_buckets, F11_sizes, F11_keys, F11_bucketOf, F11_positions, F11_last, F11_count, RB11, AS11, AK11, AO11, AP11⟩ := q11
  show own_F p e below s Z _ _ _ _ _ (T11.setTop (mkF m 42 #[.val (.long x0), .second, .val (.long x1), .second, .val (.long x2), .second, .val (.int sv), .val (.ref b1), .unset, .unset] [(.ref b9)]))
  refine own_F.of (fun _ => XS.astore S11.here S11.hx rfl (S11.dec at_42) rfl rfl (l' := #[.val (.long x0), .second, .val (.long x1), .second, .val (.long x2), .second, .val (.int sv), .val (.ref b1), .val (.ref b9), .unset]) rfl) ?_
  refine own_F.of (fun _ => XS.iconst S11.here S11.hx rfl (S11.dec at_44)) ?_
  show own_F p e below s Z _ _ _ _ _ (T11.setTop (mkF m 45 #[.val (.long x0), .second, .val (.long x1), .second, .val (.long x2), .second, .val (.int sv), .val (.ref b1), .val (.ref b9), .unset] [(.int 3)]))
  refine own_newP S11 (own_w hw 28 rfl) at_45 (by decide) (cap := 3) (by decide) (by decide) (by decide) (by decide) (fun T12 h12 b12 g12 S12 E12 A12 => ?_)
  have V13 : own_A Z h12 b12 .boolean [(.int (0 : Int32)), (.int (0 : Int32)), (.int (0 : Int32))] := A12
  show own_F p e below s Z _ _ _ _ _ (T12.setTop (mkF m 47 #[.val (.long x0), .second, .val (.long x1), .second, .val (.long x2), .second, .val (.int sv), .val (.ref b1), .val (.ref b9), .unset] [(.ref b12)]))
  refine own_F.of (fun _ => XS.astore S12.here S12.hx rfl (S12.dec at_47) rfl rfl (l' := #[.val (.long x0), .second, .val (.long x1), .second, .val (.long x2), .second, .val (.int sv), .val (.ref b1), .val (.ref b9), .val (.ref b12)]) rfl) ?_
  refine own_F.of (fun _ => XS.aload S12.here S12.hx rfl (S12.dec at_49) rfl rfl) ?_
  show own_F p e below s Z _ _ _ _ _ (T12.setTop (mkF m 51 #[.val (.long x0), .second, .val (.long x1), .second, .val (.long x2), .second, .val (.int sv), .val (.ref b1), .val (.ref b9), .val (.ref b12)] [(.ref b9)]))
  have fq14 := (F11_count.ext E12)
  have fq16 := ((A9.keep K11).ext E12)
  refine own_callV S12 (y := (⟨"com/example/slackweave/slackweave/paths/RadixHeap", "isEmpty", "()Z"⟩ : MethodName)) (y' := (⟨"com/example/slackweave/slackweave/paths/RadixHeap", "isEmpty", "()Z"⟩ : MethodName)) (own_w hw 29 rfl) (own_w hw 30 rfl) (own_nf S12 (own_w hw 32 rfl)) (own_w hw 32 rfl) (own_w hw 31 rfl) (own_w hw 33 rfl) (own_w hw 4 rfl) (by decide) fq16 (argsL := []) (rest := []) (own_isE l Z a0 hw b9 (0 : Int32) h12 S12.old fq14) all0 (by decide +kernel : parseMethodDescriptor "()Z" = some ⟨[], some .boolean⟩) rfl rfl rfl at_51 (by decide) (Nat.le_of_ble_eq_true rfl) (by decide) (by decide) (fun T15 h15 v15 S15 K15 q15 => ?_)
  obtain ⟨hv15, rfl⟩ := q15
  rw [if_pos rfl] at hv15
  subst hv15
  show own_F p e below s Z _ _ _ _ _ (T15.setTop (mkF m 54 #[.val (.long x0), .second, .val (.long x1), .second, .val (.long x2), .second, .val (.int sv), .val (.ref b1), .val (.ref b9), .val (.ref b12)] [(.int 1)]))
  refine own_if S15 59 at_54 (by decide) (by decide) (fun (hc54_17 : ¬ ((1 : Int32) = (0 : Int32))) => ?_) (fun (hc54_17 : (1 : Int32) = (0 : Int32)) => False.elim (absurd hc54_17 (by decide)))
  show own_F p e below s Z _ _ _ _ _ (T15.setTop (mkF m 59 #[.val (.long x0), .second, .val (.long x1), .second, .val (.long x2), .second, .val (.int sv), .val (.ref b1), .val (.ref b9), .val (.ref b12)] []))
  have fq18 := (F11_buckets.ext E12)
  have fq19 := (F11_sizes.ext E12)
  have fq20 := (F11_keys.ext E12)
  have fq21 := (F11_bucketOf.ext E12)
  have fq22 := (F11_positions.ext E12)
  have fq23 := (F11_last.ext E12)
  have fq24 := (RB11.ext E12)
  have fq25 := (AS11.ext E12)
  have fq26 := (AK11.ext E12)
  have fq27 := (AO11.ext E12)
  have fq28 := (AP11.ext E12)
  have ST : own_ST Z h12 b9 aB aS b1 aO aP b12 (own_y3 (x0 &&& (9223372036854775807 : Int64)) (x1 &&& (9223372036854775807 : Int64)) (x2 &&& (9223372036854775807 : Int64))) := own_ST.mk (bk := List.replicate 64 .null) (Cf := fun _ => []) (bf := fun _ => none) (pf := fun _ => 0) (la := 0) (ct := 0) (i0 := 0) (i1 := 0) (i2 := 0) ⟨⟨(own_mayN S15 (Or.inr (by rw [g9]; exact S7.size))), (Nat.le_trans S9.old.1 gB), (Nat.le_trans S9.old.1 gS), (Nat.le_trans S9.old.1 gO), (Nat.le_trans S9.old.1 gP), (own_mayN S15 (Or.inr (by rw [g12]; exact S11.size)))⟩, ⟨nSO, nSP, nOP⟩, fq16, fq18, fq19, fq20, fq21, fq22, fq23, fq14, fq24, fq25, fq26, fq27, fq28, V13, own_BK0⟩ own_AB0 (by decide) rfl rfl rfl rfl
  refine own_F.of (fun _ => XS.aload S15.here S15.hx rfl (S15.dec at_59) rfl rfl) ?_
  refine own_F.of (fun _ => XS.aload S15.here S15.hx rfl (S15.dec at_61) rfl rfl) ?_
  refine own_F.of (fun _ => XS.iload S15.here S15.hx rfl (S15.dec at_63) rfl) ?_
  refine own_F.of (fun _ => XS.bipush S15.here S15.hx rfl (S15.dec at_65)) ?_
  show own_F p e below s Z _ _ _ _ _ (T15.setTop (mkF m 67 #[.val (.long x0), .second, .val (.long x1), .second, .val (.long x2), .second, .val (.int sv), .val (.ref b1), .val (.ref b9), .val (.ref b12)] [(.int 7), (.int sv), (.ref b12), (.ref b9)]))
  refine own_F.of (fun _ => XS.iand S15.here S15.hx rfl (S15.dec at_67) rfl) ?_
  show own_F p e below s Z _ _ _ _ _ (T15.setTop (mkF m 68 #[.val (.long x0), .second, .val (.long x1), .second, .val (.long x2), .second, .val (.int sv), .val (.ref b1), .val (.ref b9), .val (.ref b12)] [(.int (sv &&& (7 : Int32))), (.ref b12), (.ref b9)]))
  refine own_callS S15 (y := (⟨"com/example/slackweave/slackweave/paths/RadixHeapIsEmptyPinLaw", "step", "(Lcom/example/slackweave/slackweave/paths/RadixHeap;[ZI)Z"⟩ : MethodName)) (own_w hw 36 rfl) (own_w hw 37 rfl) (own_w hw 38 rfl) (own_w hw 39 rfl) (by decide) (argsL := [(.ref b9), (.ref b12), (.int (sv &&& (7 : Int32)))]) (rest := []) (own_step l Z a0 hw b9 aB aS b1 aO aP b12 (own_y3 (x0 &&& (9223372036854775807 : Int64)) (x1 &&& (9223372036854775807 : Int64)) (x2 &&& (9223372036854775807 : Int64))) (sv &&& (7 : Int32)) h12 S15.old ST (own_y3n x0 x1 x2)) own_news_sub (by decide +kernel : parseMethodDescriptor "(Lcom/example/slackweave/slackweave/paths/RadixHeap;[ZI)Z" = some ⟨[(.object "com/example/slackweave/slackweave/paths/RadixHeap"), (.array .boolean), .int], some .boolean⟩) rfl rfl rfl at_68 (by decide) (Nat.le_of_ble_eq_true rfl) (by decide) (by decide) (fun T29 h29 v29 S29 K29 q29 => ?_)
  obtain ⟨rfl, ST29⟩ := q29
  show own_F p e below s Z _ _ _ _ _ (T29.setTop (mkF m 71 #[.val (.long x0), .second, .val (.long x1), .second, .val (.long x2), .second, .val (.int sv), .val (.ref b1), .val (.ref b9), .val (.ref b12)] [(.int 1)]))
  refine own_if S29 167 at_71 (by decide) (by decide) (fun (hc71_30 : (1 : Int32) = (0 : Int32)) => False.elim (absurd hc71_30 (by decide))) (fun (hc71_30 : ¬ ((1 : Int32) = (0 : Int32))) => ?_)
  show own_F p e below s Z _ _ _ _ _ (T29.setTop (mkF m 74 #[.val (.long x0), .second, .val (.long x1), .second, .val (.long x2), .second, .val (.int sv), .val (.ref b1), .val (.ref b9), .val (.ref b12)] []))
  refine own_F.of (fun _ => XS.aload S29.here S29.hx rfl (S29.dec at_74) rfl rfl) ?_
  refine own_F.of (fun _ => XS.aload S29.here S29.hx rfl (S29.dec at_76) rfl rfl) ?_
  refine own_F.of (fun _ => XS.iload S29.here S29.hx rfl (S29.dec at_78) rfl) ?_
  refine own_F.of (fun _ => XS.iconst S29.here S29.hx rfl (S29.dec at_80)) ?_
  show own_F p e below s Z _ _ _ _ _ (T29.setTop (mkF m 81 #[.val (.long x0), .second, .val (.long x1), .second, .val (.long x2), .second, .val (.int sv), .val (.ref b1), .val (.ref b9), .val (.ref b12)] [(.int 3), (.int sv), (.ref b12), (.ref b9)]))
  refine own_F.of (fun _ => XS.iushr S29.here S29.hx rfl (S29.dec at_81) rfl) ?_
  show own_F p e below s Z _ _ _ _ _ (T29.setTop (mkF m 82 #[.val (.long x0), .second, .val (.long x1), .second, .val (.long x2), .second, .val (.int sv), .val (.ref b1), .val (.ref b9), .val (.ref b12)] [(.int ((sv.toUInt32 >>> ((3 : Int32) &&& 31).toUInt32).toInt32)), (.ref b12), (.ref b9)]))
  refine own_F.of (fun _ => XS.bipush S29.here S29.hx rfl (S29.dec at_82)) ?_
  show own_F p e below s Z _ _ _ _ _ (T29.setTop (mkF m 84 #[.val (.long x0), .second, .val (.long x1), .second, .val (.long x2), .second, .val (.int sv), .val (.ref b1), .val (.ref b9), .val (.ref b12)] [(.int 7), (.int ((sv.toUInt32 >>> ((3 : Int32) &&& 31).toUInt32).toInt32)), (.ref b12), (.ref b9)]))
  refine own_F.of (fun _ => XS.iand S29.here S29.hx rfl (S29.dec at_84) rfl) ?_
  show own_F p e below s Z _ _ _ _ _ (T29.setTop (mkF m 85 #[.val (.long x0), .second, .val (.long x1), .second, .val (.long x2), .second, .val (.int sv), .val (.ref b1), .val (.ref b9), .val (.ref b12)] [(.int (((sv.toUInt32 >>> ((3 : Int32) &&& 31).toUInt32).toInt32) &&& (7 : Int32))), (.ref b12), (.ref b9)]))
  refine own_callS S29 (y := (⟨"com/example/slackweave/slackweave/paths/RadixHeapIsEmptyPinLaw", "step", "(Lcom/example/slackweave/slackweave/paths/RadixHeap;[ZI)Z"⟩ : MethodName)) (own_w hw 36 rfl) (own_w hw 37 rfl) (own_w hw 38 rfl) (own_w hw 39 rfl) (by decide) (argsL := [(.ref b9), (.ref b12), (.int (((sv.toUInt32 >>> ((3 : Int32) &&& 31).toUInt32).toInt32) &&& (7 : Int32)))]) (rest := []) (own_step l Z a0 hw b9 aB aS b1 aO aP b12 (own_y3 (x0 &&& (9223372036854775807 : Int64)) (x1 &&& (9223372036854775807 : Int64)) (x2 &&& (9223372036854775807 : Int64))) (((sv.toUInt32 >>> ((3 : Int32) &&& 31).toUInt32).toInt32) &&& (7 : Int32)) h29 S29.old ST29 (own_y3n x0 x1 x2)) own_news_sub (by decide +kernel : parseMethodDescriptor "(Lcom/example/slackweave/slackweave/paths/RadixHeap;[ZI)Z" = some ⟨[(.object "com/example/slackweave/slackweave/paths/RadixHeap"), (.array .boolean), .int], some .boolean⟩) rfl rfl rfl at_85 (by decide) (Nat.le_of_ble_eq_true rfl) (by decide) (by decide) (fun T31 h31 v31 S31 K31 q31 => ?_)
  obtain ⟨rfl, ST31⟩ := q31
  show own_F p e below s Z _ _ _ _ _ (T31.setTop (mkF m 88 #[.val (.long x0), .second, .val (.long x1), .second, .val (.long x2), .second, .val (.int sv), .val (.ref b1), .val (.ref b9), .val (.ref b12)] [(.int 1)]))
  refine own_if S31 167 at_88 (by decide) (by decide) (fun (hc88_32 : (1 : Int32) = (0 : Int32)) => False.elim (absurd hc88_32 (by decide))) (fun (hc88_32 : ¬ ((1 : Int32) = (0 : Int32))) => ?_)
  show own_F p e below s Z _ _ _ _ _ (T31.setTop (mkF m 91 #[.val (.long x0), .second, .val (.long x1), .second, .val (.long x2), .second, .val (.int sv), .val (.ref b1), .val (.ref b9), .val (.ref b12)] []))
  refine own_F.of (fun _ => XS.aload S31.here S31.hx rfl (S31.dec at_91) rfl rfl) ?_
  refine own_F.of (fun _ => XS.aload S31.here S31.hx rfl (S31.dec at_93) rfl rfl) ?_
  refine own_F.of (fun _ => XS.iload S31.here S31.hx rfl (S31.dec at_95) rfl) ?_
  refine own_F.of (fun _ => XS.bipush S31.here S31.hx rfl (S31.dec at_97)) ?_
  show own_F p e below s Z _ _ _ _ _ (T31.setTop (mkF m 99 #[.val (.long x0), .second, .val (.long x1), .second, .val (.long x2), .second, .val (.int sv), .val (.ref b1), .val (.ref b9), .val (.ref b12)] [(.int 6), (.int sv), (.ref b12), (.ref b9)]))
  refine own_F.of (fun _ => XS.iushr S31.here S31.hx rfl (S31.dec at_99) rfl) ?_
  show own_F p e below s Z _ _ _ _ _ (T31.setTop (mkF m 100 #[.val (.long x0), .second, .val (.long x1), .second, .val (.long x2), .second, .val (.int sv), .val (.ref b1), .val (.ref b9), .val (.ref b12)] [(.int ((sv.toUInt32 >>> ((6 : Int32) &&& 31).toUInt32).toInt32)), (.ref b12), (.ref b9)]))
  refine own_F.of (fun _ => XS.bipush S31.here S31.hx rfl (S31.dec at_100)) ?_
  show own_F p e below s Z _ _ _ _ _ (T31.setTop (mkF m 102 #[.val (.long x0), .second, .val (.long x1), .second, .val (.long x2), .second, .val (.int sv), .val (.ref b1), .val (.ref b9), .val (.ref b12)] [(.int 7), (.int ((sv.toUInt32 >>> ((6 : Int32) &&& 31).toUInt32).toInt32)), (.ref b12), (.ref b9)]))
  refine own_F.of (fun _ => XS.iand S31.here S31.hx rfl (S31.dec at_102) rfl) ?_
  show own_F p e below s Z _ _ _ _ _ (T31.setTop (mkF m 103 #[.val (.long x0), .second, .val (.long x1), .second, .val (.long x2), .second, .val (.int sv), .val (.ref b1), .val (.ref b9), .val (.ref b12)] [(.int (((sv.toUInt32 >>> ((6 : Int32) &&& 31).toUInt32).toInt32) &&& (7 : Int32))), (.ref b12), (.ref b9)]))
  refine own_callS S31 (y := (⟨"com/example/slackweave/slackweave/paths/RadixHeapIsEmptyPinLaw", "step", "(Lcom/example/slackweave/slackweave/paths/RadixHeap;[ZI)Z"⟩ : MethodName)) (own_w hw 36 rfl) (own_w hw 37 rfl) (own_w hw 38 rfl) (own_w hw 39 rfl) (by decide) (argsL := [(.ref b9), (.ref b12), (.int (((sv.toUInt32 >>> ((6 : Int32) &&& 31).toUInt32).toInt32) &&& (7 : Int32)))]) (rest := []) (own_step l Z a0 hw b9 aB aS b1 aO aP b12 (own_y3 (x0 &&& (9223372036854775807 : Int64)) (x1 &&& (9223372036854775807 : Int64)) (x2 &&& (9223372036854775807 : Int64))) (((sv.toUInt32 >>> ((6 : Int32) &&& 31).toUInt32).toInt32) &&& (7 : Int32)) h31 S31.old ST31 (own_y3n x0 x1 x2)) own_news_sub (by decide +kernel : parseMethodDescriptor "(Lcom/example/slackweave/slackweave/paths/RadixHeap;[ZI)Z" = some ⟨[(.object "com/example/slackweave/slackweave/paths/RadixHeap"), (.array .boolean), .int], some .boolean⟩) rfl rfl rfl at_103 (by decide) (Nat.le_of_ble_eq_true rfl) (by decide) (by decide) (fun T33 h33 v33 S33 K33 q33 => ?_)
  obtain ⟨rfl, ST33⟩ := q33
  show own_F p e below s Z _ _ _ _ _ (T33.setTop (mkF m 106 #[.val (.long x0), .second, .val (.long x1), .second, .val (.long x2), .second, .val (.int sv), .val (.ref b1), .val (.ref b9), .val (.ref b12)] [(.int 1)]))
  refine own_if S33 167 at_106 (by decide) (by decide) (fun (hc106_34 : (1 : Int32) = (0 : Int32)) => False.elim (absurd hc106_34 (by decide))) (fun (hc106_34 : ¬ ((1 : Int32) = (0 : Int32))) => ?_)
  show own_F p e below s Z _ _ _ _ _ (T33.setTop (mkF m 109 #[.val (.long x0), .second, .val (.long x1), .second, .val (.long x2), .second, .val (.int sv), .val (.ref b1), .val (.ref b9), .val (.ref b12)] []))
  refine own_F.of (fun _ => XS.aload S33.here S33.hx rfl (S33.dec at_109) rfl rfl) ?_
  refine own_F.of (fun _ => XS.aload S33.here S33.hx rfl (S33.dec at_111) rfl rfl) ?_
  refine own_F.of (fun _ => XS.iload S33.here S33.hx rfl (S33.dec at_113) rfl) ?_
  refine own_F.of (fun _ => XS.bipush S33.here S33.hx rfl (S33.dec at_115)) ?_
  show own_F p e below s Z _ _ _ _ _ (T33.setTop (mkF m 117 #[.val (.long x0), .second, .val (.long x1), .second, .val (.long x2), .second, .val (.int sv), .val (.ref b1), .val (.ref b9), .val (.ref b12)] [(.int 9), (.int sv), (.ref b12), (.ref b9)]))
  refine own_F.of (fun _ => XS.iushr S33.here S33.hx rfl (S33.dec at_117) rfl) ?_
  show own_F p e below s Z _ _ _ _ _ (T33.setTop (mkF m 118 #[.val (.long x0), .second, .val (.long x1), .second, .val (.long x2), .second, .val (.int sv), .val (.ref b1), .val (.ref b9), .val (.ref b12)] [(.int ((sv.toUInt32 >>> ((9 : Int32) &&& 31).toUInt32).toInt32)), (.ref b12), (.ref b9)]))
  refine own_F.of (fun _ => XS.bipush S33.here S33.hx rfl (S33.dec at_118)) ?_
  show own_F p e below s Z _ _ _ _ _ (T33.setTop (mkF m 120 #[.val (.long x0), .second, .val (.long x1), .second, .val (.long x2), .second, .val (.int sv), .val (.ref b1), .val (.ref b9), .val (.ref b12)] [(.int 7), (.int ((sv.toUInt32 >>> ((9 : Int32) &&& 31).toUInt32).toInt32)), (.ref b12), (.ref b9)]))
  refine own_F.of (fun _ => XS.iand S33.here S33.hx rfl (S33.dec at_120) rfl) ?_
  show own_F p e below s Z _ _ _ _ _ (T33.setTop (mkF m 121 #[.val (.long x0), .second, .val (.long x1), .second, .val (.long x2), .second, .val (.int sv), .val (.ref b1), .val (.ref b9), .val (.ref b12)] [(.int (((sv.toUInt32 >>> ((9 : Int32) &&& 31).toUInt32).toInt32) &&& (7 : Int32))), (.ref b12), (.ref b9)]))
  refine own_callS S33 (y := (⟨"com/example/slackweave/slackweave/paths/RadixHeapIsEmptyPinLaw", "step", "(Lcom/example/slackweave/slackweave/paths/RadixHeap;[ZI)Z"⟩ : MethodName)) (own_w hw 36 rfl) (own_w hw 37 rfl) (own_w hw 38 rfl) (own_w hw 39 rfl) (by decide) (argsL := [(.ref b9), (.ref b12), (.int (((sv.toUInt32 >>> ((9 : Int32) &&& 31).toUInt32).toInt32) &&& (7 : Int32)))]) (rest := []) (own_step l Z a0 hw b9 aB aS b1 aO aP b12 (own_y3 (x0 &&& (9223372036854775807 : Int64)) (x1 &&& (9223372036854775807 : Int64)) (x2 &&& (9223372036854775807 : Int64))) (((sv.toUInt32 >>> ((9 : Int32) &&& 31).toUInt32).toInt32) &&& (7 : Int32)) h33 S33.old ST33 (own_y3n x0 x1 x2)) own_news_sub (by decide +kernel : parseMethodDescriptor "(Lcom/example/slackweave/slackweave/paths/RadixHeap;[ZI)Z" = some ⟨[(.object "com/example/slackweave/slackweave/paths/RadixHeap"), (.array .boolean), .int], some .boolean⟩) rfl rfl rfl at_121 (by decide) (Nat.le_of_ble_eq_true rfl) (by decide) (by decide) (fun T35 h35 v35 S35 K35 q35 => ?_)
  obtain ⟨rfl, ST35⟩ := q35
  show own_F p e below s Z _ _ _ _ _ (T35.setTop (mkF m 124 #[.val (.long x0), .second, .val (.long x1), .second, .val (.long x2), .second, .val (.int sv), .val (.ref b1), .val (.ref b9), .val (.ref b12)] [(.int 1)]))
  refine own_if S35 167 at_124 (by decide) (by decide) (fun (hc124_36 : (1 : Int32) = (0 : Int32)) => False.elim (absurd hc124_36 (by decide))) (fun (hc124_36 : ¬ ((1 : Int32) = (0 : Int32))) => ?_)
  show own_F p e below s Z _ _ _ _ _ (T35.setTop (mkF m 127 #[.val (.long x0), .second, .val (.long x1), .second, .val (.long x2), .second, .val (.int sv), .val (.ref b1), .val (.ref b9), .val (.ref b12)] []))
  refine own_F.of (fun _ => XS.aload S35.here S35.hx rfl (S35.dec at_127) rfl rfl) ?_
  refine own_F.of (fun _ => XS.aload S35.here S35.hx rfl (S35.dec at_129) rfl rfl) ?_
  refine own_F.of (fun _ => XS.iload S35.here S35.hx rfl (S35.dec at_131) rfl) ?_
  refine own_F.of (fun _ => XS.bipush S35.here S35.hx rfl (S35.dec at_133)) ?_
  show own_F p e below s Z _ _ _ _ _ (T35.setTop (mkF m 135 #[.val (.long x0), .second, .val (.long x1), .second, .val (.long x2), .second, .val (.int sv), .val (.ref b1), .val (.ref b9), .val (.ref b12)] [(.int 12), (.int sv), (.ref b12), (.ref b9)]))
  refine own_F.of (fun _ => XS.iushr S35.here S35.hx rfl (S35.dec at_135) rfl) ?_
  show own_F p e below s Z _ _ _ _ _ (T35.setTop (mkF m 136 #[.val (.long x0), .second, .val (.long x1), .second, .val (.long x2), .second, .val (.int sv), .val (.ref b1), .val (.ref b9), .val (.ref b12)] [(.int ((sv.toUInt32 >>> ((12 : Int32) &&& 31).toUInt32).toInt32)), (.ref b12), (.ref b9)]))
  refine own_F.of (fun _ => XS.bipush S35.here S35.hx rfl (S35.dec at_136)) ?_
  show own_F p e below s Z _ _ _ _ _ (T35.setTop (mkF m 138 #[.val (.long x0), .second, .val (.long x1), .second, .val (.long x2), .second, .val (.int sv), .val (.ref b1), .val (.ref b9), .val (.ref b12)] [(.int 7), (.int ((sv.toUInt32 >>> ((12 : Int32) &&& 31).toUInt32).toInt32)), (.ref b12), (.ref b9)]))
  refine own_F.of (fun _ => XS.iand S35.here S35.hx rfl (S35.dec at_138) rfl) ?_
  show own_F p e below s Z _ _ _ _ _ (T35.setTop (mkF m 139 #[.val (.long x0), .second, .val (.long x1), .second, .val (.long x2), .second, .val (.int sv), .val (.ref b1), .val (.ref b9), .val (.ref b12)] [(.int (((sv.toUInt32 >>> ((12 : Int32) &&& 31).toUInt32).toInt32) &&& (7 : Int32))), (.ref b12), (.ref b9)]))
  refine own_callS S35 (y := (⟨"com/example/slackweave/slackweave/paths/RadixHeapIsEmptyPinLaw", "step", "(Lcom/example/slackweave/slackweave/paths/RadixHeap;[ZI)Z"⟩ : MethodName)) (own_w hw 36 rfl) (own_w hw 37 rfl) (own_w hw 38 rfl) (own_w hw 39 rfl) (by decide) (argsL := [(.ref b9), (.ref b12), (.int (((sv.toUInt32 >>> ((12 : Int32) &&& 31).toUInt32).toInt32) &&& (7 : Int32)))]) (rest := []) (own_step l Z a0 hw b9 aB aS b1 aO aP b12 (own_y3 (x0 &&& (9223372036854775807 : Int64)) (x1 &&& (9223372036854775807 : Int64)) (x2 &&& (9223372036854775807 : Int64))) (((sv.toUInt32 >>> ((12 : Int32) &&& 31).toUInt32).toInt32) &&& (7 : Int32)) h35 S35.old ST35 (own_y3n x0 x1 x2)) own_news_sub (by decide +kernel : parseMethodDescriptor "(Lcom/example/slackweave/slackweave/paths/RadixHeap;[ZI)Z" = some ⟨[(.object "com/example/slackweave/slackweave/paths/RadixHeap"), (.array .boolean), .int], some .boolean⟩) rfl rfl rfl at_139 (by decide) (Nat.le_of_ble_eq_true rfl) (by decide) (by decide) (fun T37 h37 v37 S37 K37 q37 => ?_)
  obtain ⟨rfl, ST37⟩ := q37
  show own_F p e below s Z _ _ _ _ _ (T37.setTop (mkF m 142 #[.val (.long x0), .second, .val (.long x1), .second, .val (.long x2), .second, .val (.int sv), .val (.ref b1), .val (.ref b9), .val (.ref b12)] [(.int 1)]))
  refine own_if S37 167 at_142 (by decide) (by decide) (fun (hc142_38 : (1 : Int32) = (0 : Int32)) => False.elim (absurd hc142_38 (by decide))) (fun (hc142_38 : ¬ ((1 : Int32) = (0 : Int32))) => ?_)
  show own_F p e below s Z _ _ _ _ _ (T37.setTop (mkF m 145 #[.val (.long x0), .second, .val (.long x1), .second, .val (.long x2), .second, .val (.int sv), .val (.ref b1), .val (.ref b9), .val (.ref b12)] []))
  refine own_F.of (fun _ => XS.aload S37.here S37.hx rfl (S37.dec at_145) rfl rfl) ?_
  refine own_F.of (fun _ => XS.aload S37.here S37.hx rfl (S37.dec at_147) rfl rfl) ?_
  refine own_F.of (fun _ => XS.iload S37.here S37.hx rfl (S37.dec at_149) rfl) ?_
  refine own_F.of (fun _ => XS.bipush S37.here S37.hx rfl (S37.dec at_151)) ?_
  show own_F p e below s Z _ _ _ _ _ (T37.setTop (mkF m 153 #[.val (.long x0), .second, .val (.long x1), .second, .val (.long x2), .second, .val (.int sv), .val (.ref b1), .val (.ref b9), .val (.ref b12)] [(.int 15), (.int sv), (.ref b12), (.ref b9)]))
  refine own_F.of (fun _ => XS.iushr S37.here S37.hx rfl (S37.dec at_153) rfl) ?_
  show own_F p e below s Z _ _ _ _ _ (T37.setTop (mkF m 154 #[.val (.long x0), .second, .val (.long x1), .second, .val (.long x2), .second, .val (.int sv), .val (.ref b1), .val (.ref b9), .val (.ref b12)] [(.int ((sv.toUInt32 >>> ((15 : Int32) &&& 31).toUInt32).toInt32)), (.ref b12), (.ref b9)]))
  refine own_F.of (fun _ => XS.bipush S37.here S37.hx rfl (S37.dec at_154)) ?_
  show own_F p e below s Z _ _ _ _ _ (T37.setTop (mkF m 156 #[.val (.long x0), .second, .val (.long x1), .second, .val (.long x2), .second, .val (.int sv), .val (.ref b1), .val (.ref b9), .val (.ref b12)] [(.int 7), (.int ((sv.toUInt32 >>> ((15 : Int32) &&& 31).toUInt32).toInt32)), (.ref b12), (.ref b9)]))
  refine own_F.of (fun _ => XS.iand S37.here S37.hx rfl (S37.dec at_156) rfl) ?_
  show own_F p e below s Z _ _ _ _ _ (T37.setTop (mkF m 157 #[.val (.long x0), .second, .val (.long x1), .second, .val (.long x2), .second, .val (.int sv), .val (.ref b1), .val (.ref b9), .val (.ref b12)] [(.int (((sv.toUInt32 >>> ((15 : Int32) &&& 31).toUInt32).toInt32) &&& (7 : Int32))), (.ref b12), (.ref b9)]))
  refine own_callS S37 (y := (⟨"com/example/slackweave/slackweave/paths/RadixHeapIsEmptyPinLaw", "step", "(Lcom/example/slackweave/slackweave/paths/RadixHeap;[ZI)Z"⟩ : MethodName)) (own_w hw 36 rfl) (own_w hw 37 rfl) (own_w hw 38 rfl) (own_w hw 39 rfl) (by decide) (argsL := [(.ref b9), (.ref b12), (.int (((sv.toUInt32 >>> ((15 : Int32) &&& 31).toUInt32).toInt32) &&& (7 : Int32)))]) (rest := []) (own_step l Z a0 hw b9 aB aS b1 aO aP b12 (own_y3 (x0 &&& (9223372036854775807 : Int64)) (x1 &&& (9223372036854775807 : Int64)) (x2 &&& (9223372036854775807 : Int64))) (((sv.toUInt32 >>> ((15 : Int32) &&& 31).toUInt32).toInt32) &&& (7 : Int32)) h37 S37.old ST37 (own_y3n x0 x1 x2)) own_news_sub (by decide +kernel : parseMethodDescriptor "(Lcom/example/slackweave/slackweave/paths/RadixHeap;[ZI)Z" = some ⟨[(.object "com/example/slackweave/slackweave/paths/RadixHeap"), (.array .boolean), .int], some .boolean⟩) rfl rfl rfl at_157 (by decide) (Nat.le_of_ble_eq_true rfl) (by decide) (by decide) (fun T39 h39 v39 S39 K39 q39 => ?_)
  obtain ⟨rfl, ST39⟩ := q39
  show own_F p e below s Z _ _ _ _ _ (T39.setTop (mkF m 160 #[.val (.long x0), .second, .val (.long x1), .second, .val (.long x2), .second, .val (.int sv), .val (.ref b1), .val (.ref b9), .val (.ref b12)] [(.int 1)]))
  refine own_if S39 167 at_160 (by decide) (by decide) (fun (hc160_40 : (1 : Int32) = (0 : Int32)) => False.elim (absurd hc160_40 (by decide))) (fun (hc160_40 : ¬ ((1 : Int32) = (0 : Int32))) => ?_)
  show own_F p e below s Z _ _ _ _ _ (T39.setTop (mkF m 163 #[.val (.long x0), .second, .val (.long x1), .second, .val (.long x2), .second, .val (.int sv), .val (.ref b1), .val (.ref b9), .val (.ref b12)] []))
  refine own_F.of (fun _ => XS.iconst S39.here S39.hx rfl (S39.dec at_163)) ?_
  show own_F p e below s Z _ _ _ _ _ (T39.setTop (mkF m 164 #[.val (.long x0), .second, .val (.long x1), .second, .val (.long x2), .second, .val (.int sv), .val (.ref b1), .val (.ref b9), .val (.ref b12)] [(.int 1)]))
  refine own_F.of (fun _ => XS.goto S39.here S39.hx rfl (pc0 := 164) (pc' := 168) rfl (S39.dec at_164) (by decide) (by decide)) ?_
  show own_F p e below s Z _ _ _ _ _ (T39.setTop (mkF m 168 #[.val (.long x0), .second, .val (.long x1), .second, .val (.long x2), .second, .val (.int sv), .val (.ref b1), .val (.ref b9), .val (.ref b12)] [(.int 1)]))
  refine own_retZ S39 (by simp) at_168 (by decide) (by decide) ?_
  rfl
set_option maxRecDepth 65536 in
set_option maxHeartbeats 40000000 in
theorem comes_1 {Post : Tables → Env → Array Value → State → Outcome → State → Prop} (hpost : ∀ tb e args s v u, (limb_1_1.after args s (.returned v) u = true ∧ limb_1_2.after args s (.returned v) u = true ∧ True) → FrameEnd s (.returned v) u (Jvm.fieldLocs frame_1_writes args s ++ Jvm.arrayLocs frame_1_arrays args s ++ Jvm.staticLocs frame_1_statics s) 32 512 → Post tb e args s (.returned v) u) :
    ArmFor flags0 classFile x code maxLocals ret World_1 tables_1 room_1 Calls_1 rest_1 Pre_1 Post := by
  intro l hfl _ _ p e ha hc hk s m args below hf hA hF happ hP
  obtain ⟨hcalls, hrest, hpre⟩ := hP
  obtain ⟨-, -, -, hnamed, -, -, -, hat⟩ := (Spec.applies_iff hf).mp happ
  obtain ⟨hg, hn⟩ := and_e (Cond.before_iff.mp (show (Jvm.Cond.and given_1 narrow_1).before args s = true from hpre))
  obtain ⟨g1, g2⟩ := and_e hg
  obtain ⟨g3, g4⟩ := and_e g2
  obtain ⟨g5, g6⟩ := and_e g4
  obtain ⟨g7, g8⟩ := and_e g6
  obtain ⟨w0, w1, w2, w3, rfl⟩ : ∃ w0 w1 w2 w3 : Value, args = #[w0, w1, w2, w3] := by
    have hs : args.size = 4 := by simpa [Cond.value, given_1] using g1
    obtain ⟨L⟩ := args
    match L, hs with
    | [w0, w1, w2, w3], _ => exact ⟨w0, w1, w2, w3, rfl⟩
  have hw := fun d (hd : d ∈ tables_1) => atoms_spec (ws := Jvm.Cond.code x code maxLocals ret :: tables_1) hat d (List.mem_cons_of_mem _ hd)
  have hfit : Fit s := fun {y c} hc i hi => by
    obtain ⟨ha, rfl⟩ := Array.getElem?_eq_some_iff.mp hc
    have q := List.all_eq_true.mp ((Array.all_eq_true_iff_forall_mem.mp hF) _ (Array.getElem_mem ha)) i (List.mem_range.mpr hi)
    simpa [Array.getElem?_eq_getElem hi] using q
  obtain ⟨i0, ei0⟩ := isL_v g3
  obtain rfl : w0 = (.long i0) := Option.some.inj ei0
  obtain ⟨i1, ei1⟩ := isL_v g5
  obtain rfl : w1 = (.long i1) := Option.some.inj ei1
  obtain ⟨i2, ei2⟩ := isL_v g7
  obtain rfl : w2 = (.long i2) := Option.some.inj ei2
  obtain ⟨i3, ei3⟩ := is_v g8
  obtain rfl : w3 = (.int i3) := Option.some.inj ei3
  obtain ⟨n, o, h1, h2, h3, _, L, rfl, ⟨N, K, rfl⟩, hq⟩ := own_law l s _ hw i0 i1 i2 i3 s.heap (own_extRefl _) p e ha hc hk s m _ below hf ((Spec.applies_iff_loose hf).mp happ).1 ⟨rfl, State.Warmed39.refl s, rfl⟩ trivial
  refine ⟨n, _, h1, h2, h3, hpost _ _ _ _ _ _ ⟨Cond.after_iff.mpr rfl, Cond.after_iff.mpr (eq_i res_at (Term.int_eval (1)) rfl), trivial⟩ ⟨hq.1, hq.2.1, (hq.2.2.sift fun y hy => Or.inr (N y hy)).mono (by decide) (by decide)⟩⟩
theorem main_1_1 : Claimed_1_1 := comes_1 fun _ _ _ _ _ _ h hF => ⟨h.1, hF⟩
theorem main_1_2 : Claimed_1_2 := comes_1 fun _ _ _ _ _ _ h hF => ⟨h.2.1, hF⟩
end Jvm.Pilot.@@N@@
namespace Jvm.Pilot.@@N@@
open Jvm Jvm.ClassFile Sem Op Lib Jvm.Free Jvm.Stand Jvm.Pilot.@@N@@.Jvm.D
/-! MADE BY PROGRAM (witnessworld.py) out of the Statement's table words and the real class files: 22 classes; the members and pool entries that the words name. The judged class is class 1, her method 1. -/
namespace start1
open Jvm.ClassFile
def u (s : String) : CpInfo := .utf8 (stringToUtf16 s)
/-- a pool by its gaps: so many unusable entries, then the entry; so many at the end -/
def gap : Nat → List CpInfo → List CpInfo
  | 0, r => r
  | n + 1, r => .unusable :: gap n r
def poolList (es : List (Nat × CpInfo)) (last : Nat) : List CpInfo := es.foldr (fun e r => gap e.1 (e.2 :: r)) (gap last [])
def pool (es : List (Nat × CpInfo)) (last : Nat) : Array CpInfo := ⟨poolList es last⟩
def fileOf (pool : Array CpInfo) (this : Nat) (attrs : Array Attribute := #[]) (ms : Array MethodInfo := #[]) (fl : Nat := 33) (sup : Nat := 0) (ifs : Array Nat := #[]) (fds : Array FieldInfo := #[]) : ClassFile where
  minorVersion := 0
  majorVersion := 65
  constantPool := pool
  accessFlags := fl
  thisClass := this
  superClass := sup
  interfaces := ifs
  fields := fds
  methods := ms
  attributes := attrs
def plain (name : String) (sup : Option ClassId) : Class where
  name := name
  kind := .ordinary
  loader := none
  accessFlags := 33
  super := sup
  interfaces := #[]
  cf := none
  fields := #[]
  methods := #[]
  instanceTypes := #[]
  staticTypes := #[]
  resolved := #[]
  callSites := []
  init := .initialized
  statics := none
  mirror := none

def pool0 : Array CpInfo := pool [(5, u "<init>"), (0, u "()V"), (1, .class_ 10), (1, u "java/lang/Object")] 113

def k0c0 : Code := { maxStack := 0, maxLocals := 1, code := object_method_1_code, exceptionTable := #[], attributes := #[] }
def k0m0 : Method := { name := "<init>", desc := "()V", sig := { parameters := [], returnType := none }, accessFlags := 1, code := some k0c0 }
/-- java/lang/Object -/
def k0 : Class := { plain "java/lang/Object" none with
  accessFlags := 33
  interfaces := #[]
  cf := some (fileOf pool0 8 #[] #[{ accessFlags := 1, nameIndex := 5, descriptorIndex := 6, attributes := #[] }] 33 0 #[] #[])
  fields := #[]
  methods := #[k0m0]
  instanceTypes := #[]
  staticTypes := #[]
  resolved := Array.replicate 124 none
  statics := none }

def pool1 : Array CpInfo := pool [(2, .class_ 4), (1, u "java/lang/Object"), (0, u "<init>"), (0, u "()V"), (2, .long 9223372036854775807), (1, .class_ 12), (0, u "com/example/slackweave/slackweave/paths/RadixHeap"), (0, .methodref 11 14), (0, .nameAndType 5 15), (0, u "([J)V"), (0, .methodref 11 17), (0, .nameAndType 18 19), (0, u "isEmpty"), (0, u "()Z"), (0, .methodref 21 22), (0, .class_ 23), (0, .nameAndType 24 25), (0, u "com/example/slackweave/slackweave/paths/RadixHeapIsEmptyPinLaw"), (0, u "step"), (0, u "(Lcom/example/slackweave/slackweave/paths/RadixHeap;[ZI)Z"), (0, .methodref 11 27), (0, .nameAndType 28 29), (0, u "pop"), (0, u "()I"), (0, .methodref 11 31), (0, .nameAndType 32 33), (0, u "push"), (0, u "(I)V"), (2, u "law"), (0, u "(JJJI)Z")] 7

def k1m0 : Method := { name := "<init>", desc := "()V", sig := { parameters := [], returnType := none }, accessFlags := 1, code := none }
def k1c1 : Code := { maxStack := 6, maxLocals := 10, code := code, exceptionTable := #[], attributes := #[] }
def k1m1 : Method := { name := "law", desc := "(JJJI)Z", sig := { parameters := [.long, .long, .long, .int], returnType := some .boolean }, accessFlags := 9, code := some k1c1 }
def k1c2 : Code := { maxStack := 3, maxLocals := 5, code := method_3_code, exceptionTable := #[], attributes := #[] }
def k1m2 : Method := { name := "step", desc := "(Lcom/example/slackweave/slackweave/paths/RadixHeap;[ZI)Z", sig := { parameters := [(.object "com/example/slackweave/slackweave/paths/RadixHeap"), (.array .boolean), .int], returnType := some .boolean }, accessFlags := 10, code := some k1c2 }
/-- com/example/slackweave/slackweave/paths/RadixHeapIsEmptyPinLaw -/
def k1 : Class := { plain "com/example/slackweave/slackweave/paths/RadixHeapIsEmptyPinLaw" (some 0) with
  accessFlags := 49
  interfaces := #[]
  cf := some (fileOf pool1 21 #[] #[{ accessFlags := 1, nameIndex := 5, descriptorIndex := 6, attributes := #[] }, { accessFlags := 9, nameIndex := 36, descriptorIndex := 37, attributes := #[] }, { accessFlags := 10, nameIndex := 24, descriptorIndex := 25, attributes := #[] }] 49 2 #[] #[])
  fields := #[]
  methods := #[k1m0, k1m1, k1m2]
  instanceTypes := #[]
  staticTypes := #[]
  resolved := Array.replicate 45 none
  statics := none }

def pool2 : Array CpInfo := pool [(1, .class_ 2), (0, u "com/example/slackweave/slackweave/paths/Frontier"), (0, .class_ 4), (0, u "java/lang/Object")] 8

/-- com/example/slackweave/slackweave/paths/Frontier -/
def k2 : Class := { plain "com/example/slackweave/slackweave/paths/Frontier" (some 0) with
  accessFlags := 1536
  interfaces := #[]
  cf := some (fileOf pool2 1 #[] #[] 1536 3 #[] #[])
  fields := #[]
  methods := #[]
  instanceTypes := #[]
  staticTypes := #[]
  resolved := Array.replicate 13 none
  statics := none }

def pool3 : Array CpInfo := pool [(1, .methodref 2 3), (0, .class_ 4), (0, .nameAndType 5 6), (0, u "java/lang/Object"), (0, u "<init>"), (0, u "()V"), (0, .class_ 8), (0, u "com/example/slackweave/slackweave/paths/RadixHeap"), (0, .class_ 10), (0, u "[I"), (0, .fieldref 7 12), (0, .nameAndType 13 14), (0, u "buckets"), (0, u "[[I"), (0, .fieldref 7 16), (0, .nameAndType 17 10), (0, u "sizes"), (0, .fieldref 7 19), (0, .nameAndType 20 21), (0, u "keys"), (0, u "[J"), (0, .fieldref 7 23), (0, .nameAndType 24 10), (0, u "bucketOf"), (0, .methodref 26 27), (0, .class_ 28), (0, .nameAndType 29 30), (0, u "java/util/Arrays"), (0, u "fill"), (0, u "([II)V"), (0, .fieldref 7 32), (0, .nameAndType 33 10), (0, u "positions"), (0, .fieldref 7 35), (0, .nameAndType 36 37), (0, u "count"), (0, u "I"), (0, .methodref 7 39), (0, .nameAndType 40 41), (0, u "file"), (0, u "(I)V"), (0, .methodref 7 43), (0, .nameAndType 44 6), (0, u "refileLowestBucket"), (0, .fieldref 7 46), (0, .nameAndType 47 48), (0, u "last"), (0, u "J"), (0, .methodref 50 51), (0, .class_ 52), (0, .nameAndType 53 54), (0, u "java/lang/Math"), (0, u "min"), (0, u "(JJ)J"), (0, .class_ 56), (0, u "java/lang/Long"), (0, .methodref 55 58), (0, .nameAndType 59 60), (0, u "numberOfLeadingZeros"), (0, u "(J)I"), (4, .class_ 66), (0, u "com/example/slackweave/slackweave/paths/Frontier"), (0, u "BUCKETS"), (2, u "FIRST_CAPACITY"), (1, u "NONE"), (1, u "([J)V"), (2, u "isEmpty"), (0, u "()Z"), (1, u "push"), (0, u "pop"), (0, u "()I")] 2

def k3c0 : Code := { maxStack := 2, maxLocals := 2, code := prog_77_method_1_code, exceptionTable := #[], attributes := #[] }
def k3m0 : Method := { name := "<init>", desc := "([J)V", sig := { parameters := [(.array .long)], returnType := none }, accessFlags := 0, code := some k3c0 }
def k3c1 : Code := { maxStack := 1, maxLocals := 1, code := prog_77_method_2_code, exceptionTable := #[], attributes := #[] }
def k3m1 : Method := { name := "isEmpty", desc := "()Z", sig := { parameters := [], returnType := some .boolean }, accessFlags := 1, code := some k3c1 }
def k3c2 : Code := { maxStack := 5, maxLocals := 4, code := prog_77_method_3_code, exceptionTable := #[], attributes := #[] }
def k3m2 : Method := { name := "push", desc := "(I)V", sig := { parameters := [.int], returnType := none }, accessFlags := 1, code := some k3c2 }
def k3c3 : Code := { maxStack := 5, maxLocals := 2, code := prog_77_method_4_code, exceptionTable := #[], attributes := #[] }
def k3m3 : Method := { name := "pop", desc := "()I", sig := { parameters := [], returnType := some .int }, accessFlags := 1, code := some k3c3 }
def k3c4 : Code := { maxStack := 5, maxLocals := 7, code := prog_77_method_5_code, exceptionTable := #[], attributes := #[] }
def k3m4 : Method := { name := "refileLowestBucket", desc := "()V", sig := { parameters := [], returnType := none }, accessFlags := 2, code := some k3c4 }
def k3c5 : Code := { maxStack := 5, maxLocals := 6, code := prog_77_method_6_code, exceptionTable := #[], attributes := #[] }
def k3m5 : Method := { name := "file", desc := "(I)V", sig := { parameters := [.int], returnType := none }, accessFlags := 2, code := some k3c5 }
/-- com/example/slackweave/slackweave/paths/RadixHeap -/
def k3 : Class := { plain "com/example/slackweave/slackweave/paths/RadixHeap" (some 0) with
  accessFlags := 48
  interfaces := #[2]
  cf := some (fileOf pool3 7 #[] #[{ accessFlags := 0, nameIndex := 5, descriptorIndex := 74, attributes := #[] }, { accessFlags := 1, nameIndex := 77, descriptorIndex := 78, attributes := #[] }, { accessFlags := 1, nameIndex := 80, descriptorIndex := 41, attributes := #[] }, { accessFlags := 1, nameIndex := 81, descriptorIndex := 82, attributes := #[] }, { accessFlags := 2, nameIndex := 44, descriptorIndex := 6, attributes := #[] }, { accessFlags := 2, nameIndex := 40, descriptorIndex := 41, attributes := #[] }] 48 2 #[65] #[{ accessFlags := 26, nameIndex := 67, descriptorIndex := 37, attributes := #[] }, { accessFlags := 26, nameIndex := 70, descriptorIndex := 37, attributes := #[] }, { accessFlags := 26, nameIndex := 72, descriptorIndex := 37, attributes := #[] }, { accessFlags := 18, nameIndex := 20, descriptorIndex := 21, attributes := #[] }, { accessFlags := 18, nameIndex := 24, descriptorIndex := 10, attributes := #[] }, { accessFlags := 18, nameIndex := 33, descriptorIndex := 10, attributes := #[] }, { accessFlags := 18, nameIndex := 13, descriptorIndex := 14, attributes := #[] }, { accessFlags := 18, nameIndex := 17, descriptorIndex := 10, attributes := #[] }, { accessFlags := 2, nameIndex := 47, descriptorIndex := 48, attributes := #[] }, { accessFlags := 2, nameIndex := 36, descriptorIndex := 37, attributes := #[] }])
  fields := #[{ name := "BUCKETS", type := .int, accessFlags := 26, slot := 0, constantValue := 0 }, { name := "FIRST_CAPACITY", type := .int, accessFlags := 26, slot := 1, constantValue := 0 }, { name := "NONE", type := .int, accessFlags := 26, slot := 2, constantValue := 0 }, { name := "keys", type := (.array .long), accessFlags := 18, slot := 0, constantValue := 0 }, { name := "bucketOf", type := (.array .int), accessFlags := 18, slot := 1, constantValue := 0 }, { name := "positions", type := (.array .int), accessFlags := 18, slot := 2, constantValue := 0 }, { name := "buckets", type := (.array (.array .int)), accessFlags := 18, slot := 3, constantValue := 0 }, { name := "sizes", type := (.array .int), accessFlags := 18, slot := 4, constantValue := 0 }, { name := "last", type := .long, accessFlags := 2, slot := 5, constantValue := 0 }, { name := "count", type := .int, accessFlags := 2, slot := 6, constantValue := 0 }]
  methods := #[k3m0, k3m1, k3m2, k3m3, k3m4, k3m5]
  instanceTypes := #[(.array .long), (.array .int), (.array .int), (.array (.array .int)), (.array .int), .long, .int]
  staticTypes := #[.int, .int, .int]
  resolved := Array.replicate 85 none
  statics := none }

def pool4 : Array CpInfo := pool [(2, .class_ 4), (1, u "java/lang/Object"), (0, u "<init>"), (0, u "()V"), (7, .class_ 16), (1, u "java/util/Arrays"), (57, .class_ 76), (1, u "java/util/Arrays$NaturalOrder"), (36, .class_ 115), (1, u "java/util/Arrays$LegacyMergeSort"), (1, u "Z"), (257, .class_ 376), (0, u "java/util/Arrays$ArrayList"), (68, u "$assertionsDisabled"), (269, u "MIN_ARRAY_SORT_GRAN"), (0, u "I"), (2, u "INSERTIONSORT_THRESHOLD"), (120, u "fill"), (4, u "([II)V"), (129, .class_ 976), (0, u "java/util/Arrays$ArrayItr")] 52

def k4m0 : Method := { name := "<init>", desc := "()V", sig := { parameters := [], returnType := none }, accessFlags := 2, code := none }
def k4c1 : Code := { maxStack := 3, maxLocals := 4, code := jdk_65_method_103_code, exceptionTable := #[], attributes := #[] }
def k4m1 : Method := { name := "fill", desc := "([II)V", sig := { parameters := [(.array .int), .int], returnType := none }, accessFlags := 9, code := some k4c1 }
/-- java/util/Arrays -/
def k4 : Class := { plain "java/util/Arrays" (some 0) with
  accessFlags := 49
  interfaces := #[]
  cf := some (fileOf pool4 14 #[.nestMembers #[975, 375, 113, 74]] #[{ accessFlags := 2, nameIndex := 5, descriptorIndex := 6, attributes := #[] }, { accessFlags := 9, nameIndex := 840, descriptorIndex := 845, attributes := #[] }] 49 2 #[] #[{ accessFlags := 26, nameIndex := 715, descriptorIndex := 716, attributes := #[] }, { accessFlags := 26, nameIndex := 719, descriptorIndex := 716, attributes := #[] }, { accessFlags := 4120, nameIndex := 445, descriptorIndex := 117, attributes := #[] }])
  fields := #[{ name := "MIN_ARRAY_SORT_GRAN", type := .int, accessFlags := 26, slot := 0, constantValue := 0 }, { name := "INSERTIONSORT_THRESHOLD", type := .int, accessFlags := 26, slot := 1, constantValue := 0 }, { name := "$assertionsDisabled", type := .boolean, accessFlags := 4120, slot := 2, constantValue := 0 }]
  methods := #[k4m0, k4m1]
  instanceTypes := #[]
  staticTypes := #[.int, .int, .boolean]
  resolved := Array.replicate 1029 none
  statics := none }

def pool5 : Array CpInfo := pool [(1, .class_ 2), (0, u "java/io/Serializable"), (0, .class_ 4), (0, u "java/lang/Object")] 2

/-- java/io/Serializable -/
def k5 : Class := { plain "java/io/Serializable" (some 0) with
  accessFlags := 1537
  interfaces := #[]
  cf := some (fileOf pool5 1 #[] #[] 1537 3 #[] #[])
  fields := #[]
  methods := #[]
  instanceTypes := #[]
  staticTypes := #[]
  resolved := Array.replicate 7 none
  statics := none }

def pool6 : Array CpInfo := pool [(2, .class_ 4), (1, u "java/lang/Object"), (0, u "<init>"), (0, u "()V"), (1, .class_ 10), (1, u "java/lang/Number"), (2, .class_ 14), (0, u "java/io/Serializable"), (0, u "serialVersionUID"), (0, u "J")] 20

def k6m0 : Method := { name := "<init>", desc := "()V", sig := { parameters := [], returnType := none }, accessFlags := 1, code := none }
/-- java/lang/Number -/
def k6 : Class := { plain "java/lang/Number" (some 0) with
  accessFlags := 1057
  interfaces := #[5]
  cf := some (fileOf pool6 8 #[] #[{ accessFlags := 1, nameIndex := 5, descriptorIndex := 6, attributes := #[] }] 1057 2 #[13] #[{ accessFlags := 26, nameIndex := 15, descriptorIndex := 16, attributes := #[] }])
  fields := #[{ name := "serialVersionUID", type := .long, accessFlags := 26, slot := 0, constantValue := 0 }]
  methods := #[k6m0]
  instanceTypes := #[]
  staticTypes := #[.long]
  resolved := Array.replicate 37 none
  statics := none }

def pool7 : Array CpInfo := pool [(1, .class_ 2), (0, u "java/lang/Comparable"), (0, .class_ 4), (0, u "java/lang/Object")] 7

/-- java/lang/Comparable -/
def k7 : Class := { plain "java/lang/Comparable" (some 0) with
  accessFlags := 1537
  interfaces := #[]
  cf := some (fileOf pool7 1 #[] #[] 1537 3 #[] #[])
  fields := #[]
  methods := #[]
  instanceTypes := #[]
  staticTypes := #[]
  resolved := Array.replicate 12 none
  statics := none }

def pool8 : Array CpInfo := pool [(1, .class_ 2), (0, u "java/lang/constant/Constable"), (0, .class_ 4), (0, u "java/lang/Object")] 6

/-- java/lang/constant/Constable -/
def k8 : Class := { plain "java/lang/constant/Constable" (some 0) with
  accessFlags := 1537
  interfaces := #[]
  cf := some (fileOf pool8 1 #[] #[] 1537 3 #[] #[])
  fields := #[]
  methods := #[]
  instanceTypes := #[]
  staticTypes := #[]
  resolved := Array.replicate 11 none
  statics := none }

def pool9 : Array CpInfo := pool [(1, .class_ 2), (0, u "java/lang/constant/ConstantDesc"), (0, .class_ 4), (0, u "java/lang/Object")] 32

/-- java/lang/constant/ConstantDesc -/
def k9 : Class := { plain "java/lang/constant/ConstantDesc" (some 0) with
  accessFlags := 1537
  interfaces := #[]
  cf := some (fileOf pool9 1 #[] #[] 1537 3 #[] #[])
  fields := #[]
  methods := #[]
  instanceTypes := #[]
  staticTypes := #[]
  resolved := Array.replicate 37 none
  statics := none }

def pool10 : Array CpInfo := pool [(1, .class_ 2), (0, u "java/lang/Long"), (15, .class_ 20), (1, u "java/lang/Integer"), (79, u "numberOfLeadingZeros"), (0, u "(J)I"), (133, .class_ 237), (1, u "java/lang/Long$LongCache"), (33, .class_ 272), (0, u "java/lang/Number"), (2, u "value"), (0, u "J"), (31, .methodref 18 309), (0, .nameAndType 100 310), (0, u "(I)I"), (50, u "TYPE"), (0, u "Ljava/lang/Class;"), (0, .class_ 364), (0, u "java/lang/Comparable"), (0, .class_ 366), (0, u "java/lang/constant/Constable"), (0, .class_ 368), (0, u "java/lang/constant/ConstantDesc"), (0, u "MIN_VALUE"), (1, u "MAX_VALUE"), (4, u "SIZE"), (0, u "I"), (1, u "BYTES"), (1, u "serialVersionUID")] 142

def k10c0 : Code := { maxStack := 3, maxLocals := 3, code := jdk_35_method_48_code, exceptionTable := #[], attributes := #[] }
def k10m0 : Method := { name := "numberOfLeadingZeros", desc := "(J)I", sig := { parameters := [.long], returnType := some .int }, accessFlags := 9, code := some k10c0 }
/-- java/lang/Long -/
def k10 : Class := { plain "java/lang/Long" (some 6) with
  accessFlags := 49
  interfaces := #[7, 8, 9]
  cf := some (fileOf pool10 1 #[.nestMembers #[235]] #[{ accessFlags := 9, nameIndex := 100, descriptorIndex := 101, attributes := #[] }] 49 271 #[363, 365, 367] #[{ accessFlags := 25, nameIndex := 369, descriptorIndex := 276, attributes := #[] }, { accessFlags := 25, nameIndex := 371, descriptorIndex := 276, attributes := #[] }, { accessFlags := 25, nameIndex := 361, descriptorIndex := 362, attributes := #[] }, { accessFlags := 18, nameIndex := 275, descriptorIndex := 276, attributes := #[] }, { accessFlags := 25, nameIndex := 376, descriptorIndex := 377, attributes := #[] }, { accessFlags := 25, nameIndex := 379, descriptorIndex := 377, attributes := #[] }, { accessFlags := 26, nameIndex := 381, descriptorIndex := 276, attributes := #[] }])
  fields := #[{ name := "MIN_VALUE", type := .long, accessFlags := 25, slot := 0, constantValue := 0 }, { name := "MAX_VALUE", type := .long, accessFlags := 25, slot := 1, constantValue := 0 }, { name := "TYPE", type := (.object "java/lang/Class"), accessFlags := 25, slot := 2, constantValue := 0 }, { name := "value", type := .long, accessFlags := 18, slot := 0, constantValue := 0 }, { name := "SIZE", type := .int, accessFlags := 25, slot := 3, constantValue := 0 }, { name := "BYTES", type := .int, accessFlags := 25, slot := 4, constantValue := 0 }, { name := "serialVersionUID", type := .long, accessFlags := 26, slot := 5, constantValue := 0 }]
  methods := #[k10m0]
  instanceTypes := #[.long]
  staticTypes := #[.long, .long, (.object "java/lang/Class"), .int, .int, .long]
  resolved := Array.replicate 524 none
  statics := none }

def pool11 : Array CpInfo := pool [(1, .class_ 2), (0, u "java/lang/Integer"), (16, u "digits"), (0, u "[C"), (32, u "numberOfLeadingZeros"), (0, u "(I)I"), (30, u "DigitOnes"), (0, u "[B"), (2, u "DigitTens"), (99, .class_ 190), (0, u "java/lang/Integer$IntegerCache"), (3, u "I"), (8, .class_ 204), (0, u "java/lang/Number"), (2, u "value"), (56, .integer 65536), (37, u "TYPE"), (0, u "Ljava/lang/Class;"), (0, .class_ 305), (0, u "java/lang/Comparable"), (0, .class_ 307), (0, u "java/lang/constant/Constable"), (0, .class_ 309), (0, u "java/lang/constant/ConstantDesc"), (0, u "MIN_VALUE"), (1, u "MAX_VALUE"), (3, u "SIZE"), (1, u "BYTES"), (1, u "serialVersionUID"), (0, u "J")] 131

def k11c0 : Code := { maxStack := 3, maxLocals := 2, code := jdk_33_method_47_code, exceptionTable := #[], attributes := #[] }
def k11m0 : Method := { name := "numberOfLeadingZeros", desc := "(I)I", sig := { parameters := [.int], returnType := some .int }, accessFlags := 9, code := some k11c0 }
/-- java/lang/Integer -/
def k11 : Class := { plain "java/lang/Integer" (some 6) with
  accessFlags := 49
  interfaces := #[7, 8, 9]
  cf := some (fileOf pool11 1 #[.nestMembers #[189]] #[{ accessFlags := 9, nameIndex := 53, descriptorIndex := 54, attributes := #[] }] 49 203 #[304, 306, 308] #[{ accessFlags := 25, nameIndex := 310, descriptorIndex := 194, attributes := #[] }, { accessFlags := 25, nameIndex := 312, descriptorIndex := 194, attributes := #[] }, { accessFlags := 25, nameIndex := 302, descriptorIndex := 303, attributes := #[] }, { accessFlags := 24, nameIndex := 19, descriptorIndex := 20, attributes := #[] }, { accessFlags := 24, nameIndex := 89, descriptorIndex := 86, attributes := #[] }, { accessFlags := 24, nameIndex := 85, descriptorIndex := 86, attributes := #[] }, { accessFlags := 18, nameIndex := 207, descriptorIndex := 194, attributes := #[] }, { accessFlags := 25, nameIndex := 316, descriptorIndex := 194, attributes := #[] }, { accessFlags := 25, nameIndex := 318, descriptorIndex := 194, attributes := #[] }, { accessFlags := 26, nameIndex := 320, descriptorIndex := 321, attributes := #[] }])
  fields := #[{ name := "MIN_VALUE", type := .int, accessFlags := 25, slot := 0, constantValue := 0 }, { name := "MAX_VALUE", type := .int, accessFlags := 25, slot := 1, constantValue := 0 }, { name := "TYPE", type := (.object "java/lang/Class"), accessFlags := 25, slot := 2, constantValue := 0 }, { name := "digits", type := (.array .char), accessFlags := 24, slot := 3, constantValue := 0 }, { name := "DigitTens", type := (.array .byte), accessFlags := 24, slot := 4, constantValue := 0 }, { name := "DigitOnes", type := (.array .byte), accessFlags := 24, slot := 5, constantValue := 0 }, { name := "value", type := .int, accessFlags := 18, slot := 0, constantValue := 0 }, { name := "SIZE", type := .int, accessFlags := 25, slot := 6, constantValue := 0 }, { name := "BYTES", type := .int, accessFlags := 25, slot := 7, constantValue := 0 }, { name := "serialVersionUID", type := .long, accessFlags := 26, slot := 8, constantValue := 0 }]
  methods := #[k11m0]
  instanceTypes := #[.int]
  staticTypes := #[.int, .int, (.object "java/lang/Class"), (.array .char), (.array .byte), (.array .byte), .int, .int, .long]
  resolved := Array.replicate 453 none
  statics := none }

def pool12 : Array CpInfo := pool [(1, .class_ 2), (0, u "java/lang/Math"), (1, .class_ 6), (1, u "java/lang/Object"), (0, u "<init>"), (0, u "()V"), (89, .class_ 100), (1, u "java/lang/Math$RandomNumberGeneratorHolder"), (20, u "(JJ)J"), (50, u "negativeZeroFloatBits"), (0, u "J"), (2, u "negativeZeroDoubleBits"), (24, u "min"), (43, u "$assertionsDisabled"), (0, u "Z"), (91, u "twoToTheDoubleScaleDown"), (0, u "D"), (4, u "twoToTheDoubleScaleUp"), (9, u "E"), (3, u "PI"), (2, u "TAU"), (2, u "DEGREES_TO_RADIANS"), (0, u "RADIANS_TO_DEGREES")] 94

def k12m0 : Method := { name := "<init>", desc := "()V", sig := { parameters := [], returnType := none }, accessFlags := 2, code := none }
def k12c1 : Code := { maxStack := 4, maxLocals := 4, code := jdk_29_method_70_code, exceptionTable := #[], attributes := #[] }
def k12m1 : Method := { name := "min", desc := "(JJ)J", sig := { parameters := [.long, .long], returnType := some .long }, accessFlags := 9, code := some k12c1 }
/-- java/lang/Math -/
def k12 : Class := { plain "java/lang/Math" (some 0) with
  accessFlags := 49
  interfaces := #[]
  cf := some (fileOf pool12 1 #[.nestMembers #[98]] #[{ accessFlags := 2, nameIndex := 7, descriptorIndex := 8, attributes := #[] }, { accessFlags := 9, nameIndex := 201, descriptorIndex := 121, attributes := #[] }] 49 4 #[] #[{ accessFlags := 25, nameIndex := 354, descriptorIndex := 339, attributes := #[] }, { accessFlags := 25, nameIndex := 358, descriptorIndex := 339, attributes := #[] }, { accessFlags := 25, nameIndex := 361, descriptorIndex := 339, attributes := #[] }, { accessFlags := 26, nameIndex := 364, descriptorIndex := 339, attributes := #[] }, { accessFlags := 26, nameIndex := 365, descriptorIndex := 339, attributes := #[] }, { accessFlags := 26, nameIndex := 172, descriptorIndex := 173, attributes := #[] }, { accessFlags := 26, nameIndex := 176, descriptorIndex := 173, attributes := #[] }, { accessFlags := 8, nameIndex := 344, descriptorIndex := 339, attributes := #[] }, { accessFlags := 8, nameIndex := 338, descriptorIndex := 339, attributes := #[] }, { accessFlags := 4120, nameIndex := 245, descriptorIndex := 246, attributes := #[] }])
  fields := #[{ name := "E", type := .double, accessFlags := 25, slot := 0, constantValue := 0 }, { name := "PI", type := .double, accessFlags := 25, slot := 1, constantValue := 0 }, { name := "TAU", type := .double, accessFlags := 25, slot := 2, constantValue := 0 }, { name := "DEGREES_TO_RADIANS", type := .double, accessFlags := 26, slot := 3, constantValue := 0 }, { name := "RADIANS_TO_DEGREES", type := .double, accessFlags := 26, slot := 4, constantValue := 0 }, { name := "negativeZeroFloatBits", type := .long, accessFlags := 26, slot := 5, constantValue := 0 }, { name := "negativeZeroDoubleBits", type := .long, accessFlags := 26, slot := 6, constantValue := 0 }, { name := "twoToTheDoubleScaleUp", type := .double, accessFlags := 8, slot := 7, constantValue := 0 }, { name := "twoToTheDoubleScaleDown", type := .double, accessFlags := 8, slot := 8, constantValue := 0 }, { name := "$assertionsDisabled", type := .boolean, accessFlags := 4120, slot := 9, constantValue := 0 }]
  methods := #[k12m0, k12m1]
  instanceTypes := #[]
  staticTypes := #[.double, .double, .double, .double, .double, .long, .long, .double, .double, .boolean]
  resolved := Array.replicate 460 none
  statics := none }

def pool13 : Array CpInfo := pool [(1, u "java/lang/Cloneable"), (0, .class_ 1), (0, u "java/lang/Object"), (0, .class_ 3)] 3

/-- java/lang/Cloneable -/
def k13 : Class := { plain "java/lang/Cloneable" (some 0) with
  accessFlags := 1537
  interfaces := #[]
  cf := some (fileOf pool13 2 #[] #[] 1537 4 #[] #[])
  fields := #[]
  methods := #[]
  instanceTypes := #[]
  staticTypes := #[]
  resolved := Array.replicate 8 none
  statics := none }

/-- the primitive boolean -/
def k14 : Class := { plain "boolean" none with kind := .primitive 'Z', accessFlags := 0x411 }
/-- [Z -/
def k15 : Class := { plain "[Z" (some 0) with kind := .array 14 .boolean, interfaces := #[13, 5], accessFlags := 1041 }

/-- the primitive byte -/
def k16 : Class := { plain "byte" none with kind := .primitive 'B', accessFlags := 0x411 }
/-- [B -/
def k17 : Class := { plain "[B" (some 0) with kind := .array 16 .byte, interfaces := #[13, 5], accessFlags := 1041 }

/-- the primitive int -/
def k18 : Class := { plain "int" none with kind := .primitive 'I', accessFlags := 0x411 }
/-- [I -/
def k19 : Class := { plain "[I" (some 0) with kind := .array 18 .int, interfaces := #[13, 5], accessFlags := 1041 }

/-- the primitive long -/
def k20 : Class := { plain "long" none with kind := .primitive 'J', accessFlags := 0x411 }
/-- [J -/
def k21 : Class := { plain "[J" (some 0) with kind := .array 20 .long, interfaces := #[13, 5], accessFlags := 1041 }

/-- [[I -/
def k22 : Class := { plain "[[I" (some 0) with kind := .array 19 (.array .int), interfaces := #[13, 5], accessFlags := 1041 }

def heap : Heap := #[]
def classes : Array Class := #[k0, k1, k2, k3, k4, k5, k6, k7, k8, k9, k10, k11, k12, k13, k14, k15, k16, k17, k18, k19, k20, k21, k22]
def interned : List (Array UInt16 × Addr) := []
def slotsUsed : Nat := 0
def theMethod : MethodId := ⟨1, 1⟩
def args0 : Array Value := #[.long 5, .long 9, .long 3, .int 17]
def aboutOver (below : List Frame) : State where
  vm := { classes := classes, interned := interned.toArray }
  heap := heap
  slotsUsed := slotsUsed
  threads := #[{ frames := .invoking theMethod args0 :: below }]
def below0 : List Frame := [.native { method := ⟨0, 0⟩, args := #[] }]
def about1 : State := aboutOver below0
def p0 : Program := .bare "" "" ""
def e0 : Env := launch0.env 0 0 0
theorem w_frames : about1.frames = Frame.invoking theMethod args0 :: below0 := rfl
set_option maxRecDepth 65536 in
theorem w_args : argsFit about1.vm theMethod args0 = true := by decide +kernel
set_option maxRecDepth 65536 in
theorem w_heap : heapFits about1 = true := by decide +kernel
set_option maxRecDepth 65536 in
theorem w_runnable : about1.curStatus? = some .runnable := by decide +kernel
set_option maxRecDepth 65536 in
theorem w_alone : about1.alone = true := by decide +kernel
set_option maxRecDepth 65536 in
theorem w_named : about1.methodNamed? x = some theMethod := by decide +kernel
set_option maxRecDepth 65536 in
theorem w_hears : about1.hears theMethod below0 = true := by decide +kernel
set_option maxRecDepth 65536 in
theorem w_ripe : about1.ripe theMethod args0 below0 = true := by decide +kernel
theorem w_running : about1.status = .running := rfl
set_option maxRecDepth 65536 in
theorem w_room : about1.hasRoom e0.platform room_1 = true :=
  launch0.hasRoom_least _ room_1 (by decide +kernel) (by decide +kernel) (by decide +kernel) (by decide +kernel) (by decide +kernel) (by decide +kernel)
theorem allAtoms_all (ts : List Jvm.Cond) (a : Array Jvm.Value) (st : Jvm.State) : (allAtoms ts).before a st = ts.all (fun c => c.before a st) := by
  induction ts with
  | nil => rfl
  | cons c t ih =>
    show (Jvm.Cond.and c (allAtoms t)).before a st = _
    rw [Jvm.Cond.before_and, ih, List.all_cons]
def words1 : List Jvm.Cond := Jvm.Cond.code x code maxLocals ret :: tables_1
/-- a 'code' word, met by the world's own term for the bytes: nothing is compared byte by byte -/
theorem code_word {y : MethodName} {bytes : ByteArray} {mx : Nat} {rt : Option FieldType} {a : Array Value} {s : State} {m : MethodId} {meth : Method} {c : Code} (h1 : s.methodNamed? y = some m) (h2 : s.vm.method? m = some meth) (h3 : meth.code = some c) (h4 : c.code = bytes)
    (h5 : (c.maxLocals == mx && c.exceptionTable.isEmpty && decide (c.maxStack ≤ mostOperands) && decide (meth.sig.returnType = rt) && !meth.locks && decide (parseMethodDescriptor y.desc = some meth.sig)) = true) : (Jvm.Cond.code y bytes mx rt).before a s = true := by
  simp only [Bool.and_eq_true, beq_iff_eq, Bool.not_eq_true', decide_eq_true_eq] at h5
  obtain ⟨⟨⟨⟨⟨g1, g2⟩, g3⟩, g4⟩, g5⟩, g6⟩ := h5
  simp [Cond.before, Cond.holds, Cond.value, h1, h2, h3, h4, g1, g2, g3, g4, g5, g6]
def isCode : Jvm.Cond → Bool
  | .code _ _ _ _ => true
  | _ => false
theorem all_split {L : List Jvm.Cond} {P : Jvm.Cond → Bool} (h1 : L.all (fun c => isCode c || P c) = true) (h2 : ∀ c ∈ L.filter isCode, P c = true) : L.all P = true := by
  refine List.all_eq_true.mpr fun c hc => ?_
  have h := List.all_eq_true.mp h1 c hc
  rcases Bool.eq_false_or_eq_true (isCode c) with hi | hi
  · exact h2 c (List.mem_filter.mpr ⟨hc, hi⟩)
  · simpa [hi] using h
set_option maxRecDepth 65536 in
theorem w_c0 : (Jvm.Cond.code x code maxLocals ret).before args0 about1 = true := code_word (m := ⟨1, 1⟩) (meth := k1m1) (c := k1c1) (by decide +kernel) rfl rfl rfl (by decide +kernel)
set_option maxRecDepth 65536 in
theorem w_c1 : (Jvm.Cond.code ({ cls := "com/example/slackweave/slackweave/paths/RadixHeap", name := "<init>", desc := "([J)V" } : Jvm.MethodName) prog_77_method_1_code (2 : Nat) (Option.none : Option Jvm.ClassFile.FieldType)).before args0 about1 = true := code_word (m := ⟨3, 0⟩) (meth := k3m0) (c := k3c0) (by decide +kernel) rfl rfl rfl (by decide +kernel)
set_option maxRecDepth 65536 in
theorem w_c2 : (Jvm.Cond.code ({ cls := "java/lang/Object", name := "<init>", desc := "()V" } : Jvm.MethodName) object_method_1_code (1 : Nat) (Option.none : Option Jvm.ClassFile.FieldType)).before args0 about1 = true := code_word (m := ⟨0, 0⟩) (meth := k0m0) (c := k0c0) (by decide +kernel) rfl rfl rfl (by decide +kernel)
set_option maxRecDepth 65536 in
theorem w_c3 : (Jvm.Cond.code ({ cls := "java/util/Arrays", name := "fill", desc := "([II)V" } : Jvm.MethodName) jdk_65_method_103_code (4 : Nat) (Option.none : Option Jvm.ClassFile.FieldType)).before args0 about1 = true := code_word (m := ⟨4, 1⟩) (meth := k4m1) (c := k4c1) (by decide +kernel) rfl rfl rfl (by decide +kernel)
set_option maxRecDepth 65536 in
theorem w_c4 : (Jvm.Cond.code ({ cls := "com/example/slackweave/slackweave/paths/RadixHeap", name := "isEmpty", desc := "()Z" } : Jvm.MethodName) prog_77_method_2_code (1 : Nat) (Option.some Jvm.ClassFile.FieldType.boolean)).before args0 about1 = true := code_word (m := ⟨3, 1⟩) (meth := k3m1) (c := k3c1) (by decide +kernel) rfl rfl rfl (by decide +kernel)
set_option maxRecDepth 65536 in
theorem w_c5 : (Jvm.Cond.code ({ cls := "com/example/slackweave/slackweave/paths/RadixHeapIsEmptyPinLaw", name := "step", desc := "(Lcom/example/slackweave/slackweave/paths/RadixHeap;[ZI)Z" } : Jvm.MethodName) method_3_code (5 : Nat) (Option.some Jvm.ClassFile.FieldType.boolean)).before args0 about1 = true := code_word (m := ⟨1, 2⟩) (meth := k1m2) (c := k1c2) (by decide +kernel) rfl rfl rfl (by decide +kernel)
set_option maxRecDepth 65536 in
theorem w_c6 : (Jvm.Cond.code ({ cls := "com/example/slackweave/slackweave/paths/RadixHeap", name := "push", desc := "(I)V" } : Jvm.MethodName) prog_77_method_3_code (4 : Nat) (Option.none : Option Jvm.ClassFile.FieldType)).before args0 about1 = true := code_word (m := ⟨3, 2⟩) (meth := k3m2) (c := k3c2) (by decide +kernel) rfl rfl rfl (by decide +kernel)
set_option maxRecDepth 65536 in
theorem w_c7 : (Jvm.Cond.code ({ cls := "com/example/slackweave/slackweave/paths/RadixHeap", name := "file", desc := "(I)V" } : Jvm.MethodName) prog_77_method_6_code (6 : Nat) (Option.none : Option Jvm.ClassFile.FieldType)).before args0 about1 = true := code_word (m := ⟨3, 5⟩) (meth := k3m5) (c := k3c5) (by decide +kernel) rfl rfl rfl (by decide +kernel)
set_option maxRecDepth 65536 in
theorem w_c8 : (Jvm.Cond.code ({ cls := "java/lang/Long", name := "numberOfLeadingZeros", desc := "(J)I" } : Jvm.MethodName) jdk_35_method_48_code (3 : Nat) (Option.some Jvm.ClassFile.FieldType.int)).before args0 about1 = true := code_word (m := ⟨10, 0⟩) (meth := k10m0) (c := k10c0) (by decide +kernel) rfl rfl rfl (by decide +kernel)
set_option maxRecDepth 65536 in
theorem w_c9 : (Jvm.Cond.code ({ cls := "java/lang/Integer", name := "numberOfLeadingZeros", desc := "(I)I" } : Jvm.MethodName) jdk_33_method_47_code (2 : Nat) (Option.some Jvm.ClassFile.FieldType.int)).before args0 about1 = true := code_word (m := ⟨11, 0⟩) (meth := k11m0) (c := k11c0) (by decide +kernel) rfl rfl rfl (by decide +kernel)
set_option maxRecDepth 65536 in
theorem w_c10 : (Jvm.Cond.code ({ cls := "com/example/slackweave/slackweave/paths/RadixHeap", name := "pop", desc := "()I" } : Jvm.MethodName) prog_77_method_4_code (2 : Nat) (Option.some Jvm.ClassFile.FieldType.int)).before args0 about1 = true := code_word (m := ⟨3, 3⟩) (meth := k3m3) (c := k3c3) (by decide +kernel) rfl rfl rfl (by decide +kernel)
set_option maxRecDepth 65536 in
theorem w_c11 : (Jvm.Cond.code ({ cls := "com/example/slackweave/slackweave/paths/RadixHeap", name := "refileLowestBucket", desc := "()V" } : Jvm.MethodName) prog_77_method_5_code (7 : Nat) (Option.none : Option Jvm.ClassFile.FieldType)).before args0 about1 = true := code_word (m := ⟨3, 4⟩) (meth := k3m4) (c := k3c4) (by decide +kernel) rfl rfl rfl (by decide +kernel)
set_option maxRecDepth 65536 in
theorem w_c12 : (Jvm.Cond.code ({ cls := "java/lang/Math", name := "min", desc := "(JJ)J" } : Jvm.MethodName) jdk_29_method_70_code (4 : Nat) (Option.some Jvm.ClassFile.FieldType.long)).before args0 about1 = true := code_word (m := ⟨12, 1⟩) (meth := k12m1) (c := k12c1) (by decide +kernel) rfl rfl rfl (by decide +kernel)
def codes1 : List Jvm.Cond := [Jvm.Cond.code x code maxLocals ret, Jvm.Cond.code ({ cls := "com/example/slackweave/slackweave/paths/RadixHeap", name := "<init>", desc := "([J)V" } : Jvm.MethodName) prog_77_method_1_code (2 : Nat) (Option.none : Option Jvm.ClassFile.FieldType), Jvm.Cond.code ({ cls := "java/lang/Object", name := "<init>", desc := "()V" } : Jvm.MethodName) object_method_1_code (1 : Nat) (Option.none : Option Jvm.ClassFile.FieldType), Jvm.Cond.code ({ cls := "java/util/Arrays", name := "fill", desc := "([II)V" } : Jvm.MethodName) jdk_65_method_103_code (4 : Nat) (Option.none : Option Jvm.ClassFile.FieldType), Jvm.Cond.code ({ cls := "com/example/slackweave/slackweave/paths/RadixHeap", name := "isEmpty", desc := "()Z" } : Jvm.MethodName) prog_77_method_2_code (1 : Nat) (Option.some Jvm.ClassFile.FieldType.boolean), Jvm.Cond.code ({ cls := "com/example/slackweave/slackweave/paths/RadixHeapIsEmptyPinLaw", name := "step", desc := "(Lcom/example/slackweave/slackweave/paths/RadixHeap;[ZI)Z" } : Jvm.MethodName) method_3_code (5 : Nat) (Option.some Jvm.ClassFile.FieldType.boolean), Jvm.Cond.code ({ cls := "com/example/slackweave/slackweave/paths/RadixHeap", name := "push", desc := "(I)V" } : Jvm.MethodName) prog_77_method_3_code (4 : Nat) (Option.none : Option Jvm.ClassFile.FieldType), Jvm.Cond.code ({ cls := "com/example/slackweave/slackweave/paths/RadixHeap", name := "file", desc := "(I)V" } : Jvm.MethodName) prog_77_method_6_code (6 : Nat) (Option.none : Option Jvm.ClassFile.FieldType), Jvm.Cond.code ({ cls := "java/lang/Long", name := "numberOfLeadingZeros", desc := "(J)I" } : Jvm.MethodName) jdk_35_method_48_code (3 : Nat) (Option.some Jvm.ClassFile.FieldType.int), Jvm.Cond.code ({ cls := "java/lang/Integer", name := "numberOfLeadingZeros", desc := "(I)I" } : Jvm.MethodName) jdk_33_method_47_code (2 : Nat) (Option.some Jvm.ClassFile.FieldType.int), Jvm.Cond.code ({ cls := "com/example/slackweave/slackweave/paths/RadixHeap", name := "pop", desc := "()I" } : Jvm.MethodName) prog_77_method_4_code (2 : Nat) (Option.some Jvm.ClassFile.FieldType.int), Jvm.Cond.code ({ cls := "com/example/slackweave/slackweave/paths/RadixHeap", name := "refileLowestBucket", desc := "()V" } : Jvm.MethodName) prog_77_method_5_code (7 : Nat) (Option.none : Option Jvm.ClassFile.FieldType), Jvm.Cond.code ({ cls := "java/lang/Math", name := "min", desc := "(JJ)J" } : Jvm.MethodName) jdk_29_method_70_code (4 : Nat) (Option.some Jvm.ClassFile.FieldType.long)]
set_option maxRecDepth 65536 in
theorem codes_eq : words1.filter isCode = codes1 := rfl
theorem w_codes : ∀ c ∈ words1.filter isCode, c.before args0 about1 = true := by
  rw [codes_eq]
  intro c hc
  simp only [codes1, List.mem_cons, List.not_mem_nil, or_false] at hc
  rcases hc with rfl | rfl | rfl | rfl | rfl | rfl | rfl | rfl | rfl | rfl | rfl | rfl | rfl
  · exact w_c0
  · exact w_c1
  · exact w_c2
  · exact w_c3
  · exact w_c4
  · exact w_c5
  · exact w_c6
  · exact w_c7
  · exact w_c8
  · exact w_c9
  · exact w_c10
  · exact w_c11
  · exact w_c12
set_option maxRecDepth 65536 in
theorem w_t1 : (words1.take 24).all (fun c => isCode c || c.before args0 about1) = true := by decide +kernel
set_option maxRecDepth 65536 in
theorem w_t2 : ((words1.drop 24).take 24).all (fun c => isCode c || c.before args0 about1) = true := by decide +kernel
set_option maxRecDepth 65536 in
theorem w_t3 : (((words1.drop 24).drop 24).take 24).all (fun c => isCode c || c.before args0 about1) = true := by decide +kernel
set_option maxRecDepth 65536 in
theorem w_t4 : (((words1.drop 24).drop 24).drop 24).all (fun c => isCode c || c.before args0 about1) = true := by decide +kernel
theorem w_tables : (allAtoms (Jvm.Cond.code x code maxLocals ret :: tables_1)).before args0 about1 = true := by
  rw [allAtoms_all]
  show words1.all (fun c => c.before args0 about1) = true
  refine all_split ?_ w_codes
  rw [← List.take_append_drop 24 words1, List.all_append, w_t1, ← List.take_append_drop 24 (words1.drop 24), List.all_append, w_t2, ← List.take_append_drop 24 ((words1.drop 24).drop 24), List.all_append, w_t3, w_t4]
  rfl
set_option maxRecDepth 65536 in
theorem w_case : (Jvm.Cond.and given_1 narrow_1).before args0 about1 = true := by decide +kernel
theorem w_applies : (headSpec (Jvm.Cond.code x code maxLocals ret :: tables_1) room_1).applies x e0.platform about1 = true :=
  (Spec.applies_iff w_frames).mpr ⟨w_running, w_runnable, w_alone, w_named, w_hears, w_ripe, w_room, w_tables⟩
theorem atStart : AtStart classFile x code maxLocals ret World_1 tables_1 room_1 Calls_1 rest_1 Pre_1 launch0 p0 e0 about1 theMethod args0 below0 :=
  ⟨lists_1, trivial, launch0.admits_env _ _ _, launch0.least_env, fairChoices_fair.cas, fairChoices_fair.clock, w_frames, w_args, w_heap, w_applies, trivial, trivial, w_case⟩
end start1
theorem witness_1 : WitnessClaimed_1 := ⟨start1.p0, start1.e0, start1.about1, start1.theMethod, start1.args0, start1.below0, start1.atStart⟩
end Jvm.Pilot.@@N@@
