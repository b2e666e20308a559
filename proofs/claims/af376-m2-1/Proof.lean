import JvmDerived
import JvmDerived.Pilot.@@N@@Statement
import JvmDerived.Pilot.@@N@@Code
set_option linter.unusedVariables false
set_option linter.unusedSimpArgs false
namespace Jvm.Pilot.@@N@@
open Jvm Jvm.ClassFile Sem Op Lib Jvm.Free Jvm.Stand Jvm.LawKit Jvm.RoadKit Bundle Jvm.Pilot.@@N@@.Jvm.D
/-! OWN PRELUDE (the same text in every proof of this seat): the walk as a goal that goes forward -/
section OwnPrelude
variable {Z : State} {hs : Heap} {W : List Addr} {own : String} {bytes : ByteArray} {maxL : Nat} {ret : Option FieldType} {nm : String}
  {p : Program} {l : Launch} {e : Env} {R : Room} {s : State} {m : MethodId} {args : Array Value} {below : List Frame} {meth : Method} {c : Code}
  {T : State} {h : Heap} {cells slots : Nat} {k n : Nat} {Q : Option Value → Heap → Prop} {a0 : Array Value} {pc : Nat} {Ls : Array Slot} {st rest : List Value}

/-- what stays the same while one body is walked -/
def own_G (Z : State) (hs : Heap) (W : List Addr) (own : String) (bytes : ByteArray) (maxL : Nat) (ret : Option FieldType) (nm : String) (p : Program) (s : State) (m : MethodId) (meth : Method) (c : Code) : Prop :=
  p.tables.exec = Jvm.exec ∧ Z.Warmed39 s.vm ∧ s.vm.findClass own = some m.cls ∧ c.code = bytes ∧ c.maxLocals = maxL ∧ meth.sig.returnType = ret ∧ meth.locks = false ∧ meth.name = nm ∧ Ext Z.heap hs ∧ ∀ a ∈ W, Z.heap.size ≤ a
/-- where the walk stands: state T, heap h, so many cells and slots made; nothing old but W was written -/
def own_S (Z : State) (hs : Heap) (W : List Addr) (own : String) (bytes : ByteArray) (maxL : Nat) (ret : Option FieldType) (nm : String) (p : Program) (l : Launch) (e : Env) (R : Room) (s : State) (m : MethodId) (args : Array Value) (below : List Frame) (meth : Method) (c : Code)
    (T : State) (h : Heap) (cells slots : Nat) : Prop :=
  own_G Z hs W own bytes maxL ret nm p s m meth c ∧ ∃ locs, Stand p l e R s m args below meth c T locs cells slots ∧ Fr Z.heap.size locs ∧ T.heap = h ∧ Keep hs h W
/-- from A the call comes to its end, and there Q holds -/
def own_F (p : Program) (e : Env) (below : List Frame) (s : State) (Z : State) (hs : Heap) (W : List Addr) (k n : Nat) (Q : Option Value → Heap → Prop) (A : State) : Prop :=
  ∃ s₂ o, Steps p.tables e below A s₂ ∧ s₂.status = .running ∧ Ended s₂ below o ∧ ∃ v L, o = .returned v ∧ (Fr Z.heap.size L ∧ Keep hs s₂.heap W ∧ Q v s₂.heap) ∧ FrameEnd s o s₂ L k n
/-- a body's contract -/
def own_C (l : Launch) (Z : State) (y : MethodName) (bytes : ByteArray) (maxL : Nat) (ret : Option FieldType) (ws : List Jvm.Cond) (rm : Room) (W : List Addr) (as' : Array Value) (h0 : Heap) (Q : Option Value → Heap → Prop) : Prop :=
  MetFree l y (head1 (Jvm.Cond.code y bytes maxL ret :: ws) rm) (fun a U => a = as' ∧ Z.Warmed39 U.vm ∧ U.heap = h0) (fun _ _ _ _ _ => True)
    (fun _ U o U' => ∃ v L, o = .returned v ∧ (Fr Z.heap.size L ∧ Keep h0 U'.heap W ∧ Q v U'.heap) ∧ FrameEnd U o U' L rm.cells rm.slots)

theorem own_C.of {y : MethodName} {ws : List Jvm.Cond} {rm : Room} {as' : Array Value} {h0 : Heap} (hpl : plainFor y = true) (hO : Ext Z.heap h0) (hW : ∀ a ∈ W, Z.heap.size ≤ a)
    (body : ∀ p e s m below meth c T, own_S Z h0 W y.cls bytes maxL ret y.name p l e rm s m as' below meth c T h0 0 0 → own_F p e below s Z h0 W rm.cells rm.slots Q (T.setTop (entryFrame m as' maxL))) :
    own_C l Z y bytes maxL ret ws rm W as' h0 Q := by
  refine MetFree.of_bodySF hpl hisR ?_
  intro p e s m args below meth c s₁ Bd hml hP hK
  obtain ⟨rfl, hZ, hh⟩ := hP
  exact body p e s m below meth c s₁ ⟨⟨Bd.exec, hZ, findClass_of_methodNamed Bd.named, Bd.bytes, hml, Bd.returns, Bd.notSynchronized, (name_of_methodNamed Bd.named Bd.method).1, hO, hW⟩, [], Stand.of_body Bd, Fr.nil _, (by rw [← hh, Bd.state]; rfl), Keep.refl _ _⟩

theorem own_F.of {A B : State} (h : ∀ t, Steps p.tables e below B t → Steps p.tables e below A t) (f : own_F p e below s Z hs W k n Q B) : own_F p e below s Z hs W k n Q A := by
  obtain ⟨s₂, o, h1, r⟩ := f
  exact ⟨s₂, o, h _ h1, r⟩
theorem own_F.to {A B : State} (h : Steps p.tables e below A B) (f : own_F p e below s Z hs W k n Q B) : own_F p e below s Z hs W k n Q A := own_F.of (fun _ => h.trans) f
theorem own_F.cast {g g' : JFrame} (q : g = g') (f : own_F p e below s Z hs W k n Q (T.setTop g')) : own_F p e below s Z hs W k n Q (T.setTop g) := q ▸ f
theorem own_F.mono {A : State} {Q' : Option Value → Heap → Prop} (f : own_F p e below s Z hs W k n Q A) (q : ∀ v h, Q v h → Q' v h) : own_F p e below s Z hs W k n Q' A := by
  obtain ⟨s₂, o, h1, h2, h3, v, L, h4, ⟨h5, h6, h7⟩, h8⟩ := f
  exact ⟨s₂, o, h1, h2, h3, v, L, h4, ⟨h5, h6, q _ _ h7⟩, h8⟩
theorem own_C.mono {y : MethodName} {ws : List Jvm.Cond} {rm : Room} {as' : Array Value} {h0 : Heap} {Q' : Option Value → Heap → Prop} (f : own_C l Z y bytes maxL ret ws rm W as' h0 Q) (q : ∀ v h, Q v h → Q' v h) : own_C l Z y bytes maxL ret ws rm W as' h0 Q' := by
  intro p e ha hc hk s m args below hf happ hP hK
  obtain ⟨n, o, h1, h2, h3, v, L, h4, ⟨h5, h6, h7⟩, h8⟩ := f p e ha hc hk s m args below hf happ hP hK
  exact ⟨n, o, h1, h2, h3, v, L, h4, ⟨h5, h6, q _ _ h7⟩, h8⟩

theorem own_S.hx (S : own_S Z hs W own bytes maxL ret nm p l e R s m args below meth c T h cells slots) : p.tables.exec = Jvm.exec := S.1.1
theorem own_S.hZ (S : own_S Z hs W own bytes maxL ret nm p l e R s m args below meth c T h cells slots) : Z.Warmed39 s.vm := S.1.2.1
theorem own_S.hown (S : own_S Z hs W own bytes maxL ret nm p l e R s m args below meth c T h cells slots) : s.vm.findClass own = some m.cls := S.1.2.2.1
theorem own_S.hby (S : own_S Z hs W own bytes maxL ret nm p l e R s m args below meth c T h cells slots) : c.code = bytes := S.1.2.2.2.1
theorem own_S.hml (S : own_S Z hs W own bytes maxL ret nm p l e R s m args below meth c T h cells slots) : c.maxLocals = maxL := S.1.2.2.2.2.1
theorem own_S.hret (S : own_S Z hs W own bytes maxL ret nm p l e R s m args below meth c T h cells slots) : meth.sig.returnType = ret := S.1.2.2.2.2.2.1
theorem own_S.hlk (S : own_S Z hs W own bytes maxL ret nm p l e R s m args below meth c T h cells slots) : meth.locks = false := S.1.2.2.2.2.2.2.1
theorem own_S.hnm (S : own_S Z hs W own bytes maxL ret nm p l e R s m args below meth c T h cells slots) : meth.name = nm := S.1.2.2.2.2.2.2.2.1
theorem own_S.hO (S : own_S Z hs W own bytes maxL ret nm p l e R s m args below meth c T h cells slots) : Ext Z.heap hs := S.1.2.2.2.2.2.2.2.2.1
theorem own_S.hW (S : own_S Z hs W own bytes maxL ret nm p l e R s m args below meth c T h cells slots) : ∀ a ∈ W, Z.heap.size ≤ a := S.1.2.2.2.2.2.2.2.2.2
theorem own_S.keep (S : own_S Z hs W own bytes maxL ret nm p l e R s m args below meth c T h cells slots) : Keep hs h W := by obtain ⟨-, _, -, -, -, K⟩ := S; exact K
theorem own_S.size (S : own_S Z hs W own bytes maxL ret nm p l e R s m args below meth c T h cells slots) : hs.size ≤ h.size := S.keep.1
theorem own_S.old (S : own_S Z hs W own bytes maxL ret nm p l e R s m args below meth c T h cells slots) : Ext Z.heap h :=
  ⟨Nat.le_trans S.hO.1 S.size, fun x cc q => S.keep.2.1 x cc (S.hO.2 x cc q) fun r => absurd (Array.getElem?_eq_some_iff.mp q).1 (Nat.not_lt.mpr (S.hW x r))⟩
theorem own_S.here (S : own_S Z hs W own bytes maxL ret nm p l e R s m args below meth c T h cells slots) : At T m c below := by obtain ⟨-, _, X, -⟩ := S; exact X.here
theorem own_S.dec (S : own_S Z hs W own bytes maxL ret nm p l e R s m args below meth c T h cells slots) {r : Except ClassFile.DecodeError (ClassFile.Instr × Nat)} (h2 : decode bytes pc = r) : decode c.code pc = r := hb S.hby h2
theorem own_S.may (S : own_S Z hs W own bytes maxL ret nm p l e R s m args below meth c T h cells slots) {a : Addr} (q : a ∈ W ∨ hs.size ≤ a) : Z.heap.size ≤ a := q.elim (S.hW a) (Nat.le_trans S.hO.1)
theorem own_S.more (S : own_S Z hs W own bytes maxL ret nm p l e R s m args below meth c T h cells slots) {k' n' : Nat} (hk : cells ≤ k') (hn : slots ≤ n') : own_S Z hs W own bytes maxL ret nm p l e R s m args below meth c T h k' n' := by
  obtain ⟨G, locs, X, r⟩ := S
  exact ⟨G, locs, X.more hk hn, r⟩

/-! the ends -/
theorem own_S.leave (S : own_S Z hs W own bytes maxL ret nm p l e R s m args below meth c T h cells slots) {A : State} {v : Option Value} (hk : cells ≤ k) (hn : slots ≤ n) (hv : ret = none → v = none) (hq : Q v h)
    (go : ∀ (locs : List Loc) (_ : Stand p l e R s m args below meth c T locs cells slots) (fs : List Frame), (∀ (f : JFrame) (acts : List Action), f.method = m → f.locked = none → f.entered = [] → (doReturn e (T.setTop f) acts v).1 = T.setFrames fs) → Steps p.tables e below A (T.setFrames fs)) : own_F p e below s Z hs W k n Q A := by
  obtain ⟨G, locs, X, N, e0, K⟩ := S
  have hlk : meth.locks = false := own_S.hlk (⟨G, locs, X, N, e0, K⟩ : own_S Z hs W own bytes maxL ret nm p l e R s m args below meth c T h cells slots)
  have hret : meth.sig.returnType = ret := own_S.hret (⟨G, locs, X, N, e0, K⟩ : own_S Z hs W own bytes maxL ret nm p l e R s m args below meth c T h cells slots)
  obtain ⟨fs, hr, hrun, hended, hW, hsame⟩ := X.leave (v := v) (fun q => hv (hret ▸ q)) hlk
  subst e0
  exact ⟨_, _, go locs X fs hr, hrun, hended, _, _, rfl, ⟨N, K, hq⟩, ⟨_, rfl⟩, hW, hsame.mono hk hn⟩
theorem own_retV (S : own_S Z hs W own bytes maxL none nm p l e R s m args below meth c T h cells slots) (hd : decode bytes pc = .ok (.return_, 1)) (hk : cells ≤ k) (hn : slots ≤ n) (hq : Q none h) : own_F p e below s Z hs W k n Q (T.setTop (mkF m pc Ls [])) :=
  S.leave hk hn (fun _ => rfl) hq fun locs X fs hr => X.returnOut S.hx S.hret (S.dec hd) hr
theorem own_retZ {t : FieldType} (S : own_S Z hs W own bytes maxL (some t) nm p l e R s m args below meth c T h cells slots) {z : Int32} (ht : t = .boolean ∨ t = .byte ∨ t = .char ∨ t = .short) (hd : decode bytes pc = .ok (.ireturn, 1)) (hk : cells ≤ k) (hn : slots ≤ n) (hq : Q (some (.int (nar t z))) h) : own_F p e below s Z hs W k n Q (T.setTop (mkF m pc Ls (.int z :: rest))) :=
  S.leave hk hn (fun q => by cases q) hq fun locs X fs hr => retN X S.hx S.hret ht (S.dec hd) hr
theorem own_retI (S : own_S Z hs W own bytes maxL (some .int) nm p l e R s m args below meth c T h cells slots) {z : Int32} (hd : decode bytes pc = .ok (.ireturn, 1)) (hk : cells ≤ k) (hn : slots ≤ n) (hq : Q (some (.int z)) h) : own_F p e below s Z hs W k n Q (T.setTop (mkF m pc Ls (.int z :: rest))) :=
  S.leave hk hn (fun q => by cases q) hq fun locs X fs hr => retOut X S.hx S.hret rfl (Or.inl ⟨rfl, Or.inl rfl, _, rfl⟩) (S.dec hd) hr
theorem own_retJ (S : own_S Z hs W own bytes maxL (some .long) nm p l e R s m args below meth c T h cells slots) {z : Int64} (hd : decode bytes pc = .ok (.lreturn, 1)) (hk : cells ≤ k) (hn : slots ≤ n) (hq : Q (some (.long z)) h) : own_F p e below s Z hs W k n Q (T.setTop (mkF m pc Ls (.long z :: rest))) :=
  S.leave hk hn (fun q => by cases q) hq fun locs X fs hr => retOut X S.hx S.hret rfl (Or.inr (Or.inl ⟨rfl, rfl, _, rfl⟩)) (S.dec hd) hr
theorem own_retD (S : own_S Z hs W own bytes maxL (some .double) nm p l e R s m args below meth c T h cells slots) {z : UInt64} (hd : decode bytes pc = .ok (.dreturn, 1)) (hk : cells ≤ k) (hn : slots ≤ n) (hq : Q (some (.double z)) h) : own_F p e below s Z hs W k n Q (T.setTop (mkF m pc Ls (.double z :: rest))) :=
  S.leave hk hn (fun q => by cases q) hq fun locs X fs hr => retOut X S.hx S.hret rfl (Or.inr (Or.inr (Or.inl ⟨rfl, rfl, _, rfl⟩))) (S.dec hd) hr
theorem own_retA {t : FieldType} (S : own_S Z hs W own bytes maxL (some t) nm p l e R s m args below meth c T h cells slots) {w : Value} (ht : t.isReference = true) (hw : w.isRef = true) (hd : decode bytes pc = .ok (.areturn, 1)) (hk : cells ≤ k) (hn : slots ≤ n) (hq : Q (some w) h) : own_F p e below s Z hs W k n Q (T.setTop (mkF m pc Ls (w :: rest))) :=
  S.leave hk hn (fun q => by cases q) hq fun locs X fs hr => retOut X S.hx S.hret (by cases w <;> simp [Value.isRef] at hw <;> cases t <;> simp [FieldType.isReference] at ht <;> rfl) (Or.inr (Or.inr (Or.inr (Or.inr ⟨rfl, ht, hw⟩)))) (S.dec hd) hr

/-! branches -/
def own_cd : ClassFile.Cond → Int32 → Int32 → Prop
  | .eq, x, y => x = y
  | .ne, x, y => ¬ x = y
  | .lt, x, y => x < y
  | .ge, x, y => ¬ x < y
  | .gt, x, y => y < x
  | .le, x, y => ¬ y < x
theorem own_cd_t {cd : ClassFile.Cond} {x y : Int32} (q : own_cd cd x y) : if_icmp.holds cd x y = true := by
  cases cd
  · exact (teq q).1
  · exact (feq q).2
  · exact (tlt q).1
  · exact (flt q).2.1
  · exact (tlt q).2.2.1
  · exact (flt q).2.2.2
def own_cn : ClassFile.Cond → Int32 → Int32 → Prop
  | .eq, x, y => ¬ x = y
  | .ne, x, y => x = y
  | .lt, x, y => ¬ x < y
  | .ge, x, y => x < y
  | .gt, x, y => ¬ y < x
  | .le, x, y => y < x
theorem own_cd_f {cd : ClassFile.Cond} {x y : Int32} (q : own_cn cd x y) : if_icmp.holds cd x y = false := by
  cases cd
  · exact (feq q).1
  · exact (teq q).2
  · exact (flt q).1
  · exact (tlt q).2.1
  · exact (flt q).2.2.1
  · exact (tlt q).2.2.2
theorem own_cd_em (cd : ClassFile.Cond) (x y : Int32) : own_cd cd x y ∨ own_cn cd x y := by
  cases cd
  · exact Classical.em (x = y)
  · exact (Classical.em (x = y)).symm
  · exact Classical.em (x < y)
  · exact (Classical.em (x < y)).symm
  · exact Classical.em (y < x)
  · exact (Classical.em (y < x)).symm
theorem own_icmp (S : own_S Z hs W own bytes maxL ret nm p l e R s m args below meth c T h cells slots) {cd : ClassFile.Cond} {o : Int} {x y : Int32} (pc' : Nat) (hd : decode bytes pc = .ok (.if_icmp cd o, 3)) (ho : 0 ≤ (pc : Int) + o) (hp : ((pc : Int) + o).toNat = pc')
    (ft : own_cd cd x y → own_F p e below s Z hs W k n Q (T.setTop (mkF m pc' Ls rest))) (ff : own_cn cd x y → own_F p e below s Z hs W k n Q (T.setTop (mkF m (pc + 3) Ls rest))) : own_F p e below s Z hs W k n Q (T.setTop (mkF m pc Ls (.int y :: .int x :: rest))) := by
  rcases own_cd_em cd x y with q | q
  · exact own_F.of (fun _ => XS.icmpYes S.here S.hx rfl (pc0 := pc) rfl (S.dec hd) rfl (own_cd_t q) ho hp) (ft q)
  · exact own_F.of (fun _ => XS.icmpNo S.here S.hx rfl (S.dec hd) rfl (own_cd_f q)) (ff q)
theorem own_if (S : own_S Z hs W own bytes maxL ret nm p l e R s m args below meth c T h cells slots) {cd : ClassFile.Cond} {o : Int} {x : Int32} (pc' : Nat) (hd : decode bytes pc = .ok (.ifCond cd o, 3)) (ho : 0 ≤ (pc : Int) + o) (hp : ((pc : Int) + o).toNat = pc')
    (ft : own_cd cd x 0 → own_F p e below s Z hs W k n Q (T.setTop (mkF m pc' Ls rest))) (ff : own_cn cd x 0 → own_F p e below s Z hs W k n Q (T.setTop (mkF m (pc + 3) Ls rest))) : own_F p e below s Z hs W k n Q (T.setTop (mkF m pc Ls (.int x :: rest))) := by
  rcases own_cd_em cd x 0 with q | q
  · exact own_F.of (fun _ => XS.ifYes S.here S.hx rfl (pc0 := pc) rfl (S.dec hd) rfl ((if0 _ _).trans (own_cd_t q)) ho hp) (ft q)
  · exact own_F.of (fun _ => XS.ifNo S.here S.hx rfl (S.dec hd) rfl ((if0 _ _).trans (own_cd_f q))) (ff q)
def own_ac : ACond → Value → Value → Prop
  | .eq, x, y => x = y
  | .ne, x, y => ¬ x = y
def own_an : ACond → Value → Value → Prop
  | .eq, x, y => ¬ x = y
  | .ne, x, y => x = y
theorem own_acmp (S : own_S Z hs W own bytes maxL ret nm p l e R s m args below meth c T h cells slots) {cd : ACond} {o : Int} {x y : Value} (h1 : x.isRef = true) (h2 : y.isRef = true) (pc' : Nat) (hd : decode bytes pc = .ok (.if_acmp cd o, 3)) (ho : 0 ≤ (pc : Int) + o) (hp : ((pc : Int) + o).toNat = pc')
    (ft : own_ac cd x y → own_F p e below s Z hs W k n Q (T.setTop (mkF m pc' Ls rest))) (ff : own_an cd x y → own_F p e below s Z hs W k n Q (T.setTop (mkF m (pc + 3) Ls rest))) : own_F p e below s Z hs W k n Q (T.setTop (mkF m pc Ls (y :: x :: rest))) := by
  obtain ⟨locs, X, -⟩ := S.2
  cases cd <;> rcases Classical.em (x = y) with q | q
  · exact own_F.of (fun _ => Jvm.RoadKit.acmp (g := mkF m pc Ls (y :: x :: rest)) X S.hx rfl h1 h2 (pc0 := pc) (pc' := pc') (same := true) rfl (S.dec hd) rfl (decide_eq_true q) ho (by simp [acV, ← hp])) (ft q)
  · exact own_F.of (fun _ => Jvm.RoadKit.acmp (g := mkF m pc Ls (y :: x :: rest)) X S.hx rfl h1 h2 (pc0 := pc) (pc' := pc + 3) (same := false) rfl (S.dec hd) rfl (decide_eq_false q) ho (by simp [acV])) (ff q)
  · exact own_F.of (fun _ => Jvm.RoadKit.acmp (g := mkF m pc Ls (y :: x :: rest)) X S.hx rfl h1 h2 (pc0 := pc) (pc' := pc + 3) (same := true) rfl (S.dec hd) rfl (decide_eq_true q) ho (by simp [acV])) (ff q)
  · exact own_F.of (fun _ => Jvm.RoadKit.acmp (g := mkF m pc Ls (y :: x :: rest)) X S.hx rfl h1 h2 (pc0 := pc) (pc' := pc') (same := false) rfl (S.dec hd) rfl (decide_eq_false q) ho (by simp [acV, ← hp])) (ft q)

/-! the heap -/
theorem own_getF (S : own_S Z hs W own bytes maxL ret nm p l e R s m args below meth c T h cells slots) {R0 O fn d host : String} {index : Nat} (w : (Jvm.Cond.fieldLink own index R0 fn d).before a0 Z = true ∨ (Jvm.Cond.fieldLinkNest own index R0 fn d host).before a0 Z = true) (via : Via Z R0 O fn d)
    {a : Addr} {v : Value} (F : Fld Z h a O fn d v) (hd : decode bytes pc = .ok (.getfield index, 3))
    (f : ∀ T', own_S Z hs W own bytes maxL ret nm p l e R s m args below meth c T' h cells slots → own_F p e below s Z hs W k n Q (T'.setTop (mkF m (pc + 3) Ls (v :: rest)))) : own_F p e below s Z hs W k n Q (T.setTop (mkF m pc Ls (.ref a :: rest))) := by
  have S' := S
  obtain ⟨G, locs, X, N, e0, K⟩ := S
  obtain ⟨T', X', e', st⟩ := getF X S'.hx S'.hZ S'.hown w via e0 F (g := mkF m pc Ls (.ref a :: rest)) rfl rfl (S'.dec hd)
  exact own_F.of st (f T' ⟨G, locs, X', N, e', K⟩)
theorem own_getS (S : own_S Z hs W own bytes maxL ret nm p l e R s m args below meth c T h cells slots) {R0 O fn d host : String} {index : Nat} (w : (Jvm.Cond.fieldLink own index R0 fn d).before a0 Z = true ∨ (Jvm.Cond.fieldLinkNest own index R0 fn d host).before a0 Z = true) (via : Via Z R0 O fn d)
    {v : Value} (F : Sta Z h O fn d v) (hd : decode bytes pc = .ok (.getstatic index, 3))
    (f : ∀ T', own_S Z hs W own bytes maxL ret nm p l e R s m args below meth c T' h cells slots → own_F p e below s Z hs W k n Q (T'.setTop (mkF m (pc + 3) Ls (v :: st)))) : own_F p e below s Z hs W k n Q (T.setTop (mkF m pc Ls st)) := by
  have S' := S
  obtain ⟨G, locs, X, N, e0, K⟩ := S
  obtain ⟨T', X', e', st⟩ := getS2 X S'.hx S'.hZ S'.hown w via e0 F (g := mkF m pc Ls st) rfl (S'.dec hd)
  exact own_F.of st (f T' ⟨G, locs, X', N, e', K⟩)
theorem own_putF (S : own_S Z hs W own bytes maxL ret nm p l e R s m args below meth c T h cells slots) {R0 O fn d host C : String} {index kk : Nat} {ty : FieldType} (w : (Jvm.Cond.fieldLink own index R0 fn d).before a0 Z = true ∨ (Jvm.Cond.fieldLinkNest own index R0 fn d host).before a0 Z = true) (via : Via Z R0 O fn d)
    {a : Addr} {v old : Value} (F : Fld Z h a O fn d old) (E : Exa Z h a C) (L : (Jvm.Cond.lays C O fn d).before a0 Z = true ∨ ((Jvm.Cond.laysFinal C O fn d).before a0 Z = true ∧ own = O ∧ nm = "<init>")) (wi : (Jvm.Cond.instantiable C kk).before a0 Z = true)
    (hty : parseFieldDescriptor d = some ty) (hn : narrow ty v = v) (hf : fits ty v = true) (hd : decode bytes pc = .ok (.putfield index, 3)) (ok : a ∈ W ∨ hs.size ≤ a)
    (f : ∀ T' h', own_S Z hs W own bytes maxL ret nm p l e R s m args below meth c T' h' cells slots → Wr h h' a (Jvm.RoadKit.slotOf Z O fn d) v → own_F p e below s Z hs W k n Q (T'.setTop (mkF m (pc + 3) Ls rest))) : own_F p e below s Z hs W k n Q (T.setTop (mkF m pc Ls (v :: .ref a :: rest))) := by
  have S' := S
  obtain ⟨G, locs, X, N, e0, K⟩ := S
  obtain ⟨T', h', X', e', Wt, st⟩ := putF X S'.hx S'.hZ S'.hown w via e0 F E (L.imp id fun q => ⟨q.1, q.2.1, S'.hnm.trans q.2.2⟩) wi hty hn hf (g := mkF m pc Ls (v :: .ref a :: rest)) rfl rfl (S'.dec hd)
  exact own_F.of st (f T' h' ⟨G, _, X', Fr.snoc X' N (S'.may ok), e', K.wr Wt ok⟩ Wt)
theorem own_new (S : own_S Z hs W own bytes maxL ret nm p l e R s m args below meth c T h cells slots) {C : String} {index sl : Nat} (w : (Jvm.Cond.classLink own index C).before a0 Z = true) (wi : (Jvm.Cond.instantiable C sl).before a0 Z = true) (wz : (Jvm.Cond.initialized C).before a0 Z = true)
    (hd : decode bytes pc = .ok (.new index, 3)) (hc : cells + 1 ≤ R.cells) (hl : slots + sl ≤ R.slots)
    (f : ∀ T' h' a, a = h.size → own_S Z hs W own bytes maxL ret nm p l e R s m args below meth c T' h' (cells + 1) (slots + sl) → Ext h h' → Exa Z h' a C → (∀ {O fn d : String} {ty : FieldType}, Laid Z a0 C O fn d → parseFieldDescriptor d = some ty → Fld Z h' a O fn d (defaultValue ty)) →
      own_F p e below s Z hs W k n Q (T'.setTop (mkF m (pc + 3) Ls (.ref a :: st)))) : own_F p e below s Z hs W k n Q (T.setTop (mkF m pc Ls st)) := by
  have S' := S
  obtain ⟨G, locs, X, N, e0, K⟩ := S
  obtain ⟨T', h', X', e', E, A, D, -, st⟩ := newO X S'.hx S'.hZ S'.hown w wi wz e0 (g := mkF m pc Ls st) rfl (S'.dec hd) hc hl
  exact own_F.of st (f T' h' _ rfl ⟨G, _, X', N, e', K.ext E⟩ E A D)
theorem own_initO (S : own_S Z hs W own bytes maxL ret nm p l e R s m args below meth c T h cells slots) {index : Nat} (w1 : (Jvm.Cond.methodLink own index Lib.objectInit).before a0 Z = true) (w2 : (Jvm.Cond.instanceMethod Lib.objectInit).before a0 Z = true)
    (w3 : (Jvm.Cond.code Lib.objectInit ⟨#[0xb1]⟩ 1 none).before a0 Z = true) {a : Addr} (hsz : Ls.size = maxL) (hd : decode bytes pc = .ok (.invokespecial index, 3)) (hf : 1 ≤ R.frames) (hl : (rest.map fun v => v.category).sum + 12 ≤ R.locals)
    (f : ∀ T', own_S Z hs W own bytes maxL ret nm p l e R s m args below meth c T' h cells slots → own_F p e below s Z hs W k n Q (T'.setTop (mkF m (pc + 3) Ls rest))) : own_F p e below s Z hs W k n Q (T.setTop (mkF m pc Ls (.ref a :: rest))) := by
  have S' := S
  obtain ⟨G, locs, X, N, e0, K⟩ := S
  obtain ⟨T', X', e', st⟩ := initO X S'.hx S'.hZ S'.hown w1 w2 w3 e0 (g := mkF m pc Ls (.ref a :: rest)) rfl (hsz.trans S'.hml.symm) rfl (S'.dec hd) hf (W := (rest.map fun v => v.category).sum) (by show 2 * 0 + _ ≤ _; omega) hl
  exact own_F.of st (f T' ⟨G, locs, X', N, e', K⟩)

/-! calls -/
variable {index : Nat} {y y' : MethodName} {bytes' : ByteArray} {maxL' : Nat} {ret' : Option FieldType} {rm : Room} {W' : List Addr} {Q' : Option Value → Heap → Prop} {argsL : List Value} {ps : List FieldType} {rt : Option FieldType}
theorem own_callS (S : own_S Z hs W own bytes maxL ret nm p l e R s m args below meth c T h cells slots)
    (w1 : (Jvm.Cond.methodLink own index y).before a0 Z = true) (w2 : (Jvm.Cond.static y).before a0 Z = true) (w3 : (Jvm.Cond.initialized y.cls).before a0 Z = true) (w4 : (Jvm.Cond.code y bytes' maxL' ret').before a0 Z = true) (hy : y.cls ≠ "java/lang/invoke/MethodHandle" ∧ y.cls ≠ "java/lang/invoke/VarHandle")
    (C : own_C l Z y bytes' maxL' ret' [] rm W' argsL.toArray h Q') (hWW : ∀ a ∈ W', a ∈ W ∨ hs.size ≤ a) (pd : parseMethodDescriptor y.desc = some ⟨ps, rt⟩) (hlen : argsL.length = ps.length) (hsz : Ls.size = maxL) (hst : st = argsL.reverse ++ rest)
    (hd : decode bytes pc = .ok (.invokestatic index, 3)) (hfr : rm.frames + 1 ≤ R.frames) (hlo : (rest.map fun v => v.category).sum + (maxL' + 11) + rm.locals ≤ R.locals) (hc : cells + rm.cells ≤ R.cells) (hsl : slots + rm.slots ≤ R.slots)
    (f : ∀ T' h' v, own_S Z hs W own bytes maxL ret nm p l e R s m args below meth c T' h' (cells + rm.cells) (slots + rm.slots) → Keep h h' W' → Q' v h' → own_F p e below s Z hs W k n Q (T'.setTop (mkF m (pc + 3) Ls (v.toList ++ rest)))) : own_F p e below s Z hs W k n Q (T.setTop (mkF m pc Ls st)) := by
  have S' := S
  obtain ⟨G, locs, X, N, e0, K⟩ := S
  obtain ⟨v, _, ⟨T', L', k', n'⟩, -, X', ⟨Lc, hQ, h1, h2, h3⟩, st⟩ := Jvm.LawKit.callS X S'.hx (y := y) S'.hown (mvT S'.hZ w1) (mvT S'.hZ w2) (mvT S'.hZ w3) (mvT S'.hZ w4) hy (backOf (W := (rest.map fun v => v.category).sum) (Q := fun v hh L => Fr Z.heap.size L ∧ Keep h hh W' ∧ Q' v hh) C S'.hZ w4 w3 hfr hlo) (g := mkF m pc Ls st) rfl (hsz.trans S'.hml.symm) (argsL := argsL) (rest := rest) (lenOf pd hlen) hst (by show 2 * 0 + _ ≤ _; omega) (S'.dec hd) (fun _ _ => ⟨rfl, e0, hc, hsl⟩)
  dsimp only [Pt.U, Pt.locs, Pt.cells, Pt.slots] at X' h1 h2 h3 st hQ
  subst h1 h2 h3
  obtain ⟨N', K', q⟩ := hQ
  exact own_F.of st (f T' T'.heap v ⟨G, _, X', Fr.app N N', rfl, K.trans K' hWW⟩ K' q)
theorem own_callI (S : own_S Z hs W own bytes maxL ret nm p l e R s m args below meth c T h cells slots) (hy1 : y.name = "<init>")
    (w1 : (Jvm.Cond.methodLink own index y).before a0 Z = true) (w2 : (Jvm.Cond.instanceMethod y).before a0 Z = true) (w3 : (Jvm.Cond.initialized y.cls).before a0 Z = true) (w4 : (Jvm.Cond.code y bytes' maxL' none).before a0 Z = true) (hy : y.cls ≠ "java/lang/invoke/MethodHandle" ∧ y.cls ≠ "java/lang/invoke/VarHandle")
    {a : Addr} (C : own_C l Z y bytes' maxL' none [] rm W' (.ref a :: argsL).toArray h Q') (hWW : ∀ a ∈ W', a ∈ W ∨ hs.size ≤ a) (pd : parseMethodDescriptor y.desc = some ⟨ps, rt⟩) (hlen : argsL.length = ps.length) (hsz : Ls.size = maxL) (hst : st = argsL.reverse ++ .ref a :: rest)
    (hd : decode bytes pc = .ok (.invokespecial index, 3)) (hfr : rm.frames + 1 ≤ R.frames) (hlo : (rest.map fun v => v.category).sum + (maxL' + 11) + rm.locals ≤ R.locals) (hc : cells + rm.cells ≤ R.cells) (hsl : slots + rm.slots ≤ R.slots)
    (f : ∀ T' h' v, own_S Z hs W own bytes maxL ret nm p l e R s m args below meth c T' h' (cells + rm.cells) (slots + rm.slots) → Keep h h' W' → Q' v h' → own_F p e below s Z hs W k n Q (T'.setTop (mkF m (pc + 3) Ls (v.toList ++ rest)))) : own_F p e below s Z hs W k n Q (T.setTop (mkF m pc Ls st)) := by
  have S' := S
  obtain ⟨G, locs, X, N, e0, K⟩ := S
  obtain ⟨v, _, ⟨T', L', k', n'⟩, -, X', ⟨Lc, hQ, h1, h2, h3⟩, st⟩ := X.specialBack S'.hx (y := y) hy1 S'.hown (mvT S'.hZ w1) (mvT S'.hZ w2) (mvT S'.hZ w4) hy (backOf (W := (rest.map fun v => v.category).sum) (Q := fun v hh L => Fr Z.heap.size L ∧ Keep h hh W' ∧ Q' v hh) C S'.hZ w4 w3 hfr hlo) (g := mkF m pc Ls st) rfl (hsz.trans S'.hml.symm) (Steps.refl _) (a := a) (argsL := argsL) (rest := rest) (lenOf pd hlen) hst (by show 2 * 0 + _ ≤ _; omega) (S'.dec hd) (fun _ _ => ⟨rfl, e0, hc, hsl⟩)
  dsimp only [Pt.U, Pt.locs, Pt.cells, Pt.slots] at X' h1 h2 h3 st hQ
  subst h1 h2 h3
  obtain ⟨N', K', q⟩ := hQ
  exact own_F.to st (f T' T'.heap v ⟨G, _, X', Fr.app N N', rfl, K.trans K' hWW⟩ K' q)
theorem own_callV (S : own_S Z hs W own bytes maxL ret nm p l e R s m args below meth c T h cells slots) {Cn : String}
    (w1 : (Jvm.Cond.methodLink own index y).before a0 Z = true) (w2 : (Jvm.Cond.declares y).before a0 Z = true) (nf : NotFace s y) (w3 : (Jvm.Cond.selects Cn y y').before a0 Z = true) (w4 : (Jvm.Cond.instanceMethod y').before a0 Z = true) (w5 : (Jvm.Cond.code y' bytes' maxL' ret').before a0 Z = true) (w6 : (Jvm.Cond.initialized y'.cls).before a0 Z = true) (hy : y.cls ≠ "java/lang/invoke/MethodHandle" ∧ y.cls ≠ "java/lang/invoke/VarHandle")
    {a : Addr} (E : Exa Z h a Cn) (C : own_C l Z y' bytes' maxL' ret' [] rm W' (.ref a :: argsL).toArray h Q') (hWW : ∀ a ∈ W', a ∈ W ∨ hs.size ≤ a) (pd : parseMethodDescriptor y.desc = some ⟨ps, rt⟩) (hlen : argsL.length = ps.length) (hsz : Ls.size = maxL) (hst : st = argsL.reverse ++ .ref a :: rest)
    (hd : decode bytes pc = .ok (.invokevirtual index, 3)) (hfr : rm.frames + 1 ≤ R.frames) (hlo : (rest.map fun v => v.category).sum + (maxL' + 11) + rm.locals ≤ R.locals) (hc : cells + rm.cells ≤ R.cells) (hsl : slots + rm.slots ≤ R.slots)
    (f : ∀ T' h' v, own_S Z hs W own bytes maxL ret nm p l e R s m args below meth c T' h' (cells + rm.cells) (slots + rm.slots) → Keep h h' W' → Q' v h' → own_F p e below s Z hs W k n Q (T'.setTop (mkF m (pc + 3) Ls (v.toList ++ rest)))) : own_F p e below s Z hs W k n Q (T.setTop (mkF m pc Ls st)) := by
  have S' := S
  obtain ⟨G, locs, X, N, e0, K⟩ := S
  obtain ⟨cq, kq, qa, qb, qc⟩ := isOf S'.hZ e0 E
  obtain ⟨v, _, ⟨T', L', k', n'⟩, -, X', ⟨Lc, hQ, h1, h2, h3⟩, st⟩ := X.virtualBack S'.hx (y := y) (z := y') S'.hown (mvT S'.hZ w1) (mvT S'.hZ w2) nf (mvT S'.hZ w3) (mvT S'.hZ w4) hy (backOf (W := (rest.map fun v => v.category).sum) (Q := fun v hh L => Fr Z.heap.size L ∧ Keep h hh W' ∧ Q' v hh) C S'.hZ w5 w6 hfr hlo) qa qc (g := mkF m pc Ls st) rfl (hsz.trans S'.hml.symm) (Steps.refl _) (argsL := argsL) (rest := rest) (lenOf pd hlen) hst (by show 2 * 0 + _ ≤ _; omega) (S'.dec hd) (fun _ _ => ⟨rfl, e0, hc, hsl⟩)
  dsimp only [Pt.U, Pt.locs, Pt.cells, Pt.slots] at X' h1 h2 h3 st hQ
  subst h1 h2 h3
  obtain ⟨N', K', q⟩ := hQ
  exact own_F.to st (f T' T'.heap v ⟨G, _, X', Fr.app N N', rfl, K.trans K' hWW⟩ K' q)
theorem own_nf (S : own_S Z hs W own bytes maxL ret nm p l e R s m args below meth c T h cells slots) {Cn : String} (w : (Jvm.Cond.selects Cn y y).before a0 Z = true) : NotFace s y := notFace_of_selects (args := #[]) (mvT S.hZ w)
theorem own_callX (S : own_S Z hs W own bytes maxL ret nm p l e R s m args below meth c T h cells slots) {Cn : String} {cnt : Nat}
    (w1 : (Jvm.Cond.methodLink own index y).before a0 Z = true) (w2 : (Jvm.Cond.declares y).before a0 Z = true) (w7 : (Jvm.Cond.interfaceMethod y.cls y.cls y.name y.desc).before a0 Z = true) (w3 : (Jvm.Cond.selects Cn y y').before a0 Z = true) (w4 : (Jvm.Cond.instanceMethod y').before a0 Z = true) (w8 : (Jvm.Cond.publicMethod y').before a0 Z = true) (w9 : (Jvm.Cond.unhidden Cn y.name y.desc).before a0 Z = true) (w10 : (Jvm.Cond.castable Cn y.cls).before a0 Z = true)
    (w5 : (Jvm.Cond.code y' bytes' maxL' ret').before a0 Z = true) (w6 : (Jvm.Cond.initialized y'.cls).before a0 Z = true) (hy : y.cls ≠ "java/lang/invoke/MethodHandle" ∧ y.cls ≠ "java/lang/invoke/VarHandle")
    {a : Addr} (E : Exa Z h a Cn) (C : own_C l Z y' bytes' maxL' ret' [] rm W' (.ref a :: argsL).toArray h Q') (hWW : ∀ a ∈ W', a ∈ W ∨ hs.size ≤ a) (pd : parseMethodDescriptor y.desc = some ⟨ps, rt⟩) (hlen : argsL.length = ps.length) (hsz : Ls.size = maxL) (hst : st = argsL.reverse ++ .ref a :: rest)
    (hd : decode bytes pc = .ok (.invokeinterface index cnt, 5)) (hfr : rm.frames + 1 ≤ R.frames) (hlo : (rest.map fun v => v.category).sum + (maxL' + 11) + rm.locals ≤ R.locals) (hc : cells + rm.cells ≤ R.cells) (hsl : slots + rm.slots ≤ R.slots)
    (f : ∀ T' h' v, own_S Z hs W own bytes maxL ret nm p l e R s m args below meth c T' h' (cells + rm.cells) (slots + rm.slots) → Keep h h' W' → Q' v h' → own_F p e below s Z hs W k n Q (T'.setTop (mkF m (pc + 5) Ls (v.toList ++ rest)))) : own_F p e below s Z hs W k n Q (T.setTop (mkF m pc Ls st)) := by
  have S' := S
  obtain ⟨G, locs, X, N, e0, K⟩ := S
  obtain ⟨cq, kq, qa, qb, qc⟩ := isOf S'.hZ e0 E
  obtain ⟨v, _, ⟨T', L', k', n'⟩, -, X', ⟨Lc, hQ, h1, h2, h3⟩, st⟩ := X.interfaceBack S'.hx (xi := y) (y := y') S'.hown (mvT S'.hZ w1) (mvT S'.hZ w2) (mvT S'.hZ w7 (by simp [Cond.onTables, Cond.keepsFace, Cond.keeps, Cond.steady, Cond.faceAtom, hy])) (mvT S'.hZ w3) (mvT S'.hZ w4) (mvT S'.hZ w8) (mvT S'.hZ w9) (mvT S'.hZ w10) hy (backOf (W := (rest.map fun v => v.category).sum) (Q := fun v hh L => Fr Z.heap.size L ∧ Keep h hh W' ∧ Q' v hh) C S'.hZ w5 w6 hfr hlo) qa qb qc (g := mkF m pc Ls st) rfl (hsz.trans S'.hml.symm) (Steps.refl _) (argsL := argsL) (rest := rest) (lenOf pd hlen) hst (by show 2 * 0 + _ ≤ _; omega) (S'.dec hd) (fun _ _ => ⟨rfl, e0, hc, hsl⟩)
  dsimp only [Pt.U, Pt.locs, Pt.cells, Pt.slots] at X' h1 h2 h3 st hQ
  subst h1 h2 h3
  obtain ⟨N', K', q⟩ := hQ
  exact own_F.to st (f T' T'.heap v ⟨G, _, X', Fr.app N N', rfl, K.trans K' hWW⟩ K' q)
theorem own_callP (S : own_S Z hs W own bytes maxL ret nm p l e R s m args below meth c T h cells slots)
    (w1 : (Jvm.Cond.methodLink own index y).before a0 Z = true) (w2 : (Jvm.Cond.instanceMethod y).before a0 Z = true) {kk : Nat} (w3 : (Jvm.Cond.instantiable y.cls kk).before a0 Z = true) (wp : (Jvm.Cond.privateMethod y).before a0 Z = true) (w5 : (Jvm.Cond.code y bytes' maxL' ret').before a0 Z = true) (w6 : (Jvm.Cond.initialized y.cls).before a0 Z = true) (hy : y.cls ≠ "java/lang/invoke/MethodHandle" ∧ y.cls ≠ "java/lang/invoke/VarHandle")
    {a : Addr} {Cn : String} (E : Exa Z h a Cn) (C : own_C l Z y bytes' maxL' ret' [] rm W' (.ref a :: argsL).toArray h Q') (hWW : ∀ a ∈ W', a ∈ W ∨ hs.size ≤ a) (pd : parseMethodDescriptor y.desc = some ⟨ps, rt⟩) (hlen : argsL.length = ps.length) (hsz : Ls.size = maxL) (hst : st = argsL.reverse ++ .ref a :: rest)
    (hd : decode bytes pc = .ok (.invokevirtual index, 3)) (hfr : rm.frames + 1 ≤ R.frames) (hlo : (rest.map fun v => v.category).sum + (maxL' + 11) + rm.locals ≤ R.locals) (hc : cells + rm.cells ≤ R.cells) (hsl : slots + rm.slots ≤ R.slots)
    (f : ∀ T' h' v, own_S Z hs W own bytes maxL ret nm p l e R s m args below meth c T' h' (cells + rm.cells) (slots + rm.slots) → Keep h h' W' → Q' v h' → own_F p e below s Z hs W k n Q (T'.setTop (mkF m (pc + 3) Ls (v.toList ++ rest)))) : own_F p e below s Z hs W k n Q (T.setTop (mkF m pc Ls st)) := by
  have S' := S
  obtain ⟨G, locs, X, N, e0, K⟩ := S
  obtain ⟨cq, qq, qq'⟩ := E.cell
  obtain ⟨ci, ki, i1, i2, i3, i4, -⟩ := Cond.instantiable_spec (mvT (args := args) S'.hZ w3)
  have hsel : (Jvm.Cond.selects y.cls y y).before args s = true := Jvm.Stand.selects_self_of_private i1 i2 (by simp only [Bool.or_eq_false_iff] at i4; exact i4.1) (Cond.privateMethod_at (mvP S'.hZ wp (args := #[]))) (mvT S'.hZ w2) hy
  obtain ⟨v, _, ⟨T', L', k', n'⟩, -, X', ⟨Lc, hQ, h1, h2, h3⟩, st⟩ := X.privateBack S'.hx (y := y) S'.hown (mvT S'.hZ w1) (mvT S'.hZ w2) hsel (Cond.privateMethod_at (mvP S'.hZ wp (args := #[]))) (mvT S'.hZ w5) hy (backOf (W := (rest.map fun v => v.category).sum) (Q := fun v hh L => Fr Z.heap.size L ∧ Keep h hh W' ∧ Q' v hh) C S'.hZ w5 w6 hfr hlo) (g := mkF m pc Ls st) rfl (hsz.trans S'.hml.symm) (Steps.refl _) (a := a) (by rw [e0]; exact qq) qq' (argsL := argsL) (rest := rest) (lenOf pd hlen) hst (by show 2 * 0 + _ ≤ _; omega) (S'.dec hd) (fun _ _ => ⟨rfl, e0, hc, hsl⟩)
  dsimp only [Pt.U, Pt.locs, Pt.cells, Pt.slots] at X' h1 h2 h3 st hQ
  subst h1 h2 h3
  obtain ⟨N', K', q⟩ := hQ
  exact own_F.to st (f T' T'.heap v ⟨G, _, X', Fr.app N N', rfl, K.trans K' hWW⟩ K' q)
theorem own_callU (S : own_S Z hs W own bytes maxL ret nm p l e R s m args below meth c T h cells slots) {Cn owner : String}
    (w1 : (Jvm.Cond.methodLink own index y).before a0 Z = true) (w2 : (Jvm.Cond.sameMethod y.cls owner y.name y.desc).before a0 Z = true) (w7 : (Jvm.Cond.declares ⟨owner, y.name, y.desc⟩).before a0 Z = true) (hy : owner ≠ "java/lang/invoke/MethodHandle" ∧ owner ≠ "java/lang/invoke/VarHandle") (w3 : (Jvm.Cond.selects Cn y y').before a0 Z = true) (w4 : (Jvm.Cond.instanceMethod y').before a0 Z = true) (w5 : (Jvm.Cond.code y' bytes' maxL' ret').before a0 Z = true) (w6 : (Jvm.Cond.initialized y'.cls).before a0 Z = true)
    {a : Addr} (E : Exa Z h a Cn) (C : own_C l Z y' bytes' maxL' ret' [] rm W' (.ref a :: argsL).toArray h Q') (hWW : ∀ a ∈ W', a ∈ W ∨ hs.size ≤ a) (pd : parseMethodDescriptor y.desc = some ⟨ps, rt⟩) (hlen : argsL.length = ps.length) (hsz : Ls.size = maxL) (hst : st = argsL.reverse ++ .ref a :: rest)
    (hd : decode bytes pc = .ok (.invokevirtual index, 3)) (hfr : rm.frames + 1 ≤ R.frames) (hlo : (rest.map fun v => v.category).sum + (maxL' + 11) + rm.locals ≤ R.locals) (hc : cells + rm.cells ≤ R.cells) (hsl : slots + rm.slots ≤ R.slots)
    (f : ∀ T' h' v, own_S Z hs W own bytes maxL ret nm p l e R s m args below meth c T' h' (cells + rm.cells) (slots + rm.slots) → Keep h h' W' → Q' v h' → own_F p e below s Z hs W k n Q (T'.setTop (mkF m (pc + 3) Ls (v.toList ++ rest)))) : own_F p e below s Z hs W k n Q (T.setTop (mkF m pc Ls st)) := by
  have S' := S
  obtain ⟨G, locs, X, N, e0, K⟩ := S
  obtain ⟨cq, kq, qa, qb, qc⟩ := isOf S'.hZ e0 E
  obtain ⟨v, _, ⟨T', L', k', n'⟩, -, X', ⟨Lc, hQ, h1, h2, h3⟩, st⟩ := X.virtualBackUp S'.hx (x := y) (y := y') S'.hown (mvT S'.hZ w1) (mvT S'.hZ w2) (mvT S'.hZ w7) hy (mvT S'.hZ w3) (mvT S'.hZ w4) (backOf (W := (rest.map fun v => v.category).sum) (Q := fun v hh L => Fr Z.heap.size L ∧ Keep h hh W' ∧ Q' v hh) C S'.hZ w5 w6 hfr hlo) qa qc (g := mkF m pc Ls st) rfl (hsz.trans S'.hml.symm) (Steps.refl _) (argsL := argsL) (rest := rest) (lenOf pd hlen) hst (by show 2 * 0 + _ ≤ _; omega) (S'.dec hd) (fun _ _ => ⟨rfl, e0, hc, hsl⟩)
  dsimp only [Pt.U, Pt.locs, Pt.cells, Pt.slots] at X' h1 h2 h3 st hQ
  subst h1 h2 h3
  obtain ⟨N', K', q⟩ := hQ
  exact own_F.to st (f T' T'.heap v ⟨G, _, X', Fr.app N N', rfl, K.trans K' hWW⟩ K' q)
/-! casts and tests of classes -/
theorem own_cast (S : own_S Z hs W own bytes maxL ret nm p l e R s m args below meth c T h cells slots) {Kn : String} {a : Addr} (w : (Jvm.Cond.classLink own index Kn).before a0 Z = true) (F : Ins Z h a Kn true) (hd : decode bytes pc = .ok (.checkcast index, 3))
    (f : ∀ T', own_S Z hs W own bytes maxL ret nm p l e R s m args below meth c T' h cells slots → own_F p e below s Z hs W k n Q (T'.setTop (mkF m (pc + 3) Ls (.ref a :: rest)))) : own_F p e below s Z hs W k n Q (T.setTop (mkF m pc Ls (.ref a :: rest))) := by
  have S' := S
  obtain ⟨G, locs, X, N, e0, K⟩ := S
  obtain ⟨T', X', e', st⟩ := castY X S'.hx S'.hZ S'.hown w e0 F (g := mkF m pc Ls (.ref a :: rest)) rfl rfl (S'.dec hd)
  exact own_F.of st (f T' ⟨G, locs, X', N, e', K⟩)
theorem own_inst (S : own_S Z hs W own bytes maxL ret nm p l e R s m args below meth c T h cells slots) {Kn : String} {a : Addr} (w : (Jvm.Cond.classLink own index Kn).before a0 Z = true) (F : Ins Z h a Kn true) (hd : decode bytes pc = .ok (.instanceof index, 3))
    (f : ∀ T', own_S Z hs W own bytes maxL ret nm p l e R s m args below meth c T' h cells slots → own_F p e below s Z hs W k n Q (T'.setTop (mkF m (pc + 3) Ls (.int (1 : Int32) :: rest)))) : own_F p e below s Z hs W k n Q (T.setTop (mkF m pc Ls (.ref a :: rest))) := by
  have S' := S
  obtain ⟨G, locs, X, N, e0, K⟩ := S
  obtain ⟨T', X', e', st⟩ := instY X S'.hx S'.hZ S'.hown w e0 F (g := mkF m pc Ls (.ref a :: rest)) rfl rfl (S'.dec hd)
  exact own_F.of st (f T' ⟨G, locs, X', N, e', K⟩)

/-! more single steps -/
theorem own_irem (S : own_S Z hs W own bytes maxL ret nm p l e R s m args below meth c T h cells slots) {x y : Int32} {t : State} (hd : decode bytes pc = .ok (.irem, 1)) (hy : y ≠ 0) (k : Steps p.tables e below (T.setTop (mkF m (pc + 1) Ls (.int (x % y) :: rest))) t) : Steps p.tables e below (T.setTop (mkF m pc Ls (.int y :: .int x :: rest))) t := by
  obtain ⟨locs, X, -⟩ := S.2
  exact iremM X S.hx (g := mkF m pc Ls (.int y :: .int x :: rest)) rfl (S.dec hd) rfl hy k
theorem own_lrem (S : own_S Z hs W own bytes maxL ret nm p l e R s m args below meth c T h cells slots) {x y : Int64} {t : State} (hd : decode bytes pc = .ok (.lrem, 1)) (hy : y ≠ 0) (k : Steps p.tables e below (T.setTop (mkF m (pc + 1) Ls (.long (x % y) :: rest))) t) : Steps p.tables e below (T.setTop (mkF m pc Ls (.long y :: .long x :: rest))) t := by
  have q : x - x / y * y = x % y := lrem_mod x y
  exact XS.lrem S.here S.hx (g := mkF m pc Ls (.long y :: .long x :: rest)) rfl (S.dec hd) rfl hy (by rw [q]; exact k)
theorem own_ldcI (S : own_S Z hs W own bytes maxL ret nm p l e R s m args below meth c T h cells slots) {i : Nat} {v : Int32} (w : (Jvm.Cond.constant own i v).before a0 Z = true) (hd : decode bytes pc = .ok (.ldc i, 2)) (f : own_F p e below s Z hs W k n Q (T.setTop (mkF m (pc + 2) Ls (.int v :: st)))) : own_F p e below s Z hs W k n Q (T.setTop (mkF m pc Ls st)) := by
  obtain ⟨locs, X, -⟩ := S.2
  exact own_F.of (X.ldcInt S.hx S.hown (mvT S.hZ w) (g := mkF m pc Ls st) rfl (S.dec hd)) f
theorem own_ldcIw (S : own_S Z hs W own bytes maxL ret nm p l e R s m args below meth c T h cells slots) {i : Nat} {v : Int32} (w : (Jvm.Cond.constant own i v).before a0 Z = true) (hd : decode bytes pc = .ok (.ldc_w i, 3)) (f : own_F p e below s Z hs W k n Q (T.setTop (mkF m (pc + 3) Ls (.int v :: st)))) : own_F p e below s Z hs W k n Q (T.setTop (mkF m pc Ls st)) := by
  obtain ⟨locs, X, -⟩ := S.2
  exact own_F.of (X.ldcwInt S.hx S.hown (mvT S.hZ w) (g := mkF m pc Ls st) rfl (S.dec hd)) f
theorem own_ldcJ (S : own_S Z hs W own bytes maxL ret nm p l e R s m args below meth c T h cells slots) {i : Nat} {v : Int64} (w : (Jvm.Cond.constantLong own i v).before a0 Z = true) (hd : decode bytes pc = .ok (.ldc2_w i, 3)) (f : own_F p e below s Z hs W k n Q (T.setTop (mkF m (pc + 3) Ls (.long v :: st)))) : own_F p e below s Z hs W k n Q (T.setTop (mkF m pc Ls st)) := by
  obtain ⟨locs, X, -⟩ := S.2
  exact own_F.of (X.ldc2Long S.hx S.hown (mvT S.hZ w) (g := mkF m pc Ls st) rfl (S.dec hd)) f
theorem own_ldcD (S : own_S Z hs W own bytes maxL ret nm p l e R s m args below meth c T h cells slots) {i : Nat} {v : UInt64} (w : (Jvm.Cond.constantDouble own i v).before a0 Z = true) (hd : decode bytes pc = .ok (.ldc2_w i, 3)) (f : own_F p e below s Z hs W k n Q (T.setTop (mkF m (pc + 3) Ls (.double v :: st)))) : own_F p e below s Z hs W k n Q (T.setTop (mkF m pc Ls st)) := by
  obtain ⟨locs, X, -⟩ := S.2
  exact own_F.of (X.ldc2DoubleC S.hx S.hown (mvT S.hZ w) (g := mkF m pc Ls st) rfl (S.dec hd)) f
theorem own_tsw (S : own_S Z hs W own bytes maxL ret nm p l e R s m args below meth c T h cells slots) {dflt low high : Int} {offs : Array Int} {len : Nat} {i : Int32} (v o : Int) (pc' : Nat) (hd : decode bytes pc = .ok (.tableswitch dflt low high offs, len)) (hv : i.toInt = v) (hin : ¬ (v < low ∨ v > high)) (hoff : offs[(v - low).toNat]? = some o) (ho : 0 ≤ (pc : Int) + o) (hp : ((pc : Int) + o).toNat = pc')
    (f : own_F p e below s Z hs W k n Q (T.setTop (mkF m pc' Ls rest))) : own_F p e below s Z hs W k n Q (T.setTop (mkF m pc Ls (.int i :: rest))) := by
  subst hv
  exact own_F.of (fun _ => XS.tswIn S.here S.hx (g := mkF m pc Ls (.int i :: rest)) rfl (pc0 := pc) (pc' := pc') rfl (S.dec hd) rfl hin hoff ho hp) f
theorem own_narR {ty : FieldType} {v : Value} (ht : ty.isReference = true) (hv : v.isRef = true) : narrow ty v = v := by cases v <;> simp [Value.isRef] at hv <;> cases ty <;> simp [FieldType.isReference] at ht <;> rfl
theorem own_fitR {ty : FieldType} {v : Value} (ht : ty.isReference = true) (hv : v.isRef = true) : fits ty v = true := by cases v <;> simp [Value.isRef] at hv <;> cases ty <;> simp [FieldType.isReference] at ht <;> rfl

/-! from the case's words to facts of the start -/
theorem own_extRefl (h : Heap) : Ext h h := ⟨Nat.le_refl _, fun _ _ q => q⟩
theorem own_sta {C fn d K : String} (hx : (Jvm.Cond.exactly (.static C fn d) K).value a0 Z none Z [] = some true) (w1 : (Jvm.Cond.initialized C).before a0 Z = true) (w2 : (Jvm.Cond.laysStatic C fn d).before a0 Z = true) :
    ∃ a, (Term.static C fn d).eval a0 Z none [] Z = some (.ref a) ∧ Sta Z Z.heap C fn d (.ref a) ∧ Exa Z Z.heap a K := by
  obtain ⟨a, ev⟩ := exa_v hx
  exact ⟨a, ev, Sta.start ev (Or.inr ⟨w1, w2⟩), Exa.start ev hx⟩
theorem own_fldI {t : Term} {C fn d : String} {a : Addr} {v : Int32} (ev : t.eval a0 Z none [] Z = some (.ref a)) (hx : (Jvm.Cond.eq (.field t C fn d) (.int v)).value a0 Z none Z [] = some true) : Fld Z Z.heap a C fn d (.int v) := by
  obtain ⟨x, y, h1, h2, -⟩ := cmp_v (Or.inl hx)
  have h2' : y = .int v := by simpa [Term.eval] using h2.symm
  subst h2'
  have h3 : x = .int v := by
    simp only [Jvm.Cond.value, h1, h2] at hx
    cases x <;> simp at hx
    rw [hx]
  subst h3
  refine Fld.start ?_
  simpa [Term.eval, ev] using h1
end OwnPrelude

theorem own_w {a0 : Array Value} {Z : State} (hw : ∀ d ∈ tables_1, d.before a0 Z = true) {d : Jvm.Cond} (i : Nat) (q : tables_1[i]? = some d) : d.before a0 Z = true := hw _ (List.mem_of_getElem? q)

theorem own_mayN {Z : State} {hs : Heap} {W : List Addr} {own : String} {bytes : ByteArray} {maxL : Nat} {ret : Option FieldType} {nm : String} {p : Program} {l : Launch} {e : Env} {R : Room} {s : State} {m : MethodId} {args : Array Value} {below : List Frame} {meth : Method} {c : Code} {T : State} {h : Heap} {cells slots : Nat}
    (S : own_S Z hs W own bytes maxL ret nm p l e R s m args below meth c T h cells slots) {a : Addr} (q : a ∈ W ∨ hs.size ≤ a) : Z.heap.size ≤ a := S.may q

/-! the plain law of Draws -/
def own_n63 (x : Int64) : Int64 :=
  let m1 := (x ^^^ ((x.toUInt64 >>> ((30 : Int32) &&& 0x3f).toInt64.toUInt64).toInt64)) * (-4658895280553007687 : Int64)
  let m2 := (m1 ^^^ ((m1.toUInt64 >>> ((27 : Int32) &&& 0x3f).toInt64.toUInt64).toInt64)) * (-7723592293110705685 : Int64)
  (((m2 ^^^ ((m2.toUInt64 >>> ((31 : Int32) &&& 0x3f).toInt64.toUInt64).toInt64)).toUInt64 >>> ((1 : Int32) &&& 0x3f).toInt64.toUInt64).toInt64)
def own_fr (v : Int64) : UInt64 := FP.dmul (FP.l2d ((v.toUInt64 >>> ((10 : Int32) &&& 0x3f).toInt64.toUInt64).toInt64)) (4368491638549381120 : UInt64)
theorem own_kfin : Jvm.Free.Fl.Fin64 (4368491638549381120 : UInt64) := by rw [Jvm.Free.Fl.fin64_iff]; decide
theorem own_nn (v : Int64) : Jvm.Free.Fl.NoNaN64 (FP.dmul (FP.l2d v) (4368491638549381120 : UInt64)) := Jvm.Free.Fl.dmul_out (Jvm.Free.Fl.l2d_fin v) own_kfin
def own_lo (v : Int64) : Int64 := 0 + v % ((4611686018427387903 : Int64) - 0 + 1)
def own_hi (v : Int64) : Int64 := 0 + v % ((9223372036854775806 : Int64) - 0 + 1)
theorem own_n63_nn (x : Int64) : 0 ≤ (own_n63 x).toInt := by
  unfold own_n63
  rw [c_lushr _ 1 1 rfl (by decide)]
  omega
theorem own_le0 {v : Int64} (hc : (0 : Int32) < lcmpW v ((9223372036854775807 : Int64) - ((((9223372036854775807 : Int64) % ((4611686018427387903 : Int64) - (0 : Int64) + (1 : Int64))) + (1 : Int64)) % ((4611686018427387903 : Int64) - (0 : Int64) + (1 : Int64))))) : False := by
  rw [lw_gt, Int64.lt_iff_toInt_lt] at hc
  have e : ((9223372036854775807 : Int64) - ((((9223372036854775807 : Int64) % ((4611686018427387903 : Int64) - (0 : Int64) + (1 : Int64))) + (1 : Int64)) % ((4611686018427387903 : Int64) - (0 : Int64) + (1 : Int64)))).toInt = 9223372036854775807 := by decide +kernel
  have r := rng64 v
  omega
theorem own_eB : ((9223372036854775807 : Int64) - ((((9223372036854775807 : Int64) % ((9223372036854775806 : Int64) - (0 : Int64) + (1 : Int64))) + (1 : Int64)) % ((9223372036854775806 : Int64) - (0 : Int64) + (1 : Int64)))).toInt = 9223372036854775806 := by decide +kernel
theorem own_lt1 {v : Int64} (hc : ¬ (0 : Int32) < lcmpW v ((9223372036854775807 : Int64) - ((((9223372036854775807 : Int64) % ((9223372036854775806 : Int64) - (0 : Int64) + (1 : Int64))) + (1 : Int64)) % ((9223372036854775806 : Int64) - (0 : Int64) + (1 : Int64))))) : v ≠ (9223372036854775807 : Int64) := by
  rw [lw_gt, Int64.lt_iff_toInt_lt, own_eB] at hc
  intro q
  subst q
  exact hc (by decide)
theorem own_ge1 {v : Int64} (hc : (0 : Int32) < lcmpW v ((9223372036854775807 : Int64) - ((((9223372036854775807 : Int64) % ((9223372036854775806 : Int64) - (0 : Int64) + (1 : Int64))) + (1 : Int64)) % ((9223372036854775806 : Int64) - (0 : Int64) + (1 : Int64))))) : v = (9223372036854775807 : Int64) := by
  rw [lw_gt, Int64.lt_iff_toInt_lt, own_eB] at hc
  have r := rng64 v
  apply Int64.toInt_inj.mp
  have e : (9223372036854775807 : Int64).toInt = 9223372036854775807 := by decide
  omega
/-- the mixer, over words of 64 bits -/
theorem own_ush (x : Int64) (q : Int32) (k : Nat) (hk : q.toBitVec.toNat % 64 = k) : ((x.toUInt64 >>> (q &&& 0x3f).toInt64.toUInt64).toInt64).toBitVec = x.toBitVec >>> k := by
  obtain ⟨h1, h2⟩ := sm64 q k hk
  show (x.toUInt64 >>> (q &&& 0x3f).toInt64.toUInt64).toBitVec = _
  rw [UInt64.toBitVec_shiftRight]
  show x.toBitVec >>> ((q &&& 0x3f).toInt64.toBitVec % 64) = _
  rw [h1]
  have e : (BitVec.ofNat 64 k % 64 : BitVec 64) = BitVec.ofNat 64 k := by
    apply BitVec.eq_of_toNat_eq
    simp only [BitVec.toNat_umod, BitVec.toNat_ofNat]
    rw [show (64 : BitVec 64).toNat = 64 from rfl]
    omega
  rw [e]
  show x.toBitVec >>> (BitVec.ofNat 64 k).toNat = _
  congr 1
  simp only [BitVec.toNat_ofNat]
  omega
theorem own_unx (x y : BitVec 64) (k : Nat) (h3 : 64 ≤ k + k + k) (h : x ^^^ (x >>> k) = y) : x = y ^^^ (y >>> k) ^^^ (y >>> (k + k)) := by
  subst h
  have z : x >>> (k + k + k) = 0#64 := BitVec.ushiftRight_eq_zero h3
  rw [BitVec.ushiftRight_xor_distrib, BitVec.ushiftRight_xor_distrib, ← BitVec.shiftRight_add, ← BitVec.shiftRight_add]
  have e : k + (k + k) = k + k + k := by omega
  rw [e, z]
  apply BitVec.eq_of_getLsbD_eq
  intro i hi
  simp only [BitVec.getLsbD_xor, BitVec.getLsbD_zero]
  generalize x.getLsbD i = a
  generalize (x >>> k).getLsbD i = b
  generalize (x >>> (k + k)).getLsbD i = d
  cases a <;> cases b <;> cases d <;> rfl
theorem own_inv1 (u w : BitVec 64) (h : u * 13787848793156543929#64 = w) : u = w * 10871156337175269513#64 := by
  subst h
  rw [BitVec.mul_assoc, show (13787848793156543929#64 * 10871156337175269513#64 : BitVec 64) = 1#64 by decide +kernel, BitVec.mul_one]
theorem own_inv2 (u w : BitVec 64) (h : u * 10723151780598845931#64 = w) : u = w * 3573116690164977347#64 := by
  subst h
  rw [BitVec.mul_assoc, show (10723151780598845931#64 * 3573116690164977347#64 : BitVec 64) = 1#64 by decide +kernel, BitVec.mul_one]
theorem own_mixbv (x : Int64) : (own_n63 x).toBitVec = (let m1 := (x.toBitVec ^^^ (x.toBitVec >>> 30)) * 13787848793156543929#64; let m2 := (m1 ^^^ (m1 >>> 27)) * 10723151780598845931#64; (m2 ^^^ (m2 >>> 31)) >>> 1) := by
  unfold own_n63
  rw [own_ush _ 1 1 rfl, Int64.toBitVec_xor, own_ush _ 31 31 rfl, Int64.toBitVec_mul, Int64.toBitVec_xor, own_ush _ 27 27 rfl, Int64.toBitVec_mul, Int64.toBitVec_xor, own_ush _ 30 30 rfl]
  rfl
theorem own_bad {x : Int64} (h : own_n63 x = (9223372036854775807 : Int64)) : x.toBitVec = 14959274266131672512#64 ∨ x.toBitVec = 17098004741496802860#64 := by
  have h1 := congrArg Int64.toBitVec h
  rw [own_mixbv] at h1
  dsimp only at h1
  generalize hm1 : (x.toBitVec ^^^ (x.toBitVec >>> 30)) * 13787848793156543929#64 = m1 at h1
  generalize hm2 : (m1 ^^^ (m1 >>> 27)) * 10723151780598845931#64 = m2 at h1
  generalize hm3 : m2 ^^^ (m2 >>> 31) = m3 at h1
  have h1' : m3 >>> 1 = 9223372036854775807#64 := h1
  have h2 : m3 = 18446744073709551615#64 ∨ m3 = 18446744073709551614#64 := by
    have q := congrArg BitVec.toNat h1'
    simp only [BitVec.toNat_ushiftRight, BitVec.toNat_ofNat, Nat.shiftRight_eq_div_pow] at q
    have r := m3.isLt
    rcases (by omega : m3.toNat = 18446744073709551615 ∨ m3.toNat = 18446744073709551614) with w | w
    · exact Or.inl (BitVec.eq_of_toNat_eq (by rw [w]; rfl))
    · exact Or.inr (BitVec.eq_of_toNat_eq (by rw [w]; rfl))
  have s2 := own_unx m2 m3 31 (by decide) hm3
  have s1 := own_unx m1 _ 27 (by decide) (own_inv2 _ _ hm2)
  have s0 := own_unx x.toBitVec _ 30 (by decide) (own_inv1 _ _ hm1)
  rcases h2 with h2 | h2
  · left
    rw [s0, s1, s2, h2]
    decide +kernel
  · right
    rw [s0, s1, s2, h2]
    decide +kernel
theorem own_nobad {x : Int64} (h : own_n63 x = (9223372036854775807 : Int64)) : own_n63 (x + (-7046029254386353131 : Int64)) ≠ (9223372036854775807 : Int64) := by
  intro q
  have q' := congrArg Int64.toBitVec q
  rw [own_mixbv, Int64.toBitVec_add] at q'
  rcases own_bad h with r | r
  · rw [r] at q'; revert q'; decide +kernel
  · rw [r] at q'; revert q'; decide +kernel
theorem own_le2 {x : Int64} (h1 : (0 : Int32) < lcmpW (own_n63 x) ((9223372036854775807 : Int64) - ((((9223372036854775807 : Int64) % ((9223372036854775806 : Int64) - (0 : Int64) + (1 : Int64))) + (1 : Int64)) % ((9223372036854775806 : Int64) - (0 : Int64) + (1 : Int64)))))
    (h2 : (0 : Int32) < lcmpW (own_n63 (x + (-7046029254386353131 : Int64))) ((9223372036854775807 : Int64) - ((((9223372036854775807 : Int64) % ((9223372036854775806 : Int64) - (0 : Int64) + (1 : Int64))) + (1 : Int64)) % ((9223372036854775806 : Int64) - (0 : Int64) + (1 : Int64))))) : False := own_nobad (own_ge1 h1) (own_ge1 h2)
theorem own_loI {v : Int64} (h : 0 ≤ v.toInt) : (own_lo v).toInt = v.toInt % 4611686018427387904 := by
  unfold own_lo
  rw [Int64.zero_add, show ((4611686018427387903 : Int64) - 0 + 1) = (4611686018427387904 : Int64) by decide, Int64.toInt_mod, show (4611686018427387904 : Int64).toInt = 4611686018427387904 by decide, Int.tmod_eq_emod_of_nonneg h]
theorem own_hiI {v : Int64} (h : 0 ≤ v.toInt) (h' : v ≠ (9223372036854775807 : Int64)) : own_hi v = v := by
  unfold own_hi
  rw [Int64.zero_add, show ((9223372036854775806 : Int64) - 0 + 1) = (9223372036854775807 : Int64) by decide]
  apply Int64.toInt_inj.mp
  have r := rng64 v
  have e : (9223372036854775807 : Int64).toInt = 9223372036854775807 := by decide
  have n : v.toInt ≠ 9223372036854775807 := fun q => h' (Int64.toInt_inj.mp (by rw [q, e]))
  rw [Int64.toInt_mod, e, Int.tmod_eq_emod_of_nonneg h, Int.emod_eq_of_lt h (by omega)]
/-- the low 62 bits aren't all set: the same double twice -/
theorem own_eqw {x z : Int64} (hz : (own_n63 x ≠ (9223372036854775807 : Int64) ∧ z = own_hi (own_n63 x)) ∨ own_n63 x = (9223372036854775807 : Int64)) (hc : ¬ lcmpW (own_lo (own_n63 x)) (4611686018427387903 : Int64) = 0) :
    cmpValue (FP.dcmp (own_fr (own_n63 x)) (FP.dmul (FP.l2d ((z.toUInt64 >>> ((10 : Int32) &&& 0x3f).toInt64.toUInt64).toInt64)) (4368491638549381120 : UInt64))) .l = 0 := by
  rcases hz with ⟨h1, h2⟩ | h
  · rw [h2, own_hiI (own_n63_nn x) h1]
    exact dcmpV_self (own_nn _) _
  · exact absurd ((lw_eq _ _).mpr (by rw [h]; decide)) hc
/-- they are: one of two doubles -/
theorem own_sb {x : Int64} (hc : lcmpW (own_lo (own_n63 x)) (4611686018427387903 : Int64) = 0) (h1 : ¬ cmpValue (FP.dcmp (own_fr (own_n63 x)) (4602678819172646910 : UInt64)) .l = 0) (h2 : ¬ cmpValue (FP.dcmp (own_fr (own_n63 x)) (4607182418800017407 : UInt64)) .l = 0) : False := by
  have q := congrArg Int64.toInt ((lw_eq _ _).mp hc)
  rw [own_loI (own_n63_nn x), show (4611686018427387903 : Int64).toInt = 4611686018427387903 by decide] at q
  have r := rng64 (own_n63 x)
  have p := own_n63_nn x
  rcases (by omega : (own_n63 x).toInt = 4611686018427387903 ∨ (own_n63 x).toInt = 9223372036854775807) with w | w
  · have e : own_n63 x = (4611686018427387903 : Int64) := Int64.toInt_inj.mp (by rw [w]; decide)
    rw [e] at h1
    exact h1 (by decide +kernel)
  · have e : own_n63 x = (9223372036854775807 : Int64) := Int64.toInt_inj.mp (by rw [w]; decide)
    rw [e] at h2
    exact h2 (by decide +kernel)

theorem d1_0 : decode prog_88_method_1_code 0 = .ok (.aload_n 0, 1) := by decide +kernel
theorem d1_1 : decode prog_88_method_1_code 1 = .ok (.invokespecial 1, 3) := by decide +kernel
theorem d1_4 : decode prog_88_method_1_code 4 = .ok (.aload_n 0, 1) := by decide +kernel
theorem d1_5 : decode prog_88_method_1_code 5 = .ok (.lload_n 1, 1) := by decide +kernel
theorem d1_6 : decode prog_88_method_1_code 6 = .ok (.putfield 7, 3) := by decide +kernel
theorem d1_9 : decode prog_88_method_1_code 9 = .ok (.return_, 1) := by decide +kernel
theorem pn1 : plainFor (⟨"com/example/slackweave/slackweave/random/Draws", "<init>", "(J)V"⟩ : MethodName) = true := plainFor_of_name (by first | (simp [plainName, overriddenIn]; done) | decide +kernel)
set_option maxRecDepth 65536 in
set_option maxHeartbeats 40000000 in
theorem own_init (l : Launch) (Z : State) (a0 : Array Value) (hw : ∀ d ∈ tables_1, d.before a0 Z = true) (a1 : Addr) (q2 x0 : Int64) (h0 : Heap) (hO : Ext Z.heap h0) (ga : Z.heap.size ≤ a1) (E_a1 : Exa Z h0 a1 "com/example/slackweave/slackweave/random/Draws") (F_state : Fld Z h0 a1 "com/example/slackweave/slackweave/random/Draws" "state" "J" (.long x0)) :
    own_C l Z (⟨"com/example/slackweave/slackweave/random/Draws", "<init>", "(J)V"⟩ : MethodName) prog_88_method_1_code 3 none [] ({ frames := 1, cells := 0, slots := 0, locals := 12 } : Room) [a1] #[(.ref a1), (.long q2)] h0 (fun v h => v = none ∧ Fld Z h a1 "com/example/slackweave/slackweave/random/Draws" "state" "J" (.long q2)) := by
  refine own_C.of pn1 hO (allS ga all0) ?_
  intro p e s m below meth c T0 S0
  refine own_F.cast (by first | (simp [entryFrame, mkF, argsToLocals, Value.category]; done) | rfl : entryFrame m #[(.ref a1), (.long q2)] 3 = mkF m 0 #[.val (.ref a1), .val (.long q2), .second] []) ?_
  show own_F p e below s Z _ _ _ _ _ (T0.setTop (mkF m 0 #[.val (.ref a1), .val (.long q2), .second] []))
  refine own_F.of (fun _ => XS.aloadN S0.here S0.hx rfl (S0.dec d1_0) rfl rfl) ?_
  show own_F p e below s Z _ _ _ _ _ (T0.setTop (mkF m 1 #[.val (.ref a1), .val (.long q2), .second] [(.ref a1)]))
  refine own_initO S0 (own_w hw 6 rfl) (own_w hw 7 rfl) (own_w hw 8 rfl) rfl d1_1 (by decide) (Nat.le_of_ble_eq_true rfl) (fun T1 S1 => ?_)
  show own_F p e below s Z _ _ _ _ _ (T1.setTop (mkF m 4 #[.val (.ref a1), .val (.long q2), .second] []))
  refine own_F.of (fun _ => XS.aloadN S1.here S1.hx rfl (S1.dec d1_4) rfl rfl) ?_
  show own_F p e below s Z _ _ _ _ _ (T1.setTop (mkF m 5 #[.val (.ref a1), .val (.long q2), .second] [(.ref a1)]))
  refine own_F.of (fun _ => XS.lloadN S1.here S1.hx rfl (S1.dec d1_5) rfl) ?_
  show own_F p e below s Z _ _ _ _ _ (T1.setTop (mkF m 6 #[.val (.ref a1), .val (.long q2), .second] [(.long q2), (.ref a1)]))
  refine own_putF S1 (host := "") (Or.inl (own_w hw 9 rfl)) Via.refl F_state E_a1 (Or.inl (own_w hw 10 rfl)) (own_w hw 1 rfl) (ty := .long) (by decide) rfl rfl d1_6 (Or.inl (List.mem_of_getElem? (i := 0) rfl)) (fun T2 h2 S2 W2 => ?_)
  have Fw2 := F_state.same W2
  show own_F p e below s Z _ _ _ _ _ (T2.setTop (mkF m 9 #[.val (.ref a1), .val (.long q2), .second] []))
  refine own_retV S2 d1_9 (by decide) (by decide) ?_
  exact ⟨rfl, Fw2⟩
theorem d4_0 : decode prog_88_method_5_code 0 = .ok (.aload_n 0, 1) := by decide +kernel
theorem d4_1 : decode prog_88_method_5_code 1 = .ok (.dup, 1) := by decide +kernel
theorem d4_2 : decode prog_88_method_5_code 2 = .ok (.getfield 7, 3) := by decide +kernel
theorem d4_5 : decode prog_88_method_5_code 5 = .ok (.ldc2_w 36, 3) := by decide +kernel
theorem d4_8 : decode prog_88_method_5_code 8 = .ok (.ladd, 1) := by decide +kernel
theorem d4_9 : decode prog_88_method_5_code 9 = .ok (.putfield 7, 3) := by decide +kernel
theorem d4_12 : decode prog_88_method_5_code 12 = .ok (.aload_n 0, 1) := by decide +kernel
theorem d4_13 : decode prog_88_method_5_code 13 = .ok (.getfield 7, 3) := by decide +kernel
theorem d4_16 : decode prog_88_method_5_code 16 = .ok (.lstore_n 1, 1) := by decide +kernel
theorem d4_17 : decode prog_88_method_5_code 17 = .ok (.lload_n 1, 1) := by decide +kernel
theorem d4_18 : decode prog_88_method_5_code 18 = .ok (.lload_n 1, 1) := by decide +kernel
theorem d4_19 : decode prog_88_method_5_code 19 = .ok (.bipush 30, 2) := by decide +kernel
theorem d4_21 : decode prog_88_method_5_code 21 = .ok (.lushr, 1) := by decide +kernel
theorem d4_22 : decode prog_88_method_5_code 22 = .ok (.lxor, 1) := by decide +kernel
theorem d4_23 : decode prog_88_method_5_code 23 = .ok (.ldc2_w 38, 3) := by decide +kernel
theorem d4_26 : decode prog_88_method_5_code 26 = .ok (.lmul, 1) := by decide +kernel
theorem d4_27 : decode prog_88_method_5_code 27 = .ok (.lstore_n 1, 1) := by decide +kernel
theorem d4_28 : decode prog_88_method_5_code 28 = .ok (.lload_n 1, 1) := by decide +kernel
theorem d4_29 : decode prog_88_method_5_code 29 = .ok (.lload_n 1, 1) := by decide +kernel
theorem d4_30 : decode prog_88_method_5_code 30 = .ok (.bipush 27, 2) := by decide +kernel
theorem d4_32 : decode prog_88_method_5_code 32 = .ok (.lushr, 1) := by decide +kernel
theorem d4_33 : decode prog_88_method_5_code 33 = .ok (.lxor, 1) := by decide +kernel
theorem d4_34 : decode prog_88_method_5_code 34 = .ok (.ldc2_w 40, 3) := by decide +kernel
theorem d4_37 : decode prog_88_method_5_code 37 = .ok (.lmul, 1) := by decide +kernel
theorem d4_38 : decode prog_88_method_5_code 38 = .ok (.lstore_n 1, 1) := by decide +kernel
theorem d4_39 : decode prog_88_method_5_code 39 = .ok (.lload_n 1, 1) := by decide +kernel
theorem d4_40 : decode prog_88_method_5_code 40 = .ok (.lload_n 1, 1) := by decide +kernel
theorem d4_41 : decode prog_88_method_5_code 41 = .ok (.bipush 31, 2) := by decide +kernel
theorem d4_43 : decode prog_88_method_5_code 43 = .ok (.lushr, 1) := by decide +kernel
theorem d4_44 : decode prog_88_method_5_code 44 = .ok (.lxor, 1) := by decide +kernel
theorem d4_45 : decode prog_88_method_5_code 45 = .ok (.iconst 1, 1) := by decide +kernel
theorem d4_46 : decode prog_88_method_5_code 46 = .ok (.lushr, 1) := by decide +kernel
theorem d4_47 : decode prog_88_method_5_code 47 = .ok (.lreturn, 1) := by decide +kernel
theorem pn4 : plainFor (⟨"com/example/slackweave/slackweave/random/Draws", "next63", "()J"⟩ : MethodName) = true := plainFor_of_name (by first | (simp [plainName, overriddenIn]; done) | decide +kernel)
set_option maxRecDepth 65536 in
set_option maxHeartbeats 40000000 in
theorem own_next (l : Launch) (Z : State) (a0 : Array Value) (hw : ∀ d ∈ tables_1, d.before a0 Z = true) (a1 : Addr) (x0 : Int64) (h0 : Heap) (hO : Ext Z.heap h0) (ga : Z.heap.size ≤ a1) (E_a1 : Exa Z h0 a1 "com/example/slackweave/slackweave/random/Draws") (F_state : Fld Z h0 a1 "com/example/slackweave/slackweave/random/Draws" "state" "J" (.long x0)) :
    own_C l Z (⟨"com/example/slackweave/slackweave/random/Draws", "next63", "()J"⟩ : MethodName) prog_88_method_5_code 3 (some .long) [] ({ frames := 0, cells := 0, slots := 0, locals := 0 } : Room) [a1] #[(.ref a1)] h0 (fun v h => v = some (.long (own_n63 (x0 + (-7046029254386353131 : Int64)))) ∧ Fld Z h a1 "com/example/slackweave/slackweave/random/Draws" "state" "J" (.long (x0 + (-7046029254386353131 : Int64)))) := by
  refine own_C.of pn4 hO (allS ga all0) ?_
  intro p e s m below meth c T0 S0
  refine own_F.cast (by first | (simp [entryFrame, mkF, argsToLocals, Value.category]; done) | rfl : entryFrame m #[(.ref a1)] 3 = mkF m 0 #[.val (.ref a1), .unset, .unset] []) ?_
  show own_F p e below s Z _ _ _ _ _ (T0.setTop (mkF m 0 #[.val (.ref a1), .unset, .unset] []))
  refine own_F.of (fun _ => XS.aloadN S0.here S0.hx rfl (S0.dec d4_0) rfl rfl) ?_
  show own_F p e below s Z _ _ _ _ _ (T0.setTop (mkF m 1 #[.val (.ref a1), .unset, .unset] [(.ref a1)]))
  refine own_F.of (fun _ => XS.dup S0.here S0.hx rfl (S0.dec d4_1) rfl rfl) ?_
  show own_F p e below s Z _ _ _ _ _ (T0.setTop (mkF m 2 #[.val (.ref a1), .unset, .unset] [(.ref a1), (.ref a1)]))
  refine own_getF S0 (host := "") (Or.inl (own_w hw 9 rfl)) Via.refl F_state d4_2 (fun T1 S1 => ?_)
  show own_F p e below s Z _ _ _ _ _ (T1.setTop (mkF m 5 #[.val (.ref a1), .unset, .unset] [(.long x0), (.ref a1)]))
  refine own_ldcJ S1 (own_w hw 21 rfl) d4_5 ?_
  show own_F p e below s Z _ _ _ _ _ (T1.setTop (mkF m 8 #[.val (.ref a1), .unset, .unset] [(.long (-7046029254386353131 : Int64)), (.long x0), (.ref a1)]))
  refine own_F.of (fun _ => XS.ladd S1.here S1.hx rfl (S1.dec d4_8) rfl) ?_
  show own_F p e below s Z _ _ _ _ _ (T1.setTop (mkF m 9 #[.val (.ref a1), .unset, .unset] [(.long (x0 + (-7046029254386353131 : Int64))), (.ref a1)]))
  refine own_putF S1 (host := "") (Or.inl (own_w hw 9 rfl)) Via.refl F_state E_a1 (Or.inl (own_w hw 10 rfl)) (own_w hw 1 rfl) (ty := .long) (by decide) rfl rfl d4_9 (Or.inl (List.mem_of_getElem? (i := 0) rfl)) (fun T2 h2 S2 W2 => ?_)
  have Fw2 := F_state.same W2
  show own_F p e below s Z _ _ _ _ _ (T2.setTop (mkF m 12 #[.val (.ref a1), .unset, .unset] []))
  refine own_F.of (fun _ => XS.aloadN S2.here S2.hx rfl (S2.dec d4_12) rfl rfl) ?_
  show own_F p e below s Z _ _ _ _ _ (T2.setTop (mkF m 13 #[.val (.ref a1), .unset, .unset] [(.ref a1)]))
  refine own_getF S2 (host := "") (Or.inl (own_w hw 9 rfl)) Via.refl Fw2 d4_13 (fun T3 S3 => ?_)
  show own_F p e below s Z _ _ _ _ _ (T3.setTop (mkF m 16 #[.val (.ref a1), .unset, .unset] [(.long (x0 + (-7046029254386353131 : Int64)))]))
  refine own_F.of (fun _ => XS.lstoreN S3.here S3.hx rfl (S3.dec d4_16) rfl (l' := #[.val (.ref a1), .val (.long (x0 + (-7046029254386353131 : Int64))), .second]) rfl) ?_
  show own_F p e below s Z _ _ _ _ _ (T3.setTop (mkF m 17 #[.val (.ref a1), .val (.long (x0 + (-7046029254386353131 : Int64))), .second] []))
  refine own_F.of (fun _ => XS.lloadN S3.here S3.hx rfl (S3.dec d4_17) rfl) ?_
  show own_F p e below s Z _ _ _ _ _ (T3.setTop (mkF m 18 #[.val (.ref a1), .val (.long (x0 + (-7046029254386353131 : Int64))), .second] [(.long (x0 + (-7046029254386353131 : Int64)))]))
  refine own_F.of (fun _ => XS.lloadN S3.here S3.hx rfl (S3.dec d4_18) rfl) ?_
  show own_F p e below s Z _ _ _ _ _ (T3.setTop (mkF m 19 #[.val (.ref a1), .val (.long (x0 + (-7046029254386353131 : Int64))), .second] [(.long (x0 + (-7046029254386353131 : Int64))), (.long (x0 + (-7046029254386353131 : Int64)))]))
  refine own_F.of (fun _ => XS.bipush S3.here S3.hx rfl (S3.dec d4_19)) ?_
  show own_F p e below s Z _ _ _ _ _ (T3.setTop (mkF m 21 #[.val (.ref a1), .val (.long (x0 + (-7046029254386353131 : Int64))), .second] [(.int (30 : Int32)), (.long (x0 + (-7046029254386353131 : Int64))), (.long (x0 + (-7046029254386353131 : Int64)))]))
  refine own_F.of (fun _ => XS.lushr S3.here S3.hx rfl (S3.dec d4_21) rfl) ?_
  show own_F p e below s Z _ _ _ _ _ (T3.setTop (mkF m 22 #[.val (.ref a1), .val (.long (x0 + (-7046029254386353131 : Int64))), .second] [(.long (((x0 + (-7046029254386353131 : Int64)).toUInt64 >>> ((30 : Int32) &&& 0x3f).toInt64.toUInt64).toInt64)), (.long (x0 + (-7046029254386353131 : Int64)))]))
  refine own_F.of (fun _ => XS.lxor S3.here S3.hx rfl (S3.dec d4_22) rfl) ?_
  show own_F p e below s Z _ _ _ _ _ (T3.setTop (mkF m 23 #[.val (.ref a1), .val (.long (x0 + (-7046029254386353131 : Int64))), .second] [(.long ((x0 + (-7046029254386353131 : Int64)) ^^^ (((x0 + (-7046029254386353131 : Int64)).toUInt64 >>> ((30 : Int32) &&& 0x3f).toInt64.toUInt64).toInt64)))]))
  refine own_ldcJ S3 (own_w hw 22 rfl) d4_23 ?_
  show own_F p e below s Z _ _ _ _ _ (T3.setTop (mkF m 26 #[.val (.ref a1), .val (.long (x0 + (-7046029254386353131 : Int64))), .second] [(.long (-4658895280553007687 : Int64)), (.long ((x0 + (-7046029254386353131 : Int64)) ^^^ (((x0 + (-7046029254386353131 : Int64)).toUInt64 >>> ((30 : Int32) &&& 0x3f).toInt64.toUInt64).toInt64)))]))
  refine own_F.of (fun _ => XS.lmul S3.here S3.hx rfl (S3.dec d4_26) rfl) ?_
  show own_F p e below s Z _ _ _ _ _ (T3.setTop (mkF m 27 #[.val (.ref a1), .val (.long (x0 + (-7046029254386353131 : Int64))), .second] [(.long (((x0 + (-7046029254386353131 : Int64)) ^^^ (((x0 + (-7046029254386353131 : Int64)).toUInt64 >>> ((30 : Int32) &&& 0x3f).toInt64.toUInt64).toInt64)) * (-4658895280553007687 : Int64)))]))
  refine own_F.of (fun _ => XS.lstoreN S3.here S3.hx rfl (S3.dec d4_27) rfl (l' := #[.val (.ref a1), .val (.long (((x0 + (-7046029254386353131 : Int64)) ^^^ (((x0 + (-7046029254386353131 : Int64)).toUInt64 >>> ((30 : Int32) &&& 0x3f).toInt64.toUInt64).toInt64)) * (-4658895280553007687 : Int64))), .second]) rfl) ?_
  show own_F p e below s Z _ _ _ _ _ (T3.setTop (mkF m 28 #[.val (.ref a1), .val (.long (((x0 + (-7046029254386353131 : Int64)) ^^^ (((x0 + (-7046029254386353131 : Int64)).toUInt64 >>> ((30 : Int32) &&& 0x3f).toInt64.toUInt64).toInt64)) * (-4658895280553007687 : Int64))), .second] []))
  refine own_F.of (fun _ => XS.lloadN S3.here S3.hx rfl (S3.dec d4_28) rfl) ?_
  show own_F p e below s Z _ _ _ _ _ (T3.setTop (mkF m 29 #[.val (.ref a1), .val (.long (((x0 + (-7046029254386353131 : Int64)) ^^^ (((x0 + (-7046029254386353131 : Int64)).toUInt64 >>> ((30 : Int32) &&& 0x3f).toInt64.toUInt64).toInt64)) * (-4658895280553007687 : Int64))), .second] [(.long (((x0 + (-7046029254386353131 : Int64)) ^^^ (((x0 + (-7046029254386353131 : Int64)).toUInt64 >>> ((30 : Int32) &&& 0x3f).toInt64.toUInt64).toInt64)) * (-4658895280553007687 : Int64)))]))
  refine own_F.of (fun _ => XS.lloadN S3.here S3.hx rfl (S3.dec d4_29) rfl) ?_
  show own_F p e below s Z _ _ _ _ _ (T3.setTop (mkF m 30 #[.val (.ref a1), .val (.long (((x0 + (-7046029254386353131 : Int64)) ^^^ (((x0 + (-7046029254386353131 : Int64)).toUInt64 >>> ((30 : Int32) &&& 0x3f).toInt64.toUInt64).toInt64)) * (-4658895280553007687 : Int64))), .second] [(.long (((x0 + (-7046029254386353131 : Int64)) ^^^ (((x0 + (-7046029254386353131 : Int64)).toUInt64 >>> ((30 : Int32) &&& 0x3f).toInt64.toUInt64).toInt64)) * (-4658895280553007687 : Int64))), (.long (((x0 + (-7046029254386353131 : Int64)) ^^^ (((x0 + (-7046029254386353131 : Int64)).toUInt64 >>> ((30 : Int32) &&& 0x3f).toInt64.toUInt64).toInt64)) * (-4658895280553007687 : Int64)))]))
  refine own_F.of (fun _ => XS.bipush S3.here S3.hx rfl (S3.dec d4_30)) ?_
  show own_F p e below s Z _ _ _ _ _ (T3.setTop (mkF m 32 #[.val (.ref a1), .val (.long (((x0 + (-7046029254386353131 : Int64)) ^^^ (((x0 + (-7046029254386353131 : Int64)).toUInt64 >>> ((30 : Int32) &&& 0x3f).toInt64.toUInt64).toInt64)) * (-4658895280553007687 : Int64))), .second] [(.int (27 : Int32)), (.long (((x0 + (-7046029254386353131 : Int64)) ^^^ (((x0 + (-7046029254386353131 : Int64)).toUInt64 >>> ((30 : Int32) &&& 0x3f).toInt64.toUInt64).toInt64)) * (-4658895280553007687 : Int64))), (.long (((x0 + (-7046029254386353131 : Int64)) ^^^ (((x0 + (-7046029254386353131 : Int64)).toUInt64 >>> ((30 : Int32) &&& 0x3f).toInt64.toUInt64).toInt64)) * (-4658895280553007687 : Int64)))]))
  refine own_F.of (fun _ => XS.lushr S3.here S3.hx rfl (S3.dec d4_32) rfl) ?_
  show own_F p e below s Z _ _ _ _ _ (T3.setTop (mkF m 33 #[.val (.ref a1), .val (.long (((x0 + (-7046029254386353131 : Int64)) ^^^ (((x0 + (-7046029254386353131 : Int64)).toUInt64 >>> ((30 : Int32) &&& 0x3f).toInt64.toUInt64).toInt64)) * (-4658895280553007687 : Int64))), .second] [(.long (((((x0 + (-7046029254386353131 : Int64)) ^^^ (((x0 + (-7046029254386353131 : Int64)).toUInt64 >>> ((30 : Int32) &&& 0x3f).toInt64.toUInt64).toInt64)) * (-4658895280553007687 : Int64)).toUInt64 >>> ((27 : Int32) &&& 0x3f).toInt64.toUInt64).toInt64)), (.long (((x0 + (-7046029254386353131 : Int64)) ^^^ (((x0 + (-7046029254386353131 : Int64)).toUInt64 >>> ((30 : Int32) &&& 0x3f).toInt64.toUInt64).toInt64)) * (-4658895280553007687 : Int64)))]))
  refine own_F.of (fun _ => XS.lxor S3.here S3.hx rfl (S3.dec d4_33) rfl) ?_
  show own_F p e below s Z _ _ _ _ _ (T3.setTop (mkF m 34 #[.val (.ref a1), .val (.long (((x0 + (-7046029254386353131 : Int64)) ^^^ (((x0 + (-7046029254386353131 : Int64)).toUInt64 >>> ((30 : Int32) &&& 0x3f).toInt64.toUInt64).toInt64)) * (-4658895280553007687 : Int64))), .second] [(.long ((((x0 + (-7046029254386353131 : Int64)) ^^^ (((x0 + (-7046029254386353131 : Int64)).toUInt64 >>> ((30 : Int32) &&& 0x3f).toInt64.toUInt64).toInt64)) * (-4658895280553007687 : Int64)) ^^^ (((((x0 + (-7046029254386353131 : Int64)) ^^^ (((x0 + (-7046029254386353131 : Int64)).toUInt64 >>> ((30 : Int32) &&& 0x3f).toInt64.toUInt64).toInt64)) * (-4658895280553007687 : Int64)).toUInt64 >>> ((27 : Int32) &&& 0x3f).toInt64.toUInt64).toInt64)))]))
  refine own_ldcJ S3 (own_w hw 23 rfl) d4_34 ?_
  show own_F p e below s Z _ _ _ _ _ (T3.setTop (mkF m 37 #[.val (.ref a1), .val (.long (((x0 + (-7046029254386353131 : Int64)) ^^^ (((x0 + (-7046029254386353131 : Int64)).toUInt64 >>> ((30 : Int32) &&& 0x3f).toInt64.toUInt64).toInt64)) * (-4658895280553007687 : Int64))), .second] [(.long (-7723592293110705685 : Int64)), (.long ((((x0 + (-7046029254386353131 : Int64)) ^^^ (((x0 + (-7046029254386353131 : Int64)).toUInt64 >>> ((30 : Int32) &&& 0x3f).toInt64.toUInt64).toInt64)) * (-4658895280553007687 : Int64)) ^^^ (((((x0 + (-7046029254386353131 : Int64)) ^^^ (((x0 + (-7046029254386353131 : Int64)).toUInt64 >>> ((30 : Int32) &&& 0x3f).toInt64.toUInt64).toInt64)) * (-4658895280553007687 : Int64)).toUInt64 >>> ((27 : Int32) &&& 0x3f).toInt64.toUInt64).toInt64)))]))
  refine own_F.of (fun _ => XS.lmul S3.here S3.hx rfl (S3.dec d4_37) rfl) ?_
  show own_F p e below s Z _ _ _ _ _ (T3.setTop (mkF m 38 #[.val (.ref a1), .val (.long (((x0 + (-7046029254386353131 : Int64)) ^^^ (((x0 + (-7046029254386353131 : Int64)).toUInt64 >>> ((30 : Int32) &&& 0x3f).toInt64.toUInt64).toInt64)) * (-4658895280553007687 : Int64))), .second] [(.long (((((x0 + (-7046029254386353131 : Int64)) ^^^ (((x0 + (-7046029254386353131 : Int64)).toUInt64 >>> ((30 : Int32) &&& 0x3f).toInt64.toUInt64).toInt64)) * (-4658895280553007687 : Int64)) ^^^ (((((x0 + (-7046029254386353131 : Int64)) ^^^ (((x0 + (-7046029254386353131 : Int64)).toUInt64 >>> ((30 : Int32) &&& 0x3f).toInt64.toUInt64).toInt64)) * (-4658895280553007687 : Int64)).toUInt64 >>> ((27 : Int32) &&& 0x3f).toInt64.toUInt64).toInt64)) * (-7723592293110705685 : Int64)))]))
  refine own_F.of (fun _ => XS.lstoreN S3.here S3.hx rfl (S3.dec d4_38) rfl (l' := #[.val (.ref a1), .val (.long (((((x0 + (-7046029254386353131 : Int64)) ^^^ (((x0 + (-7046029254386353131 : Int64)).toUInt64 >>> ((30 : Int32) &&& 0x3f).toInt64.toUInt64).toInt64)) * (-4658895280553007687 : Int64)) ^^^ (((((x0 + (-7046029254386353131 : Int64)) ^^^ (((x0 + (-7046029254386353131 : Int64)).toUInt64 >>> ((30 : Int32) &&& 0x3f).toInt64.toUInt64).toInt64)) * (-4658895280553007687 : Int64)).toUInt64 >>> ((27 : Int32) &&& 0x3f).toInt64.toUInt64).toInt64)) * (-7723592293110705685 : Int64))), .second]) rfl) ?_
  show own_F p e below s Z _ _ _ _ _ (T3.setTop (mkF m 39 #[.val (.ref a1), .val (.long (((((x0 + (-7046029254386353131 : Int64)) ^^^ (((x0 + (-7046029254386353131 : Int64)).toUInt64 >>> ((30 : Int32) &&& 0x3f).toInt64.toUInt64).toInt64)) * (-4658895280553007687 : Int64)) ^^^ (((((x0 + (-7046029254386353131 : Int64)) ^^^ (((x0 + (-7046029254386353131 : Int64)).toUInt64 >>> ((30 : Int32) &&& 0x3f).toInt64.toUInt64).toInt64)) * (-4658895280553007687 : Int64)).toUInt64 >>> ((27 : Int32) &&& 0x3f).toInt64.toUInt64).toInt64)) * (-7723592293110705685 : Int64))), .second] []))
  refine own_F.of (fun _ => XS.lloadN S3.here S3.hx rfl (S3.dec d4_39) rfl) ?_
  show own_F p e below s Z _ _ _ _ _ (T3.setTop (mkF m 40 #[.val (.ref a1), .val (.long (((((x0 + (-7046029254386353131 : Int64)) ^^^ (((x0 + (-7046029254386353131 : Int64)).toUInt64 >>> ((30 : Int32) &&& 0x3f).toInt64.toUInt64).toInt64)) * (-4658895280553007687 : Int64)) ^^^ (((((x0 + (-7046029254386353131 : Int64)) ^^^ (((x0 + (-7046029254386353131 : Int64)).toUInt64 >>> ((30 : Int32) &&& 0x3f).toInt64.toUInt64).toInt64)) * (-4658895280553007687 : Int64)).toUInt64 >>> ((27 : Int32) &&& 0x3f).toInt64.toUInt64).toInt64)) * (-7723592293110705685 : Int64))), .second] [(.long (((((x0 + (-7046029254386353131 : Int64)) ^^^ (((x0 + (-7046029254386353131 : Int64)).toUInt64 >>> ((30 : Int32) &&& 0x3f).toInt64.toUInt64).toInt64)) * (-4658895280553007687 : Int64)) ^^^ (((((x0 + (-7046029254386353131 : Int64)) ^^^ (((x0 + (-7046029254386353131 : Int64)).toUInt64 >>> ((30 : Int32) &&& 0x3f).toInt64.toUInt64).toInt64)) * (-4658895280553007687 : Int64)).toUInt64 >>> ((27 : Int32) &&& 0x3f).toInt64.toUInt64).toInt64)) * (-7723592293110705685 : Int64)))]))
  refine own_F.of (fun _ => XS.lloadN S3.here S3.hx rfl (S3.dec d4_40) rfl) ?_
  show own_F p e below s Z _ _ _ _ _ (T3.setTop (mkF m 41 #[.val (.ref a1), .val (.long (((((x0 + (-7046029254386353131 : Int64)) ^^^ (((x0 + (-7046029254386353131 : Int64)).toUInt64 >>> ((30 : Int32) &&& 0x3f).toInt64.toUInt64).toInt64)) * (-4658895280553007687 : Int64)) ^^^ (((((x0 + (-7046029254386353131 : Int64)) ^^^ (((x0 + (-7046029254386353131 : Int64)).toUInt64 >>> ((30 : Int32) &&& 0x3f).toInt64.toUInt64).toInt64)) * (-4658895280553007687 : Int64)).toUInt64 >>> ((27 : Int32) &&& 0x3f).toInt64.toUInt64).toInt64)) * (-7723592293110705685 : Int64))), .second] [(.long (((((x0 + (-7046029254386353131 : Int64)) ^^^ (((x0 + (-7046029254386353131 : Int64)).toUInt64 >>> ((30 : Int32) &&& 0x3f).toInt64.toUInt64).toInt64)) * (-4658895280553007687 : Int64)) ^^^ (((((x0 + (-7046029254386353131 : Int64)) ^^^ (((x0 + (-7046029254386353131 : Int64)).toUInt64 >>> ((30 : Int32) &&& 0x3f).toInt64.toUInt64).toInt64)) * (-4658895280553007687 : Int64)).toUInt64 >>> ((27 : Int32) &&& 0x3f).toInt64.toUInt64).toInt64)) * (-7723592293110705685 : Int64))), (.long (((((x0 + (-7046029254386353131 : Int64)) ^^^ (((x0 + (-7046029254386353131 : Int64)).toUInt64 >>> ((30 : Int32) &&& 0x3f).toInt64.toUInt64).toInt64)) * (-4658895280553007687 : Int64)) ^^^ (((((x0 + (-7046029254386353131 : Int64)) ^^^ (((x0 + (-7046029254386353131 : Int64)).toUInt64 >>> ((30 : Int32) &&& 0x3f).toInt64.toUInt64).toInt64)) * (-4658895280553007687 : Int64)).toUInt64 >>> ((27 : Int32) &&& 0x3f).toInt64.toUInt64).toInt64)) * (-7723592293110705685 : Int64)))]))
  refine own_F.of (fun _ => XS.bipush S3.here S3.hx rfl (S3.dec d4_41)) ?_
  show own_F p e below s Z _ _ _ _ _ (T3.setTop (mkF m 43 #[.val (.ref a1), .val (.long (((((x0 + (-7046029254386353131 : Int64)) ^^^ (((x0 + (-7046029254386353131 : Int64)).toUInt64 >>> ((30 : Int32) &&& 0x3f).toInt64.toUInt64).toInt64)) * (-4658895280553007687 : Int64)) ^^^ (((((x0 + (-7046029254386353131 : Int64)) ^^^ (((x0 + (-7046029254386353131 : Int64)).toUInt64 >>> ((30 : Int32) &&& 0x3f).toInt64.toUInt64).toInt64)) * (-4658895280553007687 : Int64)).toUInt64 >>> ((27 : Int32) &&& 0x3f).toInt64.toUInt64).toInt64)) * (-7723592293110705685 : Int64))), .second] [(.int (31 : Int32)), (.long (((((x0 + (-7046029254386353131 : Int64)) ^^^ (((x0 + (-7046029254386353131 : Int64)).toUInt64 >>> ((30 : Int32) &&& 0x3f).toInt64.toUInt64).toInt64)) * (-4658895280553007687 : Int64)) ^^^ (((((x0 + (-7046029254386353131 : Int64)) ^^^ (((x0 + (-7046029254386353131 : Int64)).toUInt64 >>> ((30 : Int32) &&& 0x3f).toInt64.toUInt64).toInt64)) * (-4658895280553007687 : Int64)).toUInt64 >>> ((27 : Int32) &&& 0x3f).toInt64.toUInt64).toInt64)) * (-7723592293110705685 : Int64))), (.long (((((x0 + (-7046029254386353131 : Int64)) ^^^ (((x0 + (-7046029254386353131 : Int64)).toUInt64 >>> ((30 : Int32) &&& 0x3f).toInt64.toUInt64).toInt64)) * (-4658895280553007687 : Int64)) ^^^ (((((x0 + (-7046029254386353131 : Int64)) ^^^ (((x0 + (-7046029254386353131 : Int64)).toUInt64 >>> ((30 : Int32) &&& 0x3f).toInt64.toUInt64).toInt64)) * (-4658895280553007687 : Int64)).toUInt64 >>> ((27 : Int32) &&& 0x3f).toInt64.toUInt64).toInt64)) * (-7723592293110705685 : Int64)))]))
  refine own_F.of (fun _ => XS.lushr S3.here S3.hx rfl (S3.dec d4_43) rfl) ?_
  show own_F p e below s Z _ _ _ _ _ (T3.setTop (mkF m 44 #[.val (.ref a1), .val (.long (((((x0 + (-7046029254386353131 : Int64)) ^^^ (((x0 + (-7046029254386353131 : Int64)).toUInt64 >>> ((30 : Int32) &&& 0x3f).toInt64.toUInt64).toInt64)) * (-4658895280553007687 : Int64)) ^^^ (((((x0 + (-7046029254386353131 : Int64)) ^^^ (((x0 + (-7046029254386353131 : Int64)).toUInt64 >>> ((30 : Int32) &&& 0x3f).toInt64.toUInt64).toInt64)) * (-4658895280553007687 : Int64)).toUInt64 >>> ((27 : Int32) &&& 0x3f).toInt64.toUInt64).toInt64)) * (-7723592293110705685 : Int64))), .second] [(.long (((((((x0 + (-7046029254386353131 : Int64)) ^^^ (((x0 + (-7046029254386353131 : Int64)).toUInt64 >>> ((30 : Int32) &&& 0x3f).toInt64.toUInt64).toInt64)) * (-4658895280553007687 : Int64)) ^^^ (((((x0 + (-7046029254386353131 : Int64)) ^^^ (((x0 + (-7046029254386353131 : Int64)).toUInt64 >>> ((30 : Int32) &&& 0x3f).toInt64.toUInt64).toInt64)) * (-4658895280553007687 : Int64)).toUInt64 >>> ((27 : Int32) &&& 0x3f).toInt64.toUInt64).toInt64)) * (-7723592293110705685 : Int64)).toUInt64 >>> ((31 : Int32) &&& 0x3f).toInt64.toUInt64).toInt64)), (.long (((((x0 + (-7046029254386353131 : Int64)) ^^^ (((x0 + (-7046029254386353131 : Int64)).toUInt64 >>> ((30 : Int32) &&& 0x3f).toInt64.toUInt64).toInt64)) * (-4658895280553007687 : Int64)) ^^^ (((((x0 + (-7046029254386353131 : Int64)) ^^^ (((x0 + (-7046029254386353131 : Int64)).toUInt64 >>> ((30 : Int32) &&& 0x3f).toInt64.toUInt64).toInt64)) * (-4658895280553007687 : Int64)).toUInt64 >>> ((27 : Int32) &&& 0x3f).toInt64.toUInt64).toInt64)) * (-7723592293110705685 : Int64)))]))
  refine own_F.of (fun _ => XS.lxor S3.here S3.hx rfl (S3.dec d4_44) rfl) ?_
  show own_F p e below s Z _ _ _ _ _ (T3.setTop (mkF m 45 #[.val (.ref a1), .val (.long (((((x0 + (-7046029254386353131 : Int64)) ^^^ (((x0 + (-7046029254386353131 : Int64)).toUInt64 >>> ((30 : Int32) &&& 0x3f).toInt64.toUInt64).toInt64)) * (-4658895280553007687 : Int64)) ^^^ (((((x0 + (-7046029254386353131 : Int64)) ^^^ (((x0 + (-7046029254386353131 : Int64)).toUInt64 >>> ((30 : Int32) &&& 0x3f).toInt64.toUInt64).toInt64)) * (-4658895280553007687 : Int64)).toUInt64 >>> ((27 : Int32) &&& 0x3f).toInt64.toUInt64).toInt64)) * (-7723592293110705685 : Int64))), .second] [(.long ((((((x0 + (-7046029254386353131 : Int64)) ^^^ (((x0 + (-7046029254386353131 : Int64)).toUInt64 >>> ((30 : Int32) &&& 0x3f).toInt64.toUInt64).toInt64)) * (-4658895280553007687 : Int64)) ^^^ (((((x0 + (-7046029254386353131 : Int64)) ^^^ (((x0 + (-7046029254386353131 : Int64)).toUInt64 >>> ((30 : Int32) &&& 0x3f).toInt64.toUInt64).toInt64)) * (-4658895280553007687 : Int64)).toUInt64 >>> ((27 : Int32) &&& 0x3f).toInt64.toUInt64).toInt64)) * (-7723592293110705685 : Int64)) ^^^ (((((((x0 + (-7046029254386353131 : Int64)) ^^^ (((x0 + (-7046029254386353131 : Int64)).toUInt64 >>> ((30 : Int32) &&& 0x3f).toInt64.toUInt64).toInt64)) * (-4658895280553007687 : Int64)) ^^^ (((((x0 + (-7046029254386353131 : Int64)) ^^^ (((x0 + (-7046029254386353131 : Int64)).toUInt64 >>> ((30 : Int32) &&& 0x3f).toInt64.toUInt64).toInt64)) * (-4658895280553007687 : Int64)).toUInt64 >>> ((27 : Int32) &&& 0x3f).toInt64.toUInt64).toInt64)) * (-7723592293110705685 : Int64)).toUInt64 >>> ((31 : Int32) &&& 0x3f).toInt64.toUInt64).toInt64)))]))
  refine own_F.of (fun _ => XS.iconst S3.here S3.hx rfl (S3.dec d4_45)) ?_
  show own_F p e below s Z _ _ _ _ _ (T3.setTop (mkF m 46 #[.val (.ref a1), .val (.long (((((x0 + (-7046029254386353131 : Int64)) ^^^ (((x0 + (-7046029254386353131 : Int64)).toUInt64 >>> ((30 : Int32) &&& 0x3f).toInt64.toUInt64).toInt64)) * (-4658895280553007687 : Int64)) ^^^ (((((x0 + (-7046029254386353131 : Int64)) ^^^ (((x0 + (-7046029254386353131 : Int64)).toUInt64 >>> ((30 : Int32) &&& 0x3f).toInt64.toUInt64).toInt64)) * (-4658895280553007687 : Int64)).toUInt64 >>> ((27 : Int32) &&& 0x3f).toInt64.toUInt64).toInt64)) * (-7723592293110705685 : Int64))), .second] [(.int (1 : Int32)), (.long ((((((x0 + (-7046029254386353131 : Int64)) ^^^ (((x0 + (-7046029254386353131 : Int64)).toUInt64 >>> ((30 : Int32) &&& 0x3f).toInt64.toUInt64).toInt64)) * (-4658895280553007687 : Int64)) ^^^ (((((x0 + (-7046029254386353131 : Int64)) ^^^ (((x0 + (-7046029254386353131 : Int64)).toUInt64 >>> ((30 : Int32) &&& 0x3f).toInt64.toUInt64).toInt64)) * (-4658895280553007687 : Int64)).toUInt64 >>> ((27 : Int32) &&& 0x3f).toInt64.toUInt64).toInt64)) * (-7723592293110705685 : Int64)) ^^^ (((((((x0 + (-7046029254386353131 : Int64)) ^^^ (((x0 + (-7046029254386353131 : Int64)).toUInt64 >>> ((30 : Int32) &&& 0x3f).toInt64.toUInt64).toInt64)) * (-4658895280553007687 : Int64)) ^^^ (((((x0 + (-7046029254386353131 : Int64)) ^^^ (((x0 + (-7046029254386353131 : Int64)).toUInt64 >>> ((30 : Int32) &&& 0x3f).toInt64.toUInt64).toInt64)) * (-4658895280553007687 : Int64)).toUInt64 >>> ((27 : Int32) &&& 0x3f).toInt64.toUInt64).toInt64)) * (-7723592293110705685 : Int64)).toUInt64 >>> ((31 : Int32) &&& 0x3f).toInt64.toUInt64).toInt64)))]))
  refine own_F.of (fun _ => XS.lushr S3.here S3.hx rfl (S3.dec d4_46) rfl) ?_
  show own_F p e below s Z _ _ _ _ _ (T3.setTop (mkF m 47 #[.val (.ref a1), .val (.long (((((x0 + (-7046029254386353131 : Int64)) ^^^ (((x0 + (-7046029254386353131 : Int64)).toUInt64 >>> ((30 : Int32) &&& 0x3f).toInt64.toUInt64).toInt64)) * (-4658895280553007687 : Int64)) ^^^ (((((x0 + (-7046029254386353131 : Int64)) ^^^ (((x0 + (-7046029254386353131 : Int64)).toUInt64 >>> ((30 : Int32) &&& 0x3f).toInt64.toUInt64).toInt64)) * (-4658895280553007687 : Int64)).toUInt64 >>> ((27 : Int32) &&& 0x3f).toInt64.toUInt64).toInt64)) * (-7723592293110705685 : Int64))), .second] [(.long ((((((((x0 + (-7046029254386353131 : Int64)) ^^^ (((x0 + (-7046029254386353131 : Int64)).toUInt64 >>> ((30 : Int32) &&& 0x3f).toInt64.toUInt64).toInt64)) * (-4658895280553007687 : Int64)) ^^^ (((((x0 + (-7046029254386353131 : Int64)) ^^^ (((x0 + (-7046029254386353131 : Int64)).toUInt64 >>> ((30 : Int32) &&& 0x3f).toInt64.toUInt64).toInt64)) * (-4658895280553007687 : Int64)).toUInt64 >>> ((27 : Int32) &&& 0x3f).toInt64.toUInt64).toInt64)) * (-7723592293110705685 : Int64)) ^^^ (((((((x0 + (-7046029254386353131 : Int64)) ^^^ (((x0 + (-7046029254386353131 : Int64)).toUInt64 >>> ((30 : Int32) &&& 0x3f).toInt64.toUInt64).toInt64)) * (-4658895280553007687 : Int64)) ^^^ (((((x0 + (-7046029254386353131 : Int64)) ^^^ (((x0 + (-7046029254386353131 : Int64)).toUInt64 >>> ((30 : Int32) &&& 0x3f).toInt64.toUInt64).toInt64)) * (-4658895280553007687 : Int64)).toUInt64 >>> ((27 : Int32) &&& 0x3f).toInt64.toUInt64).toInt64)) * (-7723592293110705685 : Int64)).toUInt64 >>> ((31 : Int32) &&& 0x3f).toInt64.toUInt64).toInt64)).toUInt64 >>> ((1 : Int32) &&& 0x3f).toInt64.toUInt64).toInt64))]))
  refine own_retJ S3 d4_47 (by decide) (by decide) ?_
  exact ⟨rfl, Fw2⟩
theorem d3_0 : decode prog_88_method_4_code 0 = .ok (.aload_n 0, 1) := by decide +kernel
theorem d3_1 : decode prog_88_method_4_code 1 = .ok (.invokevirtual 26, 3) := by decide +kernel
theorem d3_4 : decode prog_88_method_4_code 4 = .ok (.bipush 10, 2) := by decide +kernel
theorem d3_6 : decode prog_88_method_4_code 6 = .ok (.lushr, 1) := by decide +kernel
theorem d3_7 : decode prog_88_method_4_code 7 = .ok (.l2d, 1) := by decide +kernel
theorem d3_8 : decode prog_88_method_4_code 8 = .ok (.ldc2_w 34, 3) := by decide +kernel
theorem d3_11 : decode prog_88_method_4_code 11 = .ok (.dmul, 1) := by decide +kernel
theorem d3_12 : decode prog_88_method_4_code 12 = .ok (.dreturn, 1) := by decide +kernel
theorem pn3 : plainFor (⟨"com/example/slackweave/slackweave/random/Draws", "fraction", "()D"⟩ : MethodName) = true := plainFor_of_name (by first | (simp [plainName, overriddenIn]; done) | decide +kernel)
set_option maxRecDepth 65536 in
set_option maxHeartbeats 40000000 in
theorem own_frac (l : Launch) (Z : State) (a0 : Array Value) (hw : ∀ d ∈ tables_1, d.before a0 Z = true) (a1 : Addr) (x0 : Int64) (h0 : Heap) (hO : Ext Z.heap h0) (ga : Z.heap.size ≤ a1) (E_a1 : Exa Z h0 a1 "com/example/slackweave/slackweave/random/Draws") (F_state : Fld Z h0 a1 "com/example/slackweave/slackweave/random/Draws" "state" "J" (.long x0)) :
    own_C l Z (⟨"com/example/slackweave/slackweave/random/Draws", "fraction", "()D"⟩ : MethodName) prog_88_method_4_code 1 (some .double) [] ({ frames := 1, cells := 0, slots := 0, locals := 14 } : Room) [a1] #[(.ref a1)] h0 (fun v h => v = some (.double (own_fr (own_n63 (x0 + (-7046029254386353131 : Int64))))) ∧ Fld Z h a1 "com/example/slackweave/slackweave/random/Draws" "state" "J" (.long (x0 + (-7046029254386353131 : Int64)))) := by
  refine own_C.of pn3 hO (allS ga all0) ?_
  intro p e s m below meth c T0 S0
  refine own_F.cast (by first | (simp [entryFrame, mkF, argsToLocals, Value.category]; done) | rfl : entryFrame m #[(.ref a1)] 1 = mkF m 0 #[.val (.ref a1)] []) ?_
  show own_F p e below s Z _ _ _ _ _ (T0.setTop (mkF m 0 #[.val (.ref a1)] []))
  refine own_F.of (fun _ => XS.aloadN S0.here S0.hx rfl (S0.dec d3_0) rfl rfl) ?_
  show own_F p e below s Z _ _ _ _ _ (T0.setTop (mkF m 1 #[.val (.ref a1)] [(.ref a1)]))
  refine own_callP S0 (y := (⟨"com/example/slackweave/slackweave/random/Draws", "next63", "()J"⟩ : MethodName)) (own_w hw 17 rfl) (own_w hw 18 rfl) (own_w hw 1 rfl) (own_w hw 19 rfl) (own_w hw 20 rfl) (own_w hw 2 rfl) (by decide) E_a1 (argsL := []) (rest := []) (own_next l Z a0 hw a1 x0 h0 S0.old ga E_a1 F_state) (allS (Or.inl (List.mem_of_getElem? (i := 0) rfl)) all0) (by decide +kernel : parseMethodDescriptor "()J" = some ⟨[], some .long⟩) rfl rfl rfl d3_1 (by decide) (Nat.le_of_ble_eq_true rfl) (by decide) (by decide) (fun T1 h1 v1 S1 K1 q1 => ?_)
  obtain ⟨rfl, F1⟩ := q1
  show own_F p e below s Z _ _ _ _ _ (T1.setTop (mkF m 4 #[.val (.ref a1)] [(.long (own_n63 (x0 + (-7046029254386353131 : Int64))))]))
  refine own_F.of (fun _ => XS.bipush S1.here S1.hx rfl (S1.dec d3_4)) ?_
  show own_F p e below s Z _ _ _ _ _ (T1.setTop (mkF m 6 #[.val (.ref a1)] [(.int (10 : Int32)), (.long (own_n63 (x0 + (-7046029254386353131 : Int64))))]))
  refine own_F.of (fun _ => XS.lushr S1.here S1.hx rfl (S1.dec d3_6) rfl) ?_
  show own_F p e below s Z _ _ _ _ _ (T1.setTop (mkF m 7 #[.val (.ref a1)] [(.long (((own_n63 (x0 + (-7046029254386353131 : Int64))).toUInt64 >>> ((10 : Int32) &&& 0x3f).toInt64.toUInt64).toInt64))]))
  refine own_F.of (fun _ => XS.l2dS S1.here S1.hx rfl (S1.dec d3_7) rfl rfl) ?_
  show own_F p e below s Z _ _ _ _ _ (T1.setTop (mkF m 8 #[.val (.ref a1)] [(.double (FP.l2d (((own_n63 (x0 + (-7046029254386353131 : Int64))).toUInt64 >>> ((10 : Int32) &&& 0x3f).toInt64.toUInt64).toInt64)))]))
  refine own_ldcD S1 (own_w hw 24 rfl) d3_8 ?_
  show own_F p e below s Z _ _ _ _ _ (T1.setTop (mkF m 11 #[.val (.ref a1)] [(.double (4368491638549381120 : UInt64)), (.double (FP.l2d (((own_n63 (x0 + (-7046029254386353131 : Int64))).toUInt64 >>> ((10 : Int32) &&& 0x3f).toInt64.toUInt64).toInt64)))]))
  refine own_F.of (fun _ => XS.dmulS S1.here S1.hx rfl (S1.dec d3_11) rfl (own_nn _) rfl) ?_
  show own_F p e below s Z _ _ _ _ _ (T1.setTop (mkF m 12 #[.val (.ref a1)] [(.double (FP.dmul (FP.l2d (((own_n63 (x0 + (-7046029254386353131 : Int64))).toUInt64 >>> ((10 : Int32) &&& 0x3f).toInt64.toUInt64).toInt64)) (4368491638549381120 : UInt64)))]))
  refine own_retD S1 d3_12 (by decide) (by decide) ?_
  exact ⟨rfl, F1⟩
theorem d5_0 : decode prog_88_method_2_code 0 = .ok (.lload_n 3, 1) := by decide +kernel
theorem d5_1 : decode prog_88_method_2_code 1 = .ok (.lload_n 1, 1) := by decide +kernel
theorem d5_2 : decode prog_88_method_2_code 2 = .ok (.lsub, 1) := by decide +kernel
theorem d5_3 : decode prog_88_method_2_code 3 = .ok (.lconst 1, 1) := by decide +kernel
theorem d5_4 : decode prog_88_method_2_code 4 = .ok (.ladd, 1) := by decide +kernel
theorem d5_5 : decode prog_88_method_2_code 5 = .ok (.lstore 5, 2) := by decide +kernel
theorem d5_7 : decode prog_88_method_2_code 7 = .ok (.lload_n 1, 1) := by decide +kernel
theorem d5_8 : decode prog_88_method_2_code 8 = .ok (.lload_n 3, 1) := by decide +kernel
theorem d5_9 : decode prog_88_method_2_code 9 = .ok (.lcmp, 1) := by decide +kernel
theorem d5_10 : decode prog_88_method_2_code 10 = .ok (.ifCond .gt 10, 3) := by decide +kernel
theorem d5_13 : decode prog_88_method_2_code 13 = .ok (.lload 5, 2) := by decide +kernel
theorem d5_15 : decode prog_88_method_2_code 15 = .ok (.lconst 0, 1) := by decide +kernel
theorem d5_16 : decode prog_88_method_2_code 16 = .ok (.lcmp, 1) := by decide +kernel
theorem d5_17 : decode prog_88_method_2_code 17 = .ok (.ifCond .gt 18, 3) := by decide +kernel
theorem d5_20 : decode prog_88_method_2_code 20 = .ok (.new 13, 3) := by decide +kernel
theorem d5_23 : decode prog_88_method_2_code 23 = .ok (.dup, 1) := by decide +kernel
theorem d5_24 : decode prog_88_method_2_code 24 = .ok (.lload_n 1, 1) := by decide +kernel
theorem d5_25 : decode prog_88_method_2_code 25 = .ok (.lload_n 3, 1) := by decide +kernel
theorem d5_26 : decode prog_88_method_2_code 26 = .ok (.invokedynamic 15, 5) := by decide +kernel
theorem d5_31 : decode prog_88_method_2_code 31 = .ok (.invokespecial 19, 3) := by decide +kernel
theorem d5_34 : decode prog_88_method_2_code 34 = .ok (.athrow, 1) := by decide +kernel
theorem d5_35 : decode prog_88_method_2_code 35 = .ok (.ldc2_w 24, 3) := by decide +kernel
theorem d5_38 : decode prog_88_method_2_code 38 = .ok (.lload 5, 2) := by decide +kernel
theorem d5_40 : decode prog_88_method_2_code 40 = .ok (.lrem, 1) := by decide +kernel
theorem d5_41 : decode prog_88_method_2_code 41 = .ok (.lconst 1, 1) := by decide +kernel
theorem d5_42 : decode prog_88_method_2_code 42 = .ok (.ladd, 1) := by decide +kernel
theorem d5_43 : decode prog_88_method_2_code 43 = .ok (.lload 5, 2) := by decide +kernel
theorem d5_45 : decode prog_88_method_2_code 45 = .ok (.lrem, 1) := by decide +kernel
theorem d5_46 : decode prog_88_method_2_code 46 = .ok (.lstore 7, 2) := by decide +kernel
theorem d5_48 : decode prog_88_method_2_code 48 = .ok (.aload_n 0, 1) := by decide +kernel
theorem d5_49 : decode prog_88_method_2_code 49 = .ok (.invokevirtual 26, 3) := by decide +kernel
theorem d5_52 : decode prog_88_method_2_code 52 = .ok (.lstore 9, 2) := by decide +kernel
theorem d5_54 : decode prog_88_method_2_code 54 = .ok (.lload 9, 2) := by decide +kernel
theorem d5_56 : decode prog_88_method_2_code 56 = .ok (.ldc2_w 24, 3) := by decide +kernel
theorem d5_59 : decode prog_88_method_2_code 59 = .ok (.lload 7, 2) := by decide +kernel
theorem d5_61 : decode prog_88_method_2_code 61 = .ok (.lsub, 1) := by decide +kernel
theorem d5_62 : decode prog_88_method_2_code 62 = .ok (.lcmp, 1) := by decide +kernel
theorem d5_63 : decode prog_88_method_2_code 63 = .ok (.ifCond .le 12, 3) := by decide +kernel
theorem d5_66 : decode prog_88_method_2_code 66 = .ok (.aload_n 0, 1) := by decide +kernel
theorem d5_67 : decode prog_88_method_2_code 67 = .ok (.invokevirtual 26, 3) := by decide +kernel
theorem d5_70 : decode prog_88_method_2_code 70 = .ok (.lstore 9, 2) := by decide +kernel
theorem d5_72 : decode prog_88_method_2_code 72 = .ok (.goto (-18), 3) := by decide +kernel
theorem d5_75 : decode prog_88_method_2_code 75 = .ok (.lload_n 1, 1) := by decide +kernel
theorem d5_76 : decode prog_88_method_2_code 76 = .ok (.lload 9, 2) := by decide +kernel
theorem d5_78 : decode prog_88_method_2_code 78 = .ok (.lload 5, 2) := by decide +kernel
theorem d5_80 : decode prog_88_method_2_code 80 = .ok (.lrem, 1) := by decide +kernel
theorem d5_81 : decode prog_88_method_2_code 81 = .ok (.ladd, 1) := by decide +kernel
theorem d5_82 : decode prog_88_method_2_code 82 = .ok (.lreturn, 1) := by decide +kernel
theorem pn5 : plainFor (⟨"com/example/slackweave/slackweave/random/Draws", "between", "(JJ)J"⟩ : MethodName) = true := plainFor_of_name (by first | (simp [plainName, overriddenIn]; done) | decide +kernel)
set_option maxRecDepth 65536 in
set_option maxHeartbeats 40000000 in
theorem own_btwA (l : Launch) (Z : State) (a0 : Array Value) (hw : ∀ d ∈ tables_1, d.before a0 Z = true) (a1 : Addr) (x0 : Int64) (h0 : Heap) (hO : Ext Z.heap h0) (ga : Z.heap.size ≤ a1) (E_a1 : Exa Z h0 a1 "com/example/slackweave/slackweave/random/Draws") (F_state : Fld Z h0 a1 "com/example/slackweave/slackweave/random/Draws" "state" "J" (.long x0)) :
    own_C l Z (⟨"com/example/slackweave/slackweave/random/Draws", "between", "(JJ)J"⟩ : MethodName) prog_88_method_2_code 11 (some .long) [] ({ frames := 1, cells := 0, slots := 0, locals := 14 } : Room) [a1] #[(.ref a1), (.long (0 : Int64)), (.long (4611686018427387903 : Int64))] h0 (fun v h => v = some (.long (own_lo (own_n63 (x0 + (-7046029254386353131 : Int64))))) ∧ Fld Z h a1 "com/example/slackweave/slackweave/random/Draws" "state" "J" (.long (x0 + (-7046029254386353131 : Int64)))) := by
  refine own_C.of pn5 hO (allS ga all0) ?_
  intro p e s m below meth c T0 S0
  refine own_F.cast (by first | (simp [entryFrame, mkF, argsToLocals, Value.category]; done) | rfl : entryFrame m #[(.ref a1), (.long (0 : Int64)), (.long (4611686018427387903 : Int64))] 11 = mkF m 0 #[.val (.ref a1), .val (.long (0 : Int64)), .second, .val (.long (4611686018427387903 : Int64)), .second, .unset, .unset, .unset, .unset, .unset, .unset] []) ?_
  show own_F p e below s Z _ _ _ _ _ (T0.setTop (mkF m 0 #[.val (.ref a1), .val (.long (0 : Int64)), .second, .val (.long (4611686018427387903 : Int64)), .second, .unset, .unset, .unset, .unset, .unset, .unset] []))
  refine own_F.of (fun _ => XS.lloadN S0.here S0.hx rfl (S0.dec d5_0) rfl) ?_
  show own_F p e below s Z _ _ _ _ _ (T0.setTop (mkF m 1 #[.val (.ref a1), .val (.long (0 : Int64)), .second, .val (.long (4611686018427387903 : Int64)), .second, .unset, .unset, .unset, .unset, .unset, .unset] [(.long (4611686018427387903 : Int64))]))
  refine own_F.of (fun _ => XS.lloadN S0.here S0.hx rfl (S0.dec d5_1) rfl) ?_
  show own_F p e below s Z _ _ _ _ _ (T0.setTop (mkF m 2 #[.val (.ref a1), .val (.long (0 : Int64)), .second, .val (.long (4611686018427387903 : Int64)), .second, .unset, .unset, .unset, .unset, .unset, .unset] [(.long (0 : Int64)), (.long (4611686018427387903 : Int64))]))
  refine own_F.of (fun _ => XS.lsub S0.here S0.hx rfl (S0.dec d5_2) rfl) ?_
  show own_F p e below s Z _ _ _ _ _ (T0.setTop (mkF m 3 #[.val (.ref a1), .val (.long (0 : Int64)), .second, .val (.long (4611686018427387903 : Int64)), .second, .unset, .unset, .unset, .unset, .unset, .unset] [(.long ((4611686018427387903 : Int64) - (0 : Int64)))]))
  refine own_F.of (fun _ => XS.lconst S0.here S0.hx rfl (S0.dec d5_3)) ?_
  show own_F p e below s Z _ _ _ _ _ (T0.setTop (mkF m 4 #[.val (.ref a1), .val (.long (0 : Int64)), .second, .val (.long (4611686018427387903 : Int64)), .second, .unset, .unset, .unset, .unset, .unset, .unset] [(.long (1 : Int64)), (.long ((4611686018427387903 : Int64) - (0 : Int64)))]))
  refine own_F.of (fun _ => XS.ladd S0.here S0.hx rfl (S0.dec d5_4) rfl) ?_
  show own_F p e below s Z _ _ _ _ _ (T0.setTop (mkF m 5 #[.val (.ref a1), .val (.long (0 : Int64)), .second, .val (.long (4611686018427387903 : Int64)), .second, .unset, .unset, .unset, .unset, .unset, .unset] [(.long (((4611686018427387903 : Int64) - (0 : Int64)) + (1 : Int64)))]))
  refine own_F.of (fun _ => XS.lstore S0.here S0.hx rfl (S0.dec d5_5) rfl (l' := #[.val (.ref a1), .val (.long (0 : Int64)), .second, .val (.long (4611686018427387903 : Int64)), .second, .val (.long (((4611686018427387903 : Int64) - (0 : Int64)) + (1 : Int64))), .second, .unset, .unset, .unset, .unset]) rfl) ?_
  show own_F p e below s Z _ _ _ _ _ (T0.setTop (mkF m 7 #[.val (.ref a1), .val (.long (0 : Int64)), .second, .val (.long (4611686018427387903 : Int64)), .second, .val (.long (((4611686018427387903 : Int64) - (0 : Int64)) + (1 : Int64))), .second, .unset, .unset, .unset, .unset] []))
  refine own_F.of (fun _ => XS.lloadN S0.here S0.hx rfl (S0.dec d5_7) rfl) ?_
  show own_F p e below s Z _ _ _ _ _ (T0.setTop (mkF m 8 #[.val (.ref a1), .val (.long (0 : Int64)), .second, .val (.long (4611686018427387903 : Int64)), .second, .val (.long (((4611686018427387903 : Int64) - (0 : Int64)) + (1 : Int64))), .second, .unset, .unset, .unset, .unset] [(.long (0 : Int64))]))
  refine own_F.of (fun _ => XS.lloadN S0.here S0.hx rfl (S0.dec d5_8) rfl) ?_
  show own_F p e below s Z _ _ _ _ _ (T0.setTop (mkF m 9 #[.val (.ref a1), .val (.long (0 : Int64)), .second, .val (.long (4611686018427387903 : Int64)), .second, .val (.long (((4611686018427387903 : Int64) - (0 : Int64)) + (1 : Int64))), .second, .unset, .unset, .unset, .unset] [(.long (4611686018427387903 : Int64)), (.long (0 : Int64))]))
  refine own_F.of (fun _ => XS.lcmp S0.here S0.hx rfl (S0.dec d5_9) rfl) ?_
  show own_F p e below s Z _ _ _ _ _ (T0.setTop (mkF m 10 #[.val (.ref a1), .val (.long (0 : Int64)), .second, .val (.long (4611686018427387903 : Int64)), .second, .val (.long (((4611686018427387903 : Int64) - (0 : Int64)) + (1 : Int64))), .second, .unset, .unset, .unset, .unset] [(.int (lcmpW (0 : Int64) (4611686018427387903 : Int64)))]))
  refine own_if S0 20 d5_10 (by decide) (by decide) (fun (hc10_1 : (0 : Int32) < (lcmpW (0 : Int64) (4611686018427387903 : Int64))) => False.elim (absurd hc10_1 (by decide))) (fun (hc10_1 : ¬ ((0 : Int32) < (lcmpW (0 : Int64) (4611686018427387903 : Int64)))) => ?_)
  show own_F p e below s Z _ _ _ _ _ (T0.setTop (mkF m 13 #[.val (.ref a1), .val (.long (0 : Int64)), .second, .val (.long (4611686018427387903 : Int64)), .second, .val (.long (((4611686018427387903 : Int64) - (0 : Int64)) + (1 : Int64))), .second, .unset, .unset, .unset, .unset] []))
  refine own_F.of (fun _ => XS.lload S0.here S0.hx rfl (S0.dec d5_13) rfl) ?_
  show own_F p e below s Z _ _ _ _ _ (T0.setTop (mkF m 15 #[.val (.ref a1), .val (.long (0 : Int64)), .second, .val (.long (4611686018427387903 : Int64)), .second, .val (.long (((4611686018427387903 : Int64) - (0 : Int64)) + (1 : Int64))), .second, .unset, .unset, .unset, .unset] [(.long (((4611686018427387903 : Int64) - (0 : Int64)) + (1 : Int64)))]))
  refine own_F.of (fun _ => XS.lconst S0.here S0.hx rfl (S0.dec d5_15)) ?_
  show own_F p e below s Z _ _ _ _ _ (T0.setTop (mkF m 16 #[.val (.ref a1), .val (.long (0 : Int64)), .second, .val (.long (4611686018427387903 : Int64)), .second, .val (.long (((4611686018427387903 : Int64) - (0 : Int64)) + (1 : Int64))), .second, .unset, .unset, .unset, .unset] [(.long (0 : Int64)), (.long (((4611686018427387903 : Int64) - (0 : Int64)) + (1 : Int64)))]))
  refine own_F.of (fun _ => XS.lcmp S0.here S0.hx rfl (S0.dec d5_16) rfl) ?_
  show own_F p e below s Z _ _ _ _ _ (T0.setTop (mkF m 17 #[.val (.ref a1), .val (.long (0 : Int64)), .second, .val (.long (4611686018427387903 : Int64)), .second, .val (.long (((4611686018427387903 : Int64) - (0 : Int64)) + (1 : Int64))), .second, .unset, .unset, .unset, .unset] [(.int (lcmpW (((4611686018427387903 : Int64) - (0 : Int64)) + (1 : Int64)) (0 : Int64)))]))
  refine own_if S0 35 d5_17 (by decide) (by decide) (fun (hc17_2 : (0 : Int32) < (lcmpW (((4611686018427387903 : Int64) - (0 : Int64)) + (1 : Int64)) (0 : Int64))) => ?_) (fun (hc17_2 : ¬ ((0 : Int32) < (lcmpW (((4611686018427387903 : Int64) - (0 : Int64)) + (1 : Int64)) (0 : Int64)))) => False.elim (absurd hc17_2 (by decide)))
  show own_F p e below s Z _ _ _ _ _ (T0.setTop (mkF m 35 #[.val (.ref a1), .val (.long (0 : Int64)), .second, .val (.long (4611686018427387903 : Int64)), .second, .val (.long (((4611686018427387903 : Int64) - (0 : Int64)) + (1 : Int64))), .second, .unset, .unset, .unset, .unset] []))
  refine own_ldcJ S0 (own_w hw 30 rfl) d5_35 ?_
  show own_F p e below s Z _ _ _ _ _ (T0.setTop (mkF m 38 #[.val (.ref a1), .val (.long (0 : Int64)), .second, .val (.long (4611686018427387903 : Int64)), .second, .val (.long (((4611686018427387903 : Int64) - (0 : Int64)) + (1 : Int64))), .second, .unset, .unset, .unset, .unset] [(.long (9223372036854775807 : Int64))]))
  refine own_F.of (fun _ => XS.lload S0.here S0.hx rfl (S0.dec d5_38) rfl) ?_
  show own_F p e below s Z _ _ _ _ _ (T0.setTop (mkF m 40 #[.val (.ref a1), .val (.long (0 : Int64)), .second, .val (.long (4611686018427387903 : Int64)), .second, .val (.long (((4611686018427387903 : Int64) - (0 : Int64)) + (1 : Int64))), .second, .unset, .unset, .unset, .unset] [(.long (((4611686018427387903 : Int64) - (0 : Int64)) + (1 : Int64))), (.long (9223372036854775807 : Int64))]))
  refine own_F.of (fun _ => own_lrem S0 d5_40 (by decide)) ?_
  show own_F p e below s Z _ _ _ _ _ (T0.setTop (mkF m 41 #[.val (.ref a1), .val (.long (0 : Int64)), .second, .val (.long (4611686018427387903 : Int64)), .second, .val (.long (((4611686018427387903 : Int64) - (0 : Int64)) + (1 : Int64))), .second, .unset, .unset, .unset, .unset] [(.long ((9223372036854775807 : Int64) % (((4611686018427387903 : Int64) - (0 : Int64)) + (1 : Int64))))]))
  refine own_F.of (fun _ => XS.lconst S0.here S0.hx rfl (S0.dec d5_41)) ?_
  show own_F p e below s Z _ _ _ _ _ (T0.setTop (mkF m 42 #[.val (.ref a1), .val (.long (0 : Int64)), .second, .val (.long (4611686018427387903 : Int64)), .second, .val (.long (((4611686018427387903 : Int64) - (0 : Int64)) + (1 : Int64))), .second, .unset, .unset, .unset, .unset] [(.long (1 : Int64)), (.long ((9223372036854775807 : Int64) % (((4611686018427387903 : Int64) - (0 : Int64)) + (1 : Int64))))]))
  refine own_F.of (fun _ => XS.ladd S0.here S0.hx rfl (S0.dec d5_42) rfl) ?_
  show own_F p e below s Z _ _ _ _ _ (T0.setTop (mkF m 43 #[.val (.ref a1), .val (.long (0 : Int64)), .second, .val (.long (4611686018427387903 : Int64)), .second, .val (.long (((4611686018427387903 : Int64) - (0 : Int64)) + (1 : Int64))), .second, .unset, .unset, .unset, .unset] [(.long (((9223372036854775807 : Int64) % (((4611686018427387903 : Int64) - (0 : Int64)) + (1 : Int64))) + (1 : Int64)))]))
  refine own_F.of (fun _ => XS.lload S0.here S0.hx rfl (S0.dec d5_43) rfl) ?_
  show own_F p e below s Z _ _ _ _ _ (T0.setTop (mkF m 45 #[.val (.ref a1), .val (.long (0 : Int64)), .second, .val (.long (4611686018427387903 : Int64)), .second, .val (.long (((4611686018427387903 : Int64) - (0 : Int64)) + (1 : Int64))), .second, .unset, .unset, .unset, .unset] [(.long (((4611686018427387903 : Int64) - (0 : Int64)) + (1 : Int64))), (.long (((9223372036854775807 : Int64) % (((4611686018427387903 : Int64) - (0 : Int64)) + (1 : Int64))) + (1 : Int64)))]))
  refine own_F.of (fun _ => own_lrem S0 d5_45 (by decide)) ?_
  show own_F p e below s Z _ _ _ _ _ (T0.setTop (mkF m 46 #[.val (.ref a1), .val (.long (0 : Int64)), .second, .val (.long (4611686018427387903 : Int64)), .second, .val (.long (((4611686018427387903 : Int64) - (0 : Int64)) + (1 : Int64))), .second, .unset, .unset, .unset, .unset] [(.long ((((9223372036854775807 : Int64) % (((4611686018427387903 : Int64) - (0 : Int64)) + (1 : Int64))) + (1 : Int64)) % (((4611686018427387903 : Int64) - (0 : Int64)) + (1 : Int64))))]))
  refine own_F.of (fun _ => XS.lstore S0.here S0.hx rfl (S0.dec d5_46) rfl (l' := #[.val (.ref a1), .val (.long (0 : Int64)), .second, .val (.long (4611686018427387903 : Int64)), .second, .val (.long (((4611686018427387903 : Int64) - (0 : Int64)) + (1 : Int64))), .second, .val (.long ((((9223372036854775807 : Int64) % (((4611686018427387903 : Int64) - (0 : Int64)) + (1 : Int64))) + (1 : Int64)) % (((4611686018427387903 : Int64) - (0 : Int64)) + (1 : Int64)))), .second, .unset, .unset]) rfl) ?_
  show own_F p e below s Z _ _ _ _ _ (T0.setTop (mkF m 48 #[.val (.ref a1), .val (.long (0 : Int64)), .second, .val (.long (4611686018427387903 : Int64)), .second, .val (.long (((4611686018427387903 : Int64) - (0 : Int64)) + (1 : Int64))), .second, .val (.long ((((9223372036854775807 : Int64) % (((4611686018427387903 : Int64) - (0 : Int64)) + (1 : Int64))) + (1 : Int64)) % (((4611686018427387903 : Int64) - (0 : Int64)) + (1 : Int64)))), .second, .unset, .unset] []))
  refine own_F.of (fun _ => XS.aloadN S0.here S0.hx rfl (S0.dec d5_48) rfl rfl) ?_
  show own_F p e below s Z _ _ _ _ _ (T0.setTop (mkF m 49 #[.val (.ref a1), .val (.long (0 : Int64)), .second, .val (.long (4611686018427387903 : Int64)), .second, .val (.long (((4611686018427387903 : Int64) - (0 : Int64)) + (1 : Int64))), .second, .val (.long ((((9223372036854775807 : Int64) % (((4611686018427387903 : Int64) - (0 : Int64)) + (1 : Int64))) + (1 : Int64)) % (((4611686018427387903 : Int64) - (0 : Int64)) + (1 : Int64)))), .second, .unset, .unset] [(.ref a1)]))
  refine own_callP S0 (y := (⟨"com/example/slackweave/slackweave/random/Draws", "next63", "()J"⟩ : MethodName)) (own_w hw 17 rfl) (own_w hw 18 rfl) (own_w hw 1 rfl) (own_w hw 19 rfl) (own_w hw 20 rfl) (own_w hw 2 rfl) (by decide) E_a1 (argsL := []) (rest := []) (own_next l Z a0 hw a1 x0 h0 S0.old ga E_a1 F_state) (allS (Or.inl (List.mem_of_getElem? (i := 0) rfl)) all0) (by decide +kernel : parseMethodDescriptor "()J" = some ⟨[], some .long⟩) rfl rfl rfl d5_49 (by decide) (Nat.le_of_ble_eq_true rfl) (by decide) (by decide) (fun T3 h3 v3 S3 K3 q3 => ?_)
  obtain ⟨rfl, F3⟩ := q3
  show own_F p e below s Z _ _ _ _ _ (T3.setTop (mkF m 52 #[.val (.ref a1), .val (.long (0 : Int64)), .second, .val (.long (4611686018427387903 : Int64)), .second, .val (.long (((4611686018427387903 : Int64) - (0 : Int64)) + (1 : Int64))), .second, .val (.long ((((9223372036854775807 : Int64) % (((4611686018427387903 : Int64) - (0 : Int64)) + (1 : Int64))) + (1 : Int64)) % (((4611686018427387903 : Int64) - (0 : Int64)) + (1 : Int64)))), .second, .unset, .unset] [(.long (own_n63 (x0 + (-7046029254386353131 : Int64))))]))
  refine own_F.of (fun _ => XS.lstore S3.here S3.hx rfl (S3.dec d5_52) rfl (l' := #[.val (.ref a1), .val (.long (0 : Int64)), .second, .val (.long (4611686018427387903 : Int64)), .second, .val (.long (((4611686018427387903 : Int64) - (0 : Int64)) + (1 : Int64))), .second, .val (.long ((((9223372036854775807 : Int64) % (((4611686018427387903 : Int64) - (0 : Int64)) + (1 : Int64))) + (1 : Int64)) % (((4611686018427387903 : Int64) - (0 : Int64)) + (1 : Int64)))), .second, .val (.long (own_n63 (x0 + (-7046029254386353131 : Int64)))), .second]) rfl) ?_
  show own_F p e below s Z _ _ _ _ _ (T3.setTop (mkF m 54 #[.val (.ref a1), .val (.long (0 : Int64)), .second, .val (.long (4611686018427387903 : Int64)), .second, .val (.long (((4611686018427387903 : Int64) - (0 : Int64)) + (1 : Int64))), .second, .val (.long ((((9223372036854775807 : Int64) % (((4611686018427387903 : Int64) - (0 : Int64)) + (1 : Int64))) + (1 : Int64)) % (((4611686018427387903 : Int64) - (0 : Int64)) + (1 : Int64)))), .second, .val (.long (own_n63 (x0 + (-7046029254386353131 : Int64)))), .second] []))
  refine own_F.of (fun _ => XS.lload S3.here S3.hx rfl (S3.dec d5_54) rfl) ?_
  show own_F p e below s Z _ _ _ _ _ (T3.setTop (mkF m 56 #[.val (.ref a1), .val (.long (0 : Int64)), .second, .val (.long (4611686018427387903 : Int64)), .second, .val (.long (((4611686018427387903 : Int64) - (0 : Int64)) + (1 : Int64))), .second, .val (.long ((((9223372036854775807 : Int64) % (((4611686018427387903 : Int64) - (0 : Int64)) + (1 : Int64))) + (1 : Int64)) % (((4611686018427387903 : Int64) - (0 : Int64)) + (1 : Int64)))), .second, .val (.long (own_n63 (x0 + (-7046029254386353131 : Int64)))), .second] [(.long (own_n63 (x0 + (-7046029254386353131 : Int64))))]))
  refine own_ldcJ S3 (own_w hw 30 rfl) d5_56 ?_
  show own_F p e below s Z _ _ _ _ _ (T3.setTop (mkF m 59 #[.val (.ref a1), .val (.long (0 : Int64)), .second, .val (.long (4611686018427387903 : Int64)), .second, .val (.long (((4611686018427387903 : Int64) - (0 : Int64)) + (1 : Int64))), .second, .val (.long ((((9223372036854775807 : Int64) % (((4611686018427387903 : Int64) - (0 : Int64)) + (1 : Int64))) + (1 : Int64)) % (((4611686018427387903 : Int64) - (0 : Int64)) + (1 : Int64)))), .second, .val (.long (own_n63 (x0 + (-7046029254386353131 : Int64)))), .second] [(.long (9223372036854775807 : Int64)), (.long (own_n63 (x0 + (-7046029254386353131 : Int64))))]))
  refine own_F.of (fun _ => XS.lload S3.here S3.hx rfl (S3.dec d5_59) rfl) ?_
  show own_F p e below s Z _ _ _ _ _ (T3.setTop (mkF m 61 #[.val (.ref a1), .val (.long (0 : Int64)), .second, .val (.long (4611686018427387903 : Int64)), .second, .val (.long (((4611686018427387903 : Int64) - (0 : Int64)) + (1 : Int64))), .second, .val (.long ((((9223372036854775807 : Int64) % (((4611686018427387903 : Int64) - (0 : Int64)) + (1 : Int64))) + (1 : Int64)) % (((4611686018427387903 : Int64) - (0 : Int64)) + (1 : Int64)))), .second, .val (.long (own_n63 (x0 + (-7046029254386353131 : Int64)))), .second] [(.long ((((9223372036854775807 : Int64) % (((4611686018427387903 : Int64) - (0 : Int64)) + (1 : Int64))) + (1 : Int64)) % (((4611686018427387903 : Int64) - (0 : Int64)) + (1 : Int64)))), (.long (9223372036854775807 : Int64)), (.long (own_n63 (x0 + (-7046029254386353131 : Int64))))]))
  refine own_F.of (fun _ => XS.lsub S3.here S3.hx rfl (S3.dec d5_61) rfl) ?_
  show own_F p e below s Z _ _ _ _ _ (T3.setTop (mkF m 62 #[.val (.ref a1), .val (.long (0 : Int64)), .second, .val (.long (4611686018427387903 : Int64)), .second, .val (.long (((4611686018427387903 : Int64) - (0 : Int64)) + (1 : Int64))), .second, .val (.long ((((9223372036854775807 : Int64) % (((4611686018427387903 : Int64) - (0 : Int64)) + (1 : Int64))) + (1 : Int64)) % (((4611686018427387903 : Int64) - (0 : Int64)) + (1 : Int64)))), .second, .val (.long (own_n63 (x0 + (-7046029254386353131 : Int64)))), .second] [(.long ((9223372036854775807 : Int64) - ((((9223372036854775807 : Int64) % (((4611686018427387903 : Int64) - (0 : Int64)) + (1 : Int64))) + (1 : Int64)) % (((4611686018427387903 : Int64) - (0 : Int64)) + (1 : Int64))))), (.long (own_n63 (x0 + (-7046029254386353131 : Int64))))]))
  refine own_F.of (fun _ => XS.lcmp S3.here S3.hx rfl (S3.dec d5_62) rfl) ?_
  show own_F p e below s Z _ _ _ _ _ (T3.setTop (mkF m 63 #[.val (.ref a1), .val (.long (0 : Int64)), .second, .val (.long (4611686018427387903 : Int64)), .second, .val (.long (((4611686018427387903 : Int64) - (0 : Int64)) + (1 : Int64))), .second, .val (.long ((((9223372036854775807 : Int64) % (((4611686018427387903 : Int64) - (0 : Int64)) + (1 : Int64))) + (1 : Int64)) % (((4611686018427387903 : Int64) - (0 : Int64)) + (1 : Int64)))), .second, .val (.long (own_n63 (x0 + (-7046029254386353131 : Int64)))), .second] [(.int (lcmpW (own_n63 (x0 + (-7046029254386353131 : Int64))) ((9223372036854775807 : Int64) - ((((9223372036854775807 : Int64) % (((4611686018427387903 : Int64) - (0 : Int64)) + (1 : Int64))) + (1 : Int64)) % (((4611686018427387903 : Int64) - (0 : Int64)) + (1 : Int64))))))]))
  refine own_if S3 75 d5_63 (by decide) (by decide) (fun (hc63_4 : ¬ ((0 : Int32) < (lcmpW (own_n63 (x0 + (-7046029254386353131 : Int64))) ((9223372036854775807 : Int64) - ((((9223372036854775807 : Int64) % (((4611686018427387903 : Int64) - (0 : Int64)) + (1 : Int64))) + (1 : Int64)) % (((4611686018427387903 : Int64) - (0 : Int64)) + (1 : Int64))))))) => ?_) (fun (hc63_4 : (0 : Int32) < (lcmpW (own_n63 (x0 + (-7046029254386353131 : Int64))) ((9223372036854775807 : Int64) - ((((9223372036854775807 : Int64) % (((4611686018427387903 : Int64) - (0 : Int64)) + (1 : Int64))) + (1 : Int64)) % (((4611686018427387903 : Int64) - (0 : Int64)) + (1 : Int64)))))) => False.elim (own_le0 hc63_4))
  show own_F p e below s Z _ _ _ _ _ (T3.setTop (mkF m 75 #[.val (.ref a1), .val (.long (0 : Int64)), .second, .val (.long (4611686018427387903 : Int64)), .second, .val (.long (((4611686018427387903 : Int64) - (0 : Int64)) + (1 : Int64))), .second, .val (.long ((((9223372036854775807 : Int64) % (((4611686018427387903 : Int64) - (0 : Int64)) + (1 : Int64))) + (1 : Int64)) % (((4611686018427387903 : Int64) - (0 : Int64)) + (1 : Int64)))), .second, .val (.long (own_n63 (x0 + (-7046029254386353131 : Int64)))), .second] []))
  refine own_F.of (fun _ => XS.lloadN S3.here S3.hx rfl (S3.dec d5_75) rfl) ?_
  show own_F p e below s Z _ _ _ _ _ (T3.setTop (mkF m 76 #[.val (.ref a1), .val (.long (0 : Int64)), .second, .val (.long (4611686018427387903 : Int64)), .second, .val (.long (((4611686018427387903 : Int64) - (0 : Int64)) + (1 : Int64))), .second, .val (.long ((((9223372036854775807 : Int64) % (((4611686018427387903 : Int64) - (0 : Int64)) + (1 : Int64))) + (1 : Int64)) % (((4611686018427387903 : Int64) - (0 : Int64)) + (1 : Int64)))), .second, .val (.long (own_n63 (x0 + (-7046029254386353131 : Int64)))), .second] [(.long (0 : Int64))]))
  refine own_F.of (fun _ => XS.lload S3.here S3.hx rfl (S3.dec d5_76) rfl) ?_
  show own_F p e below s Z _ _ _ _ _ (T3.setTop (mkF m 78 #[.val (.ref a1), .val (.long (0 : Int64)), .second, .val (.long (4611686018427387903 : Int64)), .second, .val (.long (((4611686018427387903 : Int64) - (0 : Int64)) + (1 : Int64))), .second, .val (.long ((((9223372036854775807 : Int64) % (((4611686018427387903 : Int64) - (0 : Int64)) + (1 : Int64))) + (1 : Int64)) % (((4611686018427387903 : Int64) - (0 : Int64)) + (1 : Int64)))), .second, .val (.long (own_n63 (x0 + (-7046029254386353131 : Int64)))), .second] [(.long (own_n63 (x0 + (-7046029254386353131 : Int64)))), (.long (0 : Int64))]))
  refine own_F.of (fun _ => XS.lload S3.here S3.hx rfl (S3.dec d5_78) rfl) ?_
  show own_F p e below s Z _ _ _ _ _ (T3.setTop (mkF m 80 #[.val (.ref a1), .val (.long (0 : Int64)), .second, .val (.long (4611686018427387903 : Int64)), .second, .val (.long (((4611686018427387903 : Int64) - (0 : Int64)) + (1 : Int64))), .second, .val (.long ((((9223372036854775807 : Int64) % (((4611686018427387903 : Int64) - (0 : Int64)) + (1 : Int64))) + (1 : Int64)) % (((4611686018427387903 : Int64) - (0 : Int64)) + (1 : Int64)))), .second, .val (.long (own_n63 (x0 + (-7046029254386353131 : Int64)))), .second] [(.long (((4611686018427387903 : Int64) - (0 : Int64)) + (1 : Int64))), (.long (own_n63 (x0 + (-7046029254386353131 : Int64)))), (.long (0 : Int64))]))
  refine own_F.of (fun _ => own_lrem S3 d5_80 (by decide)) ?_
  show own_F p e below s Z _ _ _ _ _ (T3.setTop (mkF m 81 #[.val (.ref a1), .val (.long (0 : Int64)), .second, .val (.long (4611686018427387903 : Int64)), .second, .val (.long (((4611686018427387903 : Int64) - (0 : Int64)) + (1 : Int64))), .second, .val (.long ((((9223372036854775807 : Int64) % (((4611686018427387903 : Int64) - (0 : Int64)) + (1 : Int64))) + (1 : Int64)) % (((4611686018427387903 : Int64) - (0 : Int64)) + (1 : Int64)))), .second, .val (.long (own_n63 (x0 + (-7046029254386353131 : Int64)))), .second] [(.long ((own_n63 (x0 + (-7046029254386353131 : Int64))) % (((4611686018427387903 : Int64) - (0 : Int64)) + (1 : Int64)))), (.long (0 : Int64))]))
  refine own_F.of (fun _ => XS.ladd S3.here S3.hx rfl (S3.dec d5_81) rfl) ?_
  show own_F p e below s Z _ _ _ _ _ (T3.setTop (mkF m 82 #[.val (.ref a1), .val (.long (0 : Int64)), .second, .val (.long (4611686018427387903 : Int64)), .second, .val (.long (((4611686018427387903 : Int64) - (0 : Int64)) + (1 : Int64))), .second, .val (.long ((((9223372036854775807 : Int64) % (((4611686018427387903 : Int64) - (0 : Int64)) + (1 : Int64))) + (1 : Int64)) % (((4611686018427387903 : Int64) - (0 : Int64)) + (1 : Int64)))), .second, .val (.long (own_n63 (x0 + (-7046029254386353131 : Int64)))), .second] [(.long ((0 : Int64) + ((own_n63 (x0 + (-7046029254386353131 : Int64))) % (((4611686018427387903 : Int64) - (0 : Int64)) + (1 : Int64)))))]))
  refine own_retJ S3 d5_82 (by decide) (by decide) ?_
  exact ⟨rfl, F3⟩
set_option maxRecDepth 65536 in
set_option maxHeartbeats 40000000 in
theorem own_btwB (l : Launch) (Z : State) (a0 : Array Value) (hw : ∀ d ∈ tables_1, d.before a0 Z = true) (a1 : Addr) (x0 : Int64) (h0 : Heap) (hO : Ext Z.heap h0) (ga : Z.heap.size ≤ a1) (E_a1 : Exa Z h0 a1 "com/example/slackweave/slackweave/random/Draws") (F_state : Fld Z h0 a1 "com/example/slackweave/slackweave/random/Draws" "state" "J" (.long x0)) :
    own_C l Z (⟨"com/example/slackweave/slackweave/random/Draws", "between", "(JJ)J"⟩ : MethodName) prog_88_method_2_code 11 (some .long) [] ({ frames := 1, cells := 0, slots := 0, locals := 14 } : Room) [a1] #[(.ref a1), (.long (0 : Int64)), (.long (9223372036854775806 : Int64))] h0 (fun v h => ∃ z, v = some (.long z) ∧ ((own_n63 (x0 + (-7046029254386353131 : Int64)) ≠ (9223372036854775807 : Int64) ∧ z = own_hi (own_n63 (x0 + (-7046029254386353131 : Int64)))) ∨ own_n63 (x0 + (-7046029254386353131 : Int64)) = (9223372036854775807 : Int64))) := by
  refine own_C.of pn5 hO (allS ga all0) ?_
  intro p e s m below meth c T0 S0
  refine own_F.cast (by first | (simp [entryFrame, mkF, argsToLocals, Value.category]; done) | rfl : entryFrame m #[(.ref a1), (.long (0 : Int64)), (.long (9223372036854775806 : Int64))] 11 = mkF m 0 #[.val (.ref a1), .val (.long (0 : Int64)), .second, .val (.long (9223372036854775806 : Int64)), .second, .unset, .unset, .unset, .unset, .unset, .unset] []) ?_
  show own_F p e below s Z _ _ _ _ _ (T0.setTop (mkF m 0 #[.val (.ref a1), .val (.long (0 : Int64)), .second, .val (.long (9223372036854775806 : Int64)), .second, .unset, .unset, .unset, .unset, .unset, .unset] []))
  refine own_F.of (fun _ => XS.lloadN S0.here S0.hx rfl (S0.dec d5_0) rfl) ?_
  show own_F p e below s Z _ _ _ _ _ (T0.setTop (mkF m 1 #[.val (.ref a1), .val (.long (0 : Int64)), .second, .val (.long (9223372036854775806 : Int64)), .second, .unset, .unset, .unset, .unset, .unset, .unset] [(.long (9223372036854775806 : Int64))]))
  refine own_F.of (fun _ => XS.lloadN S0.here S0.hx rfl (S0.dec d5_1) rfl) ?_
  show own_F p e below s Z _ _ _ _ _ (T0.setTop (mkF m 2 #[.val (.ref a1), .val (.long (0 : Int64)), .second, .val (.long (9223372036854775806 : Int64)), .second, .unset, .unset, .unset, .unset, .unset, .unset] [(.long (0 : Int64)), (.long (9223372036854775806 : Int64))]))
  refine own_F.of (fun _ => XS.lsub S0.here S0.hx rfl (S0.dec d5_2) rfl) ?_
  show own_F p e below s Z _ _ _ _ _ (T0.setTop (mkF m 3 #[.val (.ref a1), .val (.long (0 : Int64)), .second, .val (.long (9223372036854775806 : Int64)), .second, .unset, .unset, .unset, .unset, .unset, .unset] [(.long ((9223372036854775806 : Int64) - (0 : Int64)))]))
  refine own_F.of (fun _ => XS.lconst S0.here S0.hx rfl (S0.dec d5_3)) ?_
  show own_F p e below s Z _ _ _ _ _ (T0.setTop (mkF m 4 #[.val (.ref a1), .val (.long (0 : Int64)), .second, .val (.long (9223372036854775806 : Int64)), .second, .unset, .unset, .unset, .unset, .unset, .unset] [(.long (1 : Int64)), (.long ((9223372036854775806 : Int64) - (0 : Int64)))]))
  refine own_F.of (fun _ => XS.ladd S0.here S0.hx rfl (S0.dec d5_4) rfl) ?_
  show own_F p e below s Z _ _ _ _ _ (T0.setTop (mkF m 5 #[.val (.ref a1), .val (.long (0 : Int64)), .second, .val (.long (9223372036854775806 : Int64)), .second, .unset, .unset, .unset, .unset, .unset, .unset] [(.long (((9223372036854775806 : Int64) - (0 : Int64)) + (1 : Int64)))]))
  refine own_F.of (fun _ => XS.lstore S0.here S0.hx rfl (S0.dec d5_5) rfl (l' := #[.val (.ref a1), .val (.long (0 : Int64)), .second, .val (.long (9223372036854775806 : Int64)), .second, .val (.long (((9223372036854775806 : Int64) - (0 : Int64)) + (1 : Int64))), .second, .unset, .unset, .unset, .unset]) rfl) ?_
  show own_F p e below s Z _ _ _ _ _ (T0.setTop (mkF m 7 #[.val (.ref a1), .val (.long (0 : Int64)), .second, .val (.long (9223372036854775806 : Int64)), .second, .val (.long (((9223372036854775806 : Int64) - (0 : Int64)) + (1 : Int64))), .second, .unset, .unset, .unset, .unset] []))
  refine own_F.of (fun _ => XS.lloadN S0.here S0.hx rfl (S0.dec d5_7) rfl) ?_
  show own_F p e below s Z _ _ _ _ _ (T0.setTop (mkF m 8 #[.val (.ref a1), .val (.long (0 : Int64)), .second, .val (.long (9223372036854775806 : Int64)), .second, .val (.long (((9223372036854775806 : Int64) - (0 : Int64)) + (1 : Int64))), .second, .unset, .unset, .unset, .unset] [(.long (0 : Int64))]))
  refine own_F.of (fun _ => XS.lloadN S0.here S0.hx rfl (S0.dec d5_8) rfl) ?_
  show own_F p e below s Z _ _ _ _ _ (T0.setTop (mkF m 9 #[.val (.ref a1), .val (.long (0 : Int64)), .second, .val (.long (9223372036854775806 : Int64)), .second, .val (.long (((9223372036854775806 : Int64) - (0 : Int64)) + (1 : Int64))), .second, .unset, .unset, .unset, .unset] [(.long (9223372036854775806 : Int64)), (.long (0 : Int64))]))
  refine own_F.of (fun _ => XS.lcmp S0.here S0.hx rfl (S0.dec d5_9) rfl) ?_
  show own_F p e below s Z _ _ _ _ _ (T0.setTop (mkF m 10 #[.val (.ref a1), .val (.long (0 : Int64)), .second, .val (.long (9223372036854775806 : Int64)), .second, .val (.long (((9223372036854775806 : Int64) - (0 : Int64)) + (1 : Int64))), .second, .unset, .unset, .unset, .unset] [(.int (lcmpW (0 : Int64) (9223372036854775806 : Int64)))]))
  refine own_if S0 20 d5_10 (by decide) (by decide) (fun (hc10_1 : (0 : Int32) < (lcmpW (0 : Int64) (9223372036854775806 : Int64))) => False.elim (absurd hc10_1 (by decide))) (fun (hc10_1 : ¬ ((0 : Int32) < (lcmpW (0 : Int64) (9223372036854775806 : Int64)))) => ?_)
  show own_F p e below s Z _ _ _ _ _ (T0.setTop (mkF m 13 #[.val (.ref a1), .val (.long (0 : Int64)), .second, .val (.long (9223372036854775806 : Int64)), .second, .val (.long (((9223372036854775806 : Int64) - (0 : Int64)) + (1 : Int64))), .second, .unset, .unset, .unset, .unset] []))
  refine own_F.of (fun _ => XS.lload S0.here S0.hx rfl (S0.dec d5_13) rfl) ?_
  show own_F p e below s Z _ _ _ _ _ (T0.setTop (mkF m 15 #[.val (.ref a1), .val (.long (0 : Int64)), .second, .val (.long (9223372036854775806 : Int64)), .second, .val (.long (((9223372036854775806 : Int64) - (0 : Int64)) + (1 : Int64))), .second, .unset, .unset, .unset, .unset] [(.long (((9223372036854775806 : Int64) - (0 : Int64)) + (1 : Int64)))]))
  refine own_F.of (fun _ => XS.lconst S0.here S0.hx rfl (S0.dec d5_15)) ?_
  show own_F p e below s Z _ _ _ _ _ (T0.setTop (mkF m 16 #[.val (.ref a1), .val (.long (0 : Int64)), .second, .val (.long (9223372036854775806 : Int64)), .second, .val (.long (((9223372036854775806 : Int64) - (0 : Int64)) + (1 : Int64))), .second, .unset, .unset, .unset, .unset] [(.long (0 : Int64)), (.long (((9223372036854775806 : Int64) - (0 : Int64)) + (1 : Int64)))]))
  refine own_F.of (fun _ => XS.lcmp S0.here S0.hx rfl (S0.dec d5_16) rfl) ?_
  show own_F p e below s Z _ _ _ _ _ (T0.setTop (mkF m 17 #[.val (.ref a1), .val (.long (0 : Int64)), .second, .val (.long (9223372036854775806 : Int64)), .second, .val (.long (((9223372036854775806 : Int64) - (0 : Int64)) + (1 : Int64))), .second, .unset, .unset, .unset, .unset] [(.int (lcmpW (((9223372036854775806 : Int64) - (0 : Int64)) + (1 : Int64)) (0 : Int64)))]))
  refine own_if S0 35 d5_17 (by decide) (by decide) (fun (hc17_2 : (0 : Int32) < (lcmpW (((9223372036854775806 : Int64) - (0 : Int64)) + (1 : Int64)) (0 : Int64))) => ?_) (fun (hc17_2 : ¬ ((0 : Int32) < (lcmpW (((9223372036854775806 : Int64) - (0 : Int64)) + (1 : Int64)) (0 : Int64)))) => False.elim (absurd hc17_2 (by decide)))
  show own_F p e below s Z _ _ _ _ _ (T0.setTop (mkF m 35 #[.val (.ref a1), .val (.long (0 : Int64)), .second, .val (.long (9223372036854775806 : Int64)), .second, .val (.long (((9223372036854775806 : Int64) - (0 : Int64)) + (1 : Int64))), .second, .unset, .unset, .unset, .unset] []))
  refine own_ldcJ S0 (own_w hw 30 rfl) d5_35 ?_
  show own_F p e below s Z _ _ _ _ _ (T0.setTop (mkF m 38 #[.val (.ref a1), .val (.long (0 : Int64)), .second, .val (.long (9223372036854775806 : Int64)), .second, .val (.long (((9223372036854775806 : Int64) - (0 : Int64)) + (1 : Int64))), .second, .unset, .unset, .unset, .unset] [(.long (9223372036854775807 : Int64))]))
  refine own_F.of (fun _ => XS.lload S0.here S0.hx rfl (S0.dec d5_38) rfl) ?_
  show own_F p e below s Z _ _ _ _ _ (T0.setTop (mkF m 40 #[.val (.ref a1), .val (.long (0 : Int64)), .second, .val (.long (9223372036854775806 : Int64)), .second, .val (.long (((9223372036854775806 : Int64) - (0 : Int64)) + (1 : Int64))), .second, .unset, .unset, .unset, .unset] [(.long (((9223372036854775806 : Int64) - (0 : Int64)) + (1 : Int64))), (.long (9223372036854775807 : Int64))]))
  refine own_F.of (fun _ => own_lrem S0 d5_40 (by decide)) ?_
  show own_F p e below s Z _ _ _ _ _ (T0.setTop (mkF m 41 #[.val (.ref a1), .val (.long (0 : Int64)), .second, .val (.long (9223372036854775806 : Int64)), .second, .val (.long (((9223372036854775806 : Int64) - (0 : Int64)) + (1 : Int64))), .second, .unset, .unset, .unset, .unset] [(.long ((9223372036854775807 : Int64) % (((9223372036854775806 : Int64) - (0 : Int64)) + (1 : Int64))))]))
  refine own_F.of (fun _ => XS.lconst S0.here S0.hx rfl (S0.dec d5_41)) ?_
  show own_F p e below s Z _ _ _ _ _ (T0.setTop (mkF m 42 #[.val (.ref a1), .val (.long (0 : Int64)), .second, .val (.long (9223372036854775806 : Int64)), .second, .val (.long (((9223372036854775806 : Int64) - (0 : Int64)) + (1 : Int64))), .second, .unset, .unset, .unset, .unset] [(.long (1 : Int64)), (.long ((9223372036854775807 : Int64) % (((9223372036854775806 : Int64) - (0 : Int64)) + (1 : Int64))))]))
  refine own_F.of (fun _ => XS.ladd S0.here S0.hx rfl (S0.dec d5_42) rfl) ?_
  show own_F p e below s Z _ _ _ _ _ (T0.setTop (mkF m 43 #[.val (.ref a1), .val (.long (0 : Int64)), .second, .val (.long (9223372036854775806 : Int64)), .second, .val (.long (((9223372036854775806 : Int64) - (0 : Int64)) + (1 : Int64))), .second, .unset, .unset, .unset, .unset] [(.long (((9223372036854775807 : Int64) % (((9223372036854775806 : Int64) - (0 : Int64)) + (1 : Int64))) + (1 : Int64)))]))
  refine own_F.of (fun _ => XS.lload S0.here S0.hx rfl (S0.dec d5_43) rfl) ?_
  show own_F p e below s Z _ _ _ _ _ (T0.setTop (mkF m 45 #[.val (.ref a1), .val (.long (0 : Int64)), .second, .val (.long (9223372036854775806 : Int64)), .second, .val (.long (((9223372036854775806 : Int64) - (0 : Int64)) + (1 : Int64))), .second, .unset, .unset, .unset, .unset] [(.long (((9223372036854775806 : Int64) - (0 : Int64)) + (1 : Int64))), (.long (((9223372036854775807 : Int64) % (((9223372036854775806 : Int64) - (0 : Int64)) + (1 : Int64))) + (1 : Int64)))]))
  refine own_F.of (fun _ => own_lrem S0 d5_45 (by decide)) ?_
  show own_F p e below s Z _ _ _ _ _ (T0.setTop (mkF m 46 #[.val (.ref a1), .val (.long (0 : Int64)), .second, .val (.long (9223372036854775806 : Int64)), .second, .val (.long (((9223372036854775806 : Int64) - (0 : Int64)) + (1 : Int64))), .second, .unset, .unset, .unset, .unset] [(.long ((((9223372036854775807 : Int64) % (((9223372036854775806 : Int64) - (0 : Int64)) + (1 : Int64))) + (1 : Int64)) % (((9223372036854775806 : Int64) - (0 : Int64)) + (1 : Int64))))]))
  refine own_F.of (fun _ => XS.lstore S0.here S0.hx rfl (S0.dec d5_46) rfl (l' := #[.val (.ref a1), .val (.long (0 : Int64)), .second, .val (.long (9223372036854775806 : Int64)), .second, .val (.long (((9223372036854775806 : Int64) - (0 : Int64)) + (1 : Int64))), .second, .val (.long ((((9223372036854775807 : Int64) % (((9223372036854775806 : Int64) - (0 : Int64)) + (1 : Int64))) + (1 : Int64)) % (((9223372036854775806 : Int64) - (0 : Int64)) + (1 : Int64)))), .second, .unset, .unset]) rfl) ?_
  show own_F p e below s Z _ _ _ _ _ (T0.setTop (mkF m 48 #[.val (.ref a1), .val (.long (0 : Int64)), .second, .val (.long (9223372036854775806 : Int64)), .second, .val (.long (((9223372036854775806 : Int64) - (0 : Int64)) + (1 : Int64))), .second, .val (.long ((((9223372036854775807 : Int64) % (((9223372036854775806 : Int64) - (0 : Int64)) + (1 : Int64))) + (1 : Int64)) % (((9223372036854775806 : Int64) - (0 : Int64)) + (1 : Int64)))), .second, .unset, .unset] []))
  refine own_F.of (fun _ => XS.aloadN S0.here S0.hx rfl (S0.dec d5_48) rfl rfl) ?_
  show own_F p e below s Z _ _ _ _ _ (T0.setTop (mkF m 49 #[.val (.ref a1), .val (.long (0 : Int64)), .second, .val (.long (9223372036854775806 : Int64)), .second, .val (.long (((9223372036854775806 : Int64) - (0 : Int64)) + (1 : Int64))), .second, .val (.long ((((9223372036854775807 : Int64) % (((9223372036854775806 : Int64) - (0 : Int64)) + (1 : Int64))) + (1 : Int64)) % (((9223372036854775806 : Int64) - (0 : Int64)) + (1 : Int64)))), .second, .unset, .unset] [(.ref a1)]))
  refine own_callP S0 (y := (⟨"com/example/slackweave/slackweave/random/Draws", "next63", "()J"⟩ : MethodName)) (own_w hw 17 rfl) (own_w hw 18 rfl) (own_w hw 1 rfl) (own_w hw 19 rfl) (own_w hw 20 rfl) (own_w hw 2 rfl) (by decide) E_a1 (argsL := []) (rest := []) (own_next l Z a0 hw a1 x0 h0 S0.old ga E_a1 F_state) (allS (Or.inl (List.mem_of_getElem? (i := 0) rfl)) all0) (by decide +kernel : parseMethodDescriptor "()J" = some ⟨[], some .long⟩) rfl rfl rfl d5_49 (by decide) (Nat.le_of_ble_eq_true rfl) (by decide) (by decide) (fun T3 h3 v3 S3 K3 q3 => ?_)
  obtain ⟨rfl, F3⟩ := q3
  show own_F p e below s Z _ _ _ _ _ (T3.setTop (mkF m 52 #[.val (.ref a1), .val (.long (0 : Int64)), .second, .val (.long (9223372036854775806 : Int64)), .second, .val (.long (((9223372036854775806 : Int64) - (0 : Int64)) + (1 : Int64))), .second, .val (.long ((((9223372036854775807 : Int64) % (((9223372036854775806 : Int64) - (0 : Int64)) + (1 : Int64))) + (1 : Int64)) % (((9223372036854775806 : Int64) - (0 : Int64)) + (1 : Int64)))), .second, .unset, .unset] [(.long (own_n63 (x0 + (-7046029254386353131 : Int64))))]))
  refine own_F.of (fun _ => XS.lstore S3.here S3.hx rfl (S3.dec d5_52) rfl (l' := #[.val (.ref a1), .val (.long (0 : Int64)), .second, .val (.long (9223372036854775806 : Int64)), .second, .val (.long (((9223372036854775806 : Int64) - (0 : Int64)) + (1 : Int64))), .second, .val (.long ((((9223372036854775807 : Int64) % (((9223372036854775806 : Int64) - (0 : Int64)) + (1 : Int64))) + (1 : Int64)) % (((9223372036854775806 : Int64) - (0 : Int64)) + (1 : Int64)))), .second, .val (.long (own_n63 (x0 + (-7046029254386353131 : Int64)))), .second]) rfl) ?_
  show own_F p e below s Z _ _ _ _ _ (T3.setTop (mkF m 54 #[.val (.ref a1), .val (.long (0 : Int64)), .second, .val (.long (9223372036854775806 : Int64)), .second, .val (.long (((9223372036854775806 : Int64) - (0 : Int64)) + (1 : Int64))), .second, .val (.long ((((9223372036854775807 : Int64) % (((9223372036854775806 : Int64) - (0 : Int64)) + (1 : Int64))) + (1 : Int64)) % (((9223372036854775806 : Int64) - (0 : Int64)) + (1 : Int64)))), .second, .val (.long (own_n63 (x0 + (-7046029254386353131 : Int64)))), .second] []))
  refine own_F.of (fun _ => XS.lload S3.here S3.hx rfl (S3.dec d5_54) rfl) ?_
  show own_F p e below s Z _ _ _ _ _ (T3.setTop (mkF m 56 #[.val (.ref a1), .val (.long (0 : Int64)), .second, .val (.long (9223372036854775806 : Int64)), .second, .val (.long (((9223372036854775806 : Int64) - (0 : Int64)) + (1 : Int64))), .second, .val (.long ((((9223372036854775807 : Int64) % (((9223372036854775806 : Int64) - (0 : Int64)) + (1 : Int64))) + (1 : Int64)) % (((9223372036854775806 : Int64) - (0 : Int64)) + (1 : Int64)))), .second, .val (.long (own_n63 (x0 + (-7046029254386353131 : Int64)))), .second] [(.long (own_n63 (x0 + (-7046029254386353131 : Int64))))]))
  refine own_ldcJ S3 (own_w hw 30 rfl) d5_56 ?_
  show own_F p e below s Z _ _ _ _ _ (T3.setTop (mkF m 59 #[.val (.ref a1), .val (.long (0 : Int64)), .second, .val (.long (9223372036854775806 : Int64)), .second, .val (.long (((9223372036854775806 : Int64) - (0 : Int64)) + (1 : Int64))), .second, .val (.long ((((9223372036854775807 : Int64) % (((9223372036854775806 : Int64) - (0 : Int64)) + (1 : Int64))) + (1 : Int64)) % (((9223372036854775806 : Int64) - (0 : Int64)) + (1 : Int64)))), .second, .val (.long (own_n63 (x0 + (-7046029254386353131 : Int64)))), .second] [(.long (9223372036854775807 : Int64)), (.long (own_n63 (x0 + (-7046029254386353131 : Int64))))]))
  refine own_F.of (fun _ => XS.lload S3.here S3.hx rfl (S3.dec d5_59) rfl) ?_
  show own_F p e below s Z _ _ _ _ _ (T3.setTop (mkF m 61 #[.val (.ref a1), .val (.long (0 : Int64)), .second, .val (.long (9223372036854775806 : Int64)), .second, .val (.long (((9223372036854775806 : Int64) - (0 : Int64)) + (1 : Int64))), .second, .val (.long ((((9223372036854775807 : Int64) % (((9223372036854775806 : Int64) - (0 : Int64)) + (1 : Int64))) + (1 : Int64)) % (((9223372036854775806 : Int64) - (0 : Int64)) + (1 : Int64)))), .second, .val (.long (own_n63 (x0 + (-7046029254386353131 : Int64)))), .second] [(.long ((((9223372036854775807 : Int64) % (((9223372036854775806 : Int64) - (0 : Int64)) + (1 : Int64))) + (1 : Int64)) % (((9223372036854775806 : Int64) - (0 : Int64)) + (1 : Int64)))), (.long (9223372036854775807 : Int64)), (.long (own_n63 (x0 + (-7046029254386353131 : Int64))))]))
  refine own_F.of (fun _ => XS.lsub S3.here S3.hx rfl (S3.dec d5_61) rfl) ?_
  show own_F p e below s Z _ _ _ _ _ (T3.setTop (mkF m 62 #[.val (.ref a1), .val (.long (0 : Int64)), .second, .val (.long (9223372036854775806 : Int64)), .second, .val (.long (((9223372036854775806 : Int64) - (0 : Int64)) + (1 : Int64))), .second, .val (.long ((((9223372036854775807 : Int64) % (((9223372036854775806 : Int64) - (0 : Int64)) + (1 : Int64))) + (1 : Int64)) % (((9223372036854775806 : Int64) - (0 : Int64)) + (1 : Int64)))), .second, .val (.long (own_n63 (x0 + (-7046029254386353131 : Int64)))), .second] [(.long ((9223372036854775807 : Int64) - ((((9223372036854775807 : Int64) % (((9223372036854775806 : Int64) - (0 : Int64)) + (1 : Int64))) + (1 : Int64)) % (((9223372036854775806 : Int64) - (0 : Int64)) + (1 : Int64))))), (.long (own_n63 (x0 + (-7046029254386353131 : Int64))))]))
  refine own_F.of (fun _ => XS.lcmp S3.here S3.hx rfl (S3.dec d5_62) rfl) ?_
  show own_F p e below s Z _ _ _ _ _ (T3.setTop (mkF m 63 #[.val (.ref a1), .val (.long (0 : Int64)), .second, .val (.long (9223372036854775806 : Int64)), .second, .val (.long (((9223372036854775806 : Int64) - (0 : Int64)) + (1 : Int64))), .second, .val (.long ((((9223372036854775807 : Int64) % (((9223372036854775806 : Int64) - (0 : Int64)) + (1 : Int64))) + (1 : Int64)) % (((9223372036854775806 : Int64) - (0 : Int64)) + (1 : Int64)))), .second, .val (.long (own_n63 (x0 + (-7046029254386353131 : Int64)))), .second] [(.int (lcmpW (own_n63 (x0 + (-7046029254386353131 : Int64))) ((9223372036854775807 : Int64) - ((((9223372036854775807 : Int64) % (((9223372036854775806 : Int64) - (0 : Int64)) + (1 : Int64))) + (1 : Int64)) % (((9223372036854775806 : Int64) - (0 : Int64)) + (1 : Int64))))))]))
  refine own_if S3 75 d5_63 (by decide) (by decide) (fun (hc63_4 : ¬ ((0 : Int32) < (lcmpW (own_n63 (x0 + (-7046029254386353131 : Int64))) ((9223372036854775807 : Int64) - ((((9223372036854775807 : Int64) % (((9223372036854775806 : Int64) - (0 : Int64)) + (1 : Int64))) + (1 : Int64)) % (((9223372036854775806 : Int64) - (0 : Int64)) + (1 : Int64))))))) => ?_) (fun (hc63_4 : (0 : Int32) < (lcmpW (own_n63 (x0 + (-7046029254386353131 : Int64))) ((9223372036854775807 : Int64) - ((((9223372036854775807 : Int64) % (((9223372036854775806 : Int64) - (0 : Int64)) + (1 : Int64))) + (1 : Int64)) % (((9223372036854775806 : Int64) - (0 : Int64)) + (1 : Int64)))))) => ?_)
  · show own_F p e below s Z _ _ _ _ _ (T3.setTop (mkF m 75 #[.val (.ref a1), .val (.long (0 : Int64)), .second, .val (.long (9223372036854775806 : Int64)), .second, .val (.long (((9223372036854775806 : Int64) - (0 : Int64)) + (1 : Int64))), .second, .val (.long ((((9223372036854775807 : Int64) % (((9223372036854775806 : Int64) - (0 : Int64)) + (1 : Int64))) + (1 : Int64)) % (((9223372036854775806 : Int64) - (0 : Int64)) + (1 : Int64)))), .second, .val (.long (own_n63 (x0 + (-7046029254386353131 : Int64)))), .second] []))
    refine own_F.of (fun _ => XS.lloadN S3.here S3.hx rfl (S3.dec d5_75) rfl) ?_
    show own_F p e below s Z _ _ _ _ _ (T3.setTop (mkF m 76 #[.val (.ref a1), .val (.long (0 : Int64)), .second, .val (.long (9223372036854775806 : Int64)), .second, .val (.long (((9223372036854775806 : Int64) - (0 : Int64)) + (1 : Int64))), .second, .val (.long ((((9223372036854775807 : Int64) % (((9223372036854775806 : Int64) - (0 : Int64)) + (1 : Int64))) + (1 : Int64)) % (((9223372036854775806 : Int64) - (0 : Int64)) + (1 : Int64)))), .second, .val (.long (own_n63 (x0 + (-7046029254386353131 : Int64)))), .second] [(.long (0 : Int64))]))
    refine own_F.of (fun _ => XS.lload S3.here S3.hx rfl (S3.dec d5_76) rfl) ?_
    show own_F p e below s Z _ _ _ _ _ (T3.setTop (mkF m 78 #[.val (.ref a1), .val (.long (0 : Int64)), .second, .val (.long (9223372036854775806 : Int64)), .second, .val (.long (((9223372036854775806 : Int64) - (0 : Int64)) + (1 : Int64))), .second, .val (.long ((((9223372036854775807 : Int64) % (((9223372036854775806 : Int64) - (0 : Int64)) + (1 : Int64))) + (1 : Int64)) % (((9223372036854775806 : Int64) - (0 : Int64)) + (1 : Int64)))), .second, .val (.long (own_n63 (x0 + (-7046029254386353131 : Int64)))), .second] [(.long (own_n63 (x0 + (-7046029254386353131 : Int64)))), (.long (0 : Int64))]))
    refine own_F.of (fun _ => XS.lload S3.here S3.hx rfl (S3.dec d5_78) rfl) ?_
    show own_F p e below s Z _ _ _ _ _ (T3.setTop (mkF m 80 #[.val (.ref a1), .val (.long (0 : Int64)), .second, .val (.long (9223372036854775806 : Int64)), .second, .val (.long (((9223372036854775806 : Int64) - (0 : Int64)) + (1 : Int64))), .second, .val (.long ((((9223372036854775807 : Int64) % (((9223372036854775806 : Int64) - (0 : Int64)) + (1 : Int64))) + (1 : Int64)) % (((9223372036854775806 : Int64) - (0 : Int64)) + (1 : Int64)))), .second, .val (.long (own_n63 (x0 + (-7046029254386353131 : Int64)))), .second] [(.long (((9223372036854775806 : Int64) - (0 : Int64)) + (1 : Int64))), (.long (own_n63 (x0 + (-7046029254386353131 : Int64)))), (.long (0 : Int64))]))
    refine own_F.of (fun _ => own_lrem S3 d5_80 (by decide)) ?_
    show own_F p e below s Z _ _ _ _ _ (T3.setTop (mkF m 81 #[.val (.ref a1), .val (.long (0 : Int64)), .second, .val (.long (9223372036854775806 : Int64)), .second, .val (.long (((9223372036854775806 : Int64) - (0 : Int64)) + (1 : Int64))), .second, .val (.long ((((9223372036854775807 : Int64) % (((9223372036854775806 : Int64) - (0 : Int64)) + (1 : Int64))) + (1 : Int64)) % (((9223372036854775806 : Int64) - (0 : Int64)) + (1 : Int64)))), .second, .val (.long (own_n63 (x0 + (-7046029254386353131 : Int64)))), .second] [(.long ((own_n63 (x0 + (-7046029254386353131 : Int64))) % (((9223372036854775806 : Int64) - (0 : Int64)) + (1 : Int64)))), (.long (0 : Int64))]))
    refine own_F.of (fun _ => XS.ladd S3.here S3.hx rfl (S3.dec d5_81) rfl) ?_
    show own_F p e below s Z _ _ _ _ _ (T3.setTop (mkF m 82 #[.val (.ref a1), .val (.long (0 : Int64)), .second, .val (.long (9223372036854775806 : Int64)), .second, .val (.long (((9223372036854775806 : Int64) - (0 : Int64)) + (1 : Int64))), .second, .val (.long ((((9223372036854775807 : Int64) % (((9223372036854775806 : Int64) - (0 : Int64)) + (1 : Int64))) + (1 : Int64)) % (((9223372036854775806 : Int64) - (0 : Int64)) + (1 : Int64)))), .second, .val (.long (own_n63 (x0 + (-7046029254386353131 : Int64)))), .second] [(.long ((0 : Int64) + ((own_n63 (x0 + (-7046029254386353131 : Int64))) % (((9223372036854775806 : Int64) - (0 : Int64)) + (1 : Int64)))))]))
    refine own_retJ S3 d5_82 (by decide) (by decide) ?_
    exact ⟨_, rfl, Or.inl ⟨own_lt1 hc63_4, rfl⟩⟩
  · show own_F p e below s Z _ _ _ _ _ (T3.setTop (mkF m 66 #[.val (.ref a1), .val (.long (0 : Int64)), .second, .val (.long (9223372036854775806 : Int64)), .second, .val (.long (((9223372036854775806 : Int64) - (0 : Int64)) + (1 : Int64))), .second, .val (.long ((((9223372036854775807 : Int64) % (((9223372036854775806 : Int64) - (0 : Int64)) + (1 : Int64))) + (1 : Int64)) % (((9223372036854775806 : Int64) - (0 : Int64)) + (1 : Int64)))), .second, .val (.long (own_n63 (x0 + (-7046029254386353131 : Int64)))), .second] []))
    refine own_F.of (fun _ => XS.aloadN S3.here S3.hx rfl (S3.dec d5_66) rfl rfl) ?_
    show own_F p e below s Z _ _ _ _ _ (T3.setTop (mkF m 67 #[.val (.ref a1), .val (.long (0 : Int64)), .second, .val (.long (9223372036854775806 : Int64)), .second, .val (.long (((9223372036854775806 : Int64) - (0 : Int64)) + (1 : Int64))), .second, .val (.long ((((9223372036854775807 : Int64) % (((9223372036854775806 : Int64) - (0 : Int64)) + (1 : Int64))) + (1 : Int64)) % (((9223372036854775806 : Int64) - (0 : Int64)) + (1 : Int64)))), .second, .val (.long (own_n63 (x0 + (-7046029254386353131 : Int64)))), .second] [(.ref a1)]))
    have f5 := (E_a1.keep K3)
    refine own_callP S3 (y := (⟨"com/example/slackweave/slackweave/random/Draws", "next63", "()J"⟩ : MethodName)) (own_w hw 17 rfl) (own_w hw 18 rfl) (own_w hw 1 rfl) (own_w hw 19 rfl) (own_w hw 20 rfl) (own_w hw 2 rfl) (by decide) f5 (argsL := []) (rest := []) (own_next l Z a0 hw a1 (x0 + (-7046029254386353131 : Int64)) h3 S3.old ga f5 F3) (allS (Or.inl (List.mem_of_getElem? (i := 0) rfl)) all0) (by decide +kernel : parseMethodDescriptor "()J" = some ⟨[], some .long⟩) rfl rfl rfl d5_67 (by decide) (Nat.le_of_ble_eq_true rfl) (by decide) (by decide) (fun T6 h6 v6 S6 K6 q6 => ?_)
    obtain ⟨rfl, F6⟩ := q6
    show own_F p e below s Z _ _ _ _ _ (T6.setTop (mkF m 70 #[.val (.ref a1), .val (.long (0 : Int64)), .second, .val (.long (9223372036854775806 : Int64)), .second, .val (.long (((9223372036854775806 : Int64) - (0 : Int64)) + (1 : Int64))), .second, .val (.long ((((9223372036854775807 : Int64) % (((9223372036854775806 : Int64) - (0 : Int64)) + (1 : Int64))) + (1 : Int64)) % (((9223372036854775806 : Int64) - (0 : Int64)) + (1 : Int64)))), .second, .val (.long (own_n63 (x0 + (-7046029254386353131 : Int64)))), .second] [(.long (own_n63 ((x0 + (-7046029254386353131 : Int64)) + (-7046029254386353131 : Int64))))]))
    refine own_F.of (fun _ => XS.lstore S6.here S6.hx rfl (S6.dec d5_70) rfl (l' := #[.val (.ref a1), .val (.long (0 : Int64)), .second, .val (.long (9223372036854775806 : Int64)), .second, .val (.long (((9223372036854775806 : Int64) - (0 : Int64)) + (1 : Int64))), .second, .val (.long ((((9223372036854775807 : Int64) % (((9223372036854775806 : Int64) - (0 : Int64)) + (1 : Int64))) + (1 : Int64)) % (((9223372036854775806 : Int64) - (0 : Int64)) + (1 : Int64)))), .second, .val (.long (own_n63 ((x0 + (-7046029254386353131 : Int64)) + (-7046029254386353131 : Int64)))), .second]) rfl) ?_
    show own_F p e below s Z _ _ _ _ _ (T6.setTop (mkF m 72 #[.val (.ref a1), .val (.long (0 : Int64)), .second, .val (.long (9223372036854775806 : Int64)), .second, .val (.long (((9223372036854775806 : Int64) - (0 : Int64)) + (1 : Int64))), .second, .val (.long ((((9223372036854775807 : Int64) % (((9223372036854775806 : Int64) - (0 : Int64)) + (1 : Int64))) + (1 : Int64)) % (((9223372036854775806 : Int64) - (0 : Int64)) + (1 : Int64)))), .second, .val (.long (own_n63 ((x0 + (-7046029254386353131 : Int64)) + (-7046029254386353131 : Int64)))), .second] []))
    refine own_F.of (fun _ => XS.goto S6.here S6.hx rfl (pc0 := 72) (pc' := 54) rfl (S6.dec d5_72) (by decide) (by decide)) ?_
    show own_F p e below s Z _ _ _ _ _ (T6.setTop (mkF m 54 #[.val (.ref a1), .val (.long (0 : Int64)), .second, .val (.long (9223372036854775806 : Int64)), .second, .val (.long (((9223372036854775806 : Int64) - (0 : Int64)) + (1 : Int64))), .second, .val (.long ((((9223372036854775807 : Int64) % (((9223372036854775806 : Int64) - (0 : Int64)) + (1 : Int64))) + (1 : Int64)) % (((9223372036854775806 : Int64) - (0 : Int64)) + (1 : Int64)))), .second, .val (.long (own_n63 ((x0 + (-7046029254386353131 : Int64)) + (-7046029254386353131 : Int64)))), .second] []))
    refine own_F.of (fun _ => XS.lload S6.here S6.hx rfl (S6.dec d5_54) rfl) ?_
    show own_F p e below s Z _ _ _ _ _ (T6.setTop (mkF m 56 #[.val (.ref a1), .val (.long (0 : Int64)), .second, .val (.long (9223372036854775806 : Int64)), .second, .val (.long (((9223372036854775806 : Int64) - (0 : Int64)) + (1 : Int64))), .second, .val (.long ((((9223372036854775807 : Int64) % (((9223372036854775806 : Int64) - (0 : Int64)) + (1 : Int64))) + (1 : Int64)) % (((9223372036854775806 : Int64) - (0 : Int64)) + (1 : Int64)))), .second, .val (.long (own_n63 ((x0 + (-7046029254386353131 : Int64)) + (-7046029254386353131 : Int64)))), .second] [(.long (own_n63 ((x0 + (-7046029254386353131 : Int64)) + (-7046029254386353131 : Int64))))]))
    refine own_ldcJ S6 (own_w hw 30 rfl) d5_56 ?_
    show own_F p e below s Z _ _ _ _ _ (T6.setTop (mkF m 59 #[.val (.ref a1), .val (.long (0 : Int64)), .second, .val (.long (9223372036854775806 : Int64)), .second, .val (.long (((9223372036854775806 : Int64) - (0 : Int64)) + (1 : Int64))), .second, .val (.long ((((9223372036854775807 : Int64) % (((9223372036854775806 : Int64) - (0 : Int64)) + (1 : Int64))) + (1 : Int64)) % (((9223372036854775806 : Int64) - (0 : Int64)) + (1 : Int64)))), .second, .val (.long (own_n63 ((x0 + (-7046029254386353131 : Int64)) + (-7046029254386353131 : Int64)))), .second] [(.long (9223372036854775807 : Int64)), (.long (own_n63 ((x0 + (-7046029254386353131 : Int64)) + (-7046029254386353131 : Int64))))]))
    refine own_F.of (fun _ => XS.lload S6.here S6.hx rfl (S6.dec d5_59) rfl) ?_
    show own_F p e below s Z _ _ _ _ _ (T6.setTop (mkF m 61 #[.val (.ref a1), .val (.long (0 : Int64)), .second, .val (.long (9223372036854775806 : Int64)), .second, .val (.long (((9223372036854775806 : Int64) - (0 : Int64)) + (1 : Int64))), .second, .val (.long ((((9223372036854775807 : Int64) % (((9223372036854775806 : Int64) - (0 : Int64)) + (1 : Int64))) + (1 : Int64)) % (((9223372036854775806 : Int64) - (0 : Int64)) + (1 : Int64)))), .second, .val (.long (own_n63 ((x0 + (-7046029254386353131 : Int64)) + (-7046029254386353131 : Int64)))), .second] [(.long ((((9223372036854775807 : Int64) % (((9223372036854775806 : Int64) - (0 : Int64)) + (1 : Int64))) + (1 : Int64)) % (((9223372036854775806 : Int64) - (0 : Int64)) + (1 : Int64)))), (.long (9223372036854775807 : Int64)), (.long (own_n63 ((x0 + (-7046029254386353131 : Int64)) + (-7046029254386353131 : Int64))))]))
    refine own_F.of (fun _ => XS.lsub S6.here S6.hx rfl (S6.dec d5_61) rfl) ?_
    show own_F p e below s Z _ _ _ _ _ (T6.setTop (mkF m 62 #[.val (.ref a1), .val (.long (0 : Int64)), .second, .val (.long (9223372036854775806 : Int64)), .second, .val (.long (((9223372036854775806 : Int64) - (0 : Int64)) + (1 : Int64))), .second, .val (.long ((((9223372036854775807 : Int64) % (((9223372036854775806 : Int64) - (0 : Int64)) + (1 : Int64))) + (1 : Int64)) % (((9223372036854775806 : Int64) - (0 : Int64)) + (1 : Int64)))), .second, .val (.long (own_n63 ((x0 + (-7046029254386353131 : Int64)) + (-7046029254386353131 : Int64)))), .second] [(.long ((9223372036854775807 : Int64) - ((((9223372036854775807 : Int64) % (((9223372036854775806 : Int64) - (0 : Int64)) + (1 : Int64))) + (1 : Int64)) % (((9223372036854775806 : Int64) - (0 : Int64)) + (1 : Int64))))), (.long (own_n63 ((x0 + (-7046029254386353131 : Int64)) + (-7046029254386353131 : Int64))))]))
    refine own_F.of (fun _ => XS.lcmp S6.here S6.hx rfl (S6.dec d5_62) rfl) ?_
    show own_F p e below s Z _ _ _ _ _ (T6.setTop (mkF m 63 #[.val (.ref a1), .val (.long (0 : Int64)), .second, .val (.long (9223372036854775806 : Int64)), .second, .val (.long (((9223372036854775806 : Int64) - (0 : Int64)) + (1 : Int64))), .second, .val (.long ((((9223372036854775807 : Int64) % (((9223372036854775806 : Int64) - (0 : Int64)) + (1 : Int64))) + (1 : Int64)) % (((9223372036854775806 : Int64) - (0 : Int64)) + (1 : Int64)))), .second, .val (.long (own_n63 ((x0 + (-7046029254386353131 : Int64)) + (-7046029254386353131 : Int64)))), .second] [(.int (lcmpW (own_n63 ((x0 + (-7046029254386353131 : Int64)) + (-7046029254386353131 : Int64))) ((9223372036854775807 : Int64) - ((((9223372036854775807 : Int64) % (((9223372036854775806 : Int64) - (0 : Int64)) + (1 : Int64))) + (1 : Int64)) % (((9223372036854775806 : Int64) - (0 : Int64)) + (1 : Int64))))))]))
    refine own_if S6 75 d5_63 (by decide) (by decide) (fun (hc63_7 : ¬ ((0 : Int32) < (lcmpW (own_n63 ((x0 + (-7046029254386353131 : Int64)) + (-7046029254386353131 : Int64))) ((9223372036854775807 : Int64) - ((((9223372036854775807 : Int64) % (((9223372036854775806 : Int64) - (0 : Int64)) + (1 : Int64))) + (1 : Int64)) % (((9223372036854775806 : Int64) - (0 : Int64)) + (1 : Int64))))))) => ?_) (fun (hc63_7 : (0 : Int32) < (lcmpW (own_n63 ((x0 + (-7046029254386353131 : Int64)) + (-7046029254386353131 : Int64))) ((9223372036854775807 : Int64) - ((((9223372036854775807 : Int64) % (((9223372036854775806 : Int64) - (0 : Int64)) + (1 : Int64))) + (1 : Int64)) % (((9223372036854775806 : Int64) - (0 : Int64)) + (1 : Int64)))))) => False.elim (own_le2 hc63_4 hc63_7))
    show own_F p e below s Z _ _ _ _ _ (T6.setTop (mkF m 75 #[.val (.ref a1), .val (.long (0 : Int64)), .second, .val (.long (9223372036854775806 : Int64)), .second, .val (.long (((9223372036854775806 : Int64) - (0 : Int64)) + (1 : Int64))), .second, .val (.long ((((9223372036854775807 : Int64) % (((9223372036854775806 : Int64) - (0 : Int64)) + (1 : Int64))) + (1 : Int64)) % (((9223372036854775806 : Int64) - (0 : Int64)) + (1 : Int64)))), .second, .val (.long (own_n63 ((x0 + (-7046029254386353131 : Int64)) + (-7046029254386353131 : Int64)))), .second] []))
    refine own_F.of (fun _ => XS.lloadN S6.here S6.hx rfl (S6.dec d5_75) rfl) ?_
    show own_F p e below s Z _ _ _ _ _ (T6.setTop (mkF m 76 #[.val (.ref a1), .val (.long (0 : Int64)), .second, .val (.long (9223372036854775806 : Int64)), .second, .val (.long (((9223372036854775806 : Int64) - (0 : Int64)) + (1 : Int64))), .second, .val (.long ((((9223372036854775807 : Int64) % (((9223372036854775806 : Int64) - (0 : Int64)) + (1 : Int64))) + (1 : Int64)) % (((9223372036854775806 : Int64) - (0 : Int64)) + (1 : Int64)))), .second, .val (.long (own_n63 ((x0 + (-7046029254386353131 : Int64)) + (-7046029254386353131 : Int64)))), .second] [(.long (0 : Int64))]))
    refine own_F.of (fun _ => XS.lload S6.here S6.hx rfl (S6.dec d5_76) rfl) ?_
    show own_F p e below s Z _ _ _ _ _ (T6.setTop (mkF m 78 #[.val (.ref a1), .val (.long (0 : Int64)), .second, .val (.long (9223372036854775806 : Int64)), .second, .val (.long (((9223372036854775806 : Int64) - (0 : Int64)) + (1 : Int64))), .second, .val (.long ((((9223372036854775807 : Int64) % (((9223372036854775806 : Int64) - (0 : Int64)) + (1 : Int64))) + (1 : Int64)) % (((9223372036854775806 : Int64) - (0 : Int64)) + (1 : Int64)))), .second, .val (.long (own_n63 ((x0 + (-7046029254386353131 : Int64)) + (-7046029254386353131 : Int64)))), .second] [(.long (own_n63 ((x0 + (-7046029254386353131 : Int64)) + (-7046029254386353131 : Int64)))), (.long (0 : Int64))]))
    refine own_F.of (fun _ => XS.lload S6.here S6.hx rfl (S6.dec d5_78) rfl) ?_
    show own_F p e below s Z _ _ _ _ _ (T6.setTop (mkF m 80 #[.val (.ref a1), .val (.long (0 : Int64)), .second, .val (.long (9223372036854775806 : Int64)), .second, .val (.long (((9223372036854775806 : Int64) - (0 : Int64)) + (1 : Int64))), .second, .val (.long ((((9223372036854775807 : Int64) % (((9223372036854775806 : Int64) - (0 : Int64)) + (1 : Int64))) + (1 : Int64)) % (((9223372036854775806 : Int64) - (0 : Int64)) + (1 : Int64)))), .second, .val (.long (own_n63 ((x0 + (-7046029254386353131 : Int64)) + (-7046029254386353131 : Int64)))), .second] [(.long (((9223372036854775806 : Int64) - (0 : Int64)) + (1 : Int64))), (.long (own_n63 ((x0 + (-7046029254386353131 : Int64)) + (-7046029254386353131 : Int64)))), (.long (0 : Int64))]))
    refine own_F.of (fun _ => own_lrem S6 d5_80 (by decide)) ?_
    show own_F p e below s Z _ _ _ _ _ (T6.setTop (mkF m 81 #[.val (.ref a1), .val (.long (0 : Int64)), .second, .val (.long (9223372036854775806 : Int64)), .second, .val (.long (((9223372036854775806 : Int64) - (0 : Int64)) + (1 : Int64))), .second, .val (.long ((((9223372036854775807 : Int64) % (((9223372036854775806 : Int64) - (0 : Int64)) + (1 : Int64))) + (1 : Int64)) % (((9223372036854775806 : Int64) - (0 : Int64)) + (1 : Int64)))), .second, .val (.long (own_n63 ((x0 + (-7046029254386353131 : Int64)) + (-7046029254386353131 : Int64)))), .second] [(.long ((own_n63 ((x0 + (-7046029254386353131 : Int64)) + (-7046029254386353131 : Int64))) % (((9223372036854775806 : Int64) - (0 : Int64)) + (1 : Int64)))), (.long (0 : Int64))]))
    refine own_F.of (fun _ => XS.ladd S6.here S6.hx rfl (S6.dec d5_81) rfl) ?_
    show own_F p e below s Z _ _ _ _ _ (T6.setTop (mkF m 82 #[.val (.ref a1), .val (.long (0 : Int64)), .second, .val (.long (9223372036854775806 : Int64)), .second, .val (.long (((9223372036854775806 : Int64) - (0 : Int64)) + (1 : Int64))), .second, .val (.long ((((9223372036854775807 : Int64) % (((9223372036854775806 : Int64) - (0 : Int64)) + (1 : Int64))) + (1 : Int64)) % (((9223372036854775806 : Int64) - (0 : Int64)) + (1 : Int64)))), .second, .val (.long (own_n63 ((x0 + (-7046029254386353131 : Int64)) + (-7046029254386353131 : Int64)))), .second] [(.long ((0 : Int64) + ((own_n63 ((x0 + (-7046029254386353131 : Int64)) + (-7046029254386353131 : Int64))) % (((9223372036854775806 : Int64) - (0 : Int64)) + (1 : Int64)))))]))
    refine own_retJ S6 d5_82 (by decide) (by decide) ?_
    exact ⟨_, rfl, Or.inr (own_ge1 hc63_4)⟩
theorem pn0 : plainFor x = true := plainFor_of_name (by first | (simp [plainName, overriddenIn]; done) | decide +kernel)
set_option maxRecDepth 65536 in
set_option maxHeartbeats 40000000 in
theorem own_law (l : Launch) (Z : State) (a0 : Array Value) (hw : ∀ d ∈ tables_1, d.before a0 Z = true) (q0 : Int64) (h0 : Heap) (hO : Ext Z.heap h0) :
    own_C l Z x code maxLocals ret tables_1 room_1 [] #[(.long q0)] h0 (fun v _ => v = some (.int 1)) := by
  refine own_C.of pn0 hO all0 ?_
  intro p e s m below meth c T0 S0
  refine own_F.cast (by first | (simp [entryFrame, mkF, argsToLocals, Value.category, maxLocals]; done) | rfl : entryFrame m #[(.long q0)] maxLocals = mkF m 0 #[.val (.long q0), .second, .unset, .unset, .unset, .unset, .unset, .unset, .unset, .unset, .unset, .unset, .unset, .unset, .unset, .unset, .unset, .unset, .unset, .unset, .unset] []) ?_
  show own_F p e below s Z _ _ _ _ _ (T0.setTop (mkF m 0 #[.val (.long q0), .second, .unset, .unset, .unset, .unset, .unset, .unset, .unset, .unset, .unset, .unset, .unset, .unset, .unset, .unset, .unset, .unset, .unset, .unset, .unset] []))
  refine own_new S0 (own_w hw 0 rfl) (own_w hw 1 rfl) (own_w hw 2 rfl) at_0 (by decide) (by decide) (fun T1 h1 b1 g1 S1 E1 A1 D1 => ?_)
  have F1_state : Fld Z h1 b1 "com/example/slackweave/slackweave/random/Draws" "state" "J" (.long (0 : Int64)) := (D1 (Or.inl (own_w hw 10 rfl)) (ty := .long) (by decide))
  show own_F p e below s Z _ _ _ _ _ (T1.setTop (mkF m 3 #[.val (.long q0), .second, .unset, .unset, .unset, .unset, .unset, .unset, .unset, .unset, .unset, .unset, .unset, .unset, .unset, .unset, .unset, .unset, .unset, .unset, .unset] [(.ref b1)]))
  refine own_F.of (fun _ => XS.dup S1.here S1.hx rfl (S1.dec at_3) rfl rfl) ?_
  show own_F p e below s Z _ _ _ _ _ (T1.setTop (mkF m 4 #[.val (.long q0), .second, .unset, .unset, .unset, .unset, .unset, .unset, .unset, .unset, .unset, .unset, .unset, .unset, .unset, .unset, .unset, .unset, .unset, .unset, .unset] [(.ref b1), (.ref b1)]))
  refine own_F.of (fun _ => XS.lloadN S1.here S1.hx rfl (S1.dec at_4) rfl) ?_
  show own_F p e below s Z _ _ _ _ _ (T1.setTop (mkF m 5 #[.val (.long q0), .second, .unset, .unset, .unset, .unset, .unset, .unset, .unset, .unset, .unset, .unset, .unset, .unset, .unset, .unset, .unset, .unset, .unset, .unset, .unset] [(.long q0), (.ref b1), (.ref b1)]))
  refine own_callI S1 (y := (⟨"com/example/slackweave/slackweave/random/Draws", "<init>", "(J)V"⟩ : MethodName)) rfl (own_w hw 3 rfl) (own_w hw 4 rfl) (own_w hw 2 rfl) (own_w hw 5 rfl) (by decide) (argsL := [(.long q0)]) (rest := [(.ref b1)]) (own_init l Z a0 hw b1 q0 (0 : Int64) h1 S1.old (own_mayN S1 (Or.inr (by rw [g1]; exact S0.size))) A1 F1_state) (allS (Or.inr (by rw [g1]; exact S0.size)) all0) (by decide +kernel : parseMethodDescriptor "(J)V" = some ⟨[.long], none⟩) rfl rfl rfl at_5 (by decide) (Nat.le_of_ble_eq_true rfl) (by decide) (by decide) (fun T2 h2 v2 S2 K2 q2 => ?_)
  obtain ⟨rfl, F2⟩ := q2
  show own_F p e below s Z _ _ _ _ _ (T2.setTop (mkF m 8 #[.val (.long q0), .second, .unset, .unset, .unset, .unset, .unset, .unset, .unset, .unset, .unset, .unset, .unset, .unset, .unset, .unset, .unset, .unset, .unset, .unset, .unset] [(.ref b1)]))
  refine own_F.of (fun _ => XS.astoreN S2.here S2.hx rfl (S2.dec at_8) rfl rfl (l' := #[.val (.long q0), .second, .val (.ref b1), .unset, .unset, .unset, .unset, .unset, .unset, .unset, .unset, .unset, .unset, .unset, .unset, .unset, .unset, .unset, .unset, .unset, .unset]) rfl) ?_
  show own_F p e below s Z _ _ _ _ _ (T2.setTop (mkF m 9 #[.val (.long q0), .second, .val (.ref b1), .unset, .unset, .unset, .unset, .unset, .unset, .unset, .unset, .unset, .unset, .unset, .unset, .unset, .unset, .unset, .unset, .unset, .unset] []))
  refine own_new S2 (own_w hw 0 rfl) (own_w hw 1 rfl) (own_w hw 2 rfl) at_9 (by decide) (by decide) (fun T3 h3 b3 g3 S3 E3 A3 D3 => ?_)
  have F3_state : Fld Z h3 b3 "com/example/slackweave/slackweave/random/Draws" "state" "J" (.long (0 : Int64)) := (D3 (Or.inl (own_w hw 10 rfl)) (ty := .long) (by decide))
  show own_F p e below s Z _ _ _ _ _ (T3.setTop (mkF m 12 #[.val (.long q0), .second, .val (.ref b1), .unset, .unset, .unset, .unset, .unset, .unset, .unset, .unset, .unset, .unset, .unset, .unset, .unset, .unset, .unset, .unset, .unset, .unset] [(.ref b3)]))
  refine own_F.of (fun _ => XS.dup S3.here S3.hx rfl (S3.dec at_12) rfl rfl) ?_
  show own_F p e below s Z _ _ _ _ _ (T3.setTop (mkF m 13 #[.val (.long q0), .second, .val (.ref b1), .unset, .unset, .unset, .unset, .unset, .unset, .unset, .unset, .unset, .unset, .unset, .unset, .unset, .unset, .unset, .unset, .unset, .unset] [(.ref b3), (.ref b3)]))
  refine own_F.of (fun _ => XS.lloadN S3.here S3.hx rfl (S3.dec at_13) rfl) ?_
  show own_F p e below s Z _ _ _ _ _ (T3.setTop (mkF m 14 #[.val (.long q0), .second, .val (.ref b1), .unset, .unset, .unset, .unset, .unset, .unset, .unset, .unset, .unset, .unset, .unset, .unset, .unset, .unset, .unset, .unset, .unset, .unset] [(.long q0), (.ref b3), (.ref b3)]))
  refine own_callI S3 (y := (⟨"com/example/slackweave/slackweave/random/Draws", "<init>", "(J)V"⟩ : MethodName)) rfl (own_w hw 3 rfl) (own_w hw 4 rfl) (own_w hw 2 rfl) (own_w hw 5 rfl) (by decide) (argsL := [(.long q0)]) (rest := [(.ref b3)]) (own_init l Z a0 hw b3 q0 (0 : Int64) h3 S3.old (own_mayN S3 (Or.inr (by rw [g3]; exact S2.size))) A3 F3_state) (allS (Or.inr (by rw [g3]; exact S2.size)) all0) (by decide +kernel : parseMethodDescriptor "(J)V" = some ⟨[.long], none⟩) rfl rfl rfl at_14 (by decide) (Nat.le_of_ble_eq_true rfl) (by decide) (by decide) (fun T4 h4 v4 S4 K4 q4 => ?_)
  obtain ⟨rfl, F4⟩ := q4
  show own_F p e below s Z _ _ _ _ _ (T4.setTop (mkF m 17 #[.val (.long q0), .second, .val (.ref b1), .unset, .unset, .unset, .unset, .unset, .unset, .unset, .unset, .unset, .unset, .unset, .unset, .unset, .unset, .unset, .unset, .unset, .unset] [(.ref b3)]))
  refine own_F.of (fun _ => XS.astoreN S4.here S4.hx rfl (S4.dec at_17) rfl rfl (l' := #[.val (.long q0), .second, .val (.ref b1), .val (.ref b3), .unset, .unset, .unset, .unset, .unset, .unset, .unset, .unset, .unset, .unset, .unset, .unset, .unset, .unset, .unset, .unset, .unset]) rfl) ?_
  show own_F p e below s Z _ _ _ _ _ (T4.setTop (mkF m 18 #[.val (.long q0), .second, .val (.ref b1), .val (.ref b3), .unset, .unset, .unset, .unset, .unset, .unset, .unset, .unset, .unset, .unset, .unset, .unset, .unset, .unset, .unset, .unset, .unset] []))
  refine own_new S4 (own_w hw 0 rfl) (own_w hw 1 rfl) (own_w hw 2 rfl) at_18 (by decide) (by decide) (fun T5 h5 b5 g5 S5 E5 A5 D5 => ?_)
  have F5_state : Fld Z h5 b5 "com/example/slackweave/slackweave/random/Draws" "state" "J" (.long (0 : Int64)) := (D5 (Or.inl (own_w hw 10 rfl)) (ty := .long) (by decide))
  show own_F p e below s Z _ _ _ _ _ (T5.setTop (mkF m 21 #[.val (.long q0), .second, .val (.ref b1), .val (.ref b3), .unset, .unset, .unset, .unset, .unset, .unset, .unset, .unset, .unset, .unset, .unset, .unset, .unset, .unset, .unset, .unset, .unset] [(.ref b5)]))
  refine own_F.of (fun _ => XS.dup S5.here S5.hx rfl (S5.dec at_21) rfl rfl) ?_
  show own_F p e below s Z _ _ _ _ _ (T5.setTop (mkF m 22 #[.val (.long q0), .second, .val (.ref b1), .val (.ref b3), .unset, .unset, .unset, .unset, .unset, .unset, .unset, .unset, .unset, .unset, .unset, .unset, .unset, .unset, .unset, .unset, .unset] [(.ref b5), (.ref b5)]))
  refine own_F.of (fun _ => XS.lloadN S5.here S5.hx rfl (S5.dec at_22) rfl) ?_
  show own_F p e below s Z _ _ _ _ _ (T5.setTop (mkF m 23 #[.val (.long q0), .second, .val (.ref b1), .val (.ref b3), .unset, .unset, .unset, .unset, .unset, .unset, .unset, .unset, .unset, .unset, .unset, .unset, .unset, .unset, .unset, .unset, .unset] [(.long q0), (.ref b5), (.ref b5)]))
  refine own_callI S5 (y := (⟨"com/example/slackweave/slackweave/random/Draws", "<init>", "(J)V"⟩ : MethodName)) rfl (own_w hw 3 rfl) (own_w hw 4 rfl) (own_w hw 2 rfl) (own_w hw 5 rfl) (by decide) (argsL := [(.long q0)]) (rest := [(.ref b5)]) (own_init l Z a0 hw b5 q0 (0 : Int64) h5 S5.old (own_mayN S5 (Or.inr (by rw [g5]; exact S4.size))) A5 F5_state) (allS (Or.inr (by rw [g5]; exact S4.size)) all0) (by decide +kernel : parseMethodDescriptor "(J)V" = some ⟨[.long], none⟩) rfl rfl rfl at_23 (by decide) (Nat.le_of_ble_eq_true rfl) (by decide) (by decide) (fun T6 h6 v6 S6 K6 q6 => ?_)
  obtain ⟨rfl, F6⟩ := q6
  show own_F p e below s Z _ _ _ _ _ (T6.setTop (mkF m 26 #[.val (.long q0), .second, .val (.ref b1), .val (.ref b3), .unset, .unset, .unset, .unset, .unset, .unset, .unset, .unset, .unset, .unset, .unset, .unset, .unset, .unset, .unset, .unset, .unset] [(.ref b5)]))
  refine own_F.of (fun _ => XS.astore S6.here S6.hx rfl (S6.dec at_26) rfl rfl (l' := #[.val (.long q0), .second, .val (.ref b1), .val (.ref b3), .val (.ref b5), .unset, .unset, .unset, .unset, .unset, .unset, .unset, .unset, .unset, .unset, .unset, .unset, .unset, .unset, .unset, .unset]) rfl) ?_
  show own_F p e below s Z _ _ _ _ _ (T6.setTop (mkF m 28 #[.val (.long q0), .second, .val (.ref b1), .val (.ref b3), .val (.ref b5), .unset, .unset, .unset, .unset, .unset, .unset, .unset, .unset, .unset, .unset, .unset, .unset, .unset, .unset, .unset, .unset] []))
  refine own_ldcJ S6 (own_w hw 11 rfl) at_28 ?_
  show own_F p e below s Z _ _ _ _ _ (T6.setTop (mkF m 31 #[.val (.long q0), .second, .val (.ref b1), .val (.ref b3), .val (.ref b5), .unset, .unset, .unset, .unset, .unset, .unset, .unset, .unset, .unset, .unset, .unset, .unset, .unset, .unset, .unset, .unset] [(.long (4611686018427387903 : Int64))]))
  refine own_F.of (fun _ => XS.lstore S6.here S6.hx rfl (S6.dec at_31) rfl (l' := #[.val (.long q0), .second, .val (.ref b1), .val (.ref b3), .val (.ref b5), .val (.long (4611686018427387903 : Int64)), .second, .unset, .unset, .unset, .unset, .unset, .unset, .unset, .unset, .unset, .unset, .unset, .unset, .unset, .unset]) rfl) ?_
  show own_F p e below s Z _ _ _ _ _ (T6.setTop (mkF m 33 #[.val (.long q0), .second, .val (.ref b1), .val (.ref b3), .val (.ref b5), .val (.long (4611686018427387903 : Int64)), .second, .unset, .unset, .unset, .unset, .unset, .unset, .unset, .unset, .unset, .unset, .unset, .unset, .unset, .unset] []))
  refine own_F.of (fun _ => XS.aloadN S6.here S6.hx rfl (S6.dec at_33) rfl rfl) ?_
  show own_F p e below s Z _ _ _ _ _ (T6.setTop (mkF m 34 #[.val (.long q0), .second, .val (.ref b1), .val (.ref b3), .val (.ref b5), .val (.long (4611686018427387903 : Int64)), .second, .unset, .unset, .unset, .unset, .unset, .unset, .unset, .unset, .unset, .unset, .unset, .unset, .unset, .unset] [(.ref b1)]))
  have f7 := (((((A1.keep K2).ext E3).keep K4).ext E5).keep K6)
  have f8 := ((((F2.ext E3).keep K4 (ninS (Nat.ne_of_lt (by rw [g3]; exact (F2).lt)) nin0)).ext E5).keep K6 (ninS (Nat.ne_of_lt (by rw [g5]; exact (((F2.ext E3).keep K4 (ninS (Nat.ne_of_lt (by rw [g3]; exact (F2).lt)) nin0))).lt)) nin0))
  refine own_callV S6 (y := (⟨"com/example/slackweave/slackweave/random/Draws", "fraction", "()D"⟩ : MethodName)) (y' := (⟨"com/example/slackweave/slackweave/random/Draws", "fraction", "()D"⟩ : MethodName)) (own_w hw 12 rfl) (own_w hw 13 rfl) (own_nf S6 (own_w hw 15 rfl)) (own_w hw 15 rfl) (own_w hw 14 rfl) (own_w hw 16 rfl) (own_w hw 2 rfl) (by decide) f7 (argsL := []) (rest := []) (own_frac l Z a0 hw b1 q0 h6 S6.old (own_mayN S6 (Or.inr (by rw [g1]; exact S0.size))) f7 f8) (allS (Or.inr (by rw [g1]; exact S0.size)) all0) (by decide +kernel : parseMethodDescriptor "()D" = some ⟨[], some .double⟩) rfl rfl rfl at_34 (by decide) (Nat.le_of_ble_eq_true rfl) (by decide) (by decide) (fun T9 h9 v9 S9 K9 q9 => ?_)
  obtain ⟨rfl, F9⟩ := q9
  show own_F p e below s Z _ _ _ _ _ (T9.setTop (mkF m 37 #[.val (.long q0), .second, .val (.ref b1), .val (.ref b3), .val (.ref b5), .val (.long (4611686018427387903 : Int64)), .second, .unset, .unset, .unset, .unset, .unset, .unset, .unset, .unset, .unset, .unset, .unset, .unset, .unset, .unset] [(.double (own_fr (own_n63 (q0 + (-7046029254386353131 : Int64)))))]))
  refine own_F.of (fun _ => XS.dstore S9.here S9.hx rfl (S9.dec at_37) rfl (l' := #[.val (.long q0), .second, .val (.ref b1), .val (.ref b3), .val (.ref b5), .val (.long (4611686018427387903 : Int64)), .second, .val (.double (own_fr (own_n63 (q0 + (-7046029254386353131 : Int64))))), .second, .unset, .unset, .unset, .unset, .unset, .unset, .unset, .unset, .unset, .unset, .unset, .unset]) rfl) ?_
  show own_F p e below s Z _ _ _ _ _ (T9.setTop (mkF m 39 #[.val (.long q0), .second, .val (.ref b1), .val (.ref b3), .val (.ref b5), .val (.long (4611686018427387903 : Int64)), .second, .val (.double (own_fr (own_n63 (q0 + (-7046029254386353131 : Int64))))), .second, .unset, .unset, .unset, .unset, .unset, .unset, .unset, .unset, .unset, .unset, .unset, .unset] []))
  refine own_F.of (fun _ => XS.aloadN S9.here S9.hx rfl (S9.dec at_39) rfl rfl) ?_
  show own_F p e below s Z _ _ _ _ _ (T9.setTop (mkF m 40 #[.val (.long q0), .second, .val (.ref b1), .val (.ref b3), .val (.ref b5), .val (.long (4611686018427387903 : Int64)), .second, .val (.double (own_fr (own_n63 (q0 + (-7046029254386353131 : Int64))))), .second, .unset, .unset, .unset, .unset, .unset, .unset, .unset, .unset, .unset, .unset, .unset, .unset] [(.ref b3)]))
  refine own_F.of (fun _ => XS.lconst S9.here S9.hx rfl (S9.dec at_40)) ?_
  show own_F p e below s Z _ _ _ _ _ (T9.setTop (mkF m 41 #[.val (.long q0), .second, .val (.ref b1), .val (.ref b3), .val (.ref b5), .val (.long (4611686018427387903 : Int64)), .second, .val (.double (own_fr (own_n63 (q0 + (-7046029254386353131 : Int64))))), .second, .unset, .unset, .unset, .unset, .unset, .unset, .unset, .unset, .unset, .unset, .unset, .unset] [(.long (0 : Int64)), (.ref b3)]))
  refine own_F.of (fun _ => XS.lload S9.here S9.hx rfl (S9.dec at_41) rfl) ?_
  show own_F p e below s Z _ _ _ _ _ (T9.setTop (mkF m 43 #[.val (.long q0), .second, .val (.ref b1), .val (.ref b3), .val (.ref b5), .val (.long (4611686018427387903 : Int64)), .second, .val (.double (own_fr (own_n63 (q0 + (-7046029254386353131 : Int64))))), .second, .unset, .unset, .unset, .unset, .unset, .unset, .unset, .unset, .unset, .unset, .unset, .unset] [(.long (4611686018427387903 : Int64)), (.long (0 : Int64)), (.ref b3)]))
  have f10 := ((((A3.keep K4).ext E5).keep K6).keep K9)
  have f11 := (((F4.ext E5).keep K6 (ninS (Nat.ne_of_lt (by rw [g5]; exact (F4).lt)) nin0)).keep K9 (ninS (Ne.symm (Nat.ne_of_lt (by rw [g3]; exact ((A1.keep K2)).lt))) nin0))
  refine own_callV S9 (y := (⟨"com/example/slackweave/slackweave/random/Draws", "between", "(JJ)J"⟩ : MethodName)) (y' := (⟨"com/example/slackweave/slackweave/random/Draws", "between", "(JJ)J"⟩ : MethodName)) (own_w hw 25 rfl) (own_w hw 26 rfl) (own_nf S9 (own_w hw 28 rfl)) (own_w hw 28 rfl) (own_w hw 27 rfl) (own_w hw 29 rfl) (own_w hw 2 rfl) (by decide) f10 (argsL := [(.long (0 : Int64)), (.long (4611686018427387903 : Int64))]) (rest := []) (own_btwA l Z a0 hw b3 q0 h9 S9.old (own_mayN S9 (Or.inr (by rw [g3]; exact S2.size))) f10 f11) (allS (Or.inr (by rw [g3]; exact S2.size)) all0) (by decide +kernel : parseMethodDescriptor "(JJ)J" = some ⟨[.long, .long], some .long⟩) rfl rfl rfl at_43 (by decide) (Nat.le_of_ble_eq_true rfl) (by decide) (by decide) (fun T12 h12 v12 S12 K12 q12 => ?_)
  obtain ⟨rfl, F12⟩ := q12
  show own_F p e below s Z _ _ _ _ _ (T12.setTop (mkF m 46 #[.val (.long q0), .second, .val (.ref b1), .val (.ref b3), .val (.ref b5), .val (.long (4611686018427387903 : Int64)), .second, .val (.double (own_fr (own_n63 (q0 + (-7046029254386353131 : Int64))))), .second, .unset, .unset, .unset, .unset, .unset, .unset, .unset, .unset, .unset, .unset, .unset, .unset] [(.long (own_lo (own_n63 (q0 + (-7046029254386353131 : Int64)))))]))
  refine own_F.of (fun _ => XS.lstore S12.here S12.hx rfl (S12.dec at_46) rfl (l' := #[.val (.long q0), .second, .val (.ref b1), .val (.ref b3), .val (.ref b5), .val (.long (4611686018427387903 : Int64)), .second, .val (.double (own_fr (own_n63 (q0 + (-7046029254386353131 : Int64))))), .second, .val (.long (own_lo (own_n63 (q0 + (-7046029254386353131 : Int64))))), .second, .unset, .unset, .unset, .unset, .unset, .unset, .unset, .unset, .unset, .unset]) rfl) ?_
  show own_F p e below s Z _ _ _ _ _ (T12.setTop (mkF m 48 #[.val (.long q0), .second, .val (.ref b1), .val (.ref b3), .val (.ref b5), .val (.long (4611686018427387903 : Int64)), .second, .val (.double (own_fr (own_n63 (q0 + (-7046029254386353131 : Int64))))), .second, .val (.long (own_lo (own_n63 (q0 + (-7046029254386353131 : Int64))))), .second, .unset, .unset, .unset, .unset, .unset, .unset, .unset, .unset, .unset, .unset] []))
  refine own_F.of (fun _ => XS.aload S12.here S12.hx rfl (S12.dec at_48) rfl rfl) ?_
  show own_F p e below s Z _ _ _ _ _ (T12.setTop (mkF m 50 #[.val (.long q0), .second, .val (.ref b1), .val (.ref b3), .val (.ref b5), .val (.long (4611686018427387903 : Int64)), .second, .val (.double (own_fr (own_n63 (q0 + (-7046029254386353131 : Int64))))), .second, .val (.long (own_lo (own_n63 (q0 + (-7046029254386353131 : Int64))))), .second, .unset, .unset, .unset, .unset, .unset, .unset, .unset, .unset, .unset, .unset] [(.ref b5)]))
  refine own_F.of (fun _ => XS.lconst S12.here S12.hx rfl (S12.dec at_50)) ?_
  show own_F p e below s Z _ _ _ _ _ (T12.setTop (mkF m 51 #[.val (.long q0), .second, .val (.ref b1), .val (.ref b3), .val (.ref b5), .val (.long (4611686018427387903 : Int64)), .second, .val (.double (own_fr (own_n63 (q0 + (-7046029254386353131 : Int64))))), .second, .val (.long (own_lo (own_n63 (q0 + (-7046029254386353131 : Int64))))), .second, .unset, .unset, .unset, .unset, .unset, .unset, .unset, .unset, .unset, .unset] [(.long (0 : Int64)), (.ref b5)]))
  refine own_ldcJ S12 (own_w hw 31 rfl) at_51 ?_
  show own_F p e below s Z _ _ _ _ _ (T12.setTop (mkF m 54 #[.val (.long q0), .second, .val (.ref b1), .val (.ref b3), .val (.ref b5), .val (.long (4611686018427387903 : Int64)), .second, .val (.double (own_fr (own_n63 (q0 + (-7046029254386353131 : Int64))))), .second, .val (.long (own_lo (own_n63 (q0 + (-7046029254386353131 : Int64))))), .second, .unset, .unset, .unset, .unset, .unset, .unset, .unset, .unset, .unset, .unset] [(.long (9223372036854775806 : Int64)), (.long (0 : Int64)), (.ref b5)]))
  have f13 := (((A5.keep K6).keep K9).keep K12)
  have f14 := ((F6.keep K9 (ninS (Ne.symm (Nat.ne_of_lt (by rw [g5]; exact ((((A1.keep K2).ext E3).keep K4)).lt))) nin0)).keep K12 (ninS (Ne.symm (Nat.ne_of_lt (by rw [g5]; exact ((A3.keep K4)).lt))) nin0))
  refine own_callV S12 (y := (⟨"com/example/slackweave/slackweave/random/Draws", "between", "(JJ)J"⟩ : MethodName)) (y' := (⟨"com/example/slackweave/slackweave/random/Draws", "between", "(JJ)J"⟩ : MethodName)) (own_w hw 25 rfl) (own_w hw 26 rfl) (own_nf S12 (own_w hw 28 rfl)) (own_w hw 28 rfl) (own_w hw 27 rfl) (own_w hw 29 rfl) (own_w hw 2 rfl) (by decide) f13 (argsL := [(.long (0 : Int64)), (.long (9223372036854775806 : Int64))]) (rest := []) (own_btwB l Z a0 hw b5 q0 h12 S12.old (own_mayN S12 (Or.inr (by rw [g5]; exact S4.size))) f13 f14) (allS (Or.inr (by rw [g5]; exact S4.size)) all0) (by decide +kernel : parseMethodDescriptor "(JJ)J" = some ⟨[.long, .long], some .long⟩) rfl rfl rfl at_54 (by decide) (Nat.le_of_ble_eq_true rfl) (by decide) (by decide) (fun T15 h15 v15 S15 K15 q15 => ?_)
  obtain ⟨z, rfl, hz⟩ := q15
  show own_F p e below s Z _ _ _ _ _ (T15.setTop (mkF m 57 #[.val (.long q0), .second, .val (.ref b1), .val (.ref b3), .val (.ref b5), .val (.long (4611686018427387903 : Int64)), .second, .val (.double (own_fr (own_n63 (q0 + (-7046029254386353131 : Int64))))), .second, .val (.long (own_lo (own_n63 (q0 + (-7046029254386353131 : Int64))))), .second, .unset, .unset, .unset, .unset, .unset, .unset, .unset, .unset, .unset, .unset] [(.long z)]))
  refine own_F.of (fun _ => XS.lstore S15.here S15.hx rfl (S15.dec at_57) rfl (l' := #[.val (.long q0), .second, .val (.ref b1), .val (.ref b3), .val (.ref b5), .val (.long (4611686018427387903 : Int64)), .second, .val (.double (own_fr (own_n63 (q0 + (-7046029254386353131 : Int64))))), .second, .val (.long (own_lo (own_n63 (q0 + (-7046029254386353131 : Int64))))), .second, .val (.long z), .second, .unset, .unset, .unset, .unset, .unset, .unset, .unset, .unset]) rfl) ?_
  show own_F p e below s Z _ _ _ _ _ (T15.setTop (mkF m 59 #[.val (.long q0), .second, .val (.ref b1), .val (.ref b3), .val (.ref b5), .val (.long (4611686018427387903 : Int64)), .second, .val (.double (own_fr (own_n63 (q0 + (-7046029254386353131 : Int64))))), .second, .val (.long (own_lo (own_n63 (q0 + (-7046029254386353131 : Int64))))), .second, .val (.long z), .second, .unset, .unset, .unset, .unset, .unset, .unset, .unset, .unset] []))
  refine own_F.of (fun _ => XS.aloadN S15.here S15.hx rfl (S15.dec at_59) rfl rfl) ?_
  show own_F p e below s Z _ _ _ _ _ (T15.setTop (mkF m 60 #[.val (.long q0), .second, .val (.ref b1), .val (.ref b3), .val (.ref b5), .val (.long (4611686018427387903 : Int64)), .second, .val (.double (own_fr (own_n63 (q0 + (-7046029254386353131 : Int64))))), .second, .val (.long (own_lo (own_n63 (q0 + (-7046029254386353131 : Int64))))), .second, .val (.long z), .second, .unset, .unset, .unset, .unset, .unset, .unset, .unset, .unset] [(.ref b1)]))
  refine own_F.of (fun _ => XS.lconst S15.here S15.hx rfl (S15.dec at_60)) ?_
  show own_F p e below s Z _ _ _ _ _ (T15.setTop (mkF m 61 #[.val (.long q0), .second, .val (.ref b1), .val (.ref b3), .val (.ref b5), .val (.long (4611686018427387903 : Int64)), .second, .val (.double (own_fr (own_n63 (q0 + (-7046029254386353131 : Int64))))), .second, .val (.long (own_lo (own_n63 (q0 + (-7046029254386353131 : Int64))))), .second, .val (.long z), .second, .unset, .unset, .unset, .unset, .unset, .unset, .unset, .unset] [(.long (0 : Int64)), (.ref b1)]))
  refine own_F.of (fun _ => XS.lload S15.here S15.hx rfl (S15.dec at_61) rfl) ?_
  show own_F p e below s Z _ _ _ _ _ (T15.setTop (mkF m 63 #[.val (.long q0), .second, .val (.ref b1), .val (.ref b3), .val (.ref b5), .val (.long (4611686018427387903 : Int64)), .second, .val (.double (own_fr (own_n63 (q0 + (-7046029254386353131 : Int64))))), .second, .val (.long (own_lo (own_n63 (q0 + (-7046029254386353131 : Int64))))), .second, .val (.long z), .second, .unset, .unset, .unset, .unset, .unset, .unset, .unset, .unset] [(.long (4611686018427387903 : Int64)), (.long (0 : Int64)), (.ref b1)]))
  have f16 := (((f7.keep K9).keep K12).keep K15)
  have f17 := ((F9.keep K12 (ninS (Nat.ne_of_lt (by rw [g3]; exact ((A1.keep K2)).lt)) nin0)).keep K15 (ninS (Nat.ne_of_lt (by rw [g5]; exact ((((A1.keep K2).ext E3).keep K4)).lt)) nin0))
  refine own_callV S15 (y := (⟨"com/example/slackweave/slackweave/random/Draws", "between", "(JJ)J"⟩ : MethodName)) (y' := (⟨"com/example/slackweave/slackweave/random/Draws", "between", "(JJ)J"⟩ : MethodName)) (own_w hw 25 rfl) (own_w hw 26 rfl) (own_nf S15 (own_w hw 28 rfl)) (own_w hw 28 rfl) (own_w hw 27 rfl) (own_w hw 29 rfl) (own_w hw 2 rfl) (by decide) f16 (argsL := [(.long (0 : Int64)), (.long (4611686018427387903 : Int64))]) (rest := []) (own_btwA l Z a0 hw b1 (q0 + (-7046029254386353131 : Int64)) h15 S15.old (own_mayN S15 (Or.inr (by rw [g1]; exact S0.size))) f16 f17) (allS (Or.inr (by rw [g1]; exact S0.size)) all0) (by decide +kernel : parseMethodDescriptor "(JJ)J" = some ⟨[.long, .long], some .long⟩) rfl rfl rfl at_63 (by decide) (Nat.le_of_ble_eq_true rfl) (by decide) (by decide) (fun T18 h18 v18 S18 K18 q18 => ?_)
  obtain ⟨rfl, F18⟩ := q18
  show own_F p e below s Z _ _ _ _ _ (T18.setTop (mkF m 66 #[.val (.long q0), .second, .val (.ref b1), .val (.ref b3), .val (.ref b5), .val (.long (4611686018427387903 : Int64)), .second, .val (.double (own_fr (own_n63 (q0 + (-7046029254386353131 : Int64))))), .second, .val (.long (own_lo (own_n63 (q0 + (-7046029254386353131 : Int64))))), .second, .val (.long z), .second, .unset, .unset, .unset, .unset, .unset, .unset, .unset, .unset] [(.long (own_lo (own_n63 ((q0 + (-7046029254386353131 : Int64)) + (-7046029254386353131 : Int64)))))]))
  refine own_F.of (fun _ => XS.lstore S18.here S18.hx rfl (S18.dec at_66) rfl (l' := #[.val (.long q0), .second, .val (.ref b1), .val (.ref b3), .val (.ref b5), .val (.long (4611686018427387903 : Int64)), .second, .val (.double (own_fr (own_n63 (q0 + (-7046029254386353131 : Int64))))), .second, .val (.long (own_lo (own_n63 (q0 + (-7046029254386353131 : Int64))))), .second, .val (.long z), .second, .val (.long (own_lo (own_n63 ((q0 + (-7046029254386353131 : Int64)) + (-7046029254386353131 : Int64))))), .second, .unset, .unset, .unset, .unset, .unset, .unset]) rfl) ?_
  show own_F p e below s Z _ _ _ _ _ (T18.setTop (mkF m 68 #[.val (.long q0), .second, .val (.ref b1), .val (.ref b3), .val (.ref b5), .val (.long (4611686018427387903 : Int64)), .second, .val (.double (own_fr (own_n63 (q0 + (-7046029254386353131 : Int64))))), .second, .val (.long (own_lo (own_n63 (q0 + (-7046029254386353131 : Int64))))), .second, .val (.long z), .second, .val (.long (own_lo (own_n63 ((q0 + (-7046029254386353131 : Int64)) + (-7046029254386353131 : Int64))))), .second, .unset, .unset, .unset, .unset, .unset, .unset] []))
  refine own_F.of (fun _ => XS.aloadN S18.here S18.hx rfl (S18.dec at_68) rfl rfl) ?_
  show own_F p e below s Z _ _ _ _ _ (T18.setTop (mkF m 69 #[.val (.long q0), .second, .val (.ref b1), .val (.ref b3), .val (.ref b5), .val (.long (4611686018427387903 : Int64)), .second, .val (.double (own_fr (own_n63 (q0 + (-7046029254386353131 : Int64))))), .second, .val (.long (own_lo (own_n63 (q0 + (-7046029254386353131 : Int64))))), .second, .val (.long z), .second, .val (.long (own_lo (own_n63 ((q0 + (-7046029254386353131 : Int64)) + (-7046029254386353131 : Int64))))), .second, .unset, .unset, .unset, .unset, .unset, .unset] [(.ref b3)]))
  refine own_F.of (fun _ => XS.lconst S18.here S18.hx rfl (S18.dec at_69)) ?_
  show own_F p e below s Z _ _ _ _ _ (T18.setTop (mkF m 70 #[.val (.long q0), .second, .val (.ref b1), .val (.ref b3), .val (.ref b5), .val (.long (4611686018427387903 : Int64)), .second, .val (.double (own_fr (own_n63 (q0 + (-7046029254386353131 : Int64))))), .second, .val (.long (own_lo (own_n63 (q0 + (-7046029254386353131 : Int64))))), .second, .val (.long z), .second, .val (.long (own_lo (own_n63 ((q0 + (-7046029254386353131 : Int64)) + (-7046029254386353131 : Int64))))), .second, .unset, .unset, .unset, .unset, .unset, .unset] [(.long (0 : Int64)), (.ref b3)]))
  refine own_F.of (fun _ => XS.lload S18.here S18.hx rfl (S18.dec at_70) rfl) ?_
  show own_F p e below s Z _ _ _ _ _ (T18.setTop (mkF m 72 #[.val (.long q0), .second, .val (.ref b1), .val (.ref b3), .val (.ref b5), .val (.long (4611686018427387903 : Int64)), .second, .val (.double (own_fr (own_n63 (q0 + (-7046029254386353131 : Int64))))), .second, .val (.long (own_lo (own_n63 (q0 + (-7046029254386353131 : Int64))))), .second, .val (.long z), .second, .val (.long (own_lo (own_n63 ((q0 + (-7046029254386353131 : Int64)) + (-7046029254386353131 : Int64))))), .second, .unset, .unset, .unset, .unset, .unset, .unset] [(.long (4611686018427387903 : Int64)), (.long (0 : Int64)), (.ref b3)]))
  have f19 := (((f10.keep K12).keep K15).keep K18)
  have f20 := ((F12.keep K15 (ninS (Nat.ne_of_lt (by rw [g5]; exact ((A3.keep K4)).lt)) nin0)).keep K18 (ninS (Ne.symm (Nat.ne_of_lt (by rw [g3]; exact ((A1.keep K2)).lt))) nin0))
  refine own_callV S18 (y := (⟨"com/example/slackweave/slackweave/random/Draws", "between", "(JJ)J"⟩ : MethodName)) (y' := (⟨"com/example/slackweave/slackweave/random/Draws", "between", "(JJ)J"⟩ : MethodName)) (own_w hw 25 rfl) (own_w hw 26 rfl) (own_nf S18 (own_w hw 28 rfl)) (own_w hw 28 rfl) (own_w hw 27 rfl) (own_w hw 29 rfl) (own_w hw 2 rfl) (by decide) f19 (argsL := [(.long (0 : Int64)), (.long (4611686018427387903 : Int64))]) (rest := []) (own_btwA l Z a0 hw b3 (q0 + (-7046029254386353131 : Int64)) h18 S18.old (own_mayN S18 (Or.inr (by rw [g3]; exact S2.size))) f19 f20) (allS (Or.inr (by rw [g3]; exact S2.size)) all0) (by decide +kernel : parseMethodDescriptor "(JJ)J" = some ⟨[.long, .long], some .long⟩) rfl rfl rfl at_72 (by decide) (Nat.le_of_ble_eq_true rfl) (by decide) (by decide) (fun T21 h21 v21 S21 K21 q21 => ?_)
  obtain ⟨rfl, F21⟩ := q21
  show own_F p e below s Z _ _ _ _ _ (T21.setTop (mkF m 75 #[.val (.long q0), .second, .val (.ref b1), .val (.ref b3), .val (.ref b5), .val (.long (4611686018427387903 : Int64)), .second, .val (.double (own_fr (own_n63 (q0 + (-7046029254386353131 : Int64))))), .second, .val (.long (own_lo (own_n63 (q0 + (-7046029254386353131 : Int64))))), .second, .val (.long z), .second, .val (.long (own_lo (own_n63 ((q0 + (-7046029254386353131 : Int64)) + (-7046029254386353131 : Int64))))), .second, .unset, .unset, .unset, .unset, .unset, .unset] [(.long (own_lo (own_n63 ((q0 + (-7046029254386353131 : Int64)) + (-7046029254386353131 : Int64)))))]))
  refine own_F.of (fun _ => XS.lstore S21.here S21.hx rfl (S21.dec at_75) rfl (l' := #[.val (.long q0), .second, .val (.ref b1), .val (.ref b3), .val (.ref b5), .val (.long (4611686018427387903 : Int64)), .second, .val (.double (own_fr (own_n63 (q0 + (-7046029254386353131 : Int64))))), .second, .val (.long (own_lo (own_n63 (q0 + (-7046029254386353131 : Int64))))), .second, .val (.long z), .second, .val (.long (own_lo (own_n63 ((q0 + (-7046029254386353131 : Int64)) + (-7046029254386353131 : Int64))))), .second, .val (.long (own_lo (own_n63 ((q0 + (-7046029254386353131 : Int64)) + (-7046029254386353131 : Int64))))), .second, .unset, .unset, .unset, .unset]) rfl) ?_
  show own_F p e below s Z _ _ _ _ _ (T21.setTop (mkF m 77 #[.val (.long q0), .second, .val (.ref b1), .val (.ref b3), .val (.ref b5), .val (.long (4611686018427387903 : Int64)), .second, .val (.double (own_fr (own_n63 (q0 + (-7046029254386353131 : Int64))))), .second, .val (.long (own_lo (own_n63 (q0 + (-7046029254386353131 : Int64))))), .second, .val (.long z), .second, .val (.long (own_lo (own_n63 ((q0 + (-7046029254386353131 : Int64)) + (-7046029254386353131 : Int64))))), .second, .val (.long (own_lo (own_n63 ((q0 + (-7046029254386353131 : Int64)) + (-7046029254386353131 : Int64))))), .second, .unset, .unset, .unset, .unset] []))
  refine own_F.of (fun _ => XS.lload S21.here S21.hx rfl (S21.dec at_77) rfl) ?_
  show own_F p e below s Z _ _ _ _ _ (T21.setTop (mkF m 79 #[.val (.long q0), .second, .val (.ref b1), .val (.ref b3), .val (.ref b5), .val (.long (4611686018427387903 : Int64)), .second, .val (.double (own_fr (own_n63 (q0 + (-7046029254386353131 : Int64))))), .second, .val (.long (own_lo (own_n63 (q0 + (-7046029254386353131 : Int64))))), .second, .val (.long z), .second, .val (.long (own_lo (own_n63 ((q0 + (-7046029254386353131 : Int64)) + (-7046029254386353131 : Int64))))), .second, .val (.long (own_lo (own_n63 ((q0 + (-7046029254386353131 : Int64)) + (-7046029254386353131 : Int64))))), .second, .unset, .unset, .unset, .unset] [(.long (own_lo (own_n63 ((q0 + (-7046029254386353131 : Int64)) + (-7046029254386353131 : Int64)))))]))
  refine own_F.of (fun _ => XS.lload S21.here S21.hx rfl (S21.dec at_79) rfl) ?_
  show own_F p e below s Z _ _ _ _ _ (T21.setTop (mkF m 81 #[.val (.long q0), .second, .val (.ref b1), .val (.ref b3), .val (.ref b5), .val (.long (4611686018427387903 : Int64)), .second, .val (.double (own_fr (own_n63 (q0 + (-7046029254386353131 : Int64))))), .second, .val (.long (own_lo (own_n63 (q0 + (-7046029254386353131 : Int64))))), .second, .val (.long z), .second, .val (.long (own_lo (own_n63 ((q0 + (-7046029254386353131 : Int64)) + (-7046029254386353131 : Int64))))), .second, .val (.long (own_lo (own_n63 ((q0 + (-7046029254386353131 : Int64)) + (-7046029254386353131 : Int64))))), .second, .unset, .unset, .unset, .unset] [(.long (own_lo (own_n63 ((q0 + (-7046029254386353131 : Int64)) + (-7046029254386353131 : Int64))))), (.long (own_lo (own_n63 ((q0 + (-7046029254386353131 : Int64)) + (-7046029254386353131 : Int64)))))]))
  refine own_F.of (fun _ => XS.lcmp S21.here S21.hx rfl (S21.dec at_81) rfl) ?_
  show own_F p e below s Z _ _ _ _ _ (T21.setTop (mkF m 82 #[.val (.long q0), .second, .val (.ref b1), .val (.ref b3), .val (.ref b5), .val (.long (4611686018427387903 : Int64)), .second, .val (.double (own_fr (own_n63 (q0 + (-7046029254386353131 : Int64))))), .second, .val (.long (own_lo (own_n63 (q0 + (-7046029254386353131 : Int64))))), .second, .val (.long z), .second, .val (.long (own_lo (own_n63 ((q0 + (-7046029254386353131 : Int64)) + (-7046029254386353131 : Int64))))), .second, .val (.long (own_lo (own_n63 ((q0 + (-7046029254386353131 : Int64)) + (-7046029254386353131 : Int64))))), .second, .unset, .unset, .unset, .unset] [(.int (lcmpW (own_lo (own_n63 ((q0 + (-7046029254386353131 : Int64)) + (-7046029254386353131 : Int64)))) (own_lo (own_n63 ((q0 + (-7046029254386353131 : Int64)) + (-7046029254386353131 : Int64))))))]))
  refine own_if S21 87 at_82 (by decide) (by decide) (fun (hc82_22 : (lcmpW (own_lo (own_n63 ((q0 + (-7046029254386353131 : Int64)) + (-7046029254386353131 : Int64)))) (own_lo (own_n63 ((q0 + (-7046029254386353131 : Int64)) + (-7046029254386353131 : Int64))))) = (0 : Int32)) => ?_) (fun (hc82_22 : ¬ ((lcmpW (own_lo (own_n63 ((q0 + (-7046029254386353131 : Int64)) + (-7046029254386353131 : Int64)))) (own_lo (own_n63 ((q0 + (-7046029254386353131 : Int64)) + (-7046029254386353131 : Int64))))) = (0 : Int32))) => False.elim (hc82_22 ((lw_eq _ _).mpr rfl)))
  show own_F p e below s Z _ _ _ _ _ (T21.setTop (mkF m 87 #[.val (.long q0), .second, .val (.ref b1), .val (.ref b3), .val (.ref b5), .val (.long (4611686018427387903 : Int64)), .second, .val (.double (own_fr (own_n63 (q0 + (-7046029254386353131 : Int64))))), .second, .val (.long (own_lo (own_n63 (q0 + (-7046029254386353131 : Int64))))), .second, .val (.long z), .second, .val (.long (own_lo (own_n63 ((q0 + (-7046029254386353131 : Int64)) + (-7046029254386353131 : Int64))))), .second, .val (.long (own_lo (own_n63 ((q0 + (-7046029254386353131 : Int64)) + (-7046029254386353131 : Int64))))), .second, .unset, .unset, .unset, .unset] []))
  refine own_F.of (fun _ => XS.lload S21.here S21.hx rfl (S21.dec at_87) rfl) ?_
  show own_F p e below s Z _ _ _ _ _ (T21.setTop (mkF m 89 #[.val (.long q0), .second, .val (.ref b1), .val (.ref b3), .val (.ref b5), .val (.long (4611686018427387903 : Int64)), .second, .val (.double (own_fr (own_n63 (q0 + (-7046029254386353131 : Int64))))), .second, .val (.long (own_lo (own_n63 (q0 + (-7046029254386353131 : Int64))))), .second, .val (.long z), .second, .val (.long (own_lo (own_n63 ((q0 + (-7046029254386353131 : Int64)) + (-7046029254386353131 : Int64))))), .second, .val (.long (own_lo (own_n63 ((q0 + (-7046029254386353131 : Int64)) + (-7046029254386353131 : Int64))))), .second, .unset, .unset, .unset, .unset] [(.long (own_lo (own_n63 (q0 + (-7046029254386353131 : Int64)))))]))
  refine own_F.of (fun _ => XS.lload S21.here S21.hx rfl (S21.dec at_89) rfl) ?_
  show own_F p e below s Z _ _ _ _ _ (T21.setTop (mkF m 91 #[.val (.long q0), .second, .val (.ref b1), .val (.ref b3), .val (.ref b5), .val (.long (4611686018427387903 : Int64)), .second, .val (.double (own_fr (own_n63 (q0 + (-7046029254386353131 : Int64))))), .second, .val (.long (own_lo (own_n63 (q0 + (-7046029254386353131 : Int64))))), .second, .val (.long z), .second, .val (.long (own_lo (own_n63 ((q0 + (-7046029254386353131 : Int64)) + (-7046029254386353131 : Int64))))), .second, .val (.long (own_lo (own_n63 ((q0 + (-7046029254386353131 : Int64)) + (-7046029254386353131 : Int64))))), .second, .unset, .unset, .unset, .unset] [(.long (4611686018427387903 : Int64)), (.long (own_lo (own_n63 (q0 + (-7046029254386353131 : Int64)))))]))
  refine own_F.of (fun _ => XS.lcmp S21.here S21.hx rfl (S21.dec at_91) rfl) ?_
  show own_F p e below s Z _ _ _ _ _ (T21.setTop (mkF m 92 #[.val (.long q0), .second, .val (.ref b1), .val (.ref b3), .val (.ref b5), .val (.long (4611686018427387903 : Int64)), .second, .val (.double (own_fr (own_n63 (q0 + (-7046029254386353131 : Int64))))), .second, .val (.long (own_lo (own_n63 (q0 + (-7046029254386353131 : Int64))))), .second, .val (.long z), .second, .val (.long (own_lo (own_n63 ((q0 + (-7046029254386353131 : Int64)) + (-7046029254386353131 : Int64))))), .second, .val (.long (own_lo (own_n63 ((q0 + (-7046029254386353131 : Int64)) + (-7046029254386353131 : Int64))))), .second, .unset, .unset, .unset, .unset] [(.int (lcmpW (own_lo (own_n63 (q0 + (-7046029254386353131 : Int64)))) (4611686018427387903 : Int64)))]))
  refine own_if S21 117 at_92 (by decide) (by decide) (fun (hc92_23 : (lcmpW (own_lo (own_n63 (q0 + (-7046029254386353131 : Int64)))) (4611686018427387903 : Int64)) = (0 : Int32)) => ?_) (fun (hc92_23 : ¬ ((lcmpW (own_lo (own_n63 (q0 + (-7046029254386353131 : Int64)))) (4611686018427387903 : Int64)) = (0 : Int32))) => ?_)
  · show own_F p e below s Z _ _ _ _ _ (T21.setTop (mkF m 117 #[.val (.long q0), .second, .val (.ref b1), .val (.ref b3), .val (.ref b5), .val (.long (4611686018427387903 : Int64)), .second, .val (.double (own_fr (own_n63 (q0 + (-7046029254386353131 : Int64))))), .second, .val (.long (own_lo (own_n63 (q0 + (-7046029254386353131 : Int64))))), .second, .val (.long z), .second, .val (.long (own_lo (own_n63 ((q0 + (-7046029254386353131 : Int64)) + (-7046029254386353131 : Int64))))), .second, .val (.long (own_lo (own_n63 ((q0 + (-7046029254386353131 : Int64)) + (-7046029254386353131 : Int64))))), .second, .unset, .unset, .unset, .unset] []))
    refine own_ldcD S21 (own_w hw 33 rfl) at_117 ?_
    show own_F p e below s Z _ _ _ _ _ (T21.setTop (mkF m 120 #[.val (.long q0), .second, .val (.ref b1), .val (.ref b3), .val (.ref b5), .val (.long (4611686018427387903 : Int64)), .second, .val (.double (own_fr (own_n63 (q0 + (-7046029254386353131 : Int64))))), .second, .val (.long (own_lo (own_n63 (q0 + (-7046029254386353131 : Int64))))), .second, .val (.long z), .second, .val (.long (own_lo (own_n63 ((q0 + (-7046029254386353131 : Int64)) + (-7046029254386353131 : Int64))))), .second, .val (.long (own_lo (own_n63 ((q0 + (-7046029254386353131 : Int64)) + (-7046029254386353131 : Int64))))), .second, .unset, .unset, .unset, .unset] [(.double (4602678819172646910 : UInt64))]))
    refine own_F.of (fun _ => XS.dstore S21.here S21.hx rfl (S21.dec at_120) rfl (l' := #[.val (.long q0), .second, .val (.ref b1), .val (.ref b3), .val (.ref b5), .val (.long (4611686018427387903 : Int64)), .second, .val (.double (own_fr (own_n63 (q0 + (-7046029254386353131 : Int64))))), .second, .val (.long (own_lo (own_n63 (q0 + (-7046029254386353131 : Int64))))), .second, .val (.long z), .second, .val (.long (own_lo (own_n63 ((q0 + (-7046029254386353131 : Int64)) + (-7046029254386353131 : Int64))))), .second, .val (.long (own_lo (own_n63 ((q0 + (-7046029254386353131 : Int64)) + (-7046029254386353131 : Int64))))), .second, .val (.double (4602678819172646910 : UInt64)), .second, .unset, .unset]) rfl) ?_
    show own_F p e below s Z _ _ _ _ _ (T21.setTop (mkF m 122 #[.val (.long q0), .second, .val (.ref b1), .val (.ref b3), .val (.ref b5), .val (.long (4611686018427387903 : Int64)), .second, .val (.double (own_fr (own_n63 (q0 + (-7046029254386353131 : Int64))))), .second, .val (.long (own_lo (own_n63 (q0 + (-7046029254386353131 : Int64))))), .second, .val (.long z), .second, .val (.long (own_lo (own_n63 ((q0 + (-7046029254386353131 : Int64)) + (-7046029254386353131 : Int64))))), .second, .val (.long (own_lo (own_n63 ((q0 + (-7046029254386353131 : Int64)) + (-7046029254386353131 : Int64))))), .second, .val (.double (4602678819172646910 : UInt64)), .second, .unset, .unset] []))
    refine own_ldcD S21 (own_w hw 34 rfl) at_122 ?_
    show own_F p e below s Z _ _ _ _ _ (T21.setTop (mkF m 125 #[.val (.long q0), .second, .val (.ref b1), .val (.ref b3), .val (.ref b5), .val (.long (4611686018427387903 : Int64)), .second, .val (.double (own_fr (own_n63 (q0 + (-7046029254386353131 : Int64))))), .second, .val (.long (own_lo (own_n63 (q0 + (-7046029254386353131 : Int64))))), .second, .val (.long z), .second, .val (.long (own_lo (own_n63 ((q0 + (-7046029254386353131 : Int64)) + (-7046029254386353131 : Int64))))), .second, .val (.long (own_lo (own_n63 ((q0 + (-7046029254386353131 : Int64)) + (-7046029254386353131 : Int64))))), .second, .val (.double (4602678819172646910 : UInt64)), .second, .unset, .unset] [(.double (4607182418800017407 : UInt64))]))
    refine own_F.of (fun _ => XS.dstore S21.here S21.hx rfl (S21.dec at_125) rfl (l' := #[.val (.long q0), .second, .val (.ref b1), .val (.ref b3), .val (.ref b5), .val (.long (4611686018427387903 : Int64)), .second, .val (.double (own_fr (own_n63 (q0 + (-7046029254386353131 : Int64))))), .second, .val (.long (own_lo (own_n63 (q0 + (-7046029254386353131 : Int64))))), .second, .val (.long z), .second, .val (.long (own_lo (own_n63 ((q0 + (-7046029254386353131 : Int64)) + (-7046029254386353131 : Int64))))), .second, .val (.long (own_lo (own_n63 ((q0 + (-7046029254386353131 : Int64)) + (-7046029254386353131 : Int64))))), .second, .val (.double (4602678819172646910 : UInt64)), .second, .val (.double (4607182418800017407 : UInt64)), .second]) rfl) ?_
    show own_F p e below s Z _ _ _ _ _ (T21.setTop (mkF m 127 #[.val (.long q0), .second, .val (.ref b1), .val (.ref b3), .val (.ref b5), .val (.long (4611686018427387903 : Int64)), .second, .val (.double (own_fr (own_n63 (q0 + (-7046029254386353131 : Int64))))), .second, .val (.long (own_lo (own_n63 (q0 + (-7046029254386353131 : Int64))))), .second, .val (.long z), .second, .val (.long (own_lo (own_n63 ((q0 + (-7046029254386353131 : Int64)) + (-7046029254386353131 : Int64))))), .second, .val (.long (own_lo (own_n63 ((q0 + (-7046029254386353131 : Int64)) + (-7046029254386353131 : Int64))))), .second, .val (.double (4602678819172646910 : UInt64)), .second, .val (.double (4607182418800017407 : UInt64)), .second] []))
    refine own_F.of (fun _ => XS.dload S21.here S21.hx rfl (S21.dec at_127) rfl) ?_
    show own_F p e below s Z _ _ _ _ _ (T21.setTop (mkF m 129 #[.val (.long q0), .second, .val (.ref b1), .val (.ref b3), .val (.ref b5), .val (.long (4611686018427387903 : Int64)), .second, .val (.double (own_fr (own_n63 (q0 + (-7046029254386353131 : Int64))))), .second, .val (.long (own_lo (own_n63 (q0 + (-7046029254386353131 : Int64))))), .second, .val (.long z), .second, .val (.long (own_lo (own_n63 ((q0 + (-7046029254386353131 : Int64)) + (-7046029254386353131 : Int64))))), .second, .val (.long (own_lo (own_n63 ((q0 + (-7046029254386353131 : Int64)) + (-7046029254386353131 : Int64))))), .second, .val (.double (4602678819172646910 : UInt64)), .second, .val (.double (4607182418800017407 : UInt64)), .second] [(.double (own_fr (own_n63 (q0 + (-7046029254386353131 : Int64)))))]))
    refine own_F.of (fun _ => XS.dload S21.here S21.hx rfl (S21.dec at_129) rfl) ?_
    show own_F p e below s Z _ _ _ _ _ (T21.setTop (mkF m 131 #[.val (.long q0), .second, .val (.ref b1), .val (.ref b3), .val (.ref b5), .val (.long (4611686018427387903 : Int64)), .second, .val (.double (own_fr (own_n63 (q0 + (-7046029254386353131 : Int64))))), .second, .val (.long (own_lo (own_n63 (q0 + (-7046029254386353131 : Int64))))), .second, .val (.long z), .second, .val (.long (own_lo (own_n63 ((q0 + (-7046029254386353131 : Int64)) + (-7046029254386353131 : Int64))))), .second, .val (.long (own_lo (own_n63 ((q0 + (-7046029254386353131 : Int64)) + (-7046029254386353131 : Int64))))), .second, .val (.double (4602678819172646910 : UInt64)), .second, .val (.double (4607182418800017407 : UInt64)), .second] [(.double (4602678819172646910 : UInt64)), (.double (own_fr (own_n63 (q0 + (-7046029254386353131 : Int64)))))]))
    refine own_F.of (fun _ => XS.dcmpS S21.here S21.hx rfl (S21.dec at_131) rfl rfl) ?_
    show own_F p e below s Z _ _ _ _ _ (T21.setTop (mkF m 132 #[.val (.long q0), .second, .val (.ref b1), .val (.ref b3), .val (.ref b5), .val (.long (4611686018427387903 : Int64)), .second, .val (.double (own_fr (own_n63 (q0 + (-7046029254386353131 : Int64))))), .second, .val (.long (own_lo (own_n63 (q0 + (-7046029254386353131 : Int64))))), .second, .val (.long z), .second, .val (.long (own_lo (own_n63 ((q0 + (-7046029254386353131 : Int64)) + (-7046029254386353131 : Int64))))), .second, .val (.long (own_lo (own_n63 ((q0 + (-7046029254386353131 : Int64)) + (-7046029254386353131 : Int64))))), .second, .val (.double (4602678819172646910 : UInt64)), .second, .val (.double (4607182418800017407 : UInt64)), .second] [(.int (cmpValue (FP.dcmp (own_fr (own_n63 (q0 + (-7046029254386353131 : Int64)))) (4602678819172646910 : UInt64)) .l))]))
    refine own_if S21 143 at_132 (by decide) (by decide) (fun (hc132_24 : (cmpValue (FP.dcmp (own_fr (own_n63 (q0 + (-7046029254386353131 : Int64)))) (4602678819172646910 : UInt64)) .l) = (0 : Int32)) => ?_) (fun (hc132_24 : ¬ ((cmpValue (FP.dcmp (own_fr (own_n63 (q0 + (-7046029254386353131 : Int64)))) (4602678819172646910 : UInt64)) .l) = (0 : Int32))) => ?_)
    · show own_F p e below s Z _ _ _ _ _ (T21.setTop (mkF m 143 #[.val (.long q0), .second, .val (.ref b1), .val (.ref b3), .val (.ref b5), .val (.long (4611686018427387903 : Int64)), .second, .val (.double (own_fr (own_n63 (q0 + (-7046029254386353131 : Int64))))), .second, .val (.long (own_lo (own_n63 (q0 + (-7046029254386353131 : Int64))))), .second, .val (.long z), .second, .val (.long (own_lo (own_n63 ((q0 + (-7046029254386353131 : Int64)) + (-7046029254386353131 : Int64))))), .second, .val (.long (own_lo (own_n63 ((q0 + (-7046029254386353131 : Int64)) + (-7046029254386353131 : Int64))))), .second, .val (.double (4602678819172646910 : UInt64)), .second, .val (.double (4607182418800017407 : UInt64)), .second] []))
      refine own_F.of (fun _ => XS.iconst S21.here S21.hx rfl (S21.dec at_143)) ?_
      show own_F p e below s Z _ _ _ _ _ (T21.setTop (mkF m 144 #[.val (.long q0), .second, .val (.ref b1), .val (.ref b3), .val (.ref b5), .val (.long (4611686018427387903 : Int64)), .second, .val (.double (own_fr (own_n63 (q0 + (-7046029254386353131 : Int64))))), .second, .val (.long (own_lo (own_n63 (q0 + (-7046029254386353131 : Int64))))), .second, .val (.long z), .second, .val (.long (own_lo (own_n63 ((q0 + (-7046029254386353131 : Int64)) + (-7046029254386353131 : Int64))))), .second, .val (.long (own_lo (own_n63 ((q0 + (-7046029254386353131 : Int64)) + (-7046029254386353131 : Int64))))), .second, .val (.double (4602678819172646910 : UInt64)), .second, .val (.double (4607182418800017407 : UInt64)), .second] [(.int (1 : Int32))]))
      refine own_F.of (fun _ => XS.goto S21.here S21.hx rfl (pc0 := 144) (pc' := 148) rfl (S21.dec at_144) (by decide) (by decide)) ?_
      show own_F p e below s Z _ _ _ _ _ (T21.setTop (mkF m 148 #[.val (.long q0), .second, .val (.ref b1), .val (.ref b3), .val (.ref b5), .val (.long (4611686018427387903 : Int64)), .second, .val (.double (own_fr (own_n63 (q0 + (-7046029254386353131 : Int64))))), .second, .val (.long (own_lo (own_n63 (q0 + (-7046029254386353131 : Int64))))), .second, .val (.long z), .second, .val (.long (own_lo (own_n63 ((q0 + (-7046029254386353131 : Int64)) + (-7046029254386353131 : Int64))))), .second, .val (.long (own_lo (own_n63 ((q0 + (-7046029254386353131 : Int64)) + (-7046029254386353131 : Int64))))), .second, .val (.double (4602678819172646910 : UInt64)), .second, .val (.double (4607182418800017407 : UInt64)), .second] [(.int (1 : Int32))]))
      refine own_retZ S21 (by simp) at_148 (by decide) (by decide) ?_
      rfl
    · show own_F p e below s Z _ _ _ _ _ (T21.setTop (mkF m 135 #[.val (.long q0), .second, .val (.ref b1), .val (.ref b3), .val (.ref b5), .val (.long (4611686018427387903 : Int64)), .second, .val (.double (own_fr (own_n63 (q0 + (-7046029254386353131 : Int64))))), .second, .val (.long (own_lo (own_n63 (q0 + (-7046029254386353131 : Int64))))), .second, .val (.long z), .second, .val (.long (own_lo (own_n63 ((q0 + (-7046029254386353131 : Int64)) + (-7046029254386353131 : Int64))))), .second, .val (.long (own_lo (own_n63 ((q0 + (-7046029254386353131 : Int64)) + (-7046029254386353131 : Int64))))), .second, .val (.double (4602678819172646910 : UInt64)), .second, .val (.double (4607182418800017407 : UInt64)), .second] []))
      refine own_F.of (fun _ => XS.dload S21.here S21.hx rfl (S21.dec at_135) rfl) ?_
      show own_F p e below s Z _ _ _ _ _ (T21.setTop (mkF m 137 #[.val (.long q0), .second, .val (.ref b1), .val (.ref b3), .val (.ref b5), .val (.long (4611686018427387903 : Int64)), .second, .val (.double (own_fr (own_n63 (q0 + (-7046029254386353131 : Int64))))), .second, .val (.long (own_lo (own_n63 (q0 + (-7046029254386353131 : Int64))))), .second, .val (.long z), .second, .val (.long (own_lo (own_n63 ((q0 + (-7046029254386353131 : Int64)) + (-7046029254386353131 : Int64))))), .second, .val (.long (own_lo (own_n63 ((q0 + (-7046029254386353131 : Int64)) + (-7046029254386353131 : Int64))))), .second, .val (.double (4602678819172646910 : UInt64)), .second, .val (.double (4607182418800017407 : UInt64)), .second] [(.double (own_fr (own_n63 (q0 + (-7046029254386353131 : Int64)))))]))
      refine own_F.of (fun _ => XS.dload S21.here S21.hx rfl (S21.dec at_137) rfl) ?_
      show own_F p e below s Z _ _ _ _ _ (T21.setTop (mkF m 139 #[.val (.long q0), .second, .val (.ref b1), .val (.ref b3), .val (.ref b5), .val (.long (4611686018427387903 : Int64)), .second, .val (.double (own_fr (own_n63 (q0 + (-7046029254386353131 : Int64))))), .second, .val (.long (own_lo (own_n63 (q0 + (-7046029254386353131 : Int64))))), .second, .val (.long z), .second, .val (.long (own_lo (own_n63 ((q0 + (-7046029254386353131 : Int64)) + (-7046029254386353131 : Int64))))), .second, .val (.long (own_lo (own_n63 ((q0 + (-7046029254386353131 : Int64)) + (-7046029254386353131 : Int64))))), .second, .val (.double (4602678819172646910 : UInt64)), .second, .val (.double (4607182418800017407 : UInt64)), .second] [(.double (4607182418800017407 : UInt64)), (.double (own_fr (own_n63 (q0 + (-7046029254386353131 : Int64)))))]))
      refine own_F.of (fun _ => XS.dcmpS S21.here S21.hx rfl (S21.dec at_139) rfl rfl) ?_
      show own_F p e below s Z _ _ _ _ _ (T21.setTop (mkF m 140 #[.val (.long q0), .second, .val (.ref b1), .val (.ref b3), .val (.ref b5), .val (.long (4611686018427387903 : Int64)), .second, .val (.double (own_fr (own_n63 (q0 + (-7046029254386353131 : Int64))))), .second, .val (.long (own_lo (own_n63 (q0 + (-7046029254386353131 : Int64))))), .second, .val (.long z), .second, .val (.long (own_lo (own_n63 ((q0 + (-7046029254386353131 : Int64)) + (-7046029254386353131 : Int64))))), .second, .val (.long (own_lo (own_n63 ((q0 + (-7046029254386353131 : Int64)) + (-7046029254386353131 : Int64))))), .second, .val (.double (4602678819172646910 : UInt64)), .second, .val (.double (4607182418800017407 : UInt64)), .second] [(.int (cmpValue (FP.dcmp (own_fr (own_n63 (q0 + (-7046029254386353131 : Int64)))) (4607182418800017407 : UInt64)) .l))]))
      refine own_if S21 147 at_140 (by decide) (by decide) (fun (hc140_25 : ¬ ((cmpValue (FP.dcmp (own_fr (own_n63 (q0 + (-7046029254386353131 : Int64)))) (4607182418800017407 : UInt64)) .l) = (0 : Int32))) => False.elim (own_sb hc92_23 hc132_24 hc140_25)) (fun (hc140_25 : (cmpValue (FP.dcmp (own_fr (own_n63 (q0 + (-7046029254386353131 : Int64)))) (4607182418800017407 : UInt64)) .l) = (0 : Int32)) => ?_)
      show own_F p e below s Z _ _ _ _ _ (T21.setTop (mkF m 143 #[.val (.long q0), .second, .val (.ref b1), .val (.ref b3), .val (.ref b5), .val (.long (4611686018427387903 : Int64)), .second, .val (.double (own_fr (own_n63 (q0 + (-7046029254386353131 : Int64))))), .second, .val (.long (own_lo (own_n63 (q0 + (-7046029254386353131 : Int64))))), .second, .val (.long z), .second, .val (.long (own_lo (own_n63 ((q0 + (-7046029254386353131 : Int64)) + (-7046029254386353131 : Int64))))), .second, .val (.long (own_lo (own_n63 ((q0 + (-7046029254386353131 : Int64)) + (-7046029254386353131 : Int64))))), .second, .val (.double (4602678819172646910 : UInt64)), .second, .val (.double (4607182418800017407 : UInt64)), .second] []))
      refine own_F.of (fun _ => XS.iconst S21.here S21.hx rfl (S21.dec at_143)) ?_
      show own_F p e below s Z _ _ _ _ _ (T21.setTop (mkF m 144 #[.val (.long q0), .second, .val (.ref b1), .val (.ref b3), .val (.ref b5), .val (.long (4611686018427387903 : Int64)), .second, .val (.double (own_fr (own_n63 (q0 + (-7046029254386353131 : Int64))))), .second, .val (.long (own_lo (own_n63 (q0 + (-7046029254386353131 : Int64))))), .second, .val (.long z), .second, .val (.long (own_lo (own_n63 ((q0 + (-7046029254386353131 : Int64)) + (-7046029254386353131 : Int64))))), .second, .val (.long (own_lo (own_n63 ((q0 + (-7046029254386353131 : Int64)) + (-7046029254386353131 : Int64))))), .second, .val (.double (4602678819172646910 : UInt64)), .second, .val (.double (4607182418800017407 : UInt64)), .second] [(.int (1 : Int32))]))
      refine own_F.of (fun _ => XS.goto S21.here S21.hx rfl (pc0 := 144) (pc' := 148) rfl (S21.dec at_144) (by decide) (by decide)) ?_
      show own_F p e below s Z _ _ _ _ _ (T21.setTop (mkF m 148 #[.val (.long q0), .second, .val (.ref b1), .val (.ref b3), .val (.ref b5), .val (.long (4611686018427387903 : Int64)), .second, .val (.double (own_fr (own_n63 (q0 + (-7046029254386353131 : Int64))))), .second, .val (.long (own_lo (own_n63 (q0 + (-7046029254386353131 : Int64))))), .second, .val (.long z), .second, .val (.long (own_lo (own_n63 ((q0 + (-7046029254386353131 : Int64)) + (-7046029254386353131 : Int64))))), .second, .val (.long (own_lo (own_n63 ((q0 + (-7046029254386353131 : Int64)) + (-7046029254386353131 : Int64))))), .second, .val (.double (4602678819172646910 : UInt64)), .second, .val (.double (4607182418800017407 : UInt64)), .second] [(.int (1 : Int32))]))
      refine own_retZ S21 (by simp) at_148 (by decide) (by decide) ?_
      rfl
  · show own_F p e below s Z _ _ _ _ _ (T21.setTop (mkF m 95 #[.val (.long q0), .second, .val (.ref b1), .val (.ref b3), .val (.ref b5), .val (.long (4611686018427387903 : Int64)), .second, .val (.double (own_fr (own_n63 (q0 + (-7046029254386353131 : Int64))))), .second, .val (.long (own_lo (own_n63 (q0 + (-7046029254386353131 : Int64))))), .second, .val (.long z), .second, .val (.long (own_lo (own_n63 ((q0 + (-7046029254386353131 : Int64)) + (-7046029254386353131 : Int64))))), .second, .val (.long (own_lo (own_n63 ((q0 + (-7046029254386353131 : Int64)) + (-7046029254386353131 : Int64))))), .second, .unset, .unset, .unset, .unset] []))
    refine own_F.of (fun _ => XS.dload S21.here S21.hx rfl (S21.dec at_95) rfl) ?_
    show own_F p e below s Z _ _ _ _ _ (T21.setTop (mkF m 97 #[.val (.long q0), .second, .val (.ref b1), .val (.ref b3), .val (.ref b5), .val (.long (4611686018427387903 : Int64)), .second, .val (.double (own_fr (own_n63 (q0 + (-7046029254386353131 : Int64))))), .second, .val (.long (own_lo (own_n63 (q0 + (-7046029254386353131 : Int64))))), .second, .val (.long z), .second, .val (.long (own_lo (own_n63 ((q0 + (-7046029254386353131 : Int64)) + (-7046029254386353131 : Int64))))), .second, .val (.long (own_lo (own_n63 ((q0 + (-7046029254386353131 : Int64)) + (-7046029254386353131 : Int64))))), .second, .unset, .unset, .unset, .unset] [(.double (own_fr (own_n63 (q0 + (-7046029254386353131 : Int64)))))]))
    refine own_F.of (fun _ => XS.lload S21.here S21.hx rfl (S21.dec at_97) rfl) ?_
    show own_F p e below s Z _ _ _ _ _ (T21.setTop (mkF m 99 #[.val (.long q0), .second, .val (.ref b1), .val (.ref b3), .val (.ref b5), .val (.long (4611686018427387903 : Int64)), .second, .val (.double (own_fr (own_n63 (q0 + (-7046029254386353131 : Int64))))), .second, .val (.long (own_lo (own_n63 (q0 + (-7046029254386353131 : Int64))))), .second, .val (.long z), .second, .val (.long (own_lo (own_n63 ((q0 + (-7046029254386353131 : Int64)) + (-7046029254386353131 : Int64))))), .second, .val (.long (own_lo (own_n63 ((q0 + (-7046029254386353131 : Int64)) + (-7046029254386353131 : Int64))))), .second, .unset, .unset, .unset, .unset] [(.long z), (.double (own_fr (own_n63 (q0 + (-7046029254386353131 : Int64)))))]))
    refine own_F.of (fun _ => XS.bipush S21.here S21.hx rfl (S21.dec at_99)) ?_
    show own_F p e below s Z _ _ _ _ _ (T21.setTop (mkF m 101 #[.val (.long q0), .second, .val (.ref b1), .val (.ref b3), .val (.ref b5), .val (.long (4611686018427387903 : Int64)), .second, .val (.double (own_fr (own_n63 (q0 + (-7046029254386353131 : Int64))))), .second, .val (.long (own_lo (own_n63 (q0 + (-7046029254386353131 : Int64))))), .second, .val (.long z), .second, .val (.long (own_lo (own_n63 ((q0 + (-7046029254386353131 : Int64)) + (-7046029254386353131 : Int64))))), .second, .val (.long (own_lo (own_n63 ((q0 + (-7046029254386353131 : Int64)) + (-7046029254386353131 : Int64))))), .second, .unset, .unset, .unset, .unset] [(.int (10 : Int32)), (.long z), (.double (own_fr (own_n63 (q0 + (-7046029254386353131 : Int64)))))]))
    refine own_F.of (fun _ => XS.lushr S21.here S21.hx rfl (S21.dec at_101) rfl) ?_
    show own_F p e below s Z _ _ _ _ _ (T21.setTop (mkF m 102 #[.val (.long q0), .second, .val (.ref b1), .val (.ref b3), .val (.ref b5), .val (.long (4611686018427387903 : Int64)), .second, .val (.double (own_fr (own_n63 (q0 + (-7046029254386353131 : Int64))))), .second, .val (.long (own_lo (own_n63 (q0 + (-7046029254386353131 : Int64))))), .second, .val (.long z), .second, .val (.long (own_lo (own_n63 ((q0 + (-7046029254386353131 : Int64)) + (-7046029254386353131 : Int64))))), .second, .val (.long (own_lo (own_n63 ((q0 + (-7046029254386353131 : Int64)) + (-7046029254386353131 : Int64))))), .second, .unset, .unset, .unset, .unset] [(.long ((z.toUInt64 >>> ((10 : Int32) &&& 0x3f).toInt64.toUInt64).toInt64)), (.double (own_fr (own_n63 (q0 + (-7046029254386353131 : Int64)))))]))
    refine own_F.of (fun _ => XS.l2dS S21.here S21.hx rfl (S21.dec at_102) rfl rfl) ?_
    show own_F p e below s Z _ _ _ _ _ (T21.setTop (mkF m 103 #[.val (.long q0), .second, .val (.ref b1), .val (.ref b3), .val (.ref b5), .val (.long (4611686018427387903 : Int64)), .second, .val (.double (own_fr (own_n63 (q0 + (-7046029254386353131 : Int64))))), .second, .val (.long (own_lo (own_n63 (q0 + (-7046029254386353131 : Int64))))), .second, .val (.long z), .second, .val (.long (own_lo (own_n63 ((q0 + (-7046029254386353131 : Int64)) + (-7046029254386353131 : Int64))))), .second, .val (.long (own_lo (own_n63 ((q0 + (-7046029254386353131 : Int64)) + (-7046029254386353131 : Int64))))), .second, .unset, .unset, .unset, .unset] [(.double (FP.l2d ((z.toUInt64 >>> ((10 : Int32) &&& 0x3f).toInt64.toUInt64).toInt64))), (.double (own_fr (own_n63 (q0 + (-7046029254386353131 : Int64)))))]))
    refine own_ldcD S21 (own_w hw 32 rfl) at_103 ?_
    show own_F p e below s Z _ _ _ _ _ (T21.setTop (mkF m 106 #[.val (.long q0), .second, .val (.ref b1), .val (.ref b3), .val (.ref b5), .val (.long (4611686018427387903 : Int64)), .second, .val (.double (own_fr (own_n63 (q0 + (-7046029254386353131 : Int64))))), .second, .val (.long (own_lo (own_n63 (q0 + (-7046029254386353131 : Int64))))), .second, .val (.long z), .second, .val (.long (own_lo (own_n63 ((q0 + (-7046029254386353131 : Int64)) + (-7046029254386353131 : Int64))))), .second, .val (.long (own_lo (own_n63 ((q0 + (-7046029254386353131 : Int64)) + (-7046029254386353131 : Int64))))), .second, .unset, .unset, .unset, .unset] [(.double (4368491638549381120 : UInt64)), (.double (FP.l2d ((z.toUInt64 >>> ((10 : Int32) &&& 0x3f).toInt64.toUInt64).toInt64))), (.double (own_fr (own_n63 (q0 + (-7046029254386353131 : Int64)))))]))
    refine own_F.of (fun _ => XS.dmulS S21.here S21.hx rfl (S21.dec at_106) rfl (own_nn _) rfl) ?_
    show own_F p e below s Z _ _ _ _ _ (T21.setTop (mkF m 107 #[.val (.long q0), .second, .val (.ref b1), .val (.ref b3), .val (.ref b5), .val (.long (4611686018427387903 : Int64)), .second, .val (.double (own_fr (own_n63 (q0 + (-7046029254386353131 : Int64))))), .second, .val (.long (own_lo (own_n63 (q0 + (-7046029254386353131 : Int64))))), .second, .val (.long z), .second, .val (.long (own_lo (own_n63 ((q0 + (-7046029254386353131 : Int64)) + (-7046029254386353131 : Int64))))), .second, .val (.long (own_lo (own_n63 ((q0 + (-7046029254386353131 : Int64)) + (-7046029254386353131 : Int64))))), .second, .unset, .unset, .unset, .unset] [(.double (FP.dmul (FP.l2d ((z.toUInt64 >>> ((10 : Int32) &&& 0x3f).toInt64.toUInt64).toInt64)) (4368491638549381120 : UInt64))), (.double (own_fr (own_n63 (q0 + (-7046029254386353131 : Int64)))))]))
    refine own_F.of (fun _ => XS.dcmpS S21.here S21.hx rfl (S21.dec at_107) rfl rfl) ?_
    show own_F p e below s Z _ _ _ _ _ (T21.setTop (mkF m 108 #[.val (.long q0), .second, .val (.ref b1), .val (.ref b3), .val (.ref b5), .val (.long (4611686018427387903 : Int64)), .second, .val (.double (own_fr (own_n63 (q0 + (-7046029254386353131 : Int64))))), .second, .val (.long (own_lo (own_n63 (q0 + (-7046029254386353131 : Int64))))), .second, .val (.long z), .second, .val (.long (own_lo (own_n63 ((q0 + (-7046029254386353131 : Int64)) + (-7046029254386353131 : Int64))))), .second, .val (.long (own_lo (own_n63 ((q0 + (-7046029254386353131 : Int64)) + (-7046029254386353131 : Int64))))), .second, .unset, .unset, .unset, .unset] [(.int (cmpValue (FP.dcmp (own_fr (own_n63 (q0 + (-7046029254386353131 : Int64)))) (FP.dmul (FP.l2d ((z.toUInt64 >>> ((10 : Int32) &&& 0x3f).toInt64.toUInt64).toInt64)) (4368491638549381120 : UInt64))) .l))]))
    refine own_if S21 115 at_108 (by decide) (by decide) (fun (hc108_26 : ¬ ((cmpValue (FP.dcmp (own_fr (own_n63 (q0 + (-7046029254386353131 : Int64)))) (FP.dmul (FP.l2d ((z.toUInt64 >>> ((10 : Int32) &&& 0x3f).toInt64.toUInt64).toInt64)) (4368491638549381120 : UInt64))) .l) = (0 : Int32))) => False.elim (hc108_26 (own_eqw hz hc92_23))) (fun (hc108_26 : (cmpValue (FP.dcmp (own_fr (own_n63 (q0 + (-7046029254386353131 : Int64)))) (FP.dmul (FP.l2d ((z.toUInt64 >>> ((10 : Int32) &&& 0x3f).toInt64.toUInt64).toInt64)) (4368491638549381120 : UInt64))) .l) = (0 : Int32)) => ?_)
    show own_F p e below s Z _ _ _ _ _ (T21.setTop (mkF m 111 #[.val (.long q0), .second, .val (.ref b1), .val (.ref b3), .val (.ref b5), .val (.long (4611686018427387903 : Int64)), .second, .val (.double (own_fr (own_n63 (q0 + (-7046029254386353131 : Int64))))), .second, .val (.long (own_lo (own_n63 (q0 + (-7046029254386353131 : Int64))))), .second, .val (.long z), .second, .val (.long (own_lo (own_n63 ((q0 + (-7046029254386353131 : Int64)) + (-7046029254386353131 : Int64))))), .second, .val (.long (own_lo (own_n63 ((q0 + (-7046029254386353131 : Int64)) + (-7046029254386353131 : Int64))))), .second, .unset, .unset, .unset, .unset] []))
    refine own_F.of (fun _ => XS.iconst S21.here S21.hx rfl (S21.dec at_111)) ?_
    show own_F p e below s Z _ _ _ _ _ (T21.setTop (mkF m 112 #[.val (.long q0), .second, .val (.ref b1), .val (.ref b3), .val (.ref b5), .val (.long (4611686018427387903 : Int64)), .second, .val (.double (own_fr (own_n63 (q0 + (-7046029254386353131 : Int64))))), .second, .val (.long (own_lo (own_n63 (q0 + (-7046029254386353131 : Int64))))), .second, .val (.long z), .second, .val (.long (own_lo (own_n63 ((q0 + (-7046029254386353131 : Int64)) + (-7046029254386353131 : Int64))))), .second, .val (.long (own_lo (own_n63 ((q0 + (-7046029254386353131 : Int64)) + (-7046029254386353131 : Int64))))), .second, .unset, .unset, .unset, .unset] [(.int (1 : Int32))]))
    refine own_F.of (fun _ => XS.goto S21.here S21.hx rfl (pc0 := 112) (pc' := 116) rfl (S21.dec at_112) (by decide) (by decide)) ?_
    show own_F p e below s Z _ _ _ _ _ (T21.setTop (mkF m 116 #[.val (.long q0), .second, .val (.ref b1), .val (.ref b3), .val (.ref b5), .val (.long (4611686018427387903 : Int64)), .second, .val (.double (own_fr (own_n63 (q0 + (-7046029254386353131 : Int64))))), .second, .val (.long (own_lo (own_n63 (q0 + (-7046029254386353131 : Int64))))), .second, .val (.long z), .second, .val (.long (own_lo (own_n63 ((q0 + (-7046029254386353131 : Int64)) + (-7046029254386353131 : Int64))))), .second, .val (.long (own_lo (own_n63 ((q0 + (-7046029254386353131 : Int64)) + (-7046029254386353131 : Int64))))), .second, .unset, .unset, .unset, .unset] [(.int (1 : Int32))]))
    refine own_retZ S21 (by simp) at_116 (by decide) (by decide) ?_
    rfl
set_option maxRecDepth 65536 in
set_option maxHeartbeats 40000000 in
theorem comes_1 {Post : Tables → Env → Array Value → State → Outcome → State → Prop} (hpost : ∀ tb e args s v u, (limb_1_1.after args s (.returned v) u = true ∧ limb_1_2.after args s (.returned v) u = true ∧ True) → FrameEnd s (.returned v) u (Jvm.fieldLocs frame_1_writes args s ++ Jvm.arrayLocs frame_1_arrays args s ++ Jvm.staticLocs frame_1_statics s) 16 128 → Post tb e args s (.returned v) u) :
    ArmFor flags0 classFile x code maxLocals ret World_1 tables_1 room_1 Calls_1 rest_1 Pre_1 Post := by
  intro l hfl _ _ p e ha hc hk s m args below hf hA hF happ hP
  obtain ⟨hcalls, hrest, hpre⟩ := hP
  obtain ⟨-, -, -, hnamed, -, -, -, hat⟩ := (Spec.applies_iff hf).mp happ
  obtain ⟨hg, hn⟩ := and_e (Cond.before_iff.mp (show (Jvm.Cond.and given_1 narrow_1).before args s = true from hpre))
  obtain ⟨g1, g2⟩ := and_e hg
  obtain ⟨w0, rfl⟩ : ∃ w0 : Value, args = #[w0] := by
    have hs : args.size = 1 := by simpa [Cond.value, given_1] using g1
    obtain ⟨L⟩ := args
    match L, hs with
    | [w0], _ => exact ⟨w0, rfl⟩
  have hw := fun d (hd : d ∈ tables_1) => atoms_spec (ws := Jvm.Cond.code x code maxLocals ret :: tables_1) hat d (List.mem_cons_of_mem _ hd)
  have hfit : Fit s := fun {y c} hc i hi => by
    obtain ⟨ha, rfl⟩ := Array.getElem?_eq_some_iff.mp hc
    have q := List.all_eq_true.mp ((Array.all_eq_true_iff_forall_mem.mp hF) _ (Array.getElem_mem ha)) i (List.mem_range.mpr hi)
    simpa [Array.getElem?_eq_getElem hi] using q
  obtain ⟨i0, ei0⟩ := isL_v g2
  obtain rfl : w0 = (.long i0) := Option.some.inj ei0
  obtain ⟨n, o, h1, h2, h3, _, L, rfl, ⟨N, K, rfl⟩, hq⟩ := own_law l s _ hw i0 s.heap (own_extRefl _) p e ha hc hk s m _ below hf ((Spec.applies_iff_loose hf).mp happ).1 ⟨rfl, State.Warmed39.refl s, rfl⟩ trivial
  refine ⟨n, _, h1, h2, h3, hpost _ _ _ _ _ _ ⟨Cond.after_iff.mpr rfl, Cond.after_iff.mpr (eq_i res_at (Term.int_eval (1)) rfl), trivial⟩ ⟨hq.1, hq.2.1, (hq.2.2.sift fun y hy => Or.inr (N y hy)).mono (by decide) (by decide)⟩⟩
theorem main_1_1 : Claimed_1_1 := comes_1 fun _ _ _ _ _ _ h hF => ⟨h.1, hF⟩
theorem main_1_2 : Claimed_1_2 := comes_1 fun _ _ _ _ _ _ h hF => ⟨h.2.1, hF⟩
end Jvm.Pilot.@@N@@
namespace Jvm.Pilot.@@N@@
open Jvm Jvm.ClassFile Sem Op Lib Jvm.Free Jvm.Stand Jvm.Pilot.@@N@@.Jvm.D
/-! MADE BY PROGRAM (witnessworld.py) out of the Statement's table words and the real class files: 9 classes; the members and pool entries that the words name. The judged class is class 1, her method 1. -/
namespace start1
open Jvm.ClassFile
def u (s : String) : CpInfo := .utf8 (stringToUtf16 s)
/-- a pool by its gaps: so many unusable entries, then the entry; so many at the end -/
def gap : Nat → List CpInfo → List CpInfo
  | 0, r => r
  | n + 1, r => .unusable :: gap n r
def poolList (es : List (Nat × CpInfo)) (last : Nat) : List CpInfo := es.foldr (fun e r => gap e.1 (e.2 :: r)) (gap last [])
def pool (es : List (Nat × CpInfo)) (last : Nat) : Array CpInfo := ⟨poolList es last⟩
def fileOf (pool : Array CpInfo) (this : Nat) (attrs : Array Attribute := #[]) (ms : Array MethodInfo := #[]) (fl : Nat := 33) (sup : Nat := 0) (ifs : Array Nat := #[]) (fds : Array FieldInfo := #[]) : ClassFile where
  minorVersion := 0
  majorVersion := 65
  constantPool := pool
  accessFlags := fl
  thisClass := this
  superClass := sup
  interfaces := ifs
  fields := fds
  methods := ms
  attributes := attrs
def plain (name : String) (sup : Option ClassId) : Class where
  name := name
  kind := .ordinary
  loader := none
  accessFlags := 33
  super := sup
  interfaces := #[]
  cf := none
  fields := #[]
  methods := #[]
  instanceTypes := #[]
  staticTypes := #[]
  resolved := #[]
  callSites := []
  init := .initialized
  statics := none
  mirror := none

def pool0 : Array CpInfo := pool [(5, u "<init>"), (0, u "()V"), (1, .class_ 10), (1, u "java/lang/Object")] 113

def k0c0 : Code := { maxStack := 0, maxLocals := 1, code := object_method_1_code, exceptionTable := #[], attributes := #[] }
def k0m0 : Method := { name := "<init>", desc := "()V", sig := { parameters := [], returnType := none }, accessFlags := 1, code := some k0c0 }
/-- java/lang/Object -/
def k0 : Class := { plain "java/lang/Object" none with
  accessFlags := 33
  interfaces := #[]
  cf := some (fileOf pool0 8 #[] #[{ accessFlags := 1, nameIndex := 5, descriptorIndex := 6, attributes := #[] }] 33 0 #[] #[])
  fields := #[]
  methods := #[k0m0]
  instanceTypes := #[]
  staticTypes := #[]
  resolved := Array.replicate 124 none
  statics := none }

def pool1 : Array CpInfo := pool [(2, .class_ 4), (1, u "java/lang/Object"), (0, u "<init>"), (0, u "()V"), (0, .class_ 8), (0, u "com/example/slackweave/slackweave/random/Draws"), (0, .methodref 7 10), (0, .nameAndType 5 11), (0, u "(J)V"), (0, .long 4611686018427387903), (1, .methodref 7 15), (0, .nameAndType 16 17), (0, u "fraction"), (0, u "()D"), (0, .methodref 7 19), (0, .nameAndType 20 21), (0, u "between"), (0, u "(JJ)J"), (2, .long 9223372036854775806), (1, .double 4368491638549381120), (1, .double 4602678819172646910), (1, .double 4607182418800017407), (1, .class_ 33), (0, u "com/example/slackweave/slackweave/random/DrawsFractionPinLaw"), (2, u "law"), (0, u "(J)Z")] 3

def k1m0 : Method := { name := "<init>", desc := "()V", sig := { parameters := [], returnType := none }, accessFlags := 1, code := none }
def k1c1 : Code := { maxStack := 6, maxLocals := 21, code := code, exceptionTable := #[], attributes := #[] }
def k1m1 : Method := { name := "law", desc := "(J)Z", sig := { parameters := [.long], returnType := some .boolean }, accessFlags := 9, code := some k1c1 }
/-- com/example/slackweave/slackweave/random/DrawsFractionPinLaw -/
def k1 : Class := { plain "com/example/slackweave/slackweave/random/DrawsFractionPinLaw" (some 0) with
  accessFlags := 49
  interfaces := #[]
  cf := some (fileOf pool1 32 #[] #[{ accessFlags := 1, nameIndex := 5, descriptorIndex := 6, attributes := #[] }, { accessFlags := 9, nameIndex := 36, descriptorIndex := 37, attributes := #[] }] 49 2 #[] #[])
  fields := #[]
  methods := #[k1m0, k1m1]
  instanceTypes := #[]
  staticTypes := #[]
  resolved := Array.replicate 41 none
  statics := none }

def pool2 : Array CpInfo := pool [(1, .methodref 2 3), (0, .class_ 4), (0, .nameAndType 5 6), (0, u "java/lang/Object"), (0, u "<init>"), (0, u "()V"), (0, .fieldref 8 9), (0, .class_ 10), (0, .nameAndType 11 12), (0, u "com/example/slackweave/slackweave/random/Draws"), (0, u "state"), (0, u "J"), (11, .long 9223372036854775807), (1, .methodref 8 27), (0, .nameAndType 28 29), (0, u "next63"), (0, u "()J"), (2, u "between"), (0, u "(JJ)J"), (0, .double 4368491638549381120), (1, .long 11400714819323198485), (1, .long 13787848793156543929), (1, .long 10723151780598845931), (1, u "GOLDEN_GAMMA"), (1, u "(J)V"), (5, u "fraction"), (0, u "()D")] 17

def k2c0 : Code := { maxStack := 3, maxLocals := 3, code := prog_88_method_1_code, exceptionTable := #[], attributes := #[] }
def k2m0 : Method := { name := "<init>", desc := "(J)V", sig := { parameters := [.long], returnType := none }, accessFlags := 1, code := some k2c0 }
def k2c1 : Code := { maxStack := 6, maxLocals := 11, code := prog_88_method_2_code, exceptionTable := #[], attributes := #[] }
def k2m1 : Method := { name := "between", desc := "(JJ)J", sig := { parameters := [.long, .long], returnType := some .long }, accessFlags := 1, code := some k2c1 }
def k2c2 : Code := { maxStack := 4, maxLocals := 1, code := prog_88_method_4_code, exceptionTable := #[], attributes := #[] }
def k2m2 : Method := { name := "fraction", desc := "()D", sig := { parameters := [], returnType := some .double }, accessFlags := 1, code := some k2c2 }
def k2c3 : Code := { maxStack := 5, maxLocals := 3, code := prog_88_method_5_code, exceptionTable := #[], attributes := #[] }
def k2m3 : Method := { name := "next63", desc := "()J", sig := { parameters := [], returnType := some .long }, accessFlags := 2, code := some k2c3 }
/-- com/example/slackweave/slackweave/random/Draws -/
def k2 : Class := { plain "com/example/slackweave/slackweave/random/Draws" (some 0) with
  accessFlags := 49
  interfaces := #[]
  cf := some (fileOf pool2 8 #[] #[{ accessFlags := 1, nameIndex := 5, descriptorIndex := 44, attributes := #[] }, { accessFlags := 1, nameIndex := 32, descriptorIndex := 33, attributes := #[] }, { accessFlags := 1, nameIndex := 50, descriptorIndex := 51, attributes := #[] }, { accessFlags := 2, nameIndex := 28, descriptorIndex := 29, attributes := #[] }] 49 2 #[] #[{ accessFlags := 26, nameIndex := 42, descriptorIndex := 12, attributes := #[] }, { accessFlags := 2, nameIndex := 11, descriptorIndex := 12, attributes := #[] }])
  fields := #[{ name := "GOLDEN_GAMMA", type := .long, accessFlags := 26, slot := 0, constantValue := 0 }, { name := "state", type := .long, accessFlags := 2, slot := 0, constantValue := 0 }]
  methods := #[k2m0, k2m1, k2m2, k2m3]
  instanceTypes := #[.long]
  staticTypes := #[.long]
  resolved := Array.replicate 69 none
  statics := none }

def pool3 : Array CpInfo := pool [(1, u "java/lang/Cloneable"), (0, .class_ 1), (0, u "java/lang/Object"), (0, .class_ 3)] 3

/-- java/lang/Cloneable -/
def k3 : Class := { plain "java/lang/Cloneable" (some 0) with
  accessFlags := 1537
  interfaces := #[]
  cf := some (fileOf pool3 2 #[] #[] 1537 4 #[] #[])
  fields := #[]
  methods := #[]
  instanceTypes := #[]
  staticTypes := #[]
  resolved := Array.replicate 8 none
  statics := none }

def pool4 : Array CpInfo := pool [(1, u "java/io/Serializable"), (0, .class_ 1), (0, u "java/lang/Object"), (0, .class_ 3)] 3

/-- java/io/Serializable -/
def k4 : Class := { plain "java/io/Serializable" (some 0) with
  accessFlags := 1537
  interfaces := #[]
  cf := some (fileOf pool4 2 #[] #[] 1537 4 #[] #[])
  fields := #[]
  methods := #[]
  instanceTypes := #[]
  staticTypes := #[]
  resolved := Array.replicate 8 none
  statics := none }

/-- the primitive byte -/
def k5 : Class := { plain "byte" none with kind := .primitive 'B', accessFlags := 0x411 }
/-- [B -/
def k6 : Class := { plain "[B" (some 0) with kind := .array 5 .byte, interfaces := #[3, 4], accessFlags := 1041 }

/-- the primitive int -/
def k7 : Class := { plain "int" none with kind := .primitive 'I', accessFlags := 0x411 }
/-- [I -/
def k8 : Class := { plain "[I" (some 0) with kind := .array 7 .int, interfaces := #[3, 4], accessFlags := 1041 }

def heap : Heap := #[]
def classes : Array Class := #[k0, k1, k2, k3, k4, k5, k6, k7, k8]
def interned : List (Array UInt16 × Addr) := []
def slotsUsed : Nat := 0
def theMethod : MethodId := ⟨1, 1⟩
def args0 : Array Value := #[.long 12345]
def aboutOver (below : List Frame) : State where
  vm := { classes := classes, interned := interned.toArray }
  heap := heap
  slotsUsed := slotsUsed
  threads := #[{ frames := .invoking theMethod args0 :: below }]
def below0 : List Frame := [.native { method := ⟨0, 0⟩, args := #[] }]
def about1 : State := aboutOver below0
def p0 : Program := .bare "" "" ""
def e0 : Env := launch0.env 0 0 0
theorem w_frames : about1.frames = Frame.invoking theMethod args0 :: below0 := rfl
set_option maxRecDepth 65536 in
theorem w_args : argsFit about1.vm theMethod args0 = true := by decide +kernel
set_option maxRecDepth 65536 in
theorem w_heap : heapFits about1 = true := by decide +kernel
set_option maxRecDepth 65536 in
theorem w_runnable : about1.curStatus? = some .runnable := by decide +kernel
set_option maxRecDepth 65536 in
theorem w_alone : about1.alone = true := by decide +kernel
set_option maxRecDepth 65536 in
theorem w_named : about1.methodNamed? x = some theMethod := by decide +kernel
set_option maxRecDepth 65536 in
theorem w_hears : about1.hears theMethod below0 = true := by decide +kernel
set_option maxRecDepth 65536 in
theorem w_ripe : about1.ripe theMethod args0 below0 = true := by decide +kernel
theorem w_running : about1.status = .running := rfl
set_option maxRecDepth 65536 in
theorem w_room : about1.hasRoom e0.platform room_1 = true :=
  launch0.hasRoom_least _ room_1 (by decide +kernel) (by decide +kernel) (by decide +kernel) (by decide +kernel) (by decide +kernel) (by decide +kernel)
theorem allAtoms_all (ts : List Jvm.Cond) (a : Array Jvm.Value) (st : Jvm.State) : (allAtoms ts).before a st = ts.all (fun c => c.before a st) := by
  induction ts with
  | nil => rfl
  | cons c t ih =>
    show (Jvm.Cond.and c (allAtoms t)).before a st = _
    rw [Jvm.Cond.before_and, ih, List.all_cons]
def words1 : List Jvm.Cond := Jvm.Cond.code x code maxLocals ret :: tables_1
/-- a 'code' word, met by the world's own term for the bytes: nothing is compared byte by byte -/
theorem code_word {y : MethodName} {bytes : ByteArray} {mx : Nat} {rt : Option FieldType} {a : Array Value} {s : State} {m : MethodId} {meth : Method} {c : Code} (h1 : s.methodNamed? y = some m) (h2 : s.vm.method? m = some meth) (h3 : meth.code = some c) (h4 : c.code = bytes)
    (h5 : (c.maxLocals == mx && c.exceptionTable.isEmpty && decide (c.maxStack ≤ mostOperands) && decide (meth.sig.returnType = rt) && !meth.locks && decide (parseMethodDescriptor y.desc = some meth.sig)) = true) : (Jvm.Cond.code y bytes mx rt).before a s = true := by
  simp only [Bool.and_eq_true, beq_iff_eq, Bool.not_eq_true', decide_eq_true_eq] at h5
  obtain ⟨⟨⟨⟨⟨g1, g2⟩, g3⟩, g4⟩, g5⟩, g6⟩ := h5
  simp [Cond.before, Cond.holds, Cond.value, h1, h2, h3, h4, g1, g2, g3, g4, g5, g6]
def isCode : Jvm.Cond → Bool
  | .code _ _ _ _ => true
  | _ => false
theorem all_split {L : List Jvm.Cond} {P : Jvm.Cond → Bool} (h1 : L.all (fun c => isCode c || P c) = true) (h2 : ∀ c ∈ L.filter isCode, P c = true) : L.all P = true := by
  refine List.all_eq_true.mpr fun c hc => ?_
  have h := List.all_eq_true.mp h1 c hc
  rcases Bool.eq_false_or_eq_true (isCode c) with hi | hi
  · exact h2 c (List.mem_filter.mpr ⟨hc, hi⟩)
  · simpa [hi] using h
set_option maxRecDepth 65536 in
theorem w_c0 : (Jvm.Cond.code x code maxLocals ret).before args0 about1 = true := code_word (m := ⟨1, 1⟩) (meth := k1m1) (c := k1c1) (by decide +kernel) rfl rfl rfl (by decide +kernel)
set_option maxRecDepth 65536 in
theorem w_c1 : (Jvm.Cond.code ({ cls := "com/example/slackweave/slackweave/random/Draws", name := "<init>", desc := "(J)V" } : Jvm.MethodName) prog_88_method_1_code (3 : Nat) (Option.none : Option Jvm.ClassFile.FieldType)).before args0 about1 = true := code_word (m := ⟨2, 0⟩) (meth := k2m0) (c := k2c0) (by decide +kernel) rfl rfl rfl (by decide +kernel)
set_option maxRecDepth 65536 in
theorem w_c2 : (Jvm.Cond.code ({ cls := "java/lang/Object", name := "<init>", desc := "()V" } : Jvm.MethodName) object_method_1_code (1 : Nat) (Option.none : Option Jvm.ClassFile.FieldType)).before args0 about1 = true := code_word (m := ⟨0, 0⟩) (meth := k0m0) (c := k0c0) (by decide +kernel) rfl rfl rfl (by decide +kernel)
set_option maxRecDepth 65536 in
theorem w_c3 : (Jvm.Cond.code ({ cls := "com/example/slackweave/slackweave/random/Draws", name := "fraction", desc := "()D" } : Jvm.MethodName) prog_88_method_4_code (1 : Nat) (Option.some Jvm.ClassFile.FieldType.double)).before args0 about1 = true := code_word (m := ⟨2, 2⟩) (meth := k2m2) (c := k2c2) (by decide +kernel) rfl rfl rfl (by decide +kernel)
set_option maxRecDepth 65536 in
theorem w_c4 : (Jvm.Cond.code ({ cls := "com/example/slackweave/slackweave/random/Draws", name := "next63", desc := "()J" } : Jvm.MethodName) prog_88_method_5_code (3 : Nat) (Option.some Jvm.ClassFile.FieldType.long)).before args0 about1 = true := code_word (m := ⟨2, 3⟩) (meth := k2m3) (c := k2c3) (by decide +kernel) rfl rfl rfl (by decide +kernel)
set_option maxRecDepth 65536 in
theorem w_c5 : (Jvm.Cond.code ({ cls := "com/example/slackweave/slackweave/random/Draws", name := "between", desc := "(JJ)J" } : Jvm.MethodName) prog_88_method_2_code (11 : Nat) (Option.some Jvm.ClassFile.FieldType.long)).before args0 about1 = true := code_word (m := ⟨2, 1⟩) (meth := k2m1) (c := k2c1) (by decide +kernel) rfl rfl rfl (by decide +kernel)
def codes1 : List Jvm.Cond := [Jvm.Cond.code x code maxLocals ret, Jvm.Cond.code ({ cls := "com/example/slackweave/slackweave/random/Draws", name := "<init>", desc := "(J)V" } : Jvm.MethodName) prog_88_method_1_code (3 : Nat) (Option.none : Option Jvm.ClassFile.FieldType), Jvm.Cond.code ({ cls := "java/lang/Object", name := "<init>", desc := "()V" } : Jvm.MethodName) object_method_1_code (1 : Nat) (Option.none : Option Jvm.ClassFile.FieldType), Jvm.Cond.code ({ cls := "com/example/slackweave/slackweave/random/Draws", name := "fraction", desc := "()D" } : Jvm.MethodName) prog_88_method_4_code (1 : Nat) (Option.some Jvm.ClassFile.FieldType.double), Jvm.Cond.code ({ cls := "com/example/slackweave/slackweave/random/Draws", name := "next63", desc := "()J" } : Jvm.MethodName) prog_88_method_5_code (3 : Nat) (Option.some Jvm.ClassFile.FieldType.long), Jvm.Cond.code ({ cls := "com/example/slackweave/slackweave/random/Draws", name := "between", desc := "(JJ)J" } : Jvm.MethodName) prog_88_method_2_code (11 : Nat) (Option.some Jvm.ClassFile.FieldType.long)]
set_option maxRecDepth 65536 in
theorem codes_eq : words1.filter isCode = codes1 := rfl
theorem w_codes : ∀ c ∈ words1.filter isCode, c.before args0 about1 = true := by
  rw [codes_eq]
  intro c hc
  simp only [codes1, List.mem_cons, List.not_mem_nil, or_false] at hc
  rcases hc with rfl | rfl | rfl | rfl | rfl | rfl
  · exact w_c0
  · exact w_c1
  · exact w_c2
  · exact w_c3
  · exact w_c4
  · exact w_c5
set_option maxRecDepth 65536 in
theorem w_t1 : (words1.take 24).all (fun c => isCode c || c.before args0 about1) = true := by decide +kernel
set_option maxRecDepth 65536 in
theorem w_t2 : (words1.drop 24).all (fun c => isCode c || c.before args0 about1) = true := by decide +kernel
theorem w_tables : (allAtoms (Jvm.Cond.code x code maxLocals ret :: tables_1)).before args0 about1 = true := by
  rw [allAtoms_all]
  show words1.all (fun c => c.before args0 about1) = true
  refine all_split ?_ w_codes
  rw [← List.take_append_drop 24 words1, List.all_append, w_t1, w_t2]
  rfl
set_option maxRecDepth 65536 in
theorem w_case : (Jvm.Cond.and given_1 narrow_1).before args0 about1 = true := by decide +kernel
theorem w_applies : (headSpec (Jvm.Cond.code x code maxLocals ret :: tables_1) room_1).applies x e0.platform about1 = true :=
  (Spec.applies_iff w_frames).mpr ⟨w_running, w_runnable, w_alone, w_named, w_hears, w_ripe, w_room, w_tables⟩
theorem atStart : AtStart classFile x code maxLocals ret World_1 tables_1 room_1 Calls_1 rest_1 Pre_1 launch0 p0 e0 about1 theMethod args0 below0 :=
  ⟨lists_1, trivial, launch0.admits_env _ _ _, launch0.least_env, fairChoices_fair.cas, fairChoices_fair.clock, w_frames, w_args, w_heap, w_applies, trivial, trivial, w_case⟩
end start1
theorem witness_1 : WitnessClaimed_1 := ⟨start1.p0, start1.e0, start1.about1, start1.theMethod, start1.args0, start1.below0, start1.atStart⟩
end Jvm.Pilot.@@N@@
