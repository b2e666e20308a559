import JvmDerived
import JvmDerived.Pilot.@@N@@Statement
import JvmDerived.Pilot.@@N@@Code
set_option linter.unusedVariables false
set_option linter.unusedSimpArgs false
namespace Jvm.Pilot.@@N@@
open Jvm Jvm.ClassFile Sem Op Lib Jvm.Free Jvm.Stand Jvm.LawKit Jvm.RoadKit Bundle Jvm.Pilot.@@N@@.Jvm.D
/-! OWN PRELUDE (the same text in every proof of this seat): the walk as a goal that goes forward -/
section OwnPrelude
variable {Z : State} {hs : Heap} {W : List Addr} {own : String} {bytes : ByteArray} {maxL : Nat} {ret : Option FieldType} {nm : String}
  {p : Program} {l : Launch} {e : Env} {R : Room} {s : State} {m : MethodId} {args : Array Value} {below : List Frame} {meth : Method} {c : Code}
  {T : State} {h : Heap} {cells slots : Nat} {k n : Nat} {Q : Option Value → Heap → Prop} {a0 : Array Value} {pc : Nat} {Ls : Array Slot} {st rest : List Value}

/-- what stays the same while one body is walked -/
def own_G (Z : State) (hs : Heap) (W : List Addr) (own : String) (bytes : ByteArray) (maxL : Nat) (ret : Option FieldType) (nm : String) (p : Program) (s : State) (m : MethodId) (meth : Method) (c : Code) : Prop :=
  p.tables.exec = Jvm.exec ∧ Z.Warmed39 s.vm ∧ s.vm.findClass own = some m.cls ∧ c.code = bytes ∧ c.maxLocals = maxL ∧ meth.sig.returnType = ret ∧ meth.locks = false ∧ meth.name = nm ∧ Ext Z.heap hs ∧ ∀ a ∈ W, Z.heap.size ≤ a
/-- where the walk stands: state T, heap h, so many cells and slots made; nothing old but W was written -/
def own_S (Z : State) (hs : Heap) (W : List Addr) (own : String) (bytes : ByteArray) (maxL : Nat) (ret : Option FieldType) (nm : String) (p : Program) (l : Launch) (e : Env) (R : Room) (s : State) (m : MethodId) (args : Array Value) (below : List Frame) (meth : Method) (c : Code)
    (T : State) (h : Heap) (cells slots : Nat) : Prop :=
  own_G Z hs W own bytes maxL ret nm p s m meth c ∧ ∃ locs, Stand p l e R s m args below meth c T locs cells slots ∧ Fr Z.heap.size locs ∧ T.heap = h ∧ Keep hs h W
/-- from A the call comes to its end, and there Q holds -/
def own_F (p : Program) (e : Env) (below : List Frame) (s : State) (Z : State) (hs : Heap) (W : List Addr) (k n : Nat) (Q : Option Value → Heap → Prop) (A : State) : Prop :=
  ∃ s₂ o, Steps p.tables e below A s₂ ∧ s₂.status = .running ∧ Ended s₂ below o ∧ ∃ v L, o = .returned v ∧ (Fr Z.heap.size L ∧ Keep hs s₂.heap W ∧ Q v s₂.heap) ∧ FrameEnd s o s₂ L k n
/-- a body's contract -/
def own_C (l : Launch) (Z : State) (y : MethodName) (bytes : ByteArray) (maxL : Nat) (ret : Option FieldType) (ws : List Jvm.Cond) (rm : Room) (W : List Addr) (as' : Array Value) (h0 : Heap) (Q : Option Value → Heap → Prop) : Prop :=
  MetFree l y (head1 (Jvm.Cond.code y bytes maxL ret :: ws) rm) (fun a U => a = as' ∧ Z.Warmed39 U.vm ∧ U.heap = h0) (fun _ _ _ _ _ => True)
    (fun _ U o U' => ∃ v L, o = .returned v ∧ (Fr Z.heap.size L ∧ Keep h0 U'.heap W ∧ Q v U'.heap) ∧ FrameEnd U o U' L rm.cells rm.slots)

theorem own_C.of {y : MethodName} {ws : List Jvm.Cond} {rm : Room} {as' : Array Value} {h0 : Heap} (hpl : plainFor y = true) (hO : Ext Z.heap h0) (hW : ∀ a ∈ W, Z.heap.size ≤ a)
    (body : ∀ p e s m below meth c T, own_S Z h0 W y.cls bytes maxL ret y.name p l e rm s m as' below meth c T h0 0 0 → own_F p e below s Z h0 W rm.cells rm.slots Q (T.setTop (entryFrame m as' maxL))) :
    own_C l Z y bytes maxL ret ws rm W as' h0 Q := by
  refine MetFree.of_bodySF hpl hisR ?_
  intro p e s m args below meth c s₁ Bd hml hP hK
  obtain ⟨rfl, hZ, hh⟩ := hP
  exact body p e s m below meth c s₁ ⟨⟨Bd.exec, hZ, findClass_of_methodNamed Bd.named, Bd.bytes, hml, Bd.returns, Bd.notSynchronized, (name_of_methodNamed Bd.named Bd.method).1, hO, hW⟩, [], Stand.of_body Bd, Fr.nil _, (by rw [← hh, Bd.state]; rfl), Keep.refl _ _⟩

theorem own_F.of {A B : State} (h : ∀ t, Steps p.tables e below B t → Steps p.tables e below A t) (f : own_F p e below s Z hs W k n Q B) : own_F p e below s Z hs W k n Q A := by
  obtain ⟨s₂, o, h1, r⟩ := f
  exact ⟨s₂, o, h _ h1, r⟩
theorem own_F.to {A B : State} (h : Steps p.tables e below A B) (f : own_F p e below s Z hs W k n Q B) : own_F p e below s Z hs W k n Q A := own_F.of (fun _ => h.trans) f
theorem own_F.cast {g g' : JFrame} (q : g = g') (f : own_F p e below s Z hs W k n Q (T.setTop g')) : own_F p e below s Z hs W k n Q (T.setTop g) := q ▸ f
theorem own_F.mono {A : State} {Q' : Option Value → Heap → Prop} (f : own_F p e below s Z hs W k n Q A) (q : ∀ v h, Q v h → Q' v h) : own_F p e below s Z hs W k n Q' A := by
  obtain ⟨s₂, o, h1, h2, h3, v, L, h4, ⟨h5, h6, h7⟩, h8⟩ := f
  exact ⟨s₂, o, h1, h2, h3, v, L, h4, ⟨h5, h6, q _ _ h7⟩, h8⟩
theorem own_C.mono {y : MethodName} {ws : List Jvm.Cond} {rm : Room} {as' : Array Value} {h0 : Heap} {Q' : Option Value → Heap → Prop} (f : own_C l Z y bytes maxL ret ws rm W as' h0 Q) (q : ∀ v h, Q v h → Q' v h) : own_C l Z y bytes maxL ret ws rm W as' h0 Q' := by
  intro p e ha hc hk s m args below hf happ hP hK
  obtain ⟨n, o, h1, h2, h3, v, L, h4, ⟨h5, h6, h7⟩, h8⟩ := f p e ha hc hk s m args below hf happ hP hK
  exact ⟨n, o, h1, h2, h3, v, L, h4, ⟨h5, h6, q _ _ h7⟩, h8⟩

theorem own_S.hx (S : own_S Z hs W own bytes maxL ret nm p l e R s m args below meth c T h cells slots) : p.tables.exec = Jvm.exec := S.1.1
theorem own_S.hZ (S : own_S Z hs W own bytes maxL ret nm p l e R s m args below meth c T h cells slots) : Z.Warmed39 s.vm := S.1.2.1
theorem own_S.hown (S : own_S Z hs W own bytes maxL ret nm p l e R s m args below meth c T h cells slots) : s.vm.findClass own = some m.cls := S.1.2.2.1
theorem own_S.hby (S : own_S Z hs W own bytes maxL ret nm p l e R s m args below meth c T h cells slots) : c.code = bytes := S.1.2.2.2.1
theorem own_S.hml (S : own_S Z hs W own bytes maxL ret nm p l e R s m args below meth c T h cells slots) : c.maxLocals = maxL := S.1.2.2.2.2.1
theorem own_S.hret (S : own_S Z hs W own bytes maxL ret nm p l e R s m args below meth c T h cells slots) : meth.sig.returnType = ret := S.1.2.2.2.2.2.1
theorem own_S.hlk (S : own_S Z hs W own bytes maxL ret nm p l e R s m args below meth c T h cells slots) : meth.locks = false := S.1.2.2.2.2.2.2.1
theorem own_S.hnm (S : own_S Z hs W own bytes maxL ret nm p l e R s m args below meth c T h cells slots) : meth.name = nm := S.1.2.2.2.2.2.2.2.1
theorem own_S.hO (S : own_S Z hs W own bytes maxL ret nm p l e R s m args below meth c T h cells slots) : Ext Z.heap hs := S.1.2.2.2.2.2.2.2.2.1
theorem own_S.hW (S : own_S Z hs W own bytes maxL ret nm p l e R s m args below meth c T h cells slots) : ∀ a ∈ W, Z.heap.size ≤ a := S.1.2.2.2.2.2.2.2.2.2
theorem own_S.keep (S : own_S Z hs W own bytes maxL ret nm p l e R s m args below meth c T h cells slots) : Keep hs h W := by obtain ⟨-, _, -, -, -, K⟩ := S; exact K
theorem own_S.size (S : own_S Z hs W own bytes maxL ret nm p l e R s m args below meth c T h cells slots) : hs.size ≤ h.size := S.keep.1
theorem own_S.old (S : own_S Z hs W own bytes maxL ret nm p l e R s m args below meth c T h cells slots) : Ext Z.heap h :=
  ⟨Nat.le_trans S.hO.1 S.size, fun x cc q => S.keep.2.1 x cc (S.hO.2 x cc q) fun r => absurd (Array.getElem?_eq_some_iff.mp q).1 (Nat.not_lt.mpr (S.hW x r))⟩
theorem own_S.here (S : own_S Z hs W own bytes maxL ret nm p l e R s m args below meth c T h cells slots) : At T m c below := by obtain ⟨-, _, X, -⟩ := S; exact X.here
theorem own_S.dec (S : own_S Z hs W own bytes maxL ret nm p l e R s m args below meth c T h cells slots) {r : Except ClassFile.DecodeError (ClassFile.Instr × Nat)} (h2 : decode bytes pc = r) : decode c.code pc = r := hb S.hby h2
theorem own_S.may (S : own_S Z hs W own bytes maxL ret nm p l e R s m args below meth c T h cells slots) {a : Addr} (q : a ∈ W ∨ hs.size ≤ a) : Z.heap.size ≤ a := q.elim (S.hW a) (Nat.le_trans S.hO.1)
theorem own_S.more (S : own_S Z hs W own bytes maxL ret nm p l e R s m args below meth c T h cells slots) {k' n' : Nat} (hk : cells ≤ k') (hn : slots ≤ n') : own_S Z hs W own bytes maxL ret nm p l e R s m args below meth c T h k' n' := by
  obtain ⟨G, locs, X, r⟩ := S
  exact ⟨G, locs, X.more hk hn, r⟩

/-! the ends -/
theorem own_S.leave (S : own_S Z hs W own bytes maxL ret nm p l e R s m args below meth c T h cells slots) {A : State} {v : Option Value} (hk : cells ≤ k) (hn : slots ≤ n) (hv : ret = none → v = none) (hq : Q v h)
    (go : ∀ (locs : List Loc) (_ : Stand p l e R s m args below meth c T locs cells slots) (fs : List Frame), (∀ (f : JFrame) (acts : List Action), f.method = m → f.locked = none → f.entered = [] → (doReturn e (T.setTop f) acts v).1 = T.setFrames fs) → Steps p.tables e below A (T.setFrames fs)) : own_F p e below s Z hs W k n Q A := by
  obtain ⟨G, locs, X, N, e0, K⟩ := S
  have hlk : meth.locks = false := own_S.hlk (⟨G, locs, X, N, e0, K⟩ : own_S Z hs W own bytes maxL ret nm p l e R s m args below meth c T h cells slots)
  have hret : meth.sig.returnType = ret := own_S.hret (⟨G, locs, X, N, e0, K⟩ : own_S Z hs W own bytes maxL ret nm p l e R s m args below meth c T h cells slots)
  obtain ⟨fs, hr, hrun, hended, hW, hsame⟩ := X.leave (v := v) (fun q => hv (hret ▸ q)) hlk
  subst e0
  exact ⟨_, _, go locs X fs hr, hrun, hended, _, _, rfl, ⟨N, K, hq⟩, ⟨_, rfl⟩, hW, hsame.mono hk hn⟩
theorem own_retV (S : own_S Z hs W own bytes maxL none nm p l e R s m args below meth c T h cells slots) (hd : decode bytes pc = .ok (.return_, 1)) (hk : cells ≤ k) (hn : slots ≤ n) (hq : Q none h) : own_F p e below s Z hs W k n Q (T.setTop (mkF m pc Ls [])) :=
  S.leave hk hn (fun _ => rfl) hq fun locs X fs hr => X.returnOut S.hx S.hret (S.dec hd) hr
theorem own_retZ {t : FieldType} (S : own_S Z hs W own bytes maxL (some t) nm p l e R s m args below meth c T h cells slots) {z : Int32} (ht : t = .boolean ∨ t = .byte ∨ t = .char ∨ t = .short) (hd : decode bytes pc = .ok (.ireturn, 1)) (hk : cells ≤ k) (hn : slots ≤ n) (hq : Q (some (.int (nar t z))) h) : own_F p e below s Z hs W k n Q (T.setTop (mkF m pc Ls (.int z :: rest))) :=
  S.leave hk hn (fun q => by cases q) hq fun locs X fs hr => retN X S.hx S.hret ht (S.dec hd) hr
theorem own_retI (S : own_S Z hs W own bytes maxL (some .int) nm p l e R s m args below meth c T h cells slots) {z : Int32} (hd : decode bytes pc = .ok (.ireturn, 1)) (hk : cells ≤ k) (hn : slots ≤ n) (hq : Q (some (.int z)) h) : own_F p e below s Z hs W k n Q (T.setTop (mkF m pc Ls (.int z :: rest))) :=
  S.leave hk hn (fun q => by cases q) hq fun locs X fs hr => retOut X S.hx S.hret rfl (Or.inl ⟨rfl, Or.inl rfl, _, rfl⟩) (S.dec hd) hr
theorem own_retJ (S : own_S Z hs W own bytes maxL (some .long) nm p l e R s m args below meth c T h cells slots) {z : Int64} (hd : decode bytes pc = .ok (.lreturn, 1)) (hk : cells ≤ k) (hn : slots ≤ n) (hq : Q (some (.long z)) h) : own_F p e below s Z hs W k n Q (T.setTop (mkF m pc Ls (.long z :: rest))) :=
  S.leave hk hn (fun q => by cases q) hq fun locs X fs hr => retOut X S.hx S.hret rfl (Or.inr (Or.inl ⟨rfl, rfl, _, rfl⟩)) (S.dec hd) hr
theorem own_retD (S : own_S Z hs W own bytes maxL (some .double) nm p l e R s m args below meth c T h cells slots) {z : UInt64} (hd : decode bytes pc = .ok (.dreturn, 1)) (hk : cells ≤ k) (hn : slots ≤ n) (hq : Q (some (.double z)) h) : own_F p e below s Z hs W k n Q (T.setTop (mkF m pc Ls (.double z :: rest))) :=
  S.leave hk hn (fun q => by cases q) hq fun locs X fs hr => retOut X S.hx S.hret rfl (Or.inr (Or.inr (Or.inl ⟨rfl, rfl, _, rfl⟩))) (S.dec hd) hr
theorem own_retA {t : FieldType} (S : own_S Z hs W own bytes maxL (some t) nm p l e R s m args below meth c T h cells slots) {w : Value} (ht : t.isReference = true) (hw : w.isRef = true) (hd : decode bytes pc = .ok (.areturn, 1)) (hk : cells ≤ k) (hn : slots ≤ n) (hq : Q (some w) h) : own_F p e below s Z hs W k n Q (T.setTop (mkF m pc Ls (w :: rest))) :=
  S.leave hk hn (fun q => by cases q) hq fun locs X fs hr => retOut X S.hx S.hret (by cases w <;> simp [Value.isRef] at hw <;> cases t <;> simp [FieldType.isReference] at ht <;> rfl) (Or.inr (Or.inr (Or.inr (Or.inr ⟨rfl, ht, hw⟩)))) (S.dec hd) hr

/-! branches -/
def own_cd : ClassFile.Cond → Int32 → Int32 → Prop
  | .eq, x, y => x = y
  | .ne, x, y => ¬ x = y
  | .lt, x, y => x < y
  | .ge, x, y => ¬ x < y
  | .gt, x, y => y < x
  | .le, x, y => ¬ y < x
theorem own_cd_t {cd : ClassFile.Cond} {x y : Int32} (q : own_cd cd x y) : if_icmp.holds cd x y = true := by
  cases cd
  · exact (teq q).1
  · exact (feq q).2
  · exact (tlt q).1
  · exact (flt q).2.1
  · exact (tlt q).2.2.1
  · exact (flt q).2.2.2
def own_cn : ClassFile.Cond → Int32 → Int32 → Prop
  | .eq, x, y => ¬ x = y
  | .ne, x, y => x = y
  | .lt, x, y => ¬ x < y
  | .ge, x, y => x < y
  | .gt, x, y => ¬ y < x
  | .le, x, y => y < x
theorem own_cd_f {cd : ClassFile.Cond} {x y : Int32} (q : own_cn cd x y) : if_icmp.holds cd x y = false := by
  cases cd
  · exact (feq q).1
  · exact (teq q).2
  · exact (flt q).1
  · exact (tlt q).2.1
  · exact (flt q).2.2.1
  · exact (tlt q).2.2.2
theorem own_cd_em (cd : ClassFile.Cond) (x y : Int32) : own_cd cd x y ∨ own_cn cd x y := by
  cases cd
  · exact Classical.em (x = y)
  · exact (Classical.em (x = y)).symm
  · exact Classical.em (x < y)
  · exact (Classical.em (x < y)).symm
  · exact Classical.em (y < x)
  · exact (Classical.em (y < x)).symm
theorem own_icmp (S : own_S Z hs W own bytes maxL ret nm p l e R s m args below meth c T h cells slots) {cd : ClassFile.Cond} {o : Int} {x y : Int32} (pc' : Nat) (hd : decode bytes pc = .ok (.if_icmp cd o, 3)) (ho : 0 ≤ (pc : Int) + o) (hp : ((pc : Int) + o).toNat = pc')
    (ft : own_cd cd x y → own_F p e below s Z hs W k n Q (T.setTop (mkF m pc' Ls rest))) (ff : own_cn cd x y → own_F p e below s Z hs W k n Q (T.setTop (mkF m (pc + 3) Ls rest))) : own_F p e below s Z hs W k n Q (T.setTop (mkF m pc Ls (.int y :: .int x :: rest))) := by
  rcases own_cd_em cd x y with q | q
  · exact own_F.of (fun _ => XS.icmpYes S.here S.hx rfl (pc0 := pc) rfl (S.dec hd) rfl (own_cd_t q) ho hp) (ft q)
  · exact own_F.of (fun _ => XS.icmpNo S.here S.hx rfl (S.dec hd) rfl (own_cd_f q)) (ff q)
theorem own_if (S : own_S Z hs W own bytes maxL ret nm p l e R s m args below meth c T h cells slots) {cd : ClassFile.Cond} {o : Int} {x : Int32} (pc' : Nat) (hd : decode bytes pc = .ok (.ifCond cd o, 3)) (ho : 0 ≤ (pc : Int) + o) (hp : ((pc : Int) + o).toNat = pc')
    (ft : own_cd cd x 0 → own_F p e below s Z hs W k n Q (T.setTop (mkF m pc' Ls rest))) (ff : own_cn cd x 0 → own_F p e below s Z hs W k n Q (T.setTop (mkF m (pc + 3) Ls rest))) : own_F p e below s Z hs W k n Q (T.setTop (mkF m pc Ls (.int x :: rest))) := by
  rcases own_cd_em cd x 0 with q | q
  · exact own_F.of (fun _ => XS.ifYes S.here S.hx rfl (pc0 := pc) rfl (S.dec hd) rfl ((if0 _ _).trans (own_cd_t q)) ho hp) (ft q)
  · exact own_F.of (fun _ => XS.ifNo S.here S.hx rfl (S.dec hd) rfl ((if0 _ _).trans (own_cd_f q))) (ff q)
def own_ac : ACond → Value → Value → Prop
  | .eq, x, y => x = y
  | .ne, x, y => ¬ x = y
def own_an : ACond → Value → Value → Prop
  | .eq, x, y => ¬ x = y
  | .ne, x, y => x = y
theorem own_acmp (S : own_S Z hs W own bytes maxL ret nm p l e R s m args below meth c T h cells slots) {cd : ACond} {o : Int} {x y : Value} (h1 : x.isRef = true) (h2 : y.isRef = true) (pc' : Nat) (hd : decode bytes pc = .ok (.if_acmp cd o, 3)) (ho : 0 ≤ (pc : Int) + o) (hp : ((pc : Int) + o).toNat = pc')
    (ft : own_ac cd x y → own_F p e below s Z hs W k n Q (T.setTop (mkF m pc' Ls rest))) (ff : own_an cd x y → own_F p e below s Z hs W k n Q (T.setTop (mkF m (pc + 3) Ls rest))) : own_F p e below s Z hs W k n Q (T.setTop (mkF m pc Ls (y :: x :: rest))) := by
  obtain ⟨locs, X, -⟩ := S.2
  cases cd <;> rcases Classical.em (x = y) with q | q
  · exact own_F.of (fun _ => Jvm.RoadKit.acmp (g := mkF m pc Ls (y :: x :: rest)) X S.hx rfl h1 h2 (pc0 := pc) (pc' := pc') (same := true) rfl (S.dec hd) rfl (decide_eq_true q) ho (by simp [acV, ← hp])) (ft q)
  · exact own_F.of (fun _ => Jvm.RoadKit.acmp (g := mkF m pc Ls (y :: x :: rest)) X S.hx rfl h1 h2 (pc0 := pc) (pc' := pc + 3) (same := false) rfl (S.dec hd) rfl (decide_eq_false q) ho (by simp [acV])) (ff q)
  · exact own_F.of (fun _ => Jvm.RoadKit.acmp (g := mkF m pc Ls (y :: x :: rest)) X S.hx rfl h1 h2 (pc0 := pc) (pc' := pc + 3) (same := true) rfl (S.dec hd) rfl (decide_eq_true q) ho (by simp [acV])) (ff q)
  · exact own_F.of (fun _ => Jvm.RoadKit.acmp (g := mkF m pc Ls (y :: x :: rest)) X S.hx rfl h1 h2 (pc0 := pc) (pc' := pc') (same := false) rfl (S.dec hd) rfl (decide_eq_false q) ho (by simp [acV, ← hp])) (ft q)

/-! the heap -/
theorem own_getF (S : own_S Z hs W own bytes maxL ret nm p l e R s m args below meth c T h cells slots) {R0 O fn d host : String} {index : Nat} (w : (Jvm.Cond.fieldLink own index R0 fn d).before a0 Z = true ∨ (Jvm.Cond.fieldLinkNest own index R0 fn d host).before a0 Z = true) (via : Via Z R0 O fn d)
    {a : Addr} {v : Value} (F : Fld Z h a O fn d v) (hd : decode bytes pc = .ok (.getfield index, 3))
    (f : ∀ T', own_S Z hs W own bytes maxL ret nm p l e R s m args below meth c T' h cells slots → own_F p e below s Z hs W k n Q (T'.setTop (mkF m (pc + 3) Ls (v :: rest)))) : own_F p e below s Z hs W k n Q (T.setTop (mkF m pc Ls (.ref a :: rest))) := by
  have S' := S
  obtain ⟨G, locs, X, N, e0, K⟩ := S
  obtain ⟨T', X', e', st⟩ := getF X S'.hx S'.hZ S'.hown w via e0 F (g := mkF m pc Ls (.ref a :: rest)) rfl rfl (S'.dec hd)
  exact own_F.of st (f T' ⟨G, locs, X', N, e', K⟩)
theorem own_getS (S : own_S Z hs W own bytes maxL ret nm p l e R s m args below meth c T h cells slots) {R0 O fn d host : String} {index : Nat} (w : (Jvm.Cond.fieldLink own index R0 fn d).before a0 Z = true ∨ (Jvm.Cond.fieldLinkNest own index R0 fn d host).before a0 Z = true) (via : Via Z R0 O fn d)
    {v : Value} (F : Sta Z h O fn d v) (hd : decode bytes pc = .ok (.getstatic index, 3))
    (f : ∀ T', own_S Z hs W own bytes maxL ret nm p l e R s m args below meth c T' h cells slots → own_F p e below s Z hs W k n Q (T'.setTop (mkF m (pc + 3) Ls (v :: st)))) : own_F p e below s Z hs W k n Q (T.setTop (mkF m pc Ls st)) := by
  have S' := S
  obtain ⟨G, locs, X, N, e0, K⟩ := S
  obtain ⟨T', X', e', st⟩ := getS2 X S'.hx S'.hZ S'.hown w via e0 F (g := mkF m pc Ls st) rfl (S'.dec hd)
  exact own_F.of st (f T' ⟨G, locs, X', N, e', K⟩)
theorem own_putF (S : own_S Z hs W own bytes maxL ret nm p l e R s m args below meth c T h cells slots) {R0 O fn d host C : String} {index kk : Nat} {ty : FieldType} (w : (Jvm.Cond.fieldLink own index R0 fn d).before a0 Z = true ∨ (Jvm.Cond.fieldLinkNest own index R0 fn d host).before a0 Z = true) (via : Via Z R0 O fn d)
    {a : Addr} {v old : Value} (F : Fld Z h a O fn d old) (E : Exa Z h a C) (L : (Jvm.Cond.lays C O fn d).before a0 Z = true ∨ ((Jvm.Cond.laysFinal C O fn d).before a0 Z = true ∧ own = O ∧ nm = "<init>")) (wi : (Jvm.Cond.instantiable C kk).before a0 Z = true)
    (hty : parseFieldDescriptor d = some ty) (hn : narrow ty v = v) (hf : fits ty v = true) (hd : decode bytes pc = .ok (.putfield index, 3)) (ok : a ∈ W ∨ hs.size ≤ a)
    (f : ∀ T' h', own_S Z hs W own bytes maxL ret nm p l e R s m args below meth c T' h' cells slots → Wr h h' a (Jvm.RoadKit.slotOf Z O fn d) v → own_F p e below s Z hs W k n Q (T'.setTop (mkF m (pc + 3) Ls rest))) : own_F p e below s Z hs W k n Q (T.setTop (mkF m pc Ls (v :: .ref a :: rest))) := by
  have S' := S
  obtain ⟨G, locs, X, N, e0, K⟩ := S
  obtain ⟨T', h', X', e', Wt, st⟩ := putF X S'.hx S'.hZ S'.hown w via e0 F E (L.imp id fun q => ⟨q.1, q.2.1, S'.hnm.trans q.2.2⟩) wi hty hn hf (g := mkF m pc Ls (v :: .ref a :: rest)) rfl rfl (S'.dec hd)
  exact own_F.of st (f T' h' ⟨G, _, X', Fr.snoc X' N (S'.may ok), e', K.wr Wt ok⟩ Wt)
theorem own_new (S : own_S Z hs W own bytes maxL ret nm p l e R s m args below meth c T h cells slots) {C : String} {index sl : Nat} (w : (Jvm.Cond.classLink own index C).before a0 Z = true) (wi : (Jvm.Cond.instantiable C sl).before a0 Z = true) (wz : (Jvm.Cond.initialized C).before a0 Z = true)
    (hd : decode bytes pc = .ok (.new index, 3)) (hc : cells + 1 ≤ R.cells) (hl : slots + sl ≤ R.slots)
    (f : ∀ T' h' a, a = h.size → own_S Z hs W own bytes maxL ret nm p l e R s m args below meth c T' h' (cells + 1) (slots + sl) → Ext h h' → Exa Z h' a C → (∀ {O fn d : String} {ty : FieldType}, Laid Z a0 C O fn d → parseFieldDescriptor d = some ty → Fld Z h' a O fn d (defaultValue ty)) →
      own_F p e below s Z hs W k n Q (T'.setTop (mkF m (pc + 3) Ls (.ref a :: st)))) : own_F p e below s Z hs W k n Q (T.setTop (mkF m pc Ls st)) := by
  have S' := S
  obtain ⟨G, locs, X, N, e0, K⟩ := S
  obtain ⟨T', h', X', e', E, A, D, -, st⟩ := newO X S'.hx S'.hZ S'.hown w wi wz e0 (g := mkF m pc Ls st) rfl (S'.dec hd) hc hl
  exact own_F.of st (f T' h' _ rfl ⟨G, _, X', N, e', K.ext E⟩ E A D)
theorem own_initO (S : own_S Z hs W own bytes maxL ret nm p l e R s m args below meth c T h cells slots) {index : Nat} (w1 : (Jvm.Cond.methodLink own index Lib.objectInit).before a0 Z = true) (w2 : (Jvm.Cond.instanceMethod Lib.objectInit).before a0 Z = true)
    (w3 : (Jvm.Cond.code Lib.objectInit ⟨#[0xb1]⟩ 1 none).before a0 Z = true) {a : Addr} (hsz : Ls.size = maxL) (hd : decode bytes pc = .ok (.invokespecial index, 3)) (hf : 1 ≤ R.frames) (hl : (rest.map fun v => v.category).sum + 12 ≤ R.locals)
    (f : ∀ T', own_S Z hs W own bytes maxL ret nm p l e R s m args below meth c T' h cells slots → own_F p e below s Z hs W k n Q (T'.setTop (mkF m (pc + 3) Ls rest))) : own_F p e below s Z hs W k n Q (T.setTop (mkF m pc Ls (.ref a :: rest))) := by
  have S' := S
  obtain ⟨G, locs, X, N, e0, K⟩ := S
  obtain ⟨T', X', e', st⟩ := initO X S'.hx S'.hZ S'.hown w1 w2 w3 e0 (g := mkF m pc Ls (.ref a :: rest)) rfl (hsz.trans S'.hml.symm) rfl (S'.dec hd) hf (W := (rest.map fun v => v.category).sum) (by show 2 * 0 + _ ≤ _; omega) hl
  exact own_F.of st (f T' ⟨G, locs, X', N, e', K⟩)

/-! calls -/
variable {index : Nat} {y y' : MethodName} {bytes' : ByteArray} {maxL' : Nat} {ret' : Option FieldType} {rm : Room} {W' : List Addr} {Q' : Option Value → Heap → Prop} {argsL : List Value} {ps : List FieldType} {rt : Option FieldType}
theorem own_callS (S : own_S Z hs W own bytes maxL ret nm p l e R s m args below meth c T h cells slots)
    (w1 : (Jvm.Cond.methodLink own index y).before a0 Z = true) (w2 : (Jvm.Cond.static y).before a0 Z = true) (w3 : (Jvm.Cond.initialized y.cls).before a0 Z = true) (w4 : (Jvm.Cond.code y bytes' maxL' ret').before a0 Z = true) (hy : y.cls ≠ "java/lang/invoke/MethodHandle" ∧ y.cls ≠ "java/lang/invoke/VarHandle")
    (C : own_C l Z y bytes' maxL' ret' [] rm W' argsL.toArray h Q') (hWW : ∀ a ∈ W', a ∈ W ∨ hs.size ≤ a) (pd : parseMethodDescriptor y.desc = some ⟨ps, rt⟩) (hlen : argsL.length = ps.length) (hsz : Ls.size = maxL) (hst : st = argsL.reverse ++ rest)
    (hd : decode bytes pc = .ok (.invokestatic index, 3)) (hfr : rm.frames + 1 ≤ R.frames) (hlo : (rest.map fun v => v.category).sum + (maxL' + 11) + rm.locals ≤ R.locals) (hc : cells + rm.cells ≤ R.cells) (hsl : slots + rm.slots ≤ R.slots)
    (f : ∀ T' h' v, own_S Z hs W own bytes maxL ret nm p l e R s m args below meth c T' h' (cells + rm.cells) (slots + rm.slots) → Keep h h' W' → Q' v h' → own_F p e below s Z hs W k n Q (T'.setTop (mkF m (pc + 3) Ls (v.toList ++ rest)))) : own_F p e below s Z hs W k n Q (T.setTop (mkF m pc Ls st)) := by
  have S' := S
  obtain ⟨G, locs, X, N, e0, K⟩ := S
  obtain ⟨v, _, ⟨T', L', k', n'⟩, -, X', ⟨Lc, hQ, h1, h2, h3⟩, st⟩ := Jvm.LawKit.callS X S'.hx (y := y) S'.hown (mvT S'.hZ w1) (mvT S'.hZ w2) (mvT S'.hZ w3) (mvT S'.hZ w4) hy (backOf (W := (rest.map fun v => v.category).sum) (Q := fun v hh L => Fr Z.heap.size L ∧ Keep h hh W' ∧ Q' v hh) C S'.hZ w4 w3 hfr hlo) (g := mkF m pc Ls st) rfl (hsz.trans S'.hml.symm) (argsL := argsL) (rest := rest) (lenOf pd hlen) hst (by show 2 * 0 + _ ≤ _; omega) (S'.dec hd) (fun _ _ => ⟨rfl, e0, hc, hsl⟩)
  dsimp only [Pt.U, Pt.locs, Pt.cells, Pt.slots] at X' h1 h2 h3 st hQ
  subst h1 h2 h3
  obtain ⟨N', K', q⟩ := hQ
  exact own_F.of st (f T' T'.heap v ⟨G, _, X', Fr.app N N', rfl, K.trans K' hWW⟩ K' q)
theorem own_callI (S : own_S Z hs W own bytes maxL ret nm p l e R s m args below meth c T h cells slots) (hy1 : y.name = "<init>")
    (w1 : (Jvm.Cond.methodLink own index y).before a0 Z = true) (w2 : (Jvm.Cond.instanceMethod y).before a0 Z = true) (w3 : (Jvm.Cond.initialized y.cls).before a0 Z = true) (w4 : (Jvm.Cond.code y bytes' maxL' none).before a0 Z = true) (hy : y.cls ≠ "java/lang/invoke/MethodHandle" ∧ y.cls ≠ "java/lang/invoke/VarHandle")
    {a : Addr} (C : own_C l Z y bytes' maxL' none [] rm W' (.ref a :: argsL).toArray h Q') (hWW : ∀ a ∈ W', a ∈ W ∨ hs.size ≤ a) (pd : parseMethodDescriptor y.desc = some ⟨ps, rt⟩) (hlen : argsL.length = ps.length) (hsz : Ls.size = maxL) (hst : st = argsL.reverse ++ .ref a :: rest)
    (hd : decode bytes pc = .ok (.invokespecial index, 3)) (hfr : rm.frames + 1 ≤ R.frames) (hlo : (rest.map fun v => v.category).sum + (maxL' + 11) + rm.locals ≤ R.locals) (hc : cells + rm.cells ≤ R.cells) (hsl : slots + rm.slots ≤ R.slots)
    (f : ∀ T' h' v, own_S Z hs W own bytes maxL ret nm p l e R s m args below meth c T' h' (cells + rm.cells) (slots + rm.slots) → Keep h h' W' → Q' v h' → own_F p e below s Z hs W k n Q (T'.setTop (mkF m (pc + 3) Ls (v.toList ++ rest)))) : own_F p e below s Z hs W k n Q (T.setTop (mkF m pc Ls st)) := by
  have S' := S
  obtain ⟨G, locs, X, N, e0, K⟩ := S
  obtain ⟨v, _, ⟨T', L', k', n'⟩, -, X', ⟨Lc, hQ, h1, h2, h3⟩, st⟩ := X.specialBack S'.hx (y := y) hy1 S'.hown (mvT S'.hZ w1) (mvT S'.hZ w2) (mvT S'.hZ w4) hy (backOf (W := (rest.map fun v => v.category).sum) (Q := fun v hh L => Fr Z.heap.size L ∧ Keep h hh W' ∧ Q' v hh) C S'.hZ w4 w3 hfr hlo) (g := mkF m pc Ls st) rfl (hsz.trans S'.hml.symm) (Steps.refl _) (a := a) (argsL := argsL) (rest := rest) (lenOf pd hlen) hst (by show 2 * 0 + _ ≤ _; omega) (S'.dec hd) (fun _ _ => ⟨rfl, e0, hc, hsl⟩)
  dsimp only [Pt.U, Pt.locs, Pt.cells, Pt.slots] at X' h1 h2 h3 st hQ
  subst h1 h2 h3
  obtain ⟨N', K', q⟩ := hQ
  exact own_F.to st (f T' T'.heap v ⟨G, _, X', Fr.app N N', rfl, K.trans K' hWW⟩ K' q)
theorem own_callV (S : own_S Z hs W own bytes maxL ret nm p l e R s m args below meth c T h cells slots) {Cn : String}
    (w1 : (Jvm.Cond.methodLink own index y).before a0 Z = true) (w2 : (Jvm.Cond.declares y).before a0 Z = true) (nf : NotFace s y) (w3 : (Jvm.Cond.selects Cn y y').before a0 Z = true) (w4 : (Jvm.Cond.instanceMethod y').before a0 Z = true) (w5 : (Jvm.Cond.code y' bytes' maxL' ret').before a0 Z = true) (w6 : (Jvm.Cond.initialized y'.cls).before a0 Z = true) (hy : y.cls ≠ "java/lang/invoke/MethodHandle" ∧ y.cls ≠ "java/lang/invoke/VarHandle")
    {a : Addr} (E : Exa Z h a Cn) (C : own_C l Z y' bytes' maxL' ret' [] rm W' (.ref a :: argsL).toArray h Q') (hWW : ∀ a ∈ W', a ∈ W ∨ hs.size ≤ a) (pd : parseMethodDescriptor y.desc = some ⟨ps, rt⟩) (hlen : argsL.length = ps.length) (hsz : Ls.size = maxL) (hst : st = argsL.reverse ++ .ref a :: rest)
    (hd : decode bytes pc = .ok (.invokevirtual index, 3)) (hfr : rm.frames + 1 ≤ R.frames) (hlo : (rest.map fun v => v.category).sum + (maxL' + 11) + rm.locals ≤ R.locals) (hc : cells + rm.cells ≤ R.cells) (hsl : slots + rm.slots ≤ R.slots)
    (f : ∀ T' h' v, own_S Z hs W own bytes maxL ret nm p l e R s m args below meth c T' h' (cells + rm.cells) (slots + rm.slots) → Keep h h' W' → Q' v h' → own_F p e below s Z hs W k n Q (T'.setTop (mkF m (pc + 3) Ls (v.toList ++ rest)))) : own_F p e below s Z hs W k n Q (T.setTop (mkF m pc Ls st)) := by
  have S' := S
  obtain ⟨G, locs, X, N, e0, K⟩ := S
  obtain ⟨cq, kq, qa, qb, qc⟩ := isOf S'.hZ e0 E
  obtain ⟨v, _, ⟨T', L', k', n'⟩, -, X', ⟨Lc, hQ, h1, h2, h3⟩, st⟩ := X.virtualBack S'.hx (y := y) (z := y') S'.hown (mvT S'.hZ w1) (mvT S'.hZ w2) nf (mvT S'.hZ w3) (mvT S'.hZ w4) hy (backOf (W := (rest.map fun v => v.category).sum) (Q := fun v hh L => Fr Z.heap.size L ∧ Keep h hh W' ∧ Q' v hh) C S'.hZ w5 w6 hfr hlo) qa qc (g := mkF m pc Ls st) rfl (hsz.trans S'.hml.symm) (Steps.refl _) (argsL := argsL) (rest := rest) (lenOf pd hlen) hst (by show 2 * 0 + _ ≤ _; omega) (S'.dec hd) (fun _ _ => ⟨rfl, e0, hc, hsl⟩)
  dsimp only [Pt.U, Pt.locs, Pt.cells, Pt.slots] at X' h1 h2 h3 st hQ
  subst h1 h2 h3
  obtain ⟨N', K', q⟩ := hQ
  exact own_F.to st (f T' T'.heap v ⟨G, _, X', Fr.app N N', rfl, K.trans K' hWW⟩ K' q)
theorem own_nf (S : own_S Z hs W own bytes maxL ret nm p l e R s m args below meth c T h cells slots) {Cn : String} (w : (Jvm.Cond.selects Cn y y).before a0 Z = true) : NotFace s y := notFace_of_selects (args := #[]) (mvT S.hZ w)
theorem own_callX (S : own_S Z hs W own bytes maxL ret nm p l e R s m args below meth c T h cells slots) {Cn : String} {cnt : Nat}
    (w1 : (Jvm.Cond.methodLink own index y).before a0 Z = true) (w2 : (Jvm.Cond.declares y).before a0 Z = true) (w7 : (Jvm.Cond.interfaceMethod y.cls y.cls y.name y.desc).before a0 Z = true) (w3 : (Jvm.Cond.selects Cn y y').before a0 Z = true) (w4 : (Jvm.Cond.instanceMethod y').before a0 Z = true) (w8 : (Jvm.Cond.publicMethod y').before a0 Z = true) (w9 : (Jvm.Cond.unhidden Cn y.name y.desc).before a0 Z = true) (w10 : (Jvm.Cond.castable Cn y.cls).before a0 Z = true)
    (w5 : (Jvm.Cond.code y' bytes' maxL' ret').before a0 Z = true) (w6 : (Jvm.Cond.initialized y'.cls).before a0 Z = true) (hy : y.cls ≠ "java/lang/invoke/MethodHandle" ∧ y.cls ≠ "java/lang/invoke/VarHandle")
    {a : Addr} (E : Exa Z h a Cn) (C : own_C l Z y' bytes' maxL' ret' [] rm W' (.ref a :: argsL).toArray h Q') (hWW : ∀ a ∈ W', a ∈ W ∨ hs.size ≤ a) (pd : parseMethodDescriptor y.desc = some ⟨ps, rt⟩) (hlen : argsL.length = ps.length) (hsz : Ls.size = maxL) (hst : st = argsL.reverse ++ .ref a :: rest)
    (hd : decode bytes pc = .ok (.invokeinterface index cnt, 5)) (hfr : rm.frames + 1 ≤ R.frames) (hlo : (rest.map fun v => v.category).sum + (maxL' + 11) + rm.locals ≤ R.locals) (hc : cells + rm.cells ≤ R.cells) (hsl : slots + rm.slots ≤ R.slots)
    (f : ∀ T' h' v, own_S Z hs W own bytes maxL ret nm p l e R s m args below meth c T' h' (cells + rm.cells) (slots + rm.slots) → Keep h h' W' → Q' v h' → own_F p e below s Z hs W k n Q (T'.setTop (mkF m (pc + 5) Ls (v.toList ++ rest)))) : own_F p e below s Z hs W k n Q (T.setTop (mkF m pc Ls st)) := by
  have S' := S
  obtain ⟨G, locs, X, N, e0, K⟩ := S
  obtain ⟨cq, kq, qa, qb, qc⟩ := isOf S'.hZ e0 E
  obtain ⟨v, _, ⟨T', L', k', n'⟩, -, X', ⟨Lc, hQ, h1, h2, h3⟩, st⟩ := X.interfaceBack S'.hx (xi := y) (y := y') S'.hown (mvT S'.hZ w1) (mvT S'.hZ w2) (mvT S'.hZ w7 (by simp [Cond.onTables, Cond.keepsFace, Cond.keeps, Cond.steady, Cond.faceAtom, hy])) (mvT S'.hZ w3) (mvT S'.hZ w4) (mvT S'.hZ w8) (mvT S'.hZ w9) (mvT S'.hZ w10) hy (backOf (W := (rest.map fun v => v.category).sum) (Q := fun v hh L => Fr Z.heap.size L ∧ Keep h hh W' ∧ Q' v hh) C S'.hZ w5 w6 hfr hlo) qa qb qc (g := mkF m pc Ls st) rfl (hsz.trans S'.hml.symm) (Steps.refl _) (argsL := argsL) (rest := rest) (lenOf pd hlen) hst (by show 2 * 0 + _ ≤ _; omega) (S'.dec hd) (fun _ _ => ⟨rfl, e0, hc, hsl⟩)
  dsimp only [Pt.U, Pt.locs, Pt.cells, Pt.slots] at X' h1 h2 h3 st hQ
  subst h1 h2 h3
  obtain ⟨N', K', q⟩ := hQ
  exact own_F.to st (f T' T'.heap v ⟨G, _, X', Fr.app N N', rfl, K.trans K' hWW⟩ K' q)
theorem own_callP (S : own_S Z hs W own bytes maxL ret nm p l e R s m args below meth c T h cells slots)
    (w1 : (Jvm.Cond.methodLink own index y).before a0 Z = true) (w2 : (Jvm.Cond.instanceMethod y).before a0 Z = true) {kk : Nat} (w3 : (Jvm.Cond.instantiable y.cls kk).before a0 Z = true) (wp : (Jvm.Cond.privateMethod y).before a0 Z = true) (w5 : (Jvm.Cond.code y bytes' maxL' ret').before a0 Z = true) (w6 : (Jvm.Cond.initialized y.cls).before a0 Z = true) (hy : y.cls ≠ "java/lang/invoke/MethodHandle" ∧ y.cls ≠ "java/lang/invoke/VarHandle")
    {a : Addr} {Cn : String} (E : Exa Z h a Cn) (C : own_C l Z y bytes' maxL' ret' [] rm W' (.ref a :: argsL).toArray h Q') (hWW : ∀ a ∈ W', a ∈ W ∨ hs.size ≤ a) (pd : parseMethodDescriptor y.desc = some ⟨ps, rt⟩) (hlen : argsL.length = ps.length) (hsz : Ls.size = maxL) (hst : st = argsL.reverse ++ .ref a :: rest)
    (hd : decode bytes pc = .ok (.invokevirtual index, 3)) (hfr : rm.frames + 1 ≤ R.frames) (hlo : (rest.map fun v => v.category).sum + (maxL' + 11) + rm.locals ≤ R.locals) (hc : cells + rm.cells ≤ R.cells) (hsl : slots + rm.slots ≤ R.slots)
    (f : ∀ T' h' v, own_S Z hs W own bytes maxL ret nm p l e R s m args below meth c T' h' (cells + rm.cells) (slots + rm.slots) → Keep h h' W' → Q' v h' → own_F p e below s Z hs W k n Q (T'.setTop (mkF m (pc + 3) Ls (v.toList ++ rest)))) : own_F p e below s Z hs W k n Q (T.setTop (mkF m pc Ls st)) := by
  have S' := S
  obtain ⟨G, locs, X, N, e0, K⟩ := S
  obtain ⟨cq, qq, qq'⟩ := E.cell
  obtain ⟨ci, ki, i1, i2, i3, i4, -⟩ := Cond.instantiable_spec (mvT (args := args) S'.hZ w3)
  have hsel : (Jvm.Cond.selects y.cls y y).before args s = true := Jvm.Stand.selects_self_of_private i1 i2 (by simp only [Bool.or_eq_false_iff] at i4; exact i4.1) (Cond.privateMethod_at (mvP S'.hZ wp (args := #[]))) (mvT S'.hZ w2) hy
  obtain ⟨v, _, ⟨T', L', k', n'⟩, -, X', ⟨Lc, hQ, h1, h2, h3⟩, st⟩ := X.privateBack S'.hx (y := y) S'.hown (mvT S'.hZ w1) (mvT S'.hZ w2) hsel (Cond.privateMethod_at (mvP S'.hZ wp (args := #[]))) (mvT S'.hZ w5) hy (backOf (W := (rest.map fun v => v.category).sum) (Q := fun v hh L => Fr Z.heap.size L ∧ Keep h hh W' ∧ Q' v hh) C S'.hZ w5 w6 hfr hlo) (g := mkF m pc Ls st) rfl (hsz.trans S'.hml.symm) (Steps.refl _) (a := a) (by rw [e0]; exact qq) qq' (argsL := argsL) (rest := rest) (lenOf pd hlen) hst (by show 2 * 0 + _ ≤ _; omega) (S'.dec hd) (fun _ _ => ⟨rfl, e0, hc, hsl⟩)
  dsimp only [Pt.U, Pt.locs, Pt.cells, Pt.slots] at X' h1 h2 h3 st hQ
  subst h1 h2 h3
  obtain ⟨N', K', q⟩ := hQ
  exact own_F.to st (f T' T'.heap v ⟨G, _, X', Fr.app N N', rfl, K.trans K' hWW⟩ K' q)
theorem own_callU (S : own_S Z hs W own bytes maxL ret nm p l e R s m args below meth c T h cells slots) {Cn owner : String}
    (w1 : (Jvm.Cond.methodLink own index y).before a0 Z = true) (w2 : (Jvm.Cond.sameMethod y.cls owner y.name y.desc).before a0 Z = true) (w7 : (Jvm.Cond.declares ⟨owner, y.name, y.desc⟩).before a0 Z = true) (hy : owner ≠ "java/lang/invoke/MethodHandle" ∧ owner ≠ "java/lang/invoke/VarHandle") (w3 : (Jvm.Cond.selects Cn y y').before a0 Z = true) (w4 : (Jvm.Cond.instanceMethod y').before a0 Z = true) (w5 : (Jvm.Cond.code y' bytes' maxL' ret').before a0 Z = true) (w6 : (Jvm.Cond.initialized y'.cls).before a0 Z = true)
    {a : Addr} (E : Exa Z h a Cn) (C : own_C l Z y' bytes' maxL' ret' [] rm W' (.ref a :: argsL).toArray h Q') (hWW : ∀ a ∈ W', a ∈ W ∨ hs.size ≤ a) (pd : parseMethodDescriptor y.desc = some ⟨ps, rt⟩) (hlen : argsL.length = ps.length) (hsz : Ls.size = maxL) (hst : st = argsL.reverse ++ .ref a :: rest)
    (hd : decode bytes pc = .ok (.invokevirtual index, 3)) (hfr : rm.frames + 1 ≤ R.frames) (hlo : (rest.map fun v => v.category).sum + (maxL' + 11) + rm.locals ≤ R.locals) (hc : cells + rm.cells ≤ R.cells) (hsl : slots + rm.slots ≤ R.slots)
    (f : ∀ T' h' v, own_S Z hs W own bytes maxL ret nm p l e R s m args below meth c T' h' (cells + rm.cells) (slots + rm.slots) → Keep h h' W' → Q' v h' → own_F p e below s Z hs W k n Q (T'.setTop (mkF m (pc + 3) Ls (v.toList ++ rest)))) : own_F p e below s Z hs W k n Q (T.setTop (mkF m pc Ls st)) := by
  have S' := S
  obtain ⟨G, locs, X, N, e0, K⟩ := S
  obtain ⟨cq, kq, qa, qb, qc⟩ := isOf S'.hZ e0 E
  obtain ⟨v, _, ⟨T', L', k', n'⟩, -, X', ⟨Lc, hQ, h1, h2, h3⟩, st⟩ := X.virtualBackUp S'.hx (x := y) (y := y') S'.hown (mvT S'.hZ w1) (mvT S'.hZ w2) (mvT S'.hZ w7) hy (mvT S'.hZ w3) (mvT S'.hZ w4) (backOf (W := (rest.map fun v => v.category).sum) (Q := fun v hh L => Fr Z.heap.size L ∧ Keep h hh W' ∧ Q' v hh) C S'.hZ w5 w6 hfr hlo) qa qc (g := mkF m pc Ls st) rfl (hsz.trans S'.hml.symm) (Steps.refl _) (argsL := argsL) (rest := rest) (lenOf pd hlen) hst (by show 2 * 0 + _ ≤ _; omega) (S'.dec hd) (fun _ _ => ⟨rfl, e0, hc, hsl⟩)
  dsimp only [Pt.U, Pt.locs, Pt.cells, Pt.slots] at X' h1 h2 h3 st hQ
  subst h1 h2 h3
  obtain ⟨N', K', q⟩ := hQ
  exact own_F.to st (f T' T'.heap v ⟨G, _, X', Fr.app N N', rfl, K.trans K' hWW⟩ K' q)
/-! casts and tests of classes -/
theorem own_cast (S : own_S Z hs W own bytes maxL ret nm p l e R s m args below meth c T h cells slots) {Kn : String} {a : Addr} (w : (Jvm.Cond.classLink own index Kn).before a0 Z = true) (F : Ins Z h a Kn true) (hd : decode bytes pc = .ok (.checkcast index, 3))
    (f : ∀ T', own_S Z hs W own bytes maxL ret nm p l e R s m args below meth c T' h cells slots → own_F p e below s Z hs W k n Q (T'.setTop (mkF m (pc + 3) Ls (.ref a :: rest)))) : own_F p e below s Z hs W k n Q (T.setTop (mkF m pc Ls (.ref a :: rest))) := by
  have S' := S
  obtain ⟨G, locs, X, N, e0, K⟩ := S
  obtain ⟨T', X', e', st⟩ := castY X S'.hx S'.hZ S'.hown w e0 F (g := mkF m pc Ls (.ref a :: rest)) rfl rfl (S'.dec hd)
  exact own_F.of st (f T' ⟨G, locs, X', N, e', K⟩)
theorem own_inst (S : own_S Z hs W own bytes maxL ret nm p l e R s m args below meth c T h cells slots) {Kn : String} {a : Addr} (w : (Jvm.Cond.classLink own index Kn).before a0 Z = true) (F : Ins Z h a Kn true) (hd : decode bytes pc = .ok (.instanceof index, 3))
    (f : ∀ T', own_S Z hs W own bytes maxL ret nm p l e R s m args below meth c T' h cells slots → own_F p e below s Z hs W k n Q (T'.setTop (mkF m (pc + 3) Ls (.int (1 : Int32) :: rest)))) : own_F p e below s Z hs W k n Q (T.setTop (mkF m pc Ls (.ref a :: rest))) := by
  have S' := S
  obtain ⟨G, locs, X, N, e0, K⟩ := S
  obtain ⟨T', X', e', st⟩ := instY X S'.hx S'.hZ S'.hown w e0 F (g := mkF m pc Ls (.ref a :: rest)) rfl rfl (S'.dec hd)
  exact own_F.of st (f T' ⟨G, locs, X', N, e', K⟩)

theorem own_instN (S : own_S Z hs W own bytes maxL ret nm p l e R s m args below meth c T h cells slots) {Kn Cn : String} {a : Addr} (w : (Jvm.Cond.classLink own index Kn).before a0 Z = true) (E : Exa Z h a Cn) (F : ∃ c t, Z.vm.findClass Cn = some c ∧ Z.vm.findClass Kn = some t ∧ Z.vm.assignable c t = false) (hd : decode bytes pc = .ok (.instanceof index, 3))
    (f : ∀ T', own_S Z hs W own bytes maxL ret nm p l e R s m args below meth c T' h cells slots → own_F p e below s Z hs W k n Q (T'.setTop (mkF m (pc + 3) Ls (.int (0 : Int32) :: rest)))) : own_F p e below s Z hs W k n Q (T.setTop (mkF m pc Ls (.ref a :: rest))) := by
  have S' := S
  obtain ⟨G, locs, X, N, e0, K⟩ := S
  obtain ⟨T', X', e', st⟩ := instNo X S'.hx S'.hZ S'.hown w e0 E F (g := mkF m pc Ls (.ref a :: rest)) rfl rfl (S'.dec hd)
  exact own_F.of st (f T' ⟨G, locs, X', N, e', K⟩)
theorem own_inst0 (S : own_S Z hs W own bytes maxL ret nm p l e R s m args below meth c T h cells slots) (hd : decode bytes pc = .ok (.instanceof index, 3))
    (f : own_F p e below s Z hs W k n Q (T.setTop (mkF m (pc + 3) Ls (.int (0 : Int32) :: rest)))) : own_F p e below s Z hs W k n Q (T.setTop (mkF m pc Ls (.null :: rest))) := by
  obtain ⟨locs, X, -⟩ := S.2
  exact own_F.of (X.instanceofNull S.hx (g := mkF m pc Ls (.null :: rest)) rfl rfl (S.dec hd)) f
theorem own_cast0 (S : own_S Z hs W own bytes maxL ret nm p l e R s m args below meth c T h cells slots) (hd : decode bytes pc = .ok (.checkcast index, 3))
    (f : own_F p e below s Z hs W k n Q (T.setTop (mkF m (pc + 3) Ls (.null :: rest)))) : own_F p e below s Z hs W k n Q (T.setTop (mkF m pc Ls (.null :: rest))) := by
  obtain ⟨locs, X, -⟩ := S.2
  exact own_F.of (X.checkcastNull S.hx (g := mkF m pc Ls (.null :: rest)) rfl rfl (S.dec hd)) f
theorem own_NSroot {O Kn : String} {i : Nat} (w : (Jvm.Cond.noSuperclass O).before a0 Z = true) (wk : (Jvm.Cond.instantiable Kn i).before a0 Z = true) (hn : O ≠ Kn) : NS Z O Kn := by
  obtain ⟨cO, kO, h1, h2, h3, -⟩ := Cond.noSuperclass_spec w
  obtain ⟨t, kt, g1, -⟩ := Cond.instantiable_spec wk
  refine ⟨cO, t, h1, g1, fun fuel => ?_⟩
  cases fuel with
  | zero => rfl
  | succ f => simp [Vm.isSubclassAux, ids_ne h1 g1 hn, h2, h3]
theorem own_NSno {Cn Sn Kn : String} {i : Nat} (w : (Jvm.Cond.superclass Cn Sn).before a0 Z = true) (wk : (Jvm.Cond.instantiable Kn i).before a0 Z = true) (q : NS Z Cn Kn) (hn : Cn ≠ Kn) : ∃ c t, Z.vm.findClass Cn = some c ∧ Z.vm.findClass Kn = some t ∧ Z.vm.assignable c t = false := by
  obtain ⟨cC, t, h0, g0, n3⟩ := q
  obtain ⟨p, kC, kp, h1, h2, h3, h4, h5, -, h7⟩ := Cond.superclass_spec h0 w
  obtain ⟨t', kt, g1, g2, g3, g4, -⟩ := Cond.instantiable_spec wk
  cases g0.symm.trans g1
  have g5 : kt.isInterface = false := by simp only [Bool.or_eq_false_iff] at g4; exact g4.1
  refine ⟨cC, t, h0, g0, ?_⟩
  show Z.vm.assignableAux (255 + 1) cC t = false
  simp [Vm.assignableAux, ids_ne h0 g0 hn, h2, g2, h5, g3, g5, Vm.isSubclass, n3]

/-! more single steps -/
theorem own_irem (S : own_S Z hs W own bytes maxL ret nm p l e R s m args below meth c T h cells slots) {x y : Int32} {t : State} (hd : decode bytes pc = .ok (.irem, 1)) (hy : y ≠ 0) (k : Steps p.tables e below (T.setTop (mkF m (pc + 1) Ls (.int (x % y) :: rest))) t) : Steps p.tables e below (T.setTop (mkF m pc Ls (.int y :: .int x :: rest))) t := by
  obtain ⟨locs, X, -⟩ := S.2
  exact iremM X S.hx (g := mkF m pc Ls (.int y :: .int x :: rest)) rfl (S.dec hd) rfl hy k
theorem own_lrem (S : own_S Z hs W own bytes maxL ret nm p l e R s m args below meth c T h cells slots) {x y : Int64} {t : State} (hd : decode bytes pc = .ok (.lrem, 1)) (hy : y ≠ 0) (k : Steps p.tables e below (T.setTop (mkF m (pc + 1) Ls (.long (x % y) :: rest))) t) : Steps p.tables e below (T.setTop (mkF m pc Ls (.long y :: .long x :: rest))) t := by
  have q : x - x / y * y = x % y := lrem_mod x y
  exact XS.lrem S.here S.hx (g := mkF m pc Ls (.long y :: .long x :: rest)) rfl (S.dec hd) rfl hy (by rw [q]; exact k)
theorem own_ldcI (S : own_S Z hs W own bytes maxL ret nm p l e R s m args below meth c T h cells slots) {i : Nat} {v : Int32} (w : (Jvm.Cond.constant own i v).before a0 Z = true) (hd : decode bytes pc = .ok (.ldc i, 2)) (f : own_F p e below s Z hs W k n Q (T.setTop (mkF m (pc + 2) Ls (.int v :: st)))) : own_F p e below s Z hs W k n Q (T.setTop (mkF m pc Ls st)) := by
  obtain ⟨locs, X, -⟩ := S.2
  exact own_F.of (X.ldcInt S.hx S.hown (mvT S.hZ w) (g := mkF m pc Ls st) rfl (S.dec hd)) f
theorem own_ldcIw (S : own_S Z hs W own bytes maxL ret nm p l e R s m args below meth c T h cells slots) {i : Nat} {v : Int32} (w : (Jvm.Cond.constant own i v).before a0 Z = true) (hd : decode bytes pc = .ok (.ldc_w i, 3)) (f : own_F p e below s Z hs W k n Q (T.setTop (mkF m (pc + 3) Ls (.int v :: st)))) : own_F p e below s Z hs W k n Q (T.setTop (mkF m pc Ls st)) := by
  obtain ⟨locs, X, -⟩ := S.2
  exact own_F.of (X.ldcwInt S.hx S.hown (mvT S.hZ w) (g := mkF m pc Ls st) rfl (S.dec hd)) f
theorem own_ldcJ (S : own_S Z hs W own bytes maxL ret nm p l e R s m args below meth c T h cells slots) {i : Nat} {v : Int64} (w : (Jvm.Cond.constantLong own i v).before a0 Z = true) (hd : decode bytes pc = .ok (.ldc2_w i, 3)) (f : own_F p e below s Z hs W k n Q (T.setTop (mkF m (pc + 3) Ls (.long v :: st)))) : own_F p e below s Z hs W k n Q (T.setTop (mkF m pc Ls st)) := by
  obtain ⟨locs, X, -⟩ := S.2
  exact own_F.of (X.ldc2Long S.hx S.hown (mvT S.hZ w) (g := mkF m pc Ls st) rfl (S.dec hd)) f
theorem own_ldcD (S : own_S Z hs W own bytes maxL ret nm p l e R s m args below meth c T h cells slots) {i : Nat} {v : UInt64} (w : (Jvm.Cond.constantDouble own i v).before a0 Z = true) (hd : decode bytes pc = .ok (.ldc2_w i, 3)) (f : own_F p e below s Z hs W k n Q (T.setTop (mkF m (pc + 3) Ls (.double v :: st)))) : own_F p e below s Z hs W k n Q (T.setTop (mkF m pc Ls st)) := by
  obtain ⟨locs, X, -⟩ := S.2
  exact own_F.of (X.ldc2DoubleC S.hx S.hown (mvT S.hZ w) (g := mkF m pc Ls st) rfl (S.dec hd)) f
theorem own_tsw (S : own_S Z hs W own bytes maxL ret nm p l e R s m args below meth c T h cells slots) {dflt low high : Int} {offs : Array Int} {len : Nat} {i : Int32} (v o : Int) (pc' : Nat) (hd : decode bytes pc = .ok (.tableswitch dflt low high offs, len)) (hv : i.toInt = v) (hin : ¬ (v < low ∨ v > high)) (hoff : offs[(v - low).toNat]? = some o) (ho : 0 ≤ (pc : Int) + o) (hp : ((pc : Int) + o).toNat = pc')
    (f : own_F p e below s Z hs W k n Q (T.setTop (mkF m pc' Ls rest))) : own_F p e below s Z hs W k n Q (T.setTop (mkF m pc Ls (.int i :: rest))) := by
  subst hv
  exact own_F.of (fun _ => XS.tswIn S.here S.hx (g := mkF m pc Ls (.int i :: rest)) rfl (pc0 := pc) (pc' := pc') rfl (S.dec hd) rfl hin hoff ho hp) f
theorem own_tswO (S : own_S Z hs W own bytes maxL ret nm p l e R s m args below meth c T h cells slots) {dflt low high : Int} {offs : Array Int} {len : Nat} {i : Int32} (v : Int) (pc' : Nat) (hd : decode bytes pc = .ok (.tableswitch dflt low high offs, len)) (hv : i.toInt = v) (hout : v < low ∨ v > high) (ho : 0 ≤ (pc : Int) + dflt) (hp : ((pc : Int) + dflt).toNat = pc')
    (f : own_F p e below s Z hs W k n Q (T.setTop (mkF m pc' Ls rest))) : own_F p e below s Z hs W k n Q (T.setTop (mkF m pc Ls (.int i :: rest))) := by
  subst hv
  exact own_F.of (fun _ => XS.tswOut S.here S.hx (g := mkF m pc Ls (.int i :: rest)) rfl (pc0 := pc) (pc' := pc') rfl (S.dec hd) rfl hout ho hp) f
theorem own_narR {ty : FieldType} {v : Value} (ht : ty.isReference = true) (hv : v.isRef = true) : narrow ty v = v := by cases v <;> simp [Value.isRef] at hv <;> cases ty <;> simp [FieldType.isReference] at ht <;> rfl
theorem own_fitR {ty : FieldType} {v : Value} (ht : ty.isReference = true) (hv : v.isRef = true) : fits ty v = true := by cases v <;> simp [Value.isRef] at hv <;> cases ty <;> simp [FieldType.isReference] at ht <;> rfl

/-! from the case's words to facts of the start -/
theorem own_extRefl (h : Heap) : Ext h h := ⟨Nat.le_refl _, fun _ _ q => q⟩
theorem own_sta {C fn d K : String} (hx : (Jvm.Cond.exactly (.static C fn d) K).value a0 Z none Z [] = some true) (w1 : (Jvm.Cond.initialized C).before a0 Z = true) (w2 : (Jvm.Cond.laysStatic C fn d).before a0 Z = true) :
    ∃ a, (Term.static C fn d).eval a0 Z none [] Z = some (.ref a) ∧ Sta Z Z.heap C fn d (.ref a) ∧ Exa Z Z.heap a K := by
  obtain ⟨a, ev⟩ := exa_v hx
  exact ⟨a, ev, Sta.start ev (Or.inr ⟨w1, w2⟩), Exa.start ev hx⟩
theorem own_fldI {t : Term} {C fn d : String} {a : Addr} {v : Int32} (ev : t.eval a0 Z none [] Z = some (.ref a)) (hx : (Jvm.Cond.eq (.field t C fn d) (.int v)).value a0 Z none Z [] = some true) : Fld Z Z.heap a C fn d (.int v) := by
  obtain ⟨x, y, h1, h2, -⟩ := cmp_v (Or.inl hx)
  have h2' : y = .int v := by simpa [Term.eval] using h2.symm
  subst h2'
  have h3 : x = .int v := by
    simp only [Jvm.Cond.value, h1, h2] at hx
    cases x <;> simp at hx
    rw [hx]
  subst h3
  refine Fld.start ?_
  simpa [Term.eval, ev] using h1
end OwnPrelude
/-! OWN: arrays by their whole contents -/
section OwnArrays
variable {Z : State} {hs : Heap} {W : List Addr} {own : String} {bytes : ByteArray} {maxL : Nat} {ret : Option FieldType} {nm : String}
  {p : Program} {l : Launch} {e : Env} {R : Room} {s : State} {m : MethodId} {args : Array Value} {below : List Frame} {meth : Method} {c : Code}
  {T : State} {h h' : Heap} {cells slots : Nat} {k n : Nat} {Q : Option Value → Heap → Prop} {a0 : Array Value} {pc : Nat} {Ls : Array Slot} {st rest : List Value} {a b : Addr} {ty : FieldType} {vs : List Value} {v : Value} {j x : Int32}

def own_A (Z : State) (h : Heap) (a : Addr) (ty : FieldType) (vs : List Value) : Prop := ∃ cl : Cell, Arr Z h a cl ty ∧ cl.slots.toList = vs ∧ vs.length < 2 ^ 31
theorem own_A.lt (F : own_A Z h a ty vs) : a < h.size := by obtain ⟨_, A, -⟩ := F; exact A.lt
theorem own_A.ext (F : own_A Z h a ty vs) (E : Ext h h') : own_A Z h' a ty vs := by obtain ⟨cl, A, r⟩ := F; exact ⟨cl, A.ext E, r⟩
theorem own_A.other {sl : Nat} {w : Value} (F : own_A Z h b ty vs) (Wt : Wr h h' a sl w) (q : b ≠ a) : own_A Z h' b ty vs := by obtain ⟨cl, A, r⟩ := F; exact ⟨cl, A.other Wt q, r⟩
theorem own_A.keep {ws : List Addr} (F : own_A Z h a ty vs) (K : Keep h h' ws) (q : a ∉ ws) : own_A Z h' a ty vs := by obtain ⟨cl, A, r⟩ := F; exact ⟨cl, ⟨K.2.1 a cl A.1 q, A.2⟩, r⟩
theorem own_A.set {i : Nat} (F : own_A Z h a ty vs) (Wt : Wr h h' a i v) : own_A Z h' a ty (vs.set i v) := by
  obtain ⟨cl, A, r1, r2⟩ := F
  subst r1
  refine ⟨cl.setSlot i v, A.same Wt, ?_, by simpa using r2⟩
  simp [Cell.setSlot]
theorem own_A.inb {cl : Cell} {vs : List Value} (r1 : cl.slots.toList = vs) (h0 : ¬ j < 0) (hv : j.toNatClampNeg < vs.length) : ¬ (j < 0 ∨ cl.slots.size ≤ j.toNatClampNeg) := by
  rintro (q | q)
  · exact h0 q
  · subst r1; simp at hv; omega
theorem own_A.get {cl : Cell} {vs : List Value} {i : Nat} (r1 : cl.slots.toList = vs) (hv : vs[i]? = some v) : cl.slots[i]? = some v := by subst r1; simpa using hv
theorem own_A.ix {i : Nat} (hv : vs[i]? = some v) : i < vs.length := (List.getElem?_eq_some_iff.mp hv).1
theorem own_len (S : own_S Z hs W own bytes maxL ret nm p l e R s m args below meth c T h cells slots) (F : own_A Z h a ty vs) (hd : decode bytes pc = .ok (.arraylength, 1))
    (f : own_F p e below s Z hs W k n Q (T.setTop (mkF m (pc + 1) Ls (.int vs.length.toInt32 :: rest)))) : own_F p e below s Z hs W k n Q (T.setTop (mkF m pc Ls (.ref a :: rest))) := by
  have S' := S
  obtain ⟨G, locs, X, N, e0, K⟩ := S
  obtain ⟨cl, A, r1, r2⟩ := F
  have q : cl.slots.size = vs.length := by rw [← r1]; simp
  rw [← q] at f
  exact own_F.of (fun t => X.arraylength S'.hx (by rw [e0]; exact A.1) (State.isArrayOf_alike S'.hZ.alike A.2.1) (g := mkF m pc Ls (.ref a :: rest)) rfl rfl (S'.dec hd) t) f
theorem own_iald (S : own_S Z hs W own bytes maxL ret nm p l e R s m args below meth c T h cells slots) (F : own_A Z h a .int vs) (h0 : ¬ j < 0) (hv : vs[j.toNatClampNeg]? = some v) (hd : decode bytes pc = .ok (.iaload, 1))
    (f : own_F p e below s Z hs W k n Q (T.setTop (mkF m (pc + 1) Ls (v :: rest)))) : own_F p e below s Z hs W k n Q (T.setTop (mkF m pc Ls (.int j :: .ref a :: rest))) := by
  have S' := S
  obtain ⟨G, locs, X, N, e0, K⟩ := S
  obtain ⟨cl, A, r1, r2⟩ := F
  exact own_F.of (fun t => X.iaload S'.hx (by rw [e0]; exact A.1) (State.isArrayOf_alike S'.hZ.alike A.2.1) A.2.2 (own_A.inb r1 h0 (own_A.ix hv)) (own_A.get r1 hv) (g := mkF m pc Ls (.int j :: .ref a :: rest)) rfl rfl (S'.dec hd) t) f
theorem own_lald (S : own_S Z hs W own bytes maxL ret nm p l e R s m args below meth c T h cells slots) (F : own_A Z h a .long vs) (h0 : ¬ j < 0) (hv : vs[j.toNatClampNeg]? = some v) (hd : decode bytes pc = .ok (.laload, 1))
    (f : own_F p e below s Z hs W k n Q (T.setTop (mkF m (pc + 1) Ls (v :: rest)))) : own_F p e below s Z hs W k n Q (T.setTop (mkF m pc Ls (.int j :: .ref a :: rest))) := by
  have S' := S
  obtain ⟨G, locs, X, N, e0, K⟩ := S
  obtain ⟨cl, A, r1, r2⟩ := F
  exact own_F.of (fun t => X.laload S'.hx (by rw [e0]; exact A.1) (State.isArrayOf_alike S'.hZ.alike A.2.1) A.2.2 (own_A.inb r1 h0 (own_A.ix hv)) (own_A.get r1 hv) (g := mkF m pc Ls (.int j :: .ref a :: rest)) rfl rfl (S'.dec hd) t) f
theorem own_cald (S : own_S Z hs W own bytes maxL ret nm p l e R s m args below meth c T h cells slots) (F : own_A Z h a .char vs) (h0 : ¬ j < 0) (hv : vs[j.toNatClampNeg]? = some v) (hd : decode bytes pc = .ok (.caload, 1))
    (f : own_F p e below s Z hs W k n Q (T.setTop (mkF m (pc + 1) Ls (v :: rest)))) : own_F p e below s Z hs W k n Q (T.setTop (mkF m pc Ls (.int j :: .ref a :: rest))) := by
  have S' := S
  obtain ⟨G, locs, X, N, e0, K⟩ := S
  obtain ⟨cl, A, r1, r2⟩ := F
  exact own_F.of (fun t => X.caload S'.hx (by rw [e0]; exact A.1) (State.isArrayOf_alike S'.hZ.alike A.2.1) A.2.2 (own_A.inb r1 h0 (own_A.ix hv)) (own_A.get r1 hv) (g := mkF m pc Ls (.int j :: .ref a :: rest)) rfl rfl (S'.dec hd) t) f
theorem own_bald (S : own_S Z hs W own bytes maxL ret nm p l e R s m args below meth c T h cells slots) (F : own_A Z h a .byte vs) (h0 : ¬ j < 0) (hv : vs[j.toNatClampNeg]? = some v) (hd : decode bytes pc = .ok (.baload, 1))
    (f : own_F p e below s Z hs W k n Q (T.setTop (mkF m (pc + 1) Ls (v :: rest)))) : own_F p e below s Z hs W k n Q (T.setTop (mkF m pc Ls (.int j :: .ref a :: rest))) := by
  have S' := S
  obtain ⟨G, locs, X, N, e0, K⟩ := S
  obtain ⟨cl, A, r1, r2⟩ := F
  exact own_F.of (fun t => X.baloadBytes S'.hx (by rw [e0]; exact A.1) (State.isArrayOf_alike S'.hZ.alike A.2.1) A.2.2 (own_A.inb r1 h0 (own_A.ix hv)) (own_A.get r1 hv) (g := mkF m pc Ls (.int j :: .ref a :: rest)) rfl rfl (S'.dec hd) t) f
theorem own_zald (S : own_S Z hs W own bytes maxL ret nm p l e R s m args below meth c T h cells slots) (F : own_A Z h a .boolean vs) (h0 : ¬ j < 0) (hv : vs[j.toNatClampNeg]? = some v) (hd : decode bytes pc = .ok (.baload, 1))
    (f : own_F p e below s Z hs W k n Q (T.setTop (mkF m (pc + 1) Ls (v :: rest)))) : own_F p e below s Z hs W k n Q (T.setTop (mkF m pc Ls (.int j :: .ref a :: rest))) := by
  have S' := S
  obtain ⟨G, locs, X, N, e0, K⟩ := S
  obtain ⟨cl, A, r1, r2⟩ := F
  exact own_F.of (fun t => X.baloadBooleans S'.hx (by rw [e0]; exact A.1) (State.isArrayOf_alike S'.hZ.alike A.2.1) A.2.2 (own_A.inb r1 h0 (own_A.ix hv)) (own_A.get r1 hv) (g := mkF m pc Ls (.int j :: .ref a :: rest)) rfl rfl (S'.dec hd) t) f
theorem own_aald (S : own_S Z hs W own bytes maxL ret nm p l e R s m args below meth c T h cells slots) (F : own_A Z h a ty vs) (hty : ty.isReference = true) (h0 : ¬ j < 0) (hv : vs[j.toNatClampNeg]? = some v) (hd : decode bytes pc = .ok (.aaload, 1))
    (f : own_F p e below s Z hs W k n Q (T.setTop (mkF m (pc + 1) Ls (v :: rest)))) : own_F p e below s Z hs W k n Q (T.setTop (mkF m pc Ls (.int j :: .ref a :: rest))) := by
  have S' := S
  obtain ⟨G, locs, X, N, e0, K⟩ := S
  obtain ⟨cl, A, r1, r2⟩ := F
  exact own_F.of (fun t => X.aaload S'.hx (by rw [e0]; exact A.1) (State.isArrayOf_alike S'.hZ.alike A.2.1) hty A.2.2 (own_A.inb r1 h0 (own_A.ix hv)) (own_A.get r1 hv) (g := mkF m pc Ls (.int j :: .ref a :: rest)) rfl rfl (S'.dec hd) t) f
theorem own_ist (S : own_S Z hs W own bytes maxL ret nm p l e R s m args below meth c T h cells slots) (F : own_A Z h a .int vs) (h0 : ¬ j < 0) (hv : j.toNatClampNeg < vs.length) (hd : decode bytes pc = .ok (.iastore, 1)) (ok : a ∈ W ∨ hs.size ≤ a)
    (f : ∀ T' h', own_S Z hs W own bytes maxL ret nm p l e R s m args below meth c T' h' cells slots → Wr h h' a j.toNatClampNeg (.int x) → own_A Z h' a .int (vs.set j.toNatClampNeg (.int x)) → own_F p e below s Z hs W k n Q (T'.setTop (mkF m (pc + 1) Ls rest))) : own_F p e below s Z hs W k n Q (T.setTop (mkF m pc Ls (.int x :: .int j :: .ref a :: rest))) := by
  have S' := S; have F' := F
  obtain ⟨G, locs, X, N, e0, K⟩ := S
  obtain ⟨cl, A, r1, r2⟩ := F
  obtain ⟨T', h', X', e', Wt, stp⟩ := stI X S'.hx S'.hZ e0 A (own_A.inb r1 h0 hv) (g := mkF m pc Ls (.int x :: .int j :: .ref a :: rest)) rfl rfl (S'.dec hd)
  exact own_F.of stp (f T' h' ⟨G, _, X', Fr.snoc X' N (S'.may ok), e', K.wr Wt ok⟩ Wt (F'.set Wt))
theorem own_jst {x : Int64} (S : own_S Z hs W own bytes maxL ret nm p l e R s m args below meth c T h cells slots) (F : own_A Z h a .long vs) (h0 : ¬ j < 0) (hv : j.toNatClampNeg < vs.length) (hd : decode bytes pc = .ok (.lastore, 1)) (ok : a ∈ W ∨ hs.size ≤ a)
    (f : ∀ T' h', own_S Z hs W own bytes maxL ret nm p l e R s m args below meth c T' h' cells slots → Wr h h' a j.toNatClampNeg (.long x) → own_A Z h' a .long (vs.set j.toNatClampNeg (.long x)) → own_F p e below s Z hs W k n Q (T'.setTop (mkF m (pc + 1) Ls rest))) : own_F p e below s Z hs W k n Q (T.setTop (mkF m pc Ls (.long x :: .int j :: .ref a :: rest))) := by
  have S' := S; have F' := F
  obtain ⟨G, locs, X, N, e0, K⟩ := S
  obtain ⟨cl, A, r1, r2⟩ := F
  obtain ⟨T', h', X', e', Wt, stp⟩ := stJ X S'.hx S'.hZ e0 A (own_A.inb r1 h0 hv) (g := mkF m pc Ls (.long x :: .int j :: .ref a :: rest)) rfl rfl (S'.dec hd)
  exact own_F.of stp (f T' h' ⟨G, _, X', Fr.snoc X' N (S'.may ok), e', K.wr Wt ok⟩ Wt (F'.set Wt))
theorem own_cst (S : own_S Z hs W own bytes maxL ret nm p l e R s m args below meth c T h cells slots) (F : own_A Z h a .char vs) (h0 : ¬ j < 0) (hv : j.toNatClampNeg < vs.length) (hd : decode bytes pc = .ok (.castore, 1)) (ok : a ∈ W ∨ hs.size ≤ a)
    (f : ∀ T' h', own_S Z hs W own bytes maxL ret nm p l e R s m args below meth c T' h' cells slots → Wr h h' a j.toNatClampNeg (.int (nar .char x)) → own_A Z h' a .char (vs.set j.toNatClampNeg (.int (nar .char x))) → own_F p e below s Z hs W k n Q (T'.setTop (mkF m (pc + 1) Ls rest))) : own_F p e below s Z hs W k n Q (T.setTop (mkF m pc Ls (.int x :: .int j :: .ref a :: rest))) := by
  have S' := S; have F' := F
  obtain ⟨G, locs, X, N, e0, K⟩ := S
  obtain ⟨cl, A, r1, r2⟩ := F
  obtain ⟨T', h', X', e', Wt, stp⟩ := stC X S'.hx S'.hZ e0 A (own_A.inb r1 h0 hv) (g := mkF m pc Ls (.int x :: .int j :: .ref a :: rest)) rfl rfl (S'.dec hd)
  exact own_F.of stp (f T' h' ⟨G, _, X', Fr.snoc X' N (S'.may ok), e', K.wr Wt ok⟩ Wt (F'.set Wt))
theorem own_bst (S : own_S Z hs W own bytes maxL ret nm p l e R s m args below meth c T h cells slots) (F : own_A Z h a .byte vs) (h0 : ¬ j < 0) (hv : j.toNatClampNeg < vs.length) (hd : decode bytes pc = .ok (.bastore, 1)) (ok : a ∈ W ∨ hs.size ≤ a)
    (f : ∀ T' h', own_S Z hs W own bytes maxL ret nm p l e R s m args below meth c T' h' cells slots → Wr h h' a j.toNatClampNeg (.int (nar .byte x)) → own_A Z h' a .byte (vs.set j.toNatClampNeg (.int (nar .byte x))) → own_F p e below s Z hs W k n Q (T'.setTop (mkF m (pc + 1) Ls rest))) : own_F p e below s Z hs W k n Q (T.setTop (mkF m pc Ls (.int x :: .int j :: .ref a :: rest))) := by
  have S' := S; have F' := F
  obtain ⟨G, locs, X, N, e0, K⟩ := S
  obtain ⟨cl, A, r1, r2⟩ := F
  obtain ⟨T', h', X', e', Wt, stp⟩ := stB X S'.hx S'.hZ e0 A (own_A.inb r1 h0 hv) (g := mkF m pc Ls (.int x :: .int j :: .ref a :: rest)) rfl rfl (S'.dec hd)
  exact own_F.of stp (f T' h' ⟨G, _, X', Fr.snoc X' N (S'.may ok), e', K.wr Wt ok⟩ Wt (F'.set Wt))
theorem own_zst (S : own_S Z hs W own bytes maxL ret nm p l e R s m args below meth c T h cells slots) (F : own_A Z h a .boolean vs) (h0 : ¬ j < 0) (hv : j.toNatClampNeg < vs.length) (hd : decode bytes pc = .ok (.bastore, 1)) (ok : a ∈ W ∨ hs.size ≤ a)
    (f : ∀ T' h', own_S Z hs W own bytes maxL ret nm p l e R s m args below meth c T' h' cells slots → Wr h h' a j.toNatClampNeg (.int (nar .boolean x)) → own_A Z h' a .boolean (vs.set j.toNatClampNeg (.int (nar .boolean x))) → own_F p e below s Z hs W k n Q (T'.setTop (mkF m (pc + 1) Ls rest))) : own_F p e below s Z hs W k n Q (T.setTop (mkF m pc Ls (.int x :: .int j :: .ref a :: rest))) := by
  have S' := S; have F' := F
  obtain ⟨G, locs, X, N, e0, K⟩ := S
  obtain ⟨cl, A, r1, r2⟩ := F
  obtain ⟨T', h', X', e', Wt, stp⟩ := stZ X S'.hx S'.hZ e0 A (own_A.inb r1 h0 hv) (g := mkF m pc Ls (.int x :: .int j :: .ref a :: rest)) rfl rfl (S'.dec hd)
  exact own_F.of stp (f T' h' ⟨G, _, X', Fr.snoc X' N (S'.may ok), e', K.wr Wt ok⟩ Wt (F'.set Wt))
theorem own_newP (S : own_S Z hs W own bytes maxL ret nm p l e R s m args below meth c T h cells slots) {aty : ArrayType} {z : Int32} (w : (Jvm.Cond.arrayClass (newarray.typeOf aty)).before a0 Z = true) (hd : decode bytes pc = .ok (.newarray aty, 2)) (hz : ¬ z < 0) {cap : Nat} (hcap : z.toNatClampNeg ≤ cap) (hb : cap * 8 ≤ 536870912) (hc : cells + 1 ≤ R.cells) (hl : slots + cap ≤ R.slots)
    (f : ∀ T' h' a, a = h.size → own_S Z hs W own bytes maxL ret nm p l e R s m args below meth c T' h' (cells + 1) (slots + cap) → Ext h h' → own_A Z h' a (newarray.typeOf aty) (List.replicate z.toNatClampNeg (defaultValue (newarray.typeOf aty))) → own_F p e below s Z hs W k n Q (T'.setTop (mkF m (pc + 2) Ls (.ref a :: rest)))) : own_F p e below s Z hs W k n Q (T.setTop (mkF m pc Ls (.int z :: rest))) := by
  have S' := S
  obtain ⟨G, locs, X, N, e0, K⟩ := S
  obtain ⟨T', h', cA, X', e', E, A, stp⟩ := newP X S'.hx S'.hZ w e0 (g := mkF m pc Ls (.int z :: rest)) rfl (S'.dec hd) rfl hz hcap hb hc hl
  refine own_F.of stp (f T' h' _ rfl ⟨G, _, X', N, e', K.ext E⟩ E ⟨_, A, by simp [newA], ?_⟩)
  have := (back32 hz).2
  simpa using this
/-- an array that stands at the start -/
theorem own_A.start {t : Term} {z : Int32} (ev : t.eval a0 Z none [] Z = some (.ref a)) (hx : (Jvm.Cond.arrayOf t ty).value a0 Z none Z [] = some true) (hl : (Jvm.Cond.eq (.length t) (.int z)).value a0 Z none Z [] = some true) : ∃ cl : Cell, Arr Z Z.heap a cl ty ∧ cl.slots.size < 2 ^ 31 ∧ cl.slots.size.toInt32 = z ∧ Z.arrayAt? a = some cl := by
  obtain ⟨cl, A⟩ := Arr.start ev hx
  have q := A.fin (Vm.Alike.refl _)
  refine ⟨cl, A, ?_, ?_, q⟩
  all_goals
    obtain ⟨u, w, h1, h2, -⟩ := cmp_v (Or.inl hl)
    have h1' : (if cl.slots.size < 2 ^ 31 then some (Value.int cl.slots.size.toInt32) else none) = some u := by simpa [Term.eval, ev, q] using h1
    by_cases g : cl.slots.size < 2 ^ 31
    · first
        | exact g
        | (have e1 : u = .int cl.slots.size.toInt32 := by simpa [g] using h1'.symm
           have e2 : w = .int z := by simpa [Term.eval] using h2.symm
           subst e1 e2
           exact gotT (Cond.eq_ints h1 h2) hl)
    · simp [g] at h1'
end OwnArrays

theorem own_w {a0 : Array Value} {Z : State} (hw : ∀ d ∈ tables_1, d.before a0 Z = true) {d : Jvm.Cond} (i : Nat) (q : tables_1[i]? = some d) : d.before a0 Z = true := hw _ (List.mem_of_getElem? q)

theorem own_mayN {Z : State} {hs : Heap} {W : List Addr} {own : String} {bytes : ByteArray} {maxL : Nat} {ret : Option FieldType} {nm : String} {p : Program} {l : Launch} {e : Env} {R : Room} {s : State} {m : MethodId} {args : Array Value} {below : List Frame} {meth : Method} {c : Code} {T : State} {h : Heap} {cells slots : Nat}
    (S : own_S Z hs W own bytes maxL ret nm p l e R s m args below meth c T h cells slots) {a : Addr} (q : a ∈ W ∨ hs.size ≤ a) : Z.heap.size ≤ a := S.may q

theorem own_neA {Z : State} {h : Heap} {a b : Addr} {C : String} {k : Nat} {a0 : Array Value} {ty : FieldType} {vs : List Value} (E : Exa Z h a C) (wi : (Jvm.Cond.instantiable C k).before a0 Z = true) (A : own_A Z h b ty vs) : a ≠ b := by
  obtain ⟨cl, Ar, -⟩ := A
  exact ne_arr E wi Ar

/-! OWN: distances on four nodes, over Int; from own_FI on a value is no finite one -/
def own_FI : Int := 4611686018427387904
/-- d is the length of a simple way from i to j -/
def own_PT (W : Nat → Nat → Int) (i j : Nat) (d : Int) : Prop :=
  (W i j < own_FI ∧ d = W i j) ∨
  (∃ k, k < 4 ∧ k ≠ i ∧ k ≠ j ∧ W i k < own_FI ∧ W k j < own_FI ∧ d = W i k + W k j) ∨
  (∃ k l, k < 4 ∧ l < 4 ∧ k ≠ i ∧ k ≠ j ∧ l ≠ i ∧ l ≠ j ∧ k ≠ l ∧ W i k < own_FI ∧ W k l < own_FI ∧ W l j < own_FI ∧ d = W i k + W k l + W l j)
/-- D holds the distances of W -/
def own_IV (w : Int) (W D : Nat → Nat → Int) : Prop :=
  (∀ i, i < 4 → D i i = 0) ∧
  (∀ i k j, i < 4 → k < 4 → j < 4 → D i k < own_FI → D k j < own_FI → D i j ≤ D i k + D k j) ∧
  (∀ i j, i < 4 → j < 4 → i ≠ j → W i j < own_FI → D i j ≤ W i j) ∧
  (∀ i j, i < 4 → j < 4 → i ≠ j → D i j < own_FI → own_PT W i j (D i j)) ∧
  ((∀ i j, i < 4 → j < 4 → i ≠ j → W i j < own_FI → -w ≤ W i j ∧ W i j ≤ w) ∧ 0 ≤ w ∧ w ≤ 324259173170675712)
section OwnIV
variable {W W' D D' : Nat → Nat → Int} {i j k f t : Nat} {w x d : Int}
theorem own_IV.bnd (I : own_IV w W D) (hi : i < 4) (hj : j < 4) (h : D i j < own_FI) : -(3 * w) ≤ D i j ∧ D i j ≤ 3 * w := by
  obtain ⟨a, -, -, p, b, w0, w1⟩ := I
  by_cases q : i = j
  · subst q; rw [a i hi]; omega
  · rcases p i j hi hj q h with ⟨h1, h2⟩ | ⟨k, hk, n1, n2, h1, h2, h3⟩ | ⟨k, l, hk, hl, n1, n2, n3, n4, n5, h1, h2, h3, h4⟩
    · have := b i j hi hj q h1; omega
    · have := b i k hi hk (Ne.symm n1) h1; have := b k j hk hj n2 h2; omega
    · have := b i k hi hk (Ne.symm n1) h1; have := b k l hk hl n5 h2; have := b l j hl hj n4 h3; omega
theorem own_IV.edge (I : own_IV w W D) (hi : i < 4) (hj : j < 4) (q : i ≠ j) (h : W i j < own_FI) : D i j < own_FI ∧ D i j ≤ W i j := by
  have h1 := I.2.2.1 i j hi hj q h
  exact ⟨by omega, h1⟩
theorem own_IV.tri (I : own_IV w W D) (hi : i < 4) (hk : k < 4) (hj : j < 4) (h1 : D i k < own_FI) (h2 : D k j < own_FI) : D i j < own_FI ∧ D i j ≤ D i k + D k j := by
  have a := I.2.1 i k j hi hk hj h1 h2
  have b1 := I.bnd hi hk h1
  have b2 := I.bnd hk hj h2
  have w1 := I.2.2.2.2.2.2
  unfold own_FI at *
  exact ⟨by omega, a⟩
/-- a way stays one where the weights on it stay -/
theorem own_PT.mono (I : own_IV w W D) (hi : i < 4) (hj : j < 4) (hq : i ≠ j) (P : own_PT W i j d)
    (h : ∀ a b, a < 4 → b < 4 → a ≠ b → W a b < own_FI → D i a < own_FI → D b j < own_FI → D i a + W a b + D b j ≤ d → W' a b = W a b) : own_PT W' i j d := by
  have zi := I.1 i hi
  have zj := I.1 j hj
  have fi : D i i < own_FI := by rw [zi]; decide
  have fj : D j j < own_FI := by rw [zj]; decide
  rcases P with ⟨h1, h2⟩ | ⟨k, hk, n1, n2, h1, h2, h3⟩ | ⟨k, l, hk, hl, n1, n2, n3, n4, n5, h1, h2, h3, h4⟩
  · have e := h i j hi hj hq h1 fi fj (by omega)
    exact Or.inl ⟨by rw [e]; exact h1, by rw [e]; exact h2⟩
  · have a1 := I.edge hi hk (Ne.symm n1) h1
    have a2 := I.edge hk hj n2 h2
    have e1 := h i k hi hk (Ne.symm n1) h1 fi a2.1 (by omega)
    have e2 := h k j hk hj n2 h2 a1.1 fj (by omega)
    exact Or.inr (Or.inl ⟨k, hk, n1, n2, by rw [e1]; exact h1, by rw [e2]; exact h2, by rw [e1, e2]; exact h3⟩)
  · have a1 := I.edge hi hk (Ne.symm n1) h1
    have a2 := I.edge hk hl n5 h2
    have a3 := I.edge hl hj n4 h3
    have b1 := I.tri hi hk hl a1.1 a2.1
    have b2 := I.tri hk hl hj a2.1 a3.1
    have e1 := h i k hi hk (Ne.symm n1) h1 fi b2.1 (by omega)
    have e2 := h k l hk hl n5 h2 a1.1 a3.1 (by omega)
    have e3 := h l j hl hj n4 h3 b1.1 fj (by omega)
    exact Or.inr (Or.inr ⟨k, l, hk, hl, n1, n2, n3, n4, n5, by rw [e1]; exact h1, by rw [e2]; exact h2, by rw [e3]; exact h3, by rw [e1, e2, e3]; exact h4⟩)
/-- the new edge is no shorter than the distance -/
theorem own_IV.same (I : own_IV w W D) (hf : f < 4) (ht : t < 4) (hx : -w ≤ x ∧ x ≤ w)
    (hw : ∀ a b, a < 4 → b < 4 → a ≠ b → W' a b = W a b ∨ (a = f ∧ b = t ∧ W' a b = x ∧ D f t ≤ x ∧ x < W f t)) : own_IV w W' D := by
  have I' := I
  obtain ⟨a, b, c, p, bw, w0, w1⟩ := I
  refine ⟨a, b, fun i j hi hj q h => ?_, fun i j hi hj q h => ?_, fun i j hi hj q h => ?_, w0, w1⟩
  · rcases hw i j hi hj q with e | ⟨rfl, rfl, e, h1, h2⟩
    · rw [e] at h ⊢; exact c i j hi hj q h
    · omega
  · refine own_PT.mono I' hi hj q (p i j hi hj q h) fun u v hu hv uv h1 h2 h3 h4 => ?_
    rcases hw u v hu hv uv with e | ⟨rfl, rfl, e, g1, g2⟩
    · exact e
    · exfalso
      have fd : D u v < own_FI := by unfold own_FI; omega
      have t1 := I'.tri hi hu hv h2 fd
      have t2 := I'.tri hi hv hj t1.1 h3
      omega
  · rcases hw i j hi hj q with e | ⟨rfl, rfl, e, h1, h2⟩
    · rw [e] at h ⊢; exact bw i j hi hj q h
    · rw [e]; exact hx
/-- no node lies on both halves of a shorter way -/
theorem own_IV.apart (I : own_IV w W D) (hi : i < 4) (hj : j < 4) (hf : f < 4) (ht : t < 4) {v : Nat} (hv : v < 4) (pos : D t f < own_FI → 0 ≤ x + D t f) (lt : D i f + x + D t j < D i j)
    (o1 : D i v < own_FI ∧ D v f < own_FI ∧ D i v + D v f ≤ D i f) (o2 : D t v < own_FI ∧ D v j < own_FI ∧ D t v + D v j ≤ D t j) : False := by
  have t1 := I.tri hi hv hj o1.1 o2.2.1
  have t2 := I.tri ht hv hf o2.1 o1.2.1
  have := pos t2.1
  omega
/-- who lies on a way -/
theorem own_IV.on (I : own_IV w W D) (hi : i < 4) (hj : j < 4) (h : D i j < own_FI) :
    (D i i < own_FI ∧ D i j < own_FI ∧ D i i + D i j ≤ D i j) ∧ (D i j < own_FI ∧ D j j < own_FI ∧ D i j + D j j ≤ D i j) := by
  have zi := I.1 i hi
  have zj := I.1 j hj
  exact ⟨⟨by rw [zi]; decide, h, by omega⟩, h, by rw [zj]; decide, by omega⟩
set_option maxHeartbeats 4000000 in
theorem own_IV.more (I : own_IV w W D) (hf : f < 4) (ht : t < 4) (ft : f ≠ t) (hx : -w ≤ x ∧ x ≤ w) (pos : D t f < own_FI → 0 ≤ x + D t f) (hlt : x < D f t)
    (hw : ∀ a b, a < 4 → b < 4 → a ≠ b → ¬ (a = f ∧ b = t) → W' a b = W a b) (hwx : W' f t = x)
    (r1 : ∀ i j, i < 4 → j < 4 → D' i j = D i j ∨ (D i f < own_FI ∧ D t j < own_FI ∧ D' i j = D i f + x + D t j ∧ D' i j < D i j))
    (r2 : ∀ i j, i < 4 → j < 4 → D i f < own_FI → D t j < own_FI → D' i j ≤ D i f + x + D t j) : own_IV w W' D' := by
  have I' := I
  obtain ⟨a, b, c, p, bw, w0, w1⟩ := I
  have le : ∀ i j, i < 4 → j < 4 → D' i j ≤ D i j := fun i j hi hj => by rcases r1 i j hi hj with e | ⟨-, -, -, e⟩ <;> omega
  have zf := a f hf
  have zt := a t ht
  have ff : D f f < own_FI := by rw [zf]; decide
  have ftt : D t t < own_FI := by rw [zt]; decide
  have xF : x < own_FI := by unfold own_FI; omega
  refine ⟨fun i hi => ?_, fun i k j hi hk hj h1 h2 => ?_, fun i j hi hj q h => ?_, fun i j hi hj q h => ?_, fun i j hi hj q h => ?_, w0, w1⟩
  · rcases r1 i i hi hi with e | ⟨g1, g2, g3, g4⟩
    · rw [e]; exact a i hi
    · have := I'.tri ht hi hf g2 g1; have := pos this.1; have := a i hi; omega
  · rcases r1 i k hi hk with e | ⟨g1, g2, g3, g4⟩ <;> rcases r1 k j hk hj with e' | ⟨g1', g2', g3', g4'⟩
    · rw [e] at h1 ⊢; rw [e'] at h2 ⊢
      have := I'.tri hi hk hj h1 h2; have := le i j hi hj; omega
    · rw [e] at h1
      have t1 := I'.tri hi hk hf h1 g1'
      have := r2 i j hi hj t1.1 g2'; omega
    · rw [e'] at h2
      have t1 := I'.tri ht hk hj g2 h2
      have := r2 i j hi hj g1 t1.1; omega
    · have t1 := I'.tri ht hk hf g2 g1'
      have := pos t1.1
      have := r2 i j hi hj g1 g2'; omega
  · by_cases e : i = f ∧ j = t
    · obtain ⟨rfl, rfl⟩ := e
      have := r2 i j hi hj ff ftt; omega
    · have e' := hw i j hi hj q e
      rw [e'] at h ⊢
      have := c i j hi hj q h; have := le i j hi hj; omega
  · rcases r1 i j hi hj with e | ⟨g1, g2, g3, g4⟩
    · rw [e] at h ⊢
      refine own_PT.mono I' hi hj q (p i j hi hj q h) fun u v hu hv uv h1 h2 h3 h4 => ?_
      by_cases e2 : u = f ∧ v = t
      · obtain ⟨rfl, rfl⟩ := e2
        exfalso
        have := r2 i j hi hj h2 h3
        have := c u v hu hv uv h1
        omega
      · exact hw u v hu hv uv e2
    · rw [g3] at h g4 ⊢
      have ap : ∀ v, v < 4 → (D i v < own_FI ∧ D v f < own_FI ∧ D i v + D v f ≤ D i f) → (D t v < own_FI ∧ D v j < own_FI ∧ D t v + D v j ≤ D t j) → False := fun v hv => I'.apart hi hj hf ht hv pos g4
      have on1 := I'.on hi hf g1
      have on2 := I'.on ht hj g2
      have nit : i ≠ t := fun z => by subst z; exact ap i hi on1.1 on2.1
      have njf : j ≠ f := fun z => by subst z; exact ap j hj on1.2 on2.2
      have mid2 : ∀ k, k < 4 → k ≠ t → k ≠ j → W t k < own_FI → W k j < own_FI → W t k + W k j ≤ D t j → (D t k < own_FI ∧ D k j < own_FI ∧ D t k + D k j ≤ D t j) := fun k hk n1 n2 h1 h2 h3 => by
        have e1 := I'.edge ht hk (Ne.symm n1) h1; have e2 := I'.edge hk hj n2 h2; exact ⟨e1.1, e2.1, by omega⟩
      by_cases ei : i = f
      · subst ei
        by_cases ej : j = t
        · subst ej
          left; rw [hwx]; exact ⟨xF, by omega⟩
        · rcases p t j ht hj (Ne.symm ej) g2 with ⟨h1, h2⟩ | ⟨k, hk, n1, n2, h1, h2, h3⟩ | ⟨k, l, hk, hl, n1, n2, n3, n4, n5, h1, h2, h3, h4⟩
          · right; left
            have w1 := hw t j ht hj (Ne.symm ej) (fun z => ft z.1.symm)
            exact ⟨t, ht, Ne.symm nit, Ne.symm ej, by rw [hwx]; exact xF, by rw [w1]; exact h1, by rw [hwx, w1]; omega⟩
          · have e1 := I'.edge ht hk (Ne.symm n1) h1
            have e2 := I'.edge hk hj n2 h2
            have ki : k ≠ i := fun z => by subst z; exact ap k hk on1.1 ⟨e1.1, e2.1, by omega⟩
            right; right
            have w1 := hw t k ht hk (Ne.symm n1) (fun z => ft z.1.symm)
            have w2 := hw k j hk hj n2 (fun z => ki z.1)
            exact ⟨t, k, ht, hk, Ne.symm nit, Ne.symm ej, ki, n2, Ne.symm n1, by rw [hwx]; exact xF, by rw [w1]; exact h1, by rw [w2]; exact h2, by rw [hwx, w1, w2]; omega⟩
          · exfalso
            have e1 := I'.edge ht hk (Ne.symm n1) h1
            have e2 := I'.edge hk hl n5 h2
            have e3 := I'.edge hl hj n4 h3
            have t1 := I'.tri ht hk hl e1.1 e2.1
            have t2 := I'.tri hk hl hj e2.1 e3.1
            have : i = k ∨ i = l := by omega
            rcases this with z | z
            · subst z; exact ap i hi on1.1 ⟨e1.1, t2.1, by omega⟩
            · subst z; exact ap i hi on1.1 ⟨t1.1, e3.1, by omega⟩
      · rcases p i f hi hf ei g1 with ⟨h1, h2⟩ | ⟨k, hk, n1, n2, h1, h2, h3⟩ | ⟨k, l, hk, hl, n1, n2, n3, n4, n5, h1, h2, h3, h4⟩
        · have w1 := hw i f hi hf ei (fun z => ei z.1)
          by_cases ej : j = t
          · subst ej
            right; left
            exact ⟨f, hf, Ne.symm ei, ft, by rw [w1]; exact h1, by rw [hwx]; exact xF, by rw [hwx, w1]; omega⟩
          · rcases p t j ht hj (Ne.symm ej) g2 with ⟨h1', h2'⟩ | ⟨k, hk, n1, n2, h1', h2', h3'⟩ | ⟨k, l, hk, hl, n1, n2, n3, n4, n5, h1', h2', h3', h4'⟩
            · right; right
              have w2 := hw t j ht hj (Ne.symm ej) (fun z => ft z.1.symm)
              exact ⟨f, t, hf, ht, Ne.symm ei, Ne.symm njf, Ne.symm nit, Ne.symm ej, ft, by rw [w1]; exact h1, by rw [hwx]; exact xF, by rw [w2]; exact h1', by rw [hwx, w1, w2]; omega⟩
            · exfalso
              have e1 := I'.edge ht hk (Ne.symm n1) h1'
              have e2 := I'.edge hk hj n2 h2'
              have : k = i ∨ k = f := by omega
              rcases this with z | z
              · subst z; exact ap k hk on1.1 ⟨e1.1, e2.1, by omega⟩
              · subst z; exact ap k hk on1.2 ⟨e1.1, e2.1, by omega⟩
            · exfalso
              have e1 := I'.edge ht hk (Ne.symm n1) h1'
              have e2 := I'.edge hk hl n5 h2'
              have e3 := I'.edge hl hj n4 h3'
              have t1 := I'.tri ht hk hl e1.1 e2.1
              have t2 := I'.tri hk hl hj e2.1 e3.1
              have : i = k ∨ i = l := by omega
              rcases this with z | z
              · subst z; exact ap i hi on1.1 ⟨e1.1, t2.1, by omega⟩
              · subst z; exact ap i hi on1.1 ⟨t1.1, e3.1, by omega⟩
        · have e1 := I'.edge hi hk (Ne.symm n1) h1
          have e2 := I'.edge hk hf n2 h2
          have onk : D i k < own_FI ∧ D k f < own_FI ∧ D i k + D k f ≤ D i f := ⟨e1.1, e2.1, by omega⟩
          have w1 := hw i k hi hk (Ne.symm n1) (fun z => ei z.1)
          have w2 := hw k f hk hf n2 (fun z => n2 z.1)
          by_cases ej : j = t
          · subst ej
            have kj : k ≠ j := fun z => by subst z; exact ap k hk onk on2.1
            right; right
            exact ⟨k, f, hk, hf, n1, kj, Ne.symm ei, ft, n2, by rw [w1]; exact h1, by rw [w2]; exact h2, by rw [hwx]; exact xF, by rw [hwx, w1, w2]; omega⟩
          · exfalso
            have : k = t ∨ k = j := by omega
            rcases this with z | z
            · subst z; exact ap k hk onk on2.1
            · subst z; exact ap k hk onk on2.2
        · exfalso
          have e1 := I'.edge hi hk (Ne.symm n1) h1
          have e2 := I'.edge hk hl n5 h2
          have e3 := I'.edge hl hf n4 h3
          have t1 := I'.tri hi hk hl e1.1 e2.1
          have t2 := I'.tri hk hl hf e2.1 e3.1
          have : t = k ∨ t = l := by omega
          rcases this with z | z
          · subst z; exact ap t ht ⟨e1.1, t2.1, by omega⟩ on2.1
          · subst z; exact ap t ht ⟨t1.1, e3.1, by omega⟩ on2.1
  · by_cases e : i = f ∧ j = t
    · obtain ⟨rfl, rfl⟩ := e
      rw [hwx]; exact hx
    · rw [hw i j hi hj q e] at h ⊢; exact bw i j hi hj q h
theorem own_IV.up {w' : Int} (I : own_IV w W D) (h : w ≤ w') (h' : w' ≤ 324259173170675712) : own_IV w' W D := by
  obtain ⟨a, b, c, p, bw, w0, w1⟩ := I
  exact ⟨a, b, c, p, fun i j hi hj q h => by have := bw i j hi hj q h; omega, by omega, h'⟩
end OwnIV
/-! OWN: what the code computes, over Int64; 9223372036854775807 stands for 'none' -/
def own_I (D : Nat → Nat → Int64) : Nat → Nat → Int := fun i j => (D i j).toInt
def own_OK (D : Nat → Nat → Int64) : Prop := ∀ i j, i < 4 → j < 4 → D i j = (9223372036854775807 : Int64) ∨ (D i j).toInt < own_FI
def own_sm (a b : Int64) : Int64 := if a = (9223372036854775807 : Int64) ∨ b = (9223372036854775807 : Int64) then (9223372036854775807 : Int64) else a + b
def own_mn (x y : Int64) : Int64 := if 0 < lcmpW x y then y else x
def own_k (i j : Nat) : Nat := if i ≠ 0 ∧ j ≠ 0 then 0 else if i ≠ 1 ∧ j ≠ 1 then 1 else 2
def own_d5 (W : Nat → Nat → Int64) (i j k l : Nat) : Int64 := own_mn (own_mn (own_mn (own_mn (W i j) (own_sm (W i k) (W k j))) (own_sm (W i l) (W l j))) (own_sm (own_sm (W i k) (W k l)) (W l j))) (own_sm (own_sm (W i l) (W l k)) (W k j))
def own_dst (W : Nat → Nat → Int64) (i j : Nat) : Int64 := if i = j then 0 else own_d5 W i j (own_k i j) (6 - i - j - own_k i j)
def own_cl (W : Nat → Nat → Int64) (f t : Nat) (m : Int64) : Int64 := if own_dst W t f ≠ (9223372036854775807 : Int64) ∧ m < -own_dst W t f then -own_dst W t f else m
def own_s2 (D : Nat → Nat → Int64) (i j : Nat) (v : Int64) : Nat → Nat → Int64 := fun a b => if a = i ∧ b = j then v else D a b
def own_edge (W : Nat → Nat → Int64) (f t : Nat) (x : Int64) : Nat → Nat → Int64 := if x < W f t then own_s2 W f t x else W
def own_inn (t i : Nat) (z : Int64) : List Nat → (Nat → Nat → Int64) → Nat → Nat → Int64
  | [], D => D
  | j :: js, D => own_inn t i z js (if z + D t j < D i j then own_s2 D i j (z + D t j) else D)
def own_out (f t : Nat) (x : Int64) (T : List Nat) : List Nat → (Nat → Nat → Int64) → Nat → Nat → Int64
  | [], D => D
  | i :: is, D => own_out f t x T is (own_inn t i (D i f + x) T D)
def own_isS (D : Nat → Nat → Int64) (f t : Nat) (x : Int64) (i : Nat) : Bool := decide (¬ D i f = (9223372036854775807 : Int64) ∧ D i f + x < D i t)
def own_isT (D : Nat → Nat → Int64) (f t : Nat) (x : Int64) (j : Nat) : Bool := decide (¬ D t j = (9223372036854775807 : Int64) ∧ x + D t j < D f j)
def own_Sl (D : Nat → Nat → Int64) (f t : Nat) (x : Int64) (n : Nat) : List Nat := (List.range n).filter (own_isS D f t x)
def own_Tl (D : Nat → Nat → Int64) (f t : Nat) (x : Int64) (n : Nat) : List Nat := (List.range n).filter (own_isT D f t x)
def own_add (D : Nat → Nat → Int64) (f t : Nat) (x : Int64) : Nat → Nat → Int64 := if x < D f t then own_out f t x (own_Tl D f t x 4) (own_Sl D f t x 4) D else D
theorem own_mn_le (x y : Int64) : (own_mn x y).toInt ≤ x.toInt ∧ (own_mn x y).toInt ≤ y.toInt ∧ (own_mn x y = x ∨ own_mn x y = y) := by
  unfold own_mn
  split
  · next q => rw [lw_gt, Int64.lt_iff_toInt_lt] at q; exact ⟨by omega, by omega, Or.inr rfl⟩
  · next q => rw [lw_gt, Int64.lt_iff_toInt_lt] at q; exact ⟨by omega, by omega, Or.inl rfl⟩
theorem own_min5 {a b c d e y : Int64} (h1 : y.toInt ≤ a.toInt) (h2 : y.toInt ≤ b.toInt) (h3 : y.toInt ≤ c.toInt) (h4 : y.toInt ≤ d.toInt) (h5 : y.toInt ≤ e.toInt) (h : y.toInt = 9223372036854775807 ∨ y.toInt = a.toInt ∨ y.toInt = b.toInt ∨ y.toInt = c.toInt ∨ y.toInt = d.toInt ∨ y.toInt = e.toInt) : own_mn (own_mn (own_mn (own_mn a b) c) d) e = y := by
  have m1 := own_mn_le a b
  generalize own_mn a b = y1 at *
  have g1 : y.toInt ≤ y1.toInt := by rcases m1.2.2 with q | q <;> rw [q] <;> assumption
  have m2 := own_mn_le y1 c
  generalize own_mn y1 c = y2 at *
  have g2 : y.toInt ≤ y2.toInt := by rcases m2.2.2 with q | q <;> rw [q] <;> assumption
  have m3 := own_mn_le y2 d
  generalize own_mn y2 d = y3 at *
  have g3 : y.toInt ≤ y3.toInt := by rcases m3.2.2 with q | q <;> rw [q] <;> assumption
  have m4 := own_mn_le y3 e
  generalize own_mn y3 e = y4 at *
  have g4 : y.toInt ≤ y4.toInt := by rcases m4.2.2 with q | q <;> rw [q] <;> assumption
  have r := rng64 y4
  have a1 := m1.1; have a2 := m1.2.1; have b1 := m2.1; have b2 := m2.2.1; have c1 := m3.1; have c2 := m3.2.1; have d1 := m4.1; have d2 := m4.2.1
  clear m1 m2 m3 m4
  apply Int64.toInt_inj.mp
  rcases h with h | h | h | h | h | h <;> omega
theorem own_mx : (9223372036854775807 : Int64).toInt = 9223372036854775807 := rfl
theorem own_fin {a : Int64} (h : a = (9223372036854775807 : Int64) ∨ a.toInt < own_FI) : (a.toInt < own_FI ↔ a ≠ (9223372036854775807 : Int64)) := by
  constructor
  · intro q z; rw [z, own_mx] at q; revert q; decide
  · intro q; exact h.resolve_left q
theorem own_sum2 {a b : Int64} (ha : -2305843009213693952 ≤ a.toInt ∧ a.toInt ≤ 2305843009213693952) (hb : -2305843009213693952 ≤ b.toInt ∧ b.toInt ≤ 2305843009213693952) : (a + b).toInt = a.toInt + b.toInt := by
  have := c_ladd a b; have := rng64 (a + b); omega
/-- a sum of two: none, or both are finite -/
theorem own_sm_spec {a b : Int64} (ha : a = (9223372036854775807 : Int64) ∨ (-1152921504606846976 ≤ a.toInt ∧ a.toInt ≤ 1152921504606846976)) (hb : b = (9223372036854775807 : Int64) ∨ (-1152921504606846976 ≤ b.toInt ∧ b.toInt ≤ 1152921504606846976)) :
    (own_sm a b = (9223372036854775807 : Int64) ∧ (a = (9223372036854775807 : Int64) ∨ b = (9223372036854775807 : Int64))) ∨ (a ≠ (9223372036854775807 : Int64) ∧ b ≠ (9223372036854775807 : Int64) ∧ (own_sm a b).toInt = a.toInt + b.toInt) := by
  unfold own_sm
  by_cases q : a = (9223372036854775807 : Int64) ∨ b = (9223372036854775807 : Int64)
  · rw [if_pos q]; exact Or.inl ⟨rfl, q⟩
  · rw [if_neg q]
    have qa : a ≠ (9223372036854775807 : Int64) := fun z => q (Or.inl z)
    have qb : b ≠ (9223372036854775807 : Int64) := fun z => q (Or.inr z)
    have ha := ha.resolve_left qa
    have hb := hb.resolve_left qb
    exact Or.inr ⟨qa, qb, own_sum2 (by omega) (by omega)⟩
theorem own_kl {i j : Nat} (hi : i < 4) (hj : j < 4) (h : i ≠ j) : own_k i j < 4 ∧ 6 - i - j - own_k i j < 4 ∧ own_k i j ≠ i ∧ own_k i j ≠ j ∧ 6 - i - j - own_k i j ≠ i ∧ 6 - i - j - own_k i j ≠ j ∧ own_k i j ≠ 6 - i - j - own_k i j := by
  unfold own_k
  split
  · omega
  · split <;> omega
section OwnTB
variable {W D : Nat → Nat → Int64} {i j k l f t : Nat} {w : Int} {x m : Int64}
set_option maxHeartbeats 4000000 in
theorem own_dst_eq (I : own_IV w (own_I W) (own_I D)) (oW : own_OK W) (oD : own_OK D) (hi : i < 4) (hj : j < 4) : own_dst W i j = D i j := by
  unfold own_dst
  by_cases q : i = j
  · subst q; rw [if_pos rfl]
    have := I.1 i hi
    exact (Int64.toInt_inj.mp (by rw [show (D i i).toInt = 0 from this]; rfl)).symm
  rw [if_neg q]
  obtain ⟨hk, hl, n1, n2, n3, n4, n5⟩ := own_kl hi hj q
  generalize own_k i j = k at *
  generalize 6 - i - j - k = l at *
  have w1 := I.2.2.2.2.2.2
  have w0 := I.2.2.2.2.2.1
  have WW : ∀ a b, a < 4 → b < 4 → a ≠ b → W a b = (9223372036854775807 : Int64) ∨ ((W a b).toInt < own_FI ∧ -w ≤ (W a b).toInt ∧ (W a b).toInt ≤ w) := fun a b ha hb ab => by
    rcases oW a b ha hb with e | e
    · exact Or.inl e
    · exact Or.inr ⟨e, I.2.2.2.2.1 a b ha hb ab e⟩
  have b1 : ∀ a b, a < 4 → b < 4 → a ≠ b → W a b = (9223372036854775807 : Int64) ∨ (-1152921504606846976 ≤ (W a b).toInt ∧ (W a b).toInt ≤ 1152921504606846976) := fun a b ha hb ab => by
    rcases WW a b ha hb ab with e | ⟨-, e⟩
    · exact Or.inl e
    · exact Or.inr (by omega)
  have fW : ∀ a b, a < 4 → b < 4 → (W a b).toInt < own_FI → W a b ≠ (9223372036854775807 : Int64) := fun a b ha hb => (own_fin (oW a b ha hb)).mp
  have fW' : ∀ a b, a < 4 → b < 4 → W a b ≠ (9223372036854775807 : Int64) → (W a b).toInt < own_FI := fun a b ha hb => (own_fin (oW a b ha hb)).mpr
  have top : (D i j).toInt ≤ 9223372036854775807 := by have := rng64 (D i j); omega
  -- two edges
  have two : ∀ u, u < 4 → u ≠ i → u ≠ j → (D i j).toInt ≤ (own_sm (W i u) (W u j)).toInt ∧ ((W i u).toInt < own_FI → (W u j).toInt < own_FI → (own_sm (W i u) (W u j)).toInt = (W i u).toInt + (W u j).toInt) := fun u hu ui uj => by
    rcases own_sm_spec (b1 i u hi hu (Ne.symm ui)) (b1 u j hu hj uj) with ⟨e, z⟩ | ⟨e1, e2, e3⟩
    · refine ⟨by rw [e, own_mx]; exact top, fun g1 g2 => ?_⟩
      rcases z with z | z
      · exact absurd z (fW i u hi hu g1)
      · exact absurd z (fW u j hu hj g2)
    · refine ⟨?_, fun _ _ => e3⟩
      have a1 := I.edge hi hu (Ne.symm ui) (fW' i u hi hu e1)
      have a2 := I.edge hu hj uj (fW' u j hu hj e2)
      have a3 := I.tri hi hu hj a1.1 a2.1
      have c1 : (D i u).toInt ≤ (W i u).toInt := a1.2
      have c2 : (D u j).toInt ≤ (W u j).toInt := a2.2
      have c3 : (D i j).toInt ≤ (D i u).toInt + (D u j).toInt := a3.2
      omega
  have three : ∀ u v, u < 4 → v < 4 → u ≠ i → u ≠ j → v ≠ i → v ≠ j → u ≠ v → (D i j).toInt ≤ (own_sm (own_sm (W i u) (W u v)) (W v j)).toInt ∧ ((W i u).toInt < own_FI → (W u v).toInt < own_FI → (W v j).toInt < own_FI → (own_sm (own_sm (W i u) (W u v)) (W v j)).toInt = (W i u).toInt + (W u v).toInt + (W v j).toInt) := fun u v hu hv ui uj vi vj uv => by
    have B := b1 v j hv hj vj
    rcases own_sm_spec (b1 i u hi hu (Ne.symm ui)) (b1 u v hu hv uv) with ⟨e, z⟩ | ⟨e1, e2, e3⟩
    · rcases own_sm_spec (a := own_sm (W i u) (W u v)) (Or.inl e) B with ⟨e', -⟩ | ⟨e', -⟩
      · refine ⟨by rw [e', own_mx]; exact top, fun g1 g2 g3 => ?_⟩
        rcases z with z | z
        · exact absurd z (fW i u hi hu g1)
        · exact absurd z (fW u v hu hv g2)
      · exact absurd e e'
    · have g1 := (WW i u hi hu (Ne.symm ui)).resolve_left e1
      have g2 := (WW u v hu hv uv).resolve_left e2
      rcases own_sm_spec (a := own_sm (W i u) (W u v)) (Or.inr (by omega)) B with ⟨e', z⟩ | ⟨e4, e5, e6⟩
      · refine ⟨by rw [e', own_mx]; exact top, fun _ _ g3 => ?_⟩
        rcases z with z | z
        · rw [z, own_mx] at e3; exfalso; omega
        · exact absurd z (fW v j hv hj g3)
      · refine ⟨?_, fun _ _ _ => by omega⟩
        have a1 := I.edge hi hu (Ne.symm ui) (fW' i u hi hu e1)
        have a2 := I.edge hu hv uv (fW' u v hu hv e2)
        have a3 := I.edge hv hj vj (fW' v j hv hj e5)
        have a4 := I.tri hi hu hv a1.1 a2.1
        have a5 := I.tri hi hv hj a4.1 a3.1
        have c1 : (D i u).toInt ≤ (W i u).toInt := a1.2
        have c2 : (D u v).toInt ≤ (W u v).toInt := a2.2
        have c3 : (D v j).toInt ≤ (W v j).toInt := a3.2
        have c4 : (D i v).toInt ≤ (D i u).toInt + (D u v).toInt := a4.2
        have c5 : (D i j).toInt ≤ (D i v).toInt + (D v j).toInt := a5.2
        omega
  have one : (D i j).toInt ≤ (W i j).toInt := by
    rcases oW i j hi hj with e | e
    · rw [e, own_mx]; exact top
    · exact (I.edge hi hj q e).2
  have k2 := two k hk n1 n2
  have l2 := two l hl n3 n4
  have k3 := three k l hk hl n1 n2 n3 n4 n5
  have l3 := three l k hl hk n3 n4 n1 n2 (Ne.symm n5)
  unfold own_d5
  refine own_min5 one k2.1 l2.1 k3.1 l3.1 ?_
  rcases oD i j hi hj with e | e
  · exact Or.inl (by rw [e]; rfl)
  · right
    rcases I.2.2.2.1 i j hi hj q e with ⟨h1, h2⟩ | ⟨u, hu, u1, u2, h1, h2, h3⟩ | ⟨u, v, hu, hv, u1, u2, u3, u4, u5, h1, h2, h3, h4⟩
    · exact Or.inl h2
    · have : u = k ∨ u = l := by clear two three k2 l2 k3 l3 b1 WW fW fW'; omega
      rcases this with z | z
      · subst z; exact Or.inr (Or.inl (Eq.trans h3 (k2.2 h1 h2).symm))
      · subst z; exact Or.inr (Or.inr (Or.inl (Eq.trans h3 (l2.2 h1 h2).symm)))
    · have : (u = k ∧ v = l) ∨ (u = l ∧ v = k) := by clear two three k2 l2 k3 l3 b1 WW fW fW'; omega
      rcases this with ⟨z, z'⟩ | ⟨z, z'⟩
      · subst z z'; exact Or.inr (Or.inr (Or.inr (Or.inl (Eq.trans h4 (k3.2 h1 h2 h3).symm))))
      · subst z z'; exact Or.inr (Or.inr (Or.inr (Or.inr (Eq.trans h4 (l3.2 h1 h2 h3).symm))))
theorem own_inn_eq {t i : Nat} {z : Int64} (ht : i ≠ t) : ∀ (js : List Nat) (D : Nat → Nat → Int64), js.Nodup → ∀ a b, own_inn t i z js D a b = if a = i ∧ b ∈ js then (if z + D t b < D i b then z + D t b else D i b) else D a b := by
  intro js
  induction js with
  | nil => intro D _ a b; simp [own_inn]
  | cons j js ih =>
    intro D nd a b
    obtain ⟨nj, nd⟩ := List.nodup_cons.mp nd
    show own_inn t i z js (if z + D t j < D i j then own_s2 D i j (z + D t j) else D) a b = _
    rw [ih _ nd]
    have e1 : ∀ c, (if z + D t j < D i j then own_s2 D i j (z + D t j) else D) t c = D t c := fun c => by
      split
      · unfold own_s2; rw [if_neg (fun q => ht q.1.symm)]
      · rfl
    have e2 : ∀ c, c ≠ j → (if z + D t j < D i j then own_s2 D i j (z + D t j) else D) i c = D i c := fun c hc => by
      split
      · unfold own_s2; rw [if_neg (fun q => hc q.2)]
      · rfl
    have e3 : ∀ a c, a ≠ i → (if z + D t j < D i j then own_s2 D i j (z + D t j) else D) a c = D a c := fun a c hc => by
      split
      · unfold own_s2; rw [if_neg (fun q => hc q.1)]
      · rfl
    have e4 : (if z + D t j < D i j then own_s2 D i j (z + D t j) else D) i j = if z + D t j < D i j then z + D t j else D i j := by
      split
      · unfold own_s2; rw [if_pos ⟨rfl, rfl⟩]
      · rfl
    generalize (if z + D t j < D i j then own_s2 D i j (z + D t j) else D) = D1 at *
    by_cases ha : a = i
    · subst ha
      by_cases hb : b ∈ js
      · have hbj : b ≠ j := fun q => nj (q ▸ hb)
        rw [if_pos (c := a = a ∧ b ∈ js) ⟨rfl, hb⟩, if_pos (c := a = a ∧ b ∈ j :: js) ⟨rfl, List.mem_cons_of_mem _ hb⟩, e1, e2 b hbj]
      · rw [if_neg (c := a = a ∧ b ∈ js) (fun q => hb q.2)]
        by_cases hbj : b = j
        · subst hbj; rw [if_pos (c := a = a ∧ b ∈ b :: js) ⟨rfl, List.mem_cons_self⟩, e4]
        · rw [if_neg (c := a = a ∧ b ∈ j :: js) (fun q => (List.mem_cons.mp q.2).elim hbj hb), e2 b hbj]
    · rw [if_neg (c := a = i ∧ b ∈ js) (fun q => ha q.1), if_neg (c := a = i ∧ b ∈ j :: js) (fun q => ha q.1), e3 a b ha]
theorem own_out_eq {f t : Nat} {x : Int64} {T : List Nat} (nT : T.Nodup) : ∀ (is : List Nat) (D : Nat → Nat → Int64), is.Nodup → t ∉ is → ∀ a b, own_out f t x T is D a b = if a ∈ is ∧ b ∈ T then (if D a f + x + D t b < D a b then D a f + x + D t b else D a b) else D a b := by
  intro is
  induction is with
  | nil => intro D _ _ a b; simp [own_out]
  | cons i is ih =>
    intro D nd nt a b
    obtain ⟨ni, nd⟩ := List.nodup_cons.mp nd
    have it : i ≠ t := fun q => nt (q ▸ List.mem_cons_self)
    have nt' : t ∉ is := fun q => nt (List.mem_cons_of_mem _ q)
    show own_out f t x T is (own_inn t i (D i f + x) T D) a b = _
    rw [ih _ nd nt']
    have e := own_inn_eq (z := D i f + x) it T D nT
    have e1 : ∀ c, own_inn t i (D i f + x) T D t c = D t c := fun c => by rw [e, if_neg (fun q => it q.1.symm)]
    by_cases ha : a = i
    · subst ha
      rw [if_neg (c := a ∈ is ∧ b ∈ T) (fun q => ni q.1), e]
      by_cases hb : b ∈ T
      · rw [if_pos (c := a = a ∧ b ∈ T) ⟨rfl, hb⟩, if_pos (c := a ∈ a :: is ∧ b ∈ T) ⟨List.mem_cons_self, hb⟩]
      · rw [if_neg (c := a = a ∧ b ∈ T) (fun q => hb q.2), if_neg (c := a ∈ a :: is ∧ b ∈ T) (fun q => hb q.2)]
    · have e2 : ∀ c, own_inn t i (D i f + x) T D a c = D a c := fun c => by rw [e, if_neg (fun q => ha q.1)]
      rw [e1, e2, e2]
      by_cases hm : a ∈ is ∧ b ∈ T
      · rw [if_pos (c := a ∈ is ∧ b ∈ T) hm, if_pos (c := a ∈ i :: is ∧ b ∈ T) ⟨List.mem_cons_of_mem _ hm.1, hm.2⟩]
      · rw [if_neg (c := a ∈ is ∧ b ∈ T) hm, if_neg (c := a ∈ i :: is ∧ b ∈ T) (fun q => hm ⟨(List.mem_cons.mp q.1).resolve_left ha, q.2⟩)]
theorem own_Sl_mem {n : Nat} : i ∈ own_Sl D f t x n ↔ i < n ∧ ¬ D i f = (9223372036854775807 : Int64) ∧ D i f + x < D i t := by simp [own_Sl, own_isS]
theorem own_Tl_mem {n : Nat} : j ∈ own_Tl D f t x n ↔ j < n ∧ ¬ D t j = (9223372036854775807 : Int64) ∧ x + D t j < D f j := by simp [own_Tl, own_isT]
set_option maxHeartbeats 4000000 in
/-- one bound more: the table stays the table of distances -/
theorem own_step4 (I : own_IV w (own_I W) (own_I D)) (oW : own_OK W) (oD : own_OK D) (hf : f < 4) (ht : t < 4) {w' : Int} (h1 : 36028797018963968 ≤ w') (h2 : 3 * w ≤ w') (h3 : w ≤ w') (h4 : w' ≤ 324259173170675712) (hm : -36028797018963968 ≤ m.toInt ∧ m.toInt ≤ 36028797018963968) (hx : x = own_cl W f t m) :
    (D t f = (9223372036854775807 : Int64) ∨ ¬ x + D t f < 0) ∧ own_IV w' (own_I (own_edge W f t x)) (own_I (own_add D f t x)) ∧ own_OK (own_edge W f t x) ∧ own_OK (own_add D f t x) := by
  have dt := own_dst_eq I oW oD ht hf
  have e0 : (0 : Int64).toInt = 0 := rfl
  have fD : ∀ a b, a < 4 → b < 4 → D a b ≠ (9223372036854775807 : Int64) → (D a b).toInt < own_FI := fun a b ha hb => (own_fin (oD a b ha hb)).mpr
  have fD' : ∀ a b, a < 4 → b < 4 → (D a b).toInt < own_FI → D a b ≠ (9223372036854775807 : Int64) := fun a b ha hb => (own_fin (oD a b ha hb)).mp
  have bD : ∀ a b, a < 4 → b < 4 → (D a b).toInt < own_FI → -(3 * w) ≤ (D a b).toInt ∧ (D a b).toInt ≤ 3 * w := fun a b ha hb h => I.bnd ha hb h
  -- the bound added
  have X : (-w' ≤ x.toInt ∧ x.toInt ≤ w') ∧ (D t f = (9223372036854775807 : Int64) ∨ (0 ≤ x.toInt + (D t f).toInt ∧ (D t f).toInt < own_FI)) := by
    unfold own_cl at hx
    rw [dt] at hx
    split at hx
    · next q =>
      have fd := fD t f ht hf q.1
      have b := bD t f ht hf fd
      have n := c_lneg (D t f)
      have r := rng64 (-(D t f))
      rw [← hx] at n r
      exact ⟨by omega, Or.inr ⟨by omega, fd⟩⟩
    · next q =>
      subst hx
      refine ⟨by omega, ?_⟩
      by_cases z : D t f = (9223372036854775807 : Int64)
      · exact Or.inl z
      · have fd := fD t f ht hf z
        have b := bD t f ht hf fd
        have n := c_lneg (D t f)
        have r := rng64 (-(D t f))
        have q' : ¬ x < -(D t f) := fun g => q ⟨z, g⟩
        rw [Int64.lt_iff_toInt_lt] at q'
        exact Or.inr ⟨by omega, fd⟩
  obtain ⟨bx, px⟩ := X
  have I' := I.up h3 h4
  have w0 := I.2.2.2.2.2.1
  have w1 := I.2.2.2.2.2.2
  have pos : (own_I D) t f < own_FI → 0 ≤ x.toInt + (own_I D) t f := fun h => by
    rcases px with z | z
    · exact absurd z (fD' t f ht hf h)
    · exact z.1
  have sm : ∀ a b, a < 4 → b < 4 → (D a b).toInt < own_FI → (D a b + x).toInt = (D a b).toInt + x.toInt ∧ (x + D a b).toInt = x.toInt + (D a b).toInt := fun a b ha hb h => by
    have b := bD a b ha hb h
    exact ⟨own_sum2 (by omega) (by omega), own_sum2 (by omega) (by omega)⟩
  have sm3 : ∀ a b, a < 4 → b < 4 → (D a f).toInt < own_FI → (D t b).toInt < own_FI → (D a f + x + D t b).toInt = (D a f).toInt + x.toInt + (D t b).toInt := fun a b ha hb h h' => by
    have e := (sm a f ha hf h).1
    have b1 := bD a f ha hf h
    have b2 := bD t b ht hb h'
    rw [own_sum2 (by omega) (by omega), e]
  refine ⟨?_, ?_⟩
  · rcases px with z | z
    · exact Or.inl z
    · right; rw [Int64.lt_iff_toInt_lt, (sm t f ht hf z.2).2]; omega
  have oE : own_OK (own_edge W f t x) := fun a b ha hb => by
    unfold own_edge
    split
    · unfold own_s2
      split
      · right; unfold own_FI; omega
      · exact oW a b ha hb
    · exact oW a b ha hb
  by_cases hlt : x < D f t
  · have ft : f ≠ t := fun z => by
      subst z
      have d0 : (D f f).toInt = 0 := I.1 f hf
      have fd : (D f f).toInt < own_FI := by rw [d0]; decide
      have := pos fd
      have : 0 ≤ x.toInt + (D f f).toInt := this
      rw [Int64.lt_iff_toInt_lt] at hlt; omega
    have hlt' : x.toInt < (D f t).toInt := by rw [Int64.lt_iff_toInt_lt] at hlt; exact hlt
    have tS : t ∉ own_Sl D f t x 4 := fun q => by
      obtain ⟨-, q1, q2⟩ := own_Sl_mem.mp q
      have fd := fD t f ht hf q1
      have := pos fd
      have : 0 ≤ x.toInt + (D t f).toInt := this
      have d0 : (D t t).toInt = 0 := I.1 t ht
      rw [Int64.lt_iff_toInt_lt, (sm t f ht hf fd).1] at q2
      omega
    have ev : ∀ a b, own_add D f t x a b = if a ∈ own_Sl D f t x 4 ∧ b ∈ own_Tl D f t x 4 then (if D a f + x + D t b < D a b then D a f + x + D t b else D a b) else D a b := fun a b => by
      unfold own_add
      rw [if_pos hlt]
      exact own_out_eq (List.nodup_range.filter _) _ D (List.nodup_range.filter _) tS a b
    have r1 : ∀ a b, a < 4 → b < 4 → own_I (own_add D f t x) a b = own_I D a b ∨ (own_I D a f < own_FI ∧ own_I D t b < own_FI ∧ own_I (own_add D f t x) a b = own_I D a f + x.toInt + own_I D t b ∧ own_I (own_add D f t x) a b < own_I D a b) := fun a b ha hb => by
      show (own_add D f t x a b).toInt = (D a b).toInt ∨ ((D a f).toInt < own_FI ∧ (D t b).toInt < own_FI ∧ (own_add D f t x a b).toInt = (D a f).toInt + x.toInt + (D t b).toInt ∧ (own_add D f t x a b).toInt < (D a b).toInt)
      rw [ev]
      split
      · next q =>
        have f1 := fD a f ha hf (own_Sl_mem.mp q.1).2.1
        have f2 := fD t b ht hb (own_Tl_mem.mp q.2).2.1
        split
        · next z => rw [Int64.lt_iff_toInt_lt] at z; exact Or.inr ⟨f1, f2, sm3 a b ha hb f1 f2, z⟩
        · exact Or.inl rfl
      · exact Or.inl rfl
    have r2 : ∀ a b, a < 4 → b < 4 → own_I D a f < own_FI → own_I D t b < own_FI → own_I (own_add D f t x) a b ≤ own_I D a f + x.toInt + own_I D t b := fun a b ha hb f1 f2 => by
      show (own_add D f t x a b).toInt ≤ (D a f).toInt + x.toInt + (D t b).toInt
      have f1' : (D a f).toInt < own_FI := f1
      have f2' : (D t b).toInt < own_FI := f2
      have s3 := sm3 a b ha hb f1 f2
      have b1 := bD a f ha hf f1
      have b2 := bD t b ht hb f2
      rw [ev]
      split
      · split
        · omega
        · next z => rw [Int64.lt_iff_toInt_lt] at z; omega
      · next q =>
        by_cases qa : a ∈ own_Sl D f t x 4
        · have qb : b ∉ own_Tl D f t x 4 := fun z => q ⟨qa, z⟩
          have nb : ¬ x + D t b < D f b := fun z => qb (own_Tl_mem.mpr ⟨hb, fD' t b ht hb f2, z⟩)
          rw [Int64.lt_iff_toInt_lt, (sm t b ht hb f2).2] at nb
          have f3 : (D f b).toInt < own_FI := by unfold own_FI; omega
          have c : (D a b).toInt ≤ (D a f).toInt + (D f b).toInt := (I.tri ha hf hb f1 f3).2
          omega
        · have na : ¬ D a f + x < D a t := fun z => qa (own_Sl_mem.mpr ⟨ha, fD' a f ha hf f1, z⟩)
          rw [Int64.lt_iff_toInt_lt, (sm a f ha hf f1).1] at na
          have f3 : (D a t).toInt < own_FI := by unfold own_FI; omega
          have c : (D a b).toInt ≤ (D a t).toInt + (D t b).toInt := (I.tri ha ht hb f3 f2).2
          omega
    have hW : x < W f t := by
      rw [Int64.lt_iff_toInt_lt]
      rcases oW f t hf ht with e | e
      · rw [e, own_mx]; omega
      · have : (D f t).toInt ≤ (W f t).toInt := (I.edge hf ht ft e).2
        omega
    have ew : own_edge W f t x = own_s2 W f t x := by unfold own_edge; rw [if_pos hW]
    refine ⟨?_, oE, fun a b ha hb => ?_⟩
    · refine I'.more hf ht ft bx pos hlt' (fun a b _ _ _ q => ?_) ?_ r1 r2
      · show (own_edge W f t x a b).toInt = (W a b).toInt
        rw [ew]; unfold own_s2; rw [if_neg q]
      · show (own_edge W f t x f t).toInt = x.toInt
        rw [ew]; unfold own_s2; rw [if_pos ⟨rfl, rfl⟩]
    · rcases r1 a b ha hb with e | ⟨f1, f2, e, -⟩
      · have e : (own_add D f t x a b).toInt = (D a b).toInt := e
        rw [Int64.toInt_inj.mp e]; exact oD a b ha hb
      · right
        have e : (own_add D f t x a b).toInt = (D a f).toInt + x.toInt + (D t b).toInt := e
        have b1 := bD a f ha hf f1
        have b2 := bD t b ht hb f2
        rw [e]; unfold own_FI; omega
  · have ea : own_add D f t x = D := by unfold own_add; rw [if_neg hlt]
    rw [ea]
    refine ⟨I'.same hf ht bx fun a b ha hb ab => ?_, oE, oD⟩
    have hlt' : (D f t).toInt ≤ x.toInt := by rw [Int64.lt_iff_toInt_lt] at hlt; omega
    show (own_edge W f t x a b).toInt = (W a b).toInt ∨ (a = f ∧ b = t ∧ (own_edge W f t x a b).toInt = x.toInt ∧ (D f t).toInt ≤ x.toInt ∧ x.toInt < (W f t).toInt)
    unfold own_edge
    split
    · next q =>
      unfold own_s2
      split
      · next z => rw [Int64.lt_iff_toInt_lt] at q; exact Or.inr ⟨z.1, z.2, rfl, hlt', q⟩
      · exact Or.inl rfl
    · exact Or.inl rfl
end OwnTB
def own_W0 : Nat → Nat → Int64 := fun _ _ => (9223372036854775807 : Int64)
def own_D0 : Nat → Nat → Int64 := fun i j => if i = j then 0 else (9223372036854775807 : Int64)
theorem own_start : own_IV 0 (own_I own_W0) (own_I own_D0) ∧ own_OK own_W0 ∧ own_OK own_D0 := by
  have big : ¬ (own_I own_W0 0 0 < own_FI) := by decide
  have nW : ∀ i j, ¬ own_I own_W0 i j < own_FI := fun i j => big
  have dd : ∀ i, own_I own_D0 i i = 0 := fun i => by show (own_D0 i i).toInt = 0; unfold own_D0; rw [if_pos rfl]; rfl
  have dn : ∀ i j, i ≠ j → ¬ own_I own_D0 i j < own_FI := fun i j q => by show ¬ (own_D0 i j).toInt < own_FI; unfold own_D0; rw [if_neg q]; decide
  refine ⟨⟨fun i _ => dd i, fun i k j _ _ _ h1 h2 => ?_, fun i j _ _ _ h => absurd h (nW i j), fun i j _ _ q h => absurd h (dn i j q), ⟨fun i j _ _ _ h => absurd h (nW i j), by decide, by decide⟩⟩, fun _ _ _ _ => Or.inl rfl, fun i j _ _ => ?_⟩
  · by_cases q1 : i = k
    · subst q1
      by_cases q2 : i = j
      · subst q2; rw [dd]; decide
      · exact absurd h2 (dn i j q2)
    · exact absurd h1 (dn i k q1)
  · unfold own_D0
    split
    · right; decide
    · exact Or.inl rfl

/-! OWN: the bounds' object, its table (rows Rw 0 .. Rw 3) and the law's own weights aW -/
def own_news (Z : State) (h : Heap) : List Addr := (List.range (h.size - Z.heap.size)).map (· + Z.heap.size)
theorem own_news_le {Z : State} {h : Heap} : ∀ a ∈ own_news Z h, Z.heap.size ≤ a := fun a ha => by
  obtain ⟨i, -, rfl⟩ := List.mem_map.mp ha
  exact Nat.le_add_left _ _
theorem own_news_may {Z : State} {h : Heap} {a : Addr} (q : Z.heap.size ≤ a) : a ∈ own_news Z h ∨ h.size ≤ a := by
  rcases Nat.lt_or_ge a h.size with r | r
  · exact Or.inl (List.mem_map.mpr ⟨a - Z.heap.size, List.mem_range.mpr (by omega), Nat.sub_add_cancel q⟩)
  · exact Or.inr r
theorem own_news_sub {Z : State} {h h' : Heap} : ∀ a ∈ own_news Z h', a ∈ own_news Z h ∨ h.size ≤ a := fun a ha => own_news_may (own_news_le a ha)
/-- two arrays of different kinds are two -/
theorem own_A.neT {Z : State} {h : Heap} {a b : Addr} {vs : List Value} {t t' : FieldType} {us : List Value} (F : own_A Z h a t vs) (G : own_A Z h b t' us) (q : t ≠ t') : a ≠ b := by
  rintro rfl
  obtain ⟨cl, A, -⟩ := F; obtain ⟨cl', A', -⟩ := G
  cases A.1.symm.trans A'.1
  obtain ⟨-, ⟨-, k1, e1, c1, e2⟩, -⟩ := A; obtain ⟨-, ⟨-, k2, e3, c2, e4⟩, -⟩ := A'
  cases e1.symm.trans e3
  rw [e2] at e4; cases e4; exact q rfl
def own_row (D : Nat → Nat → Int64) (i : Nat) : List Value := (List.range 4).map fun j => .long (D i j)
def own_w16 (W : Nat → Nat → Int64) : List Value := (List.range 16).map fun n => .long (W (n / 4) (n % 4))
theorem own_row_at {D : Nat → Nat → Int64} {i j : Nat} (hj : j < 4) : (own_row D i)[j]? = some (.long (D i j)) := by simp [own_row, hj]
theorem own_row_len {D : Nat → Nat → Int64} {i : Nat} : (own_row D i).length = 4 := by simp [own_row]
theorem own_w16_at {W : Nat → Nat → Int64} {i j : Nat} (hi : i < 4) (hj : j < 4) : (own_w16 W)[i * 4 + j]? = some (.long (W i j)) := by
  have e1 : (i * 4 + j) / 4 = i := by omega
  have e2 : (i * 4 + j) % 4 = j := by omega
  have h : i * 4 + j < 16 := by omega
  simp only [own_w16, List.getElem?_map, List.getElem?_range h, Option.map_some, e1, e2]
theorem own_w16_len {W : Nat → Nat → Int64} : (own_w16 W).length = 16 := by simp [own_w16]
theorem own_row_set {D : Nat → Nat → Int64} {i j : Nat} {v : Int64} (hj : j < 4) : (own_row D i).set j (.long v) = own_row (own_s2 D i j v) i := by
  apply List.ext_getElem?
  intro n
  rw [List.getElem?_set]
  by_cases hn : n < 4
  · rw [own_row_at hn]
    split
    · next q => subst q; rw [own_row_len, if_pos hn, own_row_at hn]; unfold own_s2; rw [if_pos ⟨rfl, rfl⟩]
    · next q => rw [own_row_at hn]; unfold own_s2; rw [if_neg (fun z => q z.2.symm)]
  · have n1 : (own_row (own_s2 D i j v) i)[n]? = none := List.getElem?_eq_none (by rw [own_row_len]; omega)
    have n2 : (own_row D i)[n]? = none := List.getElem?_eq_none (by rw [own_row_len]; omega)
    rw [n1, n2]; split
    · rw [own_row_len, if_neg (by omega)]
    · rfl
theorem own_row_oth {D : Nat → Nat → Int64} {i j k : Nat} {v : Int64} (h : k ≠ i) : own_row (own_s2 D i j v) k = own_row D k := by
  unfold own_row own_s2
  apply List.map_congr_left
  intro n _
  rw [if_neg (fun z => h z.1)]
theorem own_w16_set {W : Nat → Nat → Int64} {i j : Nat} {v : Int64} (hi : i < 4) (hj : j < 4) : (own_w16 W).set (i * 4 + j) (.long v) = own_w16 (own_s2 W i j v) := by
  apply List.ext_getElem?
  intro n
  rw [List.getElem?_set]
  by_cases hn : n < 16
  · have e : n = n / 4 * 4 + n % 4 := by omega
    have h1 : n / 4 < 4 := by omega
    have h2 : n % 4 < 4 := by omega
    have r := own_w16_at (W := own_s2 W i j v) h1 h2
    have r' := own_w16_at (W := W) h1 h2
    rw [← e] at r r'
    rw [r, r', own_w16_len]
    unfold own_s2
    split
    · next q => rw [if_pos (by omega), if_pos ⟨by omega, by omega⟩]
    · next q => rw [if_neg (by omega)]
  · have n1 : (own_w16 (own_s2 W i j v))[n]? = none := List.getElem?_eq_none (by rw [own_w16_len]; omega)
    have n2 : (own_w16 W)[n]? = none := List.getElem?_eq_none (by rw [own_w16_len]; omega)
    rw [n1, n2]; split
    · rw [own_w16_len, if_neg (by omega)]
    · rfl
theorem own_n4 {n : Nat} (h : n < 100) : n.toInt32.toNatClampNeg = n ∧ ¬ n.toInt32 < 0 ∧ n.toInt32.toInt = n := by
  have e : n.toInt32.toInt = n := by
    show (Int32.ofNat n).toInt = n
    exact Int32.toInt_ofNat_of_lt (by omega)
  refine ⟨by simpa using Int32.toNatClampNeg_ofNat_of_lt (n := n) (by omega), ?_, e⟩
  rw [Int32.lt_iff_toInt_lt, e]
  have e0 : (0 : Int32).toInt = 0 := rfl
  omega
theorem own_back {x : Int32} {n : Nat} (h : n < 100) (e : x.toInt = n) : x = n.toInt32 := Int32.toInt_inj.mp (by rw [e, (own_n4 h).2.2])
theorem own_suc {n : Nat} (h : n < 90) : n.toInt32 + 1 = (n + 1).toInt32 := by
  have a := (own_n4 (n := n) (by omega)).2.2
  have c := c_iadd n.toInt32 1
  have r := rng32 (n.toInt32 + 1)
  have e1 : (1 : Int32).toInt = 1 := rfl
  exact own_back (by omega) (by omega)
theorem own_ix {i j : Nat} (hi : i < 4) (hj : j < 4) : i.toInt32 * 4 + j.toInt32 = (i * 4 + j).toInt32 := by
  have a := (own_n4 (n := i) (by omega)).2.2
  have b := (own_n4 (n := j) (by omega)).2.2
  have c1 := c_imul i.toInt32 4
  have r1 := rng32 (i.toInt32 * 4)
  have e4 : (4 : Int32).toInt = 4 := rfl
  rw [a, e4] at c1
  have c2 := c_iadd (i.toInt32 * 4) j.toInt32
  have r2 := rng32 (i.toInt32 * 4 + j.toInt32)
  exact own_back (by omega) (by omega)
theorem own_lt4 {n : Nat} : (n.toInt32 < (4 : Int32)) ↔ n.toInt32.toInt < 4 := by rw [Int32.lt_iff_toInt_lt]; rfl
theorem own_lt {n k : Nat} (hn : n < 100) (hk : k < 100) : n.toInt32 < k.toInt32 ↔ n < k := by
  rw [Int32.lt_iff_toInt_lt, (own_n4 hn).2.2, (own_n4 hk).2.2]; omega
/-- an index out of e: two numbers up to 3 -/
theorem own_p16 (e : Int32) : ∃ f t : Nat, f < 4 ∧ t < 4 ∧ ((e &&& (2147483647 : Int32)) % (16 : Int32)) / (4 : Int32) = f.toInt32 ∧ ((e &&& (2147483647 : Int32)) % (16 : Int32)) % (4 : Int32) = t.toInt32 := by
  have h := c_mask e 2147483647 31 (by decide) (by decide)
  generalize e &&& (2147483647 : Int32) = y at *
  have hy : 0 ≤ y.toInt := by rw [h]; exact Int.emod_nonneg _ (by decide)
  have r := (c_irem y 16 16 rfl).1 hy
  generalize y % (16 : Int32) = z at *
  have hz : 0 ≤ z.toInt := by omega
  have d := (c_idiv z 4 4 rfl (by decide)).1 hz
  have q := (c_irem z 4 4 rfl).1 hz
  refine ⟨(z.toInt / 4).toNat, (z.toInt % 4).toNat, by omega, by omega, own_back (by omega) (by omega), own_back (by omega) (by omega)⟩
theorem own_m55 (x : Int64) : -36028797018963968 ≤ (x >>> ((8 : Int32) &&& 0x3f).toInt64).toInt ∧ (x >>> ((8 : Int32) &&& 0x3f).toInt64).toInt ≤ 36028797018963968 := by
  have h := c_lshr x 8 8 (by decide)
  have r := rng64 x
  rw [h]
  have e : ((2 ^ 8 : Nat) : Int) = 256 := rfl
  rw [e]; omega
/-- a list of up to 4 numbers, filled up with zeros -/
def own_pad (L : List Nat) : List Value := (List.range 4).map fun n => .int (L.getD n 0).toInt32
theorem own_pad_len {L : List Nat} : (own_pad L).length = 4 := by simp [own_pad]
theorem own_pad_at {L pre js : List Nat} {j : Nat} (e : L = pre ++ j :: js) (h : pre.length < 4) : (own_pad L)[pre.length]? = some (.int j.toInt32) := by
  subst e; simp [own_pad, h]
theorem own_pad_snoc {L : List Nat} {j : Nat} (h : L.length < 4) : (own_pad L).set L.length (.int j.toInt32) = own_pad (L ++ [j]) := by
  apply List.ext_getElem?
  intro n
  rw [List.getElem?_set]
  by_cases hn : n < 4
  · split
    · next q => subst q; rw [own_pad_len, if_pos hn]; simp [own_pad, hn]
    · next q =>
      simp only [own_pad, List.getElem?_map, List.getElem?_range hn, Option.map_some]
      rcases Nat.lt_or_ge n L.length with r | r
      · simp [List.getD_eq_getElem?_getD, List.getElem?_append_left r]
      · have : L.length < n := by omega
        simp [List.getD_eq_getElem?_getD, List.getElem?_append_right r, List.getElem?_eq_none r, show n - L.length ≠ 0 by omega]
  · have n1 : (own_pad (L ++ [j]))[n]? = none := List.getElem?_eq_none (by rw [own_pad_len]; omega)
    have n2 : (own_pad L)[n]? = none := List.getElem?_eq_none (by rw [own_pad_len]; omega)
    rw [n1, n2]; split
    · rw [own_pad_len, if_neg (by omega)]
    · rfl
theorem own_Sl_yes {D : Nat → Nat → Int64} {f t n : Nat} {x : Int64} (h1 : ¬ D n f = (9223372036854775807 : Int64)) (h2 : D n f + x < D n t) : own_Sl D f t x (n + 1) = own_Sl D f t x n ++ [n] := by
  unfold own_Sl; rw [List.range_succ, List.filter_append]; simp [own_isS, h1, h2]
theorem own_Sl_no {D : Nat → Nat → Int64} {f t n : Nat} {x : Int64} (h : D n f = (9223372036854775807 : Int64) ∨ ¬ D n f + x < D n t) : own_Sl D f t x (n + 1) = own_Sl D f t x n := by
  unfold own_Sl; rw [List.range_succ, List.filter_append]
  have : own_isS D f t x n = false := by
    unfold own_isS; rw [decide_eq_false_iff_not]; rintro ⟨g1, g2⟩; exact h.elim g1 (fun g => g g2)
  simp [this]
theorem own_Tl_yes {D : Nat → Nat → Int64} {f t n : Nat} {x : Int64} (h1 : ¬ D t n = (9223372036854775807 : Int64)) (h2 : x + D t n < D f n) : own_Tl D f t x (n + 1) = own_Tl D f t x n ++ [n] := by
  unfold own_Tl; rw [List.range_succ, List.filter_append]; simp [own_isT, h1, h2]
theorem own_Tl_no {D : Nat → Nat → Int64} {f t n : Nat} {x : Int64} (h : D t n = (9223372036854775807 : Int64) ∨ ¬ x + D t n < D f n) : own_Tl D f t x (n + 1) = own_Tl D f t x n := by
  unfold own_Tl; rw [List.range_succ, List.filter_append]
  have : own_isT D f t x n = false := by
    unfold own_isT; rw [decide_eq_false_iff_not]; rintro ⟨g1, g2⟩; exact h.elim g1 (fun g => g g2)
  simp [this]
theorem own_Sl_len {D : Nat → Nat → Int64} {f t n : Nat} {x : Int64} : (own_Sl D f t x n).length ≤ n := by
  have := List.length_filter_le (own_isS D f t x) (List.range n)
  rwa [List.length_range] at this
theorem own_Tl_len {D : Nat → Nat → Int64} {f t n : Nat} {x : Int64} : (own_Tl D f t x n).length ≤ n := by
  have := List.length_filter_le (own_isT D f t x) (List.range n)
  rwa [List.length_range] at this
def own_M (Z : State) (h : Heap) (a1 aM aW : Addr) (Rw : Nat → Addr) (D W : Nat → Nat → Int64) : Prop :=
  (Z.heap.size ≤ a1 ∧ Z.heap.size ≤ aW) ∧ Exa Z h a1 "com/example/slackweave/slackweave/generate/TightestBounds" ∧ Fld Z h a1 "com/example/slackweave/slackweave/generate/TightestBounds" "bound" "[[J" (.ref aM) ∧
  own_A Z h aM (.array .long) [.ref (Rw 0), .ref (Rw 1), .ref (Rw 2), .ref (Rw 3)] ∧ (∀ i, i < 4 → own_A Z h (Rw i) .long (own_row D i)) ∧ (∀ i, i < 4 → Z.heap.size ≤ Rw i ∧ Rw i ≠ aW) ∧ (∀ i j, i < 4 → j < 4 → i ≠ j → Rw i ≠ Rw j) ∧ own_A Z h aW .long (own_w16 W)
section OwnM
variable {Z : State} {h h' : Heap} {a1 aM aW : Addr} {Rw : Nat → Addr} {D W : Nat → Nat → Int64} {i j sl : Nat} {v : Int64} {w : Value}
theorem own_M.exa (H : own_M Z h a1 aM aW Rw D W) : Exa Z h a1 "com/example/slackweave/slackweave/generate/TightestBounds" := H.2.1
theorem own_M.fld (H : own_M Z h a1 aM aW Rw D W) : Fld Z h a1 "com/example/slackweave/slackweave/generate/TightestBounds" "bound" "[[J" (.ref aM) := H.2.2.1
theorem own_M.tab (H : own_M Z h a1 aM aW Rw D W) : own_A Z h aM (.array .long) [.ref (Rw 0), .ref (Rw 1), .ref (Rw 2), .ref (Rw 3)] := H.2.2.2.1
theorem own_M.rw (H : own_M Z h a1 aM aW Rw D W) (hi : i < 4) : own_A Z h (Rw i) .long (own_row D i) := H.2.2.2.2.1 i hi
theorem own_M.wt (H : own_M Z h a1 aM aW Rw D W) : own_A Z h aW .long (own_w16 W) := H.2.2.2.2.2.2.2
theorem own_M.le (H : own_M Z h a1 aM aW Rw D W) (hi : i < 4) : Z.heap.size ≤ Rw i := (H.2.2.2.2.2.1 i hi).1
theorem own_M.ext (H : own_M Z h a1 aM aW Rw D W) (E : Ext h h') : own_M Z h' a1 aM aW Rw D W := by
  obtain ⟨g, e, f, t, r, s, n, w⟩ := H
  exact ⟨g, e.ext E, f.ext E, t.ext E, fun i hi => (r i hi).ext E, s, n, w.ext E⟩
theorem own_at4 {Rw : Nat → Addr} {n : Nat} (hn : n < 4) : [Value.ref (Rw 0), Value.ref (Rw 1), Value.ref (Rw 2), Value.ref (Rw 3)][n.toInt32.toNatClampNeg]? = some (.ref (Rw n)) := by
  rw [(own_n4 (n := n) (by omega)).1]
  match n, hn with
  | 0, _ => rfl
  | 1, _ => rfl
  | 2, _ => rfl
  | 3, _ => rfl
/-- a write in one row -/
theorem own_M.row {k : Nat} {a0 : Array Value} (H : own_M Z h a1 aM aW Rw D W) (wi : (Jvm.Cond.instantiable "com/example/slackweave/slackweave/generate/TightestBounds" k).before a0 Z = true) (hi : i < 4) (hj : j < 4) (Wt : Wr h h' (Rw i) j (.long v)) : own_M Z h' a1 aM aW Rw (own_s2 D i j v) W := by
  obtain ⟨g, e, f, t, r, s, n, w⟩ := H
  have ne1 : a1 ≠ Rw i := own_neA e wi (r i hi)
  refine ⟨g, e.wr Wt, f.other Wt (Or.inl ne1), t.other Wt (t.neT (r i hi) (by decide)), fun l hl => ?_, s, n, w.other Wt (Ne.symm (s i hi).2)⟩
  by_cases q : l = i
  · subst q; have := (r l hl).set Wt; rw [own_row_set hj] at this; exact this
  · rw [own_row_oth q]; exact (r l hl).other Wt (n l i hl hi q)
/-- a write in the weights -/
theorem own_M.put {k : Nat} {a0 : Array Value} (H : own_M Z h a1 aM aW Rw D W) (wi : (Jvm.Cond.instantiable "com/example/slackweave/slackweave/generate/TightestBounds" k).before a0 Z = true) (hi : i < 4) (hj : j < 4) (Wt : Wr h h' aW (i * 4 + j) (.long v)) : own_M Z h' a1 aM aW Rw D (own_s2 W i j v) := by
  obtain ⟨g, e, f, t, r, s, n, w⟩ := H
  have ne1 : a1 ≠ aW := own_neA e wi w
  refine ⟨g, e.wr Wt, f.other Wt (Or.inl ne1), t.other Wt (t.neT w (by decide)), fun l hl => (r l hl).other Wt (s l hl).2, s, n, ?_⟩
  have := w.set Wt
  rw [own_w16_set hi hj] at this
  exact this
/-- a write in an int array -/
theorem own_M.oth {k : Nat} {a0 : Array Value} {b : Addr} {us : List Value} (H : own_M Z h a1 aM aW Rw D W) (wi : (Jvm.Cond.instantiable "com/example/slackweave/slackweave/generate/TightestBounds" k).before a0 Z = true) (A : own_A Z h b .int us) (Wt : Wr h h' b sl w) : own_M Z h' a1 aM aW Rw D W := by
  obtain ⟨g, e, f, t, r, s, n, w⟩ := H
  exact ⟨g, e.wr Wt, f.other Wt (Or.inl (own_neA e wi A)), t.other Wt (t.neT A (by decide)), fun l hl => (r l hl).other Wt ((r l hl).neT A (by decide)), s, n, w.other Wt (w.neT A (by decide))⟩
end OwnM
section OwnGrid
variable {Z : State} {hs : Heap} {W : List Addr} {own : String} {bytes : ByteArray} {maxL : Nat} {ret : Option FieldType} {nm : String}
  {p : Program} {l : Launch} {e : Env} {R : Room} {s : State} {m : MethodId} {args : Array Value} {below : List Frame} {meth : Method} {c : Code}
  {T : State} {h h' : Heap} {cells slots : Nat} {k n : Nat} {Q : Option Value → Heap → Prop} {a0 : Array Value} {pc : Nat} {Ls : Array Slot} {st rest : List Value} {index : Nat}
theorem own_grid (S : own_S Z hs W own bytes maxL ret nm p l e R s m args below meth c T h cells slots) (w1 : (Jvm.Cond.classLink own index "[[J").before a0 Z = true) (w2 : (Jvm.Cond.arrayOver (.array .long)).before a0 Z = true) (w3 : (Jvm.Cond.arrayClass .long).before a0 Z = true) (hd : decode bytes pc = .ok (.multianewarray index 2, 4)) (hc : cells + 5 ≤ R.cells) (hl : slots + 20 ≤ R.slots)
    (f : ∀ (T' : State) (h' : Heap) (a r0 r1 r2 r3 : Addr), a = h.size → r0 = h.size + 1 → r1 = h.size + 2 → r2 = h.size + 3 → r3 = h.size + 4 → own_S Z hs W own bytes maxL ret nm p l e R s m args below meth c T' h' (cells + 5) (slots + 20) → Ext h h' → own_A Z h' a (.array .long) [.ref r0, .ref r1, .ref r2, .ref r3] → own_A Z h' r0 .long [.long 0, .long 0, .long 0, .long 0] → own_A Z h' r1 .long [.long 0, .long 0, .long 0, .long 0] → own_A Z h' r2 .long [.long 0, .long 0, .long 0, .long 0] → own_A Z h' r3 .long [.long 0, .long 0, .long 0, .long 0] → own_F p e below s Z hs W k n Q (T'.setTop (mkF m (pc + 4) Ls (.ref a :: rest)))) : own_F p e below s Z hs W k n Q (T.setTop (mkF m pc Ls (.int 4 :: .int 4 :: rest))) := by
  have S' := S
  obtain ⟨G, locs, X, N, e0, K⟩ := S
  obtain ⟨T', h', cA, comp, X', e', E, A, -, -, B, stp⟩ := gridM X S'.hx S'.hZ (C := "[J") (ad := "[[J") (ty := .long) S'.hown rfl rfl w1 w2 w3 e0 (g := mkF m pc Ls (.int 4 :: .int 4 :: rest)) rfl (S'.dec hd) rfl (by decide) (by decide) (xs := [h.size + 1, h.size + 2, h.size + 3, h.size + 4]) (N := 4) rfl rfl (cap := 4) (by decide) (by decide) (by decide) rfl rfl hc hl
  have row : ∀ (j : Nat) (x : Addr), [h.size + 1, h.size + 2, h.size + 3, h.size + 4][j]? = some x → own_A Z h' x .long [.long 0, .long 0, .long 0, .long 0] := fun j x q => ⟨_, (B j x q).1, by simp [newA]; rfl, by decide⟩
  have tab : own_A Z h' h.size (.array .long) [.ref (h.size + 1), .ref (h.size + 2), .ref (h.size + 3), .ref (h.size + 4)] := by
    obtain ⟨cl, A1, -, A3, -, A5, -⟩ := A
    refine ⟨cl, A1, ?_, by show 4 < 2 ^ 31; decide⟩
    have sz : cl.slots.size = 4 := A3
    have hh : ∀ j, j < 4 → cl.slots[j]? = some (([Value.ref (h.size + 1), .ref (h.size + 2), .ref (h.size + 3), .ref (h.size + 4)]).getD j .null) := fun j hj => A5 j (by rw [sz]; exact hj)
    apply List.ext_getElem?
    intro j
    rw [Array.getElem?_toList]
    rcases Nat.lt_or_ge j 4 with q | q
    · rw [hh j q]
      match j, q with
      | 0, _ => rfl
      | 1, _ => rfl
      | 2, _ => rfl
      | 3, _ => rfl
    · rw [Array.getElem?_eq_none (by omega), List.getElem?_eq_none (by simpa using q)]
  exact own_F.of stp (f T' h' _ _ _ _ _ rfl rfl rfl rfl rfl ⟨G, _, X', N, e', K.ext E⟩ E tab (row 0 _ rfl) (row 1 _ rfl) (row 2 _ rfl) (row 3 _ rfl))
end OwnGrid

theorem own_smA {a b : Int64} (h : lcmpW a (9223372036854775807 : Int64) = 0) : own_sm a b = (9223372036854775807 : Int64) := by unfold own_sm; rw [if_pos (Or.inl ((lw_eq _ _).mp h))]
theorem own_smB {a b : Int64} (h : lcmpW b (9223372036854775807 : Int64) = 0) : own_sm a b = (9223372036854775807 : Int64) := by unfold own_sm; rw [if_pos (Or.inr ((lw_eq _ _).mp h))]
theorem own_smC {a b : Int64} (h : ¬ lcmpW a (9223372036854775807 : Int64) = 0) (g : ¬ lcmpW b (9223372036854775807 : Int64) = 0) : own_sm a b = a + b := by unfold own_sm; rw [if_neg (fun q => q.elim (fun z => h ((lw_eq _ _).mpr z)) (fun z => g ((lw_eq _ _).mpr z)))]
theorem own_clA {W : Nat → Nat → Int64} {f t : Nat} {m : Int64} (h : lcmpW (own_dst W t f) (9223372036854775807 : Int64) = 0) : m = own_cl W f t m := by unfold own_cl; rw [if_neg (fun q => q.1 ((lw_eq _ _).mp h))]
theorem own_clB {W : Nat → Nat → Int64} {f t : Nat} {m : Int64} (h : ¬ lcmpW (own_dst W t f) (9223372036854775807 : Int64) = 0) (g : lcmpW m (-own_dst W t f) < 0) : -own_dst W t f = own_cl W f t m := by unfold own_cl; rw [if_pos ⟨fun z => h ((lw_eq _ _).mpr z), (lw_lt _ _).mp g⟩]
theorem own_clC {W : Nat → Nat → Int64} {f t : Nat} {m : Int64} (g : ¬ lcmpW m (-own_dst W t f) < 0) : m = own_cl W f t m := by unfold own_cl; rw [if_neg (fun q => g ((lw_lt _ _).mpr q.2))]
theorem own_dstE {W : Nat → Nat → Int64} {i j k l : Nat} (h : i ≠ j) (hk : own_k i j = k) (hl : 6 - i - j - k = l) : own_d5 W i j k l = own_dst W i j := by subst hk hl; unfold own_dst; rw [if_neg h]
theorem own_dst0 {W : Nat → Nat → Int64} {i : Nat} : own_dst W i i = 0 := if_pos rfl
theorem own_neN {a b s i j : Nat} (h1 : a = s + i) (h2 : b = s + j) (h : i ≠ j) : a ≠ b := by omega
theorem own_ltN {a r s i : Nat} (h : a < s) (e : r = s + i) : a ≠ r := by omega
theorem own_leN {x s r i : Nat} (h : x ≤ s) (e : r = s + i) : x ≤ r := by omega
theorem own_nothrow {y x : Int64} (hp : y = (9223372036854775807 : Int64) ∨ ¬ x + y < 0) (h : ¬ lcmpW y (9223372036854775807 : Int64) = 0) (g : lcmpW (x + y) 0 < 0) : False := hp.elim (fun z => h ((lw_eq _ _).mpr z)) (fun z => z ((lw_lt _ _).mp g))

theorem d8_0 : decode method_2_code 0 = .ok (.lload_n 0, 1) := by decide +kernel
theorem d8_1 : decode method_2_code 1 = .ok (.ldc2_w 9, 3) := by decide +kernel
theorem d8_4 : decode method_2_code 4 = .ok (.lcmp, 1) := by decide +kernel
theorem d8_5 : decode method_2_code 5 = .ok (.ifCond .eq 11, 3) := by decide +kernel
theorem d8_8 : decode method_2_code 8 = .ok (.lload_n 2, 1) := by decide +kernel
theorem d8_9 : decode method_2_code 9 = .ok (.ldc2_w 9, 3) := by decide +kernel
theorem d8_12 : decode method_2_code 12 = .ok (.lcmp, 1) := by decide +kernel
theorem d8_13 : decode method_2_code 13 = .ok (.ifCond .ne 7, 3) := by decide +kernel
theorem d8_16 : decode method_2_code 16 = .ok (.ldc2_w 9, 3) := by decide +kernel
theorem d8_19 : decode method_2_code 19 = .ok (.lreturn, 1) := by decide +kernel
theorem d8_20 : decode method_2_code 20 = .ok (.lload_n 0, 1) := by decide +kernel
theorem d8_21 : decode method_2_code 21 = .ok (.lload_n 2, 1) := by decide +kernel
theorem d8_22 : decode method_2_code 22 = .ok (.ladd, 1) := by decide +kernel
theorem d8_23 : decode method_2_code 23 = .ok (.lreturn, 1) := by decide +kernel
theorem pn8 : plainFor (⟨"com/example/slackweave/slackweave/generate/TightestBoundsAddPinLaw", "sum", "(JJ)J"⟩ : MethodName) = true := plainFor_of_name (by first | (simp [plainName, overriddenIn]; done) | decide +kernel)
set_option maxRecDepth 65536 in
set_option maxHeartbeats 40000000 in
theorem own_sumC (l : Launch) (Z : State) (a0 : Array Value) (hw : ∀ d ∈ tables_1, d.before a0 Z = true) (p1 p2 : Int64) (h0 : Heap) (hO : Ext Z.heap h0) :
    own_C l Z (⟨"com/example/slackweave/slackweave/generate/TightestBoundsAddPinLaw", "sum", "(JJ)J"⟩ : MethodName) method_2_code 4 (some .long) [] ({ frames := 0, cells := 0, slots := 0, locals := 0 } : Room) [] #[(.long p1), (.long p2)] h0 (fun v h => v = some (.long (own_sm p1 p2)) ∧ h0 = h) := by
  refine own_C.of pn8 hO all0 ?_
  intro p e s m below meth c T0 S0
  refine own_F.cast (by first | (simp [entryFrame, mkF, argsToLocals, Value.category]; done) | rfl : entryFrame m #[(.long p1), (.long p2)] 4 = mkF m 0 #[.val (.long p1), .second, .val (.long p2), .second] []) ?_
  show own_F p e below s Z _ _ _ _ _ (T0.setTop (mkF m 0 #[.val (.long p1), .second, .val (.long p2), .second] []))
  refine own_F.of (fun _ => XS.lloadN S0.here S0.hx rfl (S0.dec d8_0) rfl) ?_
  show own_F p e below s Z _ _ _ _ _ (T0.setTop (mkF m 1 #[.val (.long p1), .second, .val (.long p2), .second] [(.long p1)]))
  refine own_ldcJ S0 (own_w hw 0 rfl) d8_1 ?_
  show own_F p e below s Z _ _ _ _ _ (T0.setTop (mkF m 4 #[.val (.long p1), .second, .val (.long p2), .second] [(.long (9223372036854775807 : Int64)), (.long p1)]))
  refine own_F.of (fun _ => XS.lcmp S0.here S0.hx rfl (S0.dec d8_4) rfl) ?_
  show own_F p e below s Z _ _ _ _ _ (T0.setTop (mkF m 5 #[.val (.long p1), .second, .val (.long p2), .second] [(.int (lcmpW p1 (9223372036854775807 : Int64)))]))
  refine own_if S0 16 d8_5 (by decide) (by decide) (fun (hc5_1 : (lcmpW p1 (9223372036854775807 : Int64)) = (0 : Int32)) => ?_) (fun (hc5_1 : ¬ ((lcmpW p1 (9223372036854775807 : Int64)) = (0 : Int32))) => ?_)
  · show own_F p e below s Z _ _ _ _ _ (T0.setTop (mkF m 16 #[.val (.long p1), .second, .val (.long p2), .second] []))
    refine own_ldcJ S0 (own_w hw 0 rfl) d8_16 ?_
    show own_F p e below s Z _ _ _ _ _ (T0.setTop (mkF m 19 #[.val (.long p1), .second, .val (.long p2), .second] [(.long (9223372036854775807 : Int64))]))
    refine own_retJ S0 d8_19 (by decide) (by decide) ?_
    exact ⟨congrArg (fun z => some (Value.long z)) (own_smA hc5_1).symm, rfl⟩
  · show own_F p e below s Z _ _ _ _ _ (T0.setTop (mkF m 8 #[.val (.long p1), .second, .val (.long p2), .second] []))
    refine own_F.of (fun _ => XS.lloadN S0.here S0.hx rfl (S0.dec d8_8) rfl) ?_
    show own_F p e below s Z _ _ _ _ _ (T0.setTop (mkF m 9 #[.val (.long p1), .second, .val (.long p2), .second] [(.long p2)]))
    refine own_ldcJ S0 (own_w hw 0 rfl) d8_9 ?_
    show own_F p e below s Z _ _ _ _ _ (T0.setTop (mkF m 12 #[.val (.long p1), .second, .val (.long p2), .second] [(.long (9223372036854775807 : Int64)), (.long p2)]))
    refine own_F.of (fun _ => XS.lcmp S0.here S0.hx rfl (S0.dec d8_12) rfl) ?_
    show own_F p e below s Z _ _ _ _ _ (T0.setTop (mkF m 13 #[.val (.long p1), .second, .val (.long p2), .second] [(.int (lcmpW p2 (9223372036854775807 : Int64)))]))
    refine own_if S0 20 d8_13 (by decide) (by decide) (fun (hc13_2 : ¬ ((lcmpW p2 (9223372036854775807 : Int64)) = (0 : Int32))) => ?_) (fun (hc13_2 : (lcmpW p2 (9223372036854775807 : Int64)) = (0 : Int32)) => ?_)
    · show own_F p e below s Z _ _ _ _ _ (T0.setTop (mkF m 20 #[.val (.long p1), .second, .val (.long p2), .second] []))
      refine own_F.of (fun _ => XS.lloadN S0.here S0.hx rfl (S0.dec d8_20) rfl) ?_
      refine own_F.of (fun _ => XS.lloadN S0.here S0.hx rfl (S0.dec d8_21) rfl) ?_
      show own_F p e below s Z _ _ _ _ _ (T0.setTop (mkF m 22 #[.val (.long p1), .second, .val (.long p2), .second] [(.long p2), (.long p1)]))
      refine own_F.of (fun _ => XS.ladd S0.here S0.hx rfl (S0.dec d8_22) rfl) ?_
      show own_F p e below s Z _ _ _ _ _ (T0.setTop (mkF m 23 #[.val (.long p1), .second, .val (.long p2), .second] [(.long (p1 + p2))]))
      refine own_retJ S0 d8_23 (by decide) (by decide) ?_
      exact ⟨congrArg (fun z => some (Value.long z)) (own_smC hc5_1 hc13_2).symm, rfl⟩
    · show own_F p e below s Z _ _ _ _ _ (T0.setTop (mkF m 16 #[.val (.long p1), .second, .val (.long p2), .second] []))
      refine own_ldcJ S0 (own_w hw 0 rfl) d8_16 ?_
      show own_F p e below s Z _ _ _ _ _ (T0.setTop (mkF m 19 #[.val (.long p1), .second, .val (.long p2), .second] [(.long (9223372036854775807 : Int64))]))
      refine own_retJ S0 d8_19 (by decide) (by decide) ?_
      exact ⟨congrArg (fun z => some (Value.long z)) (own_smB hc13_2).symm, rfl⟩
theorem d9_0 : decode jdk_29_method_70_code 0 = .ok (.lload_n 0, 1) := by decide +kernel
theorem d9_1 : decode jdk_29_method_70_code 1 = .ok (.lload_n 2, 1) := by decide +kernel
theorem d9_2 : decode jdk_29_method_70_code 2 = .ok (.lcmp, 1) := by decide +kernel
theorem d9_3 : decode jdk_29_method_70_code 3 = .ok (.ifCond .gt 7, 3) := by decide +kernel
theorem d9_6 : decode jdk_29_method_70_code 6 = .ok (.lload_n 0, 1) := by decide +kernel
theorem d9_7 : decode jdk_29_method_70_code 7 = .ok (.goto 4, 3) := by decide +kernel
theorem d9_10 : decode jdk_29_method_70_code 10 = .ok (.lload_n 2, 1) := by decide +kernel
theorem d9_11 : decode jdk_29_method_70_code 11 = .ok (.lreturn, 1) := by decide +kernel
theorem pn9 : plainFor (⟨"java/lang/Math", "min", "(JJ)J"⟩ : MethodName) = true := Jvm.Free.JP.mathPlain rfl (by decide +kernel)
set_option maxRecDepth 65536 in
set_option maxHeartbeats 40000000 in
theorem own_minC (l : Launch) (Z : State) (a0 : Array Value) (hw : ∀ d ∈ tables_1, d.before a0 Z = true) (p1 p2 : Int64) (h0 : Heap) (hO : Ext Z.heap h0) :
    own_C l Z (⟨"java/lang/Math", "min", "(JJ)J"⟩ : MethodName) jdk_29_method_70_code 4 (some .long) [] ({ frames := 0, cells := 0, slots := 0, locals := 0 } : Room) [] #[(.long p1), (.long p2)] h0 (fun v h => v = some (.long (own_mn p1 p2)) ∧ h0 = h) := by
  refine own_C.of pn9 hO all0 ?_
  intro p e s m below meth c T0 S0
  refine own_F.cast (by first | (simp [entryFrame, mkF, argsToLocals, Value.category]; done) | rfl : entryFrame m #[(.long p1), (.long p2)] 4 = mkF m 0 #[.val (.long p1), .second, .val (.long p2), .second] []) ?_
  show own_F p e below s Z _ _ _ _ _ (T0.setTop (mkF m 0 #[.val (.long p1), .second, .val (.long p2), .second] []))
  refine own_F.of (fun _ => XS.lloadN S0.here S0.hx rfl (S0.dec d9_0) rfl) ?_
  refine own_F.of (fun _ => XS.lloadN S0.here S0.hx rfl (S0.dec d9_1) rfl) ?_
  show own_F p e below s Z _ _ _ _ _ (T0.setTop (mkF m 2 #[.val (.long p1), .second, .val (.long p2), .second] [(.long p2), (.long p1)]))
  refine own_F.of (fun _ => XS.lcmp S0.here S0.hx rfl (S0.dec d9_2) rfl) ?_
  show own_F p e below s Z _ _ _ _ _ (T0.setTop (mkF m 3 #[.val (.long p1), .second, .val (.long p2), .second] [(.int (lcmpW p1 p2))]))
  refine own_if S0 10 d9_3 (by decide) (by decide) (fun (hc3_1 : (0 : Int32) < (lcmpW p1 p2)) => ?_) (fun (hc3_1 : ¬ ((0 : Int32) < (lcmpW p1 p2))) => ?_)
  · show own_F p e below s Z _ _ _ _ _ (T0.setTop (mkF m 10 #[.val (.long p1), .second, .val (.long p2), .second] []))
    refine own_F.of (fun _ => XS.lloadN S0.here S0.hx rfl (S0.dec d9_10) rfl) ?_
    show own_F p e below s Z _ _ _ _ _ (T0.setTop (mkF m 11 #[.val (.long p1), .second, .val (.long p2), .second] [(.long p2)]))
    refine own_retJ S0 d9_11 (by decide) (by decide) ?_
    have hh : own_mn p1 p2 = p2 := by simp [own_mn, hc3_1]
    rw [hh]; exact ⟨rfl, rfl⟩
  · show own_F p e below s Z _ _ _ _ _ (T0.setTop (mkF m 6 #[.val (.long p1), .second, .val (.long p2), .second] []))
    refine own_F.of (fun _ => XS.lloadN S0.here S0.hx rfl (S0.dec d9_6) rfl) ?_
    show own_F p e below s Z _ _ _ _ _ (T0.setTop (mkF m 7 #[.val (.long p1), .second, .val (.long p2), .second] [(.long p1)]))
    refine own_F.of (fun _ => XS.goto S0.here S0.hx rfl (pc0 := 7) (pc' := 11) rfl (S0.dec d9_7) (by decide) (by decide)) ?_
    show own_F p e below s Z _ _ _ _ _ (T0.setTop (mkF m 11 #[.val (.long p1), .second, .val (.long p2), .second] [(.long p1)]))
    refine own_retJ S0 d9_11 (by decide) (by decide) ?_
    have hh : own_mn p1 p2 = p1 := by simp [own_mn, hc3_1]
    rw [hh]; exact ⟨rfl, rfl⟩
theorem d3_0 : decode jdk_65_method_101_code 0 = .ok (.iconst 0, 1) := by decide +kernel
theorem d3_1 : decode jdk_65_method_101_code 1 = .ok (.istore_n 3, 1) := by decide +kernel
theorem d3_2 : decode jdk_65_method_101_code 2 = .ok (.aload_n 0, 1) := by decide +kernel
theorem d3_3 : decode jdk_65_method_101_code 3 = .ok (.arraylength, 1) := by decide +kernel
theorem d3_4 : decode jdk_65_method_101_code 4 = .ok (.istore 4, 2) := by decide +kernel
theorem d3_6 : decode jdk_65_method_101_code 6 = .ok (.iload_n 3, 1) := by decide +kernel
theorem d3_7 : decode jdk_65_method_101_code 7 = .ok (.iload 4, 2) := by decide +kernel
theorem d3_9 : decode jdk_65_method_101_code 9 = .ok (.if_icmp .ge 13, 3) := by decide +kernel
theorem d3_12 : decode jdk_65_method_101_code 12 = .ok (.aload_n 0, 1) := by decide +kernel
theorem d3_13 : decode jdk_65_method_101_code 13 = .ok (.iload_n 3, 1) := by decide +kernel
theorem d3_14 : decode jdk_65_method_101_code 14 = .ok (.lload_n 1, 1) := by decide +kernel
theorem d3_15 : decode jdk_65_method_101_code 15 = .ok (.lastore, 1) := by decide +kernel
theorem d3_16 : decode jdk_65_method_101_code 16 = .ok (.iinc 3 1, 3) := by decide +kernel
theorem d3_19 : decode jdk_65_method_101_code 19 = .ok (.goto (-13), 3) := by decide +kernel
theorem d3_22 : decode jdk_65_method_101_code 22 = .ok (.return_, 1) := by decide +kernel
theorem pn3 : plainFor (⟨"java/util/Arrays", "fill", "([JJ)V"⟩ : MethodName) = true := plainFor_of_name (by first | (simp [plainName, overriddenIn]; done) | decide +kernel)
set_option maxRecDepth 65536 in
set_option maxHeartbeats 40000000 in
theorem own_fill (l : Launch) (Z : State) (a0 : Array Value) (hw : ∀ d ∈ tables_1, d.before a0 Z = true) (aX : Addr) (h0 : Heap) (hO : Ext Z.heap h0) (gX : Z.heap.size ≤ aX) (AX : own_A Z h0 aX .long [(.long (0 : Int64)), (.long (0 : Int64)), (.long (0 : Int64)), (.long (0 : Int64))]) :
    own_C l Z (⟨"java/util/Arrays", "fill", "([JJ)V"⟩ : MethodName) jdk_65_method_101_code 5 none [] ({ frames := 0, cells := 0, slots := 0, locals := 0 } : Room) [aX] #[(.ref aX), (.long (9223372036854775807 : Int64))] h0 (fun v h => v = none ∧ own_A Z h aX .long [(.long (9223372036854775807 : Int64)), (.long (9223372036854775807 : Int64)), (.long (9223372036854775807 : Int64)), (.long (9223372036854775807 : Int64))]) := by
  refine own_C.of pn3 hO (allS gX all0) ?_
  intro p e s m below meth c T0 S0
  refine own_F.cast (by first | (simp [entryFrame, mkF, argsToLocals, Value.category]; done) | rfl : entryFrame m #[(.ref aX), (.long (9223372036854775807 : Int64))] 5 = mkF m 0 #[.val (.ref aX), .val (.long (9223372036854775807 : Int64)), .second, .unset, .unset] []) ?_
  show own_F p e below s Z _ _ _ _ _ (T0.setTop (mkF m 0 #[.val (.ref aX), .val (.long (9223372036854775807 : Int64)), .second, .unset, .unset] []))
  refine own_F.of (fun _ => XS.iconst S0.here S0.hx rfl (S0.dec d3_0)) ?_
  show own_F p e below s Z _ _ _ _ _ (T0.setTop (mkF m 1 #[.val (.ref aX), .val (.long (9223372036854775807 : Int64)), .second, .unset, .unset] [(.int 0)]))
  refine own_F.of (fun _ => XS.istoreN S0.here S0.hx rfl (S0.dec d3_1) rfl (l' := #[.val (.ref aX), .val (.long (9223372036854775807 : Int64)), .second, .val (.int 0), .unset]) rfl) ?_
  refine own_F.of (fun _ => XS.aloadN S0.here S0.hx rfl (S0.dec d3_2) rfl rfl) ?_
  show own_F p e below s Z _ _ _ _ _ (T0.setTop (mkF m 3 #[.val (.ref aX), .val (.long (9223372036854775807 : Int64)), .second, .val (.int 0), .unset] [(.ref aX)]))
  refine own_len S0 AX d3_3 ?_
  show own_F p e below s Z _ _ _ _ _ (T0.setTop (mkF m 4 #[.val (.ref aX), .val (.long (9223372036854775807 : Int64)), .second, .val (.int 0), .unset] [(.int 4)]))
  refine own_F.of (fun _ => XS.istore S0.here S0.hx rfl (S0.dec d3_4) rfl (l' := #[.val (.ref aX), .val (.long (9223372036854775807 : Int64)), .second, .val (.int 0), .val (.int 4)]) rfl) ?_
  refine own_F.of (fun _ => XS.iloadN S0.here S0.hx rfl (S0.dec d3_6) rfl) ?_
  refine own_F.of (fun _ => XS.iload S0.here S0.hx rfl (S0.dec d3_7) rfl) ?_
  show own_F p e below s Z _ _ _ _ _ (T0.setTop (mkF m 9 #[.val (.ref aX), .val (.long (9223372036854775807 : Int64)), .second, .val (.int 0), .val (.int 4)] [(.int 4), (.int 0)]))
  refine own_icmp S0 22 d3_9 (by decide) (by decide) (fun (hc9_1 : ¬ ((0 : Int32) < (4 : Int32))) => False.elim (absurd hc9_1 (by decide))) (fun (hc9_1 : (0 : Int32) < (4 : Int32)) => ?_)
  show own_F p e below s Z _ _ _ _ _ (T0.setTop (mkF m 12 #[.val (.ref aX), .val (.long (9223372036854775807 : Int64)), .second, .val (.int 0), .val (.int 4)] []))
  refine own_F.of (fun _ => XS.aloadN S0.here S0.hx rfl (S0.dec d3_12) rfl rfl) ?_
  refine own_F.of (fun _ => XS.iloadN S0.here S0.hx rfl (S0.dec d3_13) rfl) ?_
  refine own_F.of (fun _ => XS.lloadN S0.here S0.hx rfl (S0.dec d3_14) rfl) ?_
  show own_F p e below s Z _ _ _ _ _ (T0.setTop (mkF m 15 #[.val (.ref aX), .val (.long (9223372036854775807 : Int64)), .second, .val (.int 0), .val (.int 4)] [(.long (9223372036854775807 : Int64)), (.int 0), (.ref aX)]))
  refine own_jst S0 AX (by decide) (Nat.le_of_ble_eq_true rfl) d3_15 (Or.inl (List.mem_of_getElem? (i := 0) rfl)) (fun T2 h2 S2 W2 A2 => ?_)
  have V3 : own_A Z h2 aX .long [(.long (9223372036854775807 : Int64)), (.long (0 : Int64)), (.long (0 : Int64)), (.long (0 : Int64))] := A2
  show own_F p e below s Z _ _ _ _ _ (T2.setTop (mkF m 16 #[.val (.ref aX), .val (.long (9223372036854775807 : Int64)), .second, .val (.int 0), .val (.int 4)] []))
  refine own_F.of (fun _ => XS.iinc S2.here S2.hx rfl (S2.dec d3_16) rfl (l' := #[.val (.ref aX), .val (.long (9223372036854775807 : Int64)), .second, .val (.int 1), .val (.int 4)]) rfl) ?_
  show own_F p e below s Z _ _ _ _ _ (T2.setTop (mkF m 19 #[.val (.ref aX), .val (.long (9223372036854775807 : Int64)), .second, .val (.int 1), .val (.int 4)] []))
  refine own_F.of (fun _ => XS.goto S2.here S2.hx rfl (pc0 := 19) (pc' := 6) rfl (S2.dec d3_19) (by decide) (by decide)) ?_
  show own_F p e below s Z _ _ _ _ _ (T2.setTop (mkF m 6 #[.val (.ref aX), .val (.long (9223372036854775807 : Int64)), .second, .val (.int 1), .val (.int 4)] []))
  refine own_F.of (fun _ => XS.iloadN S2.here S2.hx rfl (S2.dec d3_6) rfl) ?_
  refine own_F.of (fun _ => XS.iload S2.here S2.hx rfl (S2.dec d3_7) rfl) ?_
  show own_F p e below s Z _ _ _ _ _ (T2.setTop (mkF m 9 #[.val (.ref aX), .val (.long (9223372036854775807 : Int64)), .second, .val (.int 1), .val (.int 4)] [(.int 4), (.int 1)]))
  refine own_icmp S2 22 d3_9 (by decide) (by decide) (fun (hc9_4 : ¬ ((1 : Int32) < (4 : Int32))) => False.elim (absurd hc9_4 (by decide))) (fun (hc9_4 : (1 : Int32) < (4 : Int32)) => ?_)
  show own_F p e below s Z _ _ _ _ _ (T2.setTop (mkF m 12 #[.val (.ref aX), .val (.long (9223372036854775807 : Int64)), .second, .val (.int 1), .val (.int 4)] []))
  refine own_F.of (fun _ => XS.aloadN S2.here S2.hx rfl (S2.dec d3_12) rfl rfl) ?_
  refine own_F.of (fun _ => XS.iloadN S2.here S2.hx rfl (S2.dec d3_13) rfl) ?_
  refine own_F.of (fun _ => XS.lloadN S2.here S2.hx rfl (S2.dec d3_14) rfl) ?_
  show own_F p e below s Z _ _ _ _ _ (T2.setTop (mkF m 15 #[.val (.ref aX), .val (.long (9223372036854775807 : Int64)), .second, .val (.int 1), .val (.int 4)] [(.long (9223372036854775807 : Int64)), (.int 1), (.ref aX)]))
  refine own_jst S2 V3 (by decide) (Nat.le_of_ble_eq_true rfl) d3_15 (Or.inl (List.mem_of_getElem? (i := 0) rfl)) (fun T5 h5 S5 W5 A5 => ?_)
  have V6 : own_A Z h5 aX .long [(.long (9223372036854775807 : Int64)), (.long (9223372036854775807 : Int64)), (.long (0 : Int64)), (.long (0 : Int64))] := A5
  show own_F p e below s Z _ _ _ _ _ (T5.setTop (mkF m 16 #[.val (.ref aX), .val (.long (9223372036854775807 : Int64)), .second, .val (.int 1), .val (.int 4)] []))
  refine own_F.of (fun _ => XS.iinc S5.here S5.hx rfl (S5.dec d3_16) rfl (l' := #[.val (.ref aX), .val (.long (9223372036854775807 : Int64)), .second, .val (.int 2), .val (.int 4)]) rfl) ?_
  show own_F p e below s Z _ _ _ _ _ (T5.setTop (mkF m 19 #[.val (.ref aX), .val (.long (9223372036854775807 : Int64)), .second, .val (.int 2), .val (.int 4)] []))
  refine own_F.of (fun _ => XS.goto S5.here S5.hx rfl (pc0 := 19) (pc' := 6) rfl (S5.dec d3_19) (by decide) (by decide)) ?_
  show own_F p e below s Z _ _ _ _ _ (T5.setTop (mkF m 6 #[.val (.ref aX), .val (.long (9223372036854775807 : Int64)), .second, .val (.int 2), .val (.int 4)] []))
  refine own_F.of (fun _ => XS.iloadN S5.here S5.hx rfl (S5.dec d3_6) rfl) ?_
  refine own_F.of (fun _ => XS.iload S5.here S5.hx rfl (S5.dec d3_7) rfl) ?_
  show own_F p e below s Z _ _ _ _ _ (T5.setTop (mkF m 9 #[.val (.ref aX), .val (.long (9223372036854775807 : Int64)), .second, .val (.int 2), .val (.int 4)] [(.int 4), (.int 2)]))
  refine own_icmp S5 22 d3_9 (by decide) (by decide) (fun (hc9_7 : ¬ ((2 : Int32) < (4 : Int32))) => False.elim (absurd hc9_7 (by decide))) (fun (hc9_7 : (2 : Int32) < (4 : Int32)) => ?_)
  show own_F p e below s Z _ _ _ _ _ (T5.setTop (mkF m 12 #[.val (.ref aX), .val (.long (9223372036854775807 : Int64)), .second, .val (.int 2), .val (.int 4)] []))
  refine own_F.of (fun _ => XS.aloadN S5.here S5.hx rfl (S5.dec d3_12) rfl rfl) ?_
  refine own_F.of (fun _ => XS.iloadN S5.here S5.hx rfl (S5.dec d3_13) rfl) ?_
  refine own_F.of (fun _ => XS.lloadN S5.here S5.hx rfl (S5.dec d3_14) rfl) ?_
  show own_F p e below s Z _ _ _ _ _ (T5.setTop (mkF m 15 #[.val (.ref aX), .val (.long (9223372036854775807 : Int64)), .second, .val (.int 2), .val (.int 4)] [(.long (9223372036854775807 : Int64)), (.int 2), (.ref aX)]))
  refine own_jst S5 V6 (by decide) (Nat.le_of_ble_eq_true rfl) d3_15 (Or.inl (List.mem_of_getElem? (i := 0) rfl)) (fun T8 h8 S8 W8 A8 => ?_)
  have V9 : own_A Z h8 aX .long [(.long (9223372036854775807 : Int64)), (.long (9223372036854775807 : Int64)), (.long (9223372036854775807 : Int64)), (.long (0 : Int64))] := A8
  show own_F p e below s Z _ _ _ _ _ (T8.setTop (mkF m 16 #[.val (.ref aX), .val (.long (9223372036854775807 : Int64)), .second, .val (.int 2), .val (.int 4)] []))
  refine own_F.of (fun _ => XS.iinc S8.here S8.hx rfl (S8.dec d3_16) rfl (l' := #[.val (.ref aX), .val (.long (9223372036854775807 : Int64)), .second, .val (.int 3), .val (.int 4)]) rfl) ?_
  show own_F p e below s Z _ _ _ _ _ (T8.setTop (mkF m 19 #[.val (.ref aX), .val (.long (9223372036854775807 : Int64)), .second, .val (.int 3), .val (.int 4)] []))
  refine own_F.of (fun _ => XS.goto S8.here S8.hx rfl (pc0 := 19) (pc' := 6) rfl (S8.dec d3_19) (by decide) (by decide)) ?_
  show own_F p e below s Z _ _ _ _ _ (T8.setTop (mkF m 6 #[.val (.ref aX), .val (.long (9223372036854775807 : Int64)), .second, .val (.int 3), .val (.int 4)] []))
  refine own_F.of (fun _ => XS.iloadN S8.here S8.hx rfl (S8.dec d3_6) rfl) ?_
  refine own_F.of (fun _ => XS.iload S8.here S8.hx rfl (S8.dec d3_7) rfl) ?_
  show own_F p e below s Z _ _ _ _ _ (T8.setTop (mkF m 9 #[.val (.ref aX), .val (.long (9223372036854775807 : Int64)), .second, .val (.int 3), .val (.int 4)] [(.int 4), (.int 3)]))
  refine own_icmp S8 22 d3_9 (by decide) (by decide) (fun (hc9_10 : ¬ ((3 : Int32) < (4 : Int32))) => False.elim (absurd hc9_10 (by decide))) (fun (hc9_10 : (3 : Int32) < (4 : Int32)) => ?_)
  show own_F p e below s Z _ _ _ _ _ (T8.setTop (mkF m 12 #[.val (.ref aX), .val (.long (9223372036854775807 : Int64)), .second, .val (.int 3), .val (.int 4)] []))
  refine own_F.of (fun _ => XS.aloadN S8.here S8.hx rfl (S8.dec d3_12) rfl rfl) ?_
  refine own_F.of (fun _ => XS.iloadN S8.here S8.hx rfl (S8.dec d3_13) rfl) ?_
  refine own_F.of (fun _ => XS.lloadN S8.here S8.hx rfl (S8.dec d3_14) rfl) ?_
  show own_F p e below s Z _ _ _ _ _ (T8.setTop (mkF m 15 #[.val (.ref aX), .val (.long (9223372036854775807 : Int64)), .second, .val (.int 3), .val (.int 4)] [(.long (9223372036854775807 : Int64)), (.int 3), (.ref aX)]))
  refine own_jst S8 V9 (by decide) (Nat.le_of_ble_eq_true rfl) d3_15 (Or.inl (List.mem_of_getElem? (i := 0) rfl)) (fun T11 h11 S11 W11 A11 => ?_)
  have V12 : own_A Z h11 aX .long [(.long (9223372036854775807 : Int64)), (.long (9223372036854775807 : Int64)), (.long (9223372036854775807 : Int64)), (.long (9223372036854775807 : Int64))] := A11
  show own_F p e below s Z _ _ _ _ _ (T11.setTop (mkF m 16 #[.val (.ref aX), .val (.long (9223372036854775807 : Int64)), .second, .val (.int 3), .val (.int 4)] []))
  refine own_F.of (fun _ => XS.iinc S11.here S11.hx rfl (S11.dec d3_16) rfl (l' := #[.val (.ref aX), .val (.long (9223372036854775807 : Int64)), .second, .val (.int 4), .val (.int 4)]) rfl) ?_
  show own_F p e below s Z _ _ _ _ _ (T11.setTop (mkF m 19 #[.val (.ref aX), .val (.long (9223372036854775807 : Int64)), .second, .val (.int 4), .val (.int 4)] []))
  refine own_F.of (fun _ => XS.goto S11.here S11.hx rfl (pc0 := 19) (pc' := 6) rfl (S11.dec d3_19) (by decide) (by decide)) ?_
  show own_F p e below s Z _ _ _ _ _ (T11.setTop (mkF m 6 #[.val (.ref aX), .val (.long (9223372036854775807 : Int64)), .second, .val (.int 4), .val (.int 4)] []))
  refine own_F.of (fun _ => XS.iloadN S11.here S11.hx rfl (S11.dec d3_6) rfl) ?_
  refine own_F.of (fun _ => XS.iload S11.here S11.hx rfl (S11.dec d3_7) rfl) ?_
  show own_F p e below s Z _ _ _ _ _ (T11.setTop (mkF m 9 #[.val (.ref aX), .val (.long (9223372036854775807 : Int64)), .second, .val (.int 4), .val (.int 4)] [(.int 4), (.int 4)]))
  refine own_icmp S11 22 d3_9 (by decide) (by decide) (fun (hc9_13 : ¬ ((4 : Int32) < (4 : Int32))) => ?_) (fun (hc9_13 : (4 : Int32) < (4 : Int32)) => False.elim (absurd hc9_13 (by decide)))
  show own_F p e below s Z _ _ _ _ _ (T11.setTop (mkF m 22 #[.val (.ref aX), .val (.long (9223372036854775807 : Int64)), .second, .val (.int 4), .val (.int 4)] []))
  refine own_retV S11 d3_22 (by decide) (by decide) ?_
  exact ⟨rfl, V12⟩
theorem d5_0 : decode method_3_code 0 = .ok (.iload_n 1, 1) := by decide +kernel
theorem d5_1 : decode method_3_code 1 = .ok (.iload_n 2, 1) := by decide +kernel
theorem d5_2 : decode method_3_code 2 = .ok (.if_icmp .ne 5, 3) := by decide +kernel
theorem d5_5 : decode method_3_code 5 = .ok (.lconst 0, 1) := by decide +kernel
theorem d5_6 : decode method_3_code 6 = .ok (.lreturn, 1) := by decide +kernel
theorem d5_7 : decode method_3_code 7 = .ok (.iload_n 1, 1) := by decide +kernel
theorem d5_8 : decode method_3_code 8 = .ok (.ifCond .eq 11, 3) := by decide +kernel
theorem d5_11 : decode method_3_code 11 = .ok (.iload_n 2, 1) := by decide +kernel
theorem d5_12 : decode method_3_code 12 = .ok (.ifCond .eq 7, 3) := by decide +kernel
theorem d5_15 : decode method_3_code 15 = .ok (.iconst 0, 1) := by decide +kernel
theorem d5_16 : decode method_3_code 16 = .ok (.goto 18, 3) := by decide +kernel
theorem d5_19 : decode method_3_code 19 = .ok (.iload_n 1, 1) := by decide +kernel
theorem d5_20 : decode method_3_code 20 = .ok (.iconst 1, 1) := by decide +kernel
theorem d5_21 : decode method_3_code 21 = .ok (.if_icmp .eq 12, 3) := by decide +kernel
theorem d5_24 : decode method_3_code 24 = .ok (.iload_n 2, 1) := by decide +kernel
theorem d5_25 : decode method_3_code 25 = .ok (.iconst 1, 1) := by decide +kernel
theorem d5_26 : decode method_3_code 26 = .ok (.if_icmp .eq 7, 3) := by decide +kernel
theorem d5_29 : decode method_3_code 29 = .ok (.iconst 1, 1) := by decide +kernel
theorem d5_30 : decode method_3_code 30 = .ok (.goto 4, 3) := by decide +kernel
theorem d5_33 : decode method_3_code 33 = .ok (.iconst 2, 1) := by decide +kernel
theorem d5_34 : decode method_3_code 34 = .ok (.istore_n 3, 1) := by decide +kernel
theorem d5_35 : decode method_3_code 35 = .ok (.bipush 6, 2) := by decide +kernel
theorem d5_37 : decode method_3_code 37 = .ok (.iload_n 1, 1) := by decide +kernel
theorem d5_38 : decode method_3_code 38 = .ok (.isub, 1) := by decide +kernel
theorem d5_39 : decode method_3_code 39 = .ok (.iload_n 2, 1) := by decide +kernel
theorem d5_40 : decode method_3_code 40 = .ok (.isub, 1) := by decide +kernel
theorem d5_41 : decode method_3_code 41 = .ok (.iload_n 3, 1) := by decide +kernel
theorem d5_42 : decode method_3_code 42 = .ok (.isub, 1) := by decide +kernel
theorem d5_43 : decode method_3_code 43 = .ok (.istore 4, 2) := by decide +kernel
theorem d5_45 : decode method_3_code 45 = .ok (.aload_n 0, 1) := by decide +kernel
theorem d5_46 : decode method_3_code 46 = .ok (.iload_n 1, 1) := by decide +kernel
theorem d5_47 : decode method_3_code 47 = .ok (.iconst 4, 1) := by decide +kernel
theorem d5_48 : decode method_3_code 48 = .ok (.imul, 1) := by decide +kernel
theorem d5_49 : decode method_3_code 49 = .ok (.iload_n 2, 1) := by decide +kernel
theorem d5_50 : decode method_3_code 50 = .ok (.iadd, 1) := by decide +kernel
theorem d5_51 : decode method_3_code 51 = .ok (.laload, 1) := by decide +kernel
theorem d5_52 : decode method_3_code 52 = .ok (.lstore 5, 2) := by decide +kernel
theorem d5_54 : decode method_3_code 54 = .ok (.lload 5, 2) := by decide +kernel
theorem d5_56 : decode method_3_code 56 = .ok (.aload_n 0, 1) := by decide +kernel
theorem d5_57 : decode method_3_code 57 = .ok (.iload_n 1, 1) := by decide +kernel
theorem d5_58 : decode method_3_code 58 = .ok (.iconst 4, 1) := by decide +kernel
theorem d5_59 : decode method_3_code 59 = .ok (.imul, 1) := by decide +kernel
theorem d5_60 : decode method_3_code 60 = .ok (.iload_n 3, 1) := by decide +kernel
theorem d5_61 : decode method_3_code 61 = .ok (.iadd, 1) := by decide +kernel
theorem d5_62 : decode method_3_code 62 = .ok (.laload, 1) := by decide +kernel
theorem d5_63 : decode method_3_code 63 = .ok (.aload_n 0, 1) := by decide +kernel
theorem d5_64 : decode method_3_code 64 = .ok (.iload_n 3, 1) := by decide +kernel
theorem d5_65 : decode method_3_code 65 = .ok (.iconst 4, 1) := by decide +kernel
theorem d5_66 : decode method_3_code 66 = .ok (.imul, 1) := by decide +kernel
theorem d5_67 : decode method_3_code 67 = .ok (.iload_n 2, 1) := by decide +kernel
theorem d5_68 : decode method_3_code 68 = .ok (.iadd, 1) := by decide +kernel
theorem d5_69 : decode method_3_code 69 = .ok (.laload, 1) := by decide +kernel
theorem d5_70 : decode method_3_code 70 = .ok (.invokestatic 11, 3) := by decide +kernel
theorem d5_73 : decode method_3_code 73 = .ok (.invokestatic 17, 3) := by decide +kernel
theorem d5_76 : decode method_3_code 76 = .ok (.lstore 5, 2) := by decide +kernel
theorem d5_78 : decode method_3_code 78 = .ok (.lload 5, 2) := by decide +kernel
theorem d5_80 : decode method_3_code 80 = .ok (.aload_n 0, 1) := by decide +kernel
theorem d5_81 : decode method_3_code 81 = .ok (.iload_n 1, 1) := by decide +kernel
theorem d5_82 : decode method_3_code 82 = .ok (.iconst 4, 1) := by decide +kernel
theorem d5_83 : decode method_3_code 83 = .ok (.imul, 1) := by decide +kernel
theorem d5_84 : decode method_3_code 84 = .ok (.iload 4, 2) := by decide +kernel
theorem d5_86 : decode method_3_code 86 = .ok (.iadd, 1) := by decide +kernel
theorem d5_87 : decode method_3_code 87 = .ok (.laload, 1) := by decide +kernel
theorem d5_88 : decode method_3_code 88 = .ok (.aload_n 0, 1) := by decide +kernel
theorem d5_89 : decode method_3_code 89 = .ok (.iload 4, 2) := by decide +kernel
theorem d5_91 : decode method_3_code 91 = .ok (.iconst 4, 1) := by decide +kernel
theorem d5_92 : decode method_3_code 92 = .ok (.imul, 1) := by decide +kernel
theorem d5_93 : decode method_3_code 93 = .ok (.iload_n 2, 1) := by decide +kernel
theorem d5_94 : decode method_3_code 94 = .ok (.iadd, 1) := by decide +kernel
theorem d5_95 : decode method_3_code 95 = .ok (.laload, 1) := by decide +kernel
theorem d5_96 : decode method_3_code 96 = .ok (.invokestatic 11, 3) := by decide +kernel
theorem d5_99 : decode method_3_code 99 = .ok (.invokestatic 17, 3) := by decide +kernel
theorem d5_102 : decode method_3_code 102 = .ok (.lstore 5, 2) := by decide +kernel
theorem d5_104 : decode method_3_code 104 = .ok (.lload 5, 2) := by decide +kernel
theorem d5_106 : decode method_3_code 106 = .ok (.aload_n 0, 1) := by decide +kernel
theorem d5_107 : decode method_3_code 107 = .ok (.iload_n 1, 1) := by decide +kernel
theorem d5_108 : decode method_3_code 108 = .ok (.iconst 4, 1) := by decide +kernel
theorem d5_109 : decode method_3_code 109 = .ok (.imul, 1) := by decide +kernel
theorem d5_110 : decode method_3_code 110 = .ok (.iload_n 3, 1) := by decide +kernel
theorem d5_111 : decode method_3_code 111 = .ok (.iadd, 1) := by decide +kernel
theorem d5_112 : decode method_3_code 112 = .ok (.laload, 1) := by decide +kernel
theorem d5_113 : decode method_3_code 113 = .ok (.aload_n 0, 1) := by decide +kernel
theorem d5_114 : decode method_3_code 114 = .ok (.iload_n 3, 1) := by decide +kernel
theorem d5_115 : decode method_3_code 115 = .ok (.iconst 4, 1) := by decide +kernel
theorem d5_116 : decode method_3_code 116 = .ok (.imul, 1) := by decide +kernel
theorem d5_117 : decode method_3_code 117 = .ok (.iload 4, 2) := by decide +kernel
theorem d5_119 : decode method_3_code 119 = .ok (.iadd, 1) := by decide +kernel
theorem d5_120 : decode method_3_code 120 = .ok (.laload, 1) := by decide +kernel
theorem d5_121 : decode method_3_code 121 = .ok (.invokestatic 11, 3) := by decide +kernel
theorem d5_124 : decode method_3_code 124 = .ok (.aload_n 0, 1) := by decide +kernel
theorem d5_125 : decode method_3_code 125 = .ok (.iload 4, 2) := by decide +kernel
theorem d5_127 : decode method_3_code 127 = .ok (.iconst 4, 1) := by decide +kernel
theorem d5_128 : decode method_3_code 128 = .ok (.imul, 1) := by decide +kernel
theorem d5_129 : decode method_3_code 129 = .ok (.iload_n 2, 1) := by decide +kernel
theorem d5_130 : decode method_3_code 130 = .ok (.iadd, 1) := by decide +kernel
theorem d5_131 : decode method_3_code 131 = .ok (.laload, 1) := by decide +kernel
theorem d5_132 : decode method_3_code 132 = .ok (.invokestatic 11, 3) := by decide +kernel
theorem d5_135 : decode method_3_code 135 = .ok (.invokestatic 17, 3) := by decide +kernel
theorem d5_138 : decode method_3_code 138 = .ok (.lstore 5, 2) := by decide +kernel
theorem d5_140 : decode method_3_code 140 = .ok (.lload 5, 2) := by decide +kernel
theorem d5_142 : decode method_3_code 142 = .ok (.aload_n 0, 1) := by decide +kernel
theorem d5_143 : decode method_3_code 143 = .ok (.iload_n 1, 1) := by decide +kernel
theorem d5_144 : decode method_3_code 144 = .ok (.iconst 4, 1) := by decide +kernel
theorem d5_145 : decode method_3_code 145 = .ok (.imul, 1) := by decide +kernel
theorem d5_146 : decode method_3_code 146 = .ok (.iload 4, 2) := by decide +kernel
theorem d5_148 : decode method_3_code 148 = .ok (.iadd, 1) := by decide +kernel
theorem d5_149 : decode method_3_code 149 = .ok (.laload, 1) := by decide +kernel
theorem d5_150 : decode method_3_code 150 = .ok (.aload_n 0, 1) := by decide +kernel
theorem d5_151 : decode method_3_code 151 = .ok (.iload 4, 2) := by decide +kernel
theorem d5_153 : decode method_3_code 153 = .ok (.iconst 4, 1) := by decide +kernel
theorem d5_154 : decode method_3_code 154 = .ok (.imul, 1) := by decide +kernel
theorem d5_155 : decode method_3_code 155 = .ok (.iload_n 3, 1) := by decide +kernel
theorem d5_156 : decode method_3_code 156 = .ok (.iadd, 1) := by decide +kernel
theorem d5_157 : decode method_3_code 157 = .ok (.laload, 1) := by decide +kernel
theorem d5_158 : decode method_3_code 158 = .ok (.invokestatic 11, 3) := by decide +kernel
theorem d5_161 : decode method_3_code 161 = .ok (.aload_n 0, 1) := by decide +kernel
theorem d5_162 : decode method_3_code 162 = .ok (.iload_n 3, 1) := by decide +kernel
theorem d5_163 : decode method_3_code 163 = .ok (.iconst 4, 1) := by decide +kernel
theorem d5_164 : decode method_3_code 164 = .ok (.imul, 1) := by decide +kernel
theorem d5_165 : decode method_3_code 165 = .ok (.iload_n 2, 1) := by decide +kernel
theorem d5_166 : decode method_3_code 166 = .ok (.iadd, 1) := by decide +kernel
theorem d5_167 : decode method_3_code 167 = .ok (.laload, 1) := by decide +kernel
theorem d5_168 : decode method_3_code 168 = .ok (.invokestatic 11, 3) := by decide +kernel
theorem d5_171 : decode method_3_code 171 = .ok (.invokestatic 17, 3) := by decide +kernel
theorem d5_174 : decode method_3_code 174 = .ok (.lstore 5, 2) := by decide +kernel
theorem d5_176 : decode method_3_code 176 = .ok (.lload 5, 2) := by decide +kernel
theorem d5_178 : decode method_3_code 178 = .ok (.lreturn, 1) := by decide +kernel
theorem pn5 : plainFor (⟨"com/example/slackweave/slackweave/generate/TightestBoundsAddPinLaw", "dist", "([JII)J"⟩ : MethodName) = true := plainFor_of_name (by first | (simp [plainName, overriddenIn]; done) | decide +kernel)
set_option maxRecDepth 65536 in
set_option maxHeartbeats 40000000 in
theorem own_dist (l : Launch) (Z : State) (a0 : Array Value) (hw : ∀ d ∈ tables_1, d.before a0 Z = true) (aW : Addr) (Wm : Nat → Nat → Int64) (iN jN : Nat) (hi : iN < 4) (hj : jN < 4) (h0 : Heap) (hO : Ext Z.heap h0) (A : own_A Z h0 aW .long (own_w16 Wm)) :
    own_C l Z (⟨"com/example/slackweave/slackweave/generate/TightestBoundsAddPinLaw", "dist", "([JII)J"⟩ : MethodName) method_3_code 7 (some .long) [] ({ frames := 1, cells := 0, slots := 0, locals := 40 } : Room) [] #[(.ref aW), (.int iN.toInt32), (.int jN.toInt32)] h0 (fun v h => v = some (.long (own_dst Wm iN jN)) ∧ h0 = h) := by
  refine own_C.of pn5 hO all0 ?_
  intro p e s m below meth c T0 S0
  refine own_F.cast (by first | (simp [entryFrame, mkF, argsToLocals, Value.category]; done) | rfl : entryFrame m #[(.ref aW), (.int iN.toInt32), (.int jN.toInt32)] 7 = mkF m 0 #[.val (.ref aW), .val (.int iN.toInt32), .val (.int jN.toInt32), .unset, .unset, .unset, .unset] []) ?_
  have J45 : ∀ (TJ : State) (SJ : own_S Z h0 [] (⟨"com/example/slackweave/slackweave/generate/TightestBoundsAddPinLaw", "dist", "([JII)J"⟩ : MethodName).cls method_3_code 7 (some .long) (⟨"com/example/slackweave/slackweave/generate/TightestBoundsAddPinLaw", "dist", "([JII)J"⟩ : MethodName).name p l e ({ frames := 1, cells := 0, slots := 0, locals := 40 } : Room) s m #[.ref aW, .int iN.toInt32, .int jN.toInt32] below meth c TJ h0 0 0) (kN lN : Nat), kN < 4 → lN < 4 → own_d5 Wm iN jN kN lN = own_dst Wm iN jN → own_F p e below s Z h0 [] ({ frames := 1, cells := 0, slots := 0, locals := 40 } : Room).cells ({ frames := 1, cells := 0, slots := 0, locals := 40 } : Room).slots (fun v h => v = some (.long (own_dst Wm iN jN)) ∧ h0 = h) (TJ.setTop (mkF m 45 #[.val (.ref aW), .val (.int iN.toInt32), .val (.int jN.toInt32), .val (.int kN.toInt32), .val (.int lN.toInt32), .unset, .unset] [])) := by
    intro TJ SJ kN lN hk hl heq
    show own_F p e below s Z _ _ _ _ _ (TJ.setTop (mkF m 45 #[.val (.ref aW), .val (.int iN.toInt32), .val (.int jN.toInt32), .val (.int kN.toInt32), .val (.int lN.toInt32), .unset, .unset] []))
    refine own_F.of (fun _ => XS.aloadN SJ.here SJ.hx rfl (SJ.dec d5_45) rfl rfl) ?_
    refine own_F.of (fun _ => XS.iloadN SJ.here SJ.hx rfl (SJ.dec d5_46) rfl) ?_
    refine own_F.of (fun _ => XS.iconst SJ.here SJ.hx rfl (SJ.dec d5_47)) ?_
    show own_F p e below s Z _ _ _ _ _ (TJ.setTop (mkF m 48 #[.val (.ref aW), .val (.int iN.toInt32), .val (.int jN.toInt32), .val (.int kN.toInt32), .val (.int lN.toInt32), .unset, .unset] [(.int 4), (.int iN.toInt32), (.ref aW)]))
    refine own_F.of (fun _ => XS.imul SJ.here SJ.hx rfl (SJ.dec d5_48) rfl) ?_
    show own_F p e below s Z _ _ _ _ _ (TJ.setTop (mkF m 49 #[.val (.ref aW), .val (.int iN.toInt32), .val (.int jN.toInt32), .val (.int kN.toInt32), .val (.int lN.toInt32), .unset, .unset] [(.int (iN.toInt32 * (4 : Int32))), (.ref aW)]))
    refine own_F.of (fun _ => XS.iloadN SJ.here SJ.hx rfl (SJ.dec d5_49) rfl) ?_
    show own_F p e below s Z _ _ _ _ _ (TJ.setTop (mkF m 50 #[.val (.ref aW), .val (.int iN.toInt32), .val (.int jN.toInt32), .val (.int kN.toInt32), .val (.int lN.toInt32), .unset, .unset] [(.int jN.toInt32), (.int (iN.toInt32 * (4 : Int32))), (.ref aW)]))
    refine own_F.of (fun _ => XS.iadd SJ.here SJ.hx rfl (SJ.dec d5_50) rfl) ?_
    show own_F p e below s Z _ _ _ _ _ (TJ.setTop (mkF m 51 #[.val (.ref aW), .val (.int iN.toInt32), .val (.int jN.toInt32), .val (.int kN.toInt32), .val (.int lN.toInt32), .unset, .unset] [(.int ((iN.toInt32 * (4 : Int32)) + jN.toInt32)), (.ref aW)]))
    refine own_lald SJ A (by rw [own_ix hi hj]; exact (own_n4 (by omega)).2.1) (by rw [own_ix hi hj, (own_n4 (by omega)).1]; exact own_w16_at hi hj) d5_51 ?_
    show own_F p e below s Z _ _ _ _ _ (TJ.setTop (mkF m 52 #[.val (.ref aW), .val (.int iN.toInt32), .val (.int jN.toInt32), .val (.int kN.toInt32), .val (.int lN.toInt32), .unset, .unset] [(.long (Wm iN jN))]))
    refine own_F.of (fun _ => XS.lstore SJ.here SJ.hx rfl (SJ.dec d5_52) rfl (l' := #[.val (.ref aW), .val (.int iN.toInt32), .val (.int jN.toInt32), .val (.int kN.toInt32), .val (.int lN.toInt32), .val (.long (Wm iN jN)), .second]) rfl) ?_
    refine own_F.of (fun _ => XS.lload SJ.here SJ.hx rfl (SJ.dec d5_54) rfl) ?_
    refine own_F.of (fun _ => XS.aloadN SJ.here SJ.hx rfl (SJ.dec d5_56) rfl rfl) ?_
    refine own_F.of (fun _ => XS.iloadN SJ.here SJ.hx rfl (SJ.dec d5_57) rfl) ?_
    refine own_F.of (fun _ => XS.iconst SJ.here SJ.hx rfl (SJ.dec d5_58)) ?_
    show own_F p e below s Z _ _ _ _ _ (TJ.setTop (mkF m 59 #[.val (.ref aW), .val (.int iN.toInt32), .val (.int jN.toInt32), .val (.int kN.toInt32), .val (.int lN.toInt32), .val (.long (Wm iN jN)), .second] [(.int 4), (.int iN.toInt32), (.ref aW), (.long (Wm iN jN))]))
    refine own_F.of (fun _ => XS.imul SJ.here SJ.hx rfl (SJ.dec d5_59) rfl) ?_
    show own_F p e below s Z _ _ _ _ _ (TJ.setTop (mkF m 60 #[.val (.ref aW), .val (.int iN.toInt32), .val (.int jN.toInt32), .val (.int kN.toInt32), .val (.int lN.toInt32), .val (.long (Wm iN jN)), .second] [(.int (iN.toInt32 * (4 : Int32))), (.ref aW), (.long (Wm iN jN))]))
    refine own_F.of (fun _ => XS.iloadN SJ.here SJ.hx rfl (SJ.dec d5_60) rfl) ?_
    show own_F p e below s Z _ _ _ _ _ (TJ.setTop (mkF m 61 #[.val (.ref aW), .val (.int iN.toInt32), .val (.int jN.toInt32), .val (.int kN.toInt32), .val (.int lN.toInt32), .val (.long (Wm iN jN)), .second] [(.int kN.toInt32), (.int (iN.toInt32 * (4 : Int32))), (.ref aW), (.long (Wm iN jN))]))
    refine own_F.of (fun _ => XS.iadd SJ.here SJ.hx rfl (SJ.dec d5_61) rfl) ?_
    show own_F p e below s Z _ _ _ _ _ (TJ.setTop (mkF m 62 #[.val (.ref aW), .val (.int iN.toInt32), .val (.int jN.toInt32), .val (.int kN.toInt32), .val (.int lN.toInt32), .val (.long (Wm iN jN)), .second] [(.int ((iN.toInt32 * (4 : Int32)) + kN.toInt32)), (.ref aW), (.long (Wm iN jN))]))
    refine own_lald SJ A (by rw [own_ix hi hk]; exact (own_n4 (by omega)).2.1) (by rw [own_ix hi hk, (own_n4 (by omega)).1]; exact own_w16_at hi hk) d5_62 ?_
    show own_F p e below s Z _ _ _ _ _ (TJ.setTop (mkF m 63 #[.val (.ref aW), .val (.int iN.toInt32), .val (.int jN.toInt32), .val (.int kN.toInt32), .val (.int lN.toInt32), .val (.long (Wm iN jN)), .second] [(.long (Wm iN kN)), (.long (Wm iN jN))]))
    refine own_F.of (fun _ => XS.aloadN SJ.here SJ.hx rfl (SJ.dec d5_63) rfl rfl) ?_
    refine own_F.of (fun _ => XS.iloadN SJ.here SJ.hx rfl (SJ.dec d5_64) rfl) ?_
    refine own_F.of (fun _ => XS.iconst SJ.here SJ.hx rfl (SJ.dec d5_65)) ?_
    show own_F p e below s Z _ _ _ _ _ (TJ.setTop (mkF m 66 #[.val (.ref aW), .val (.int iN.toInt32), .val (.int jN.toInt32), .val (.int kN.toInt32), .val (.int lN.toInt32), .val (.long (Wm iN jN)), .second] [(.int 4), (.int kN.toInt32), (.ref aW), (.long (Wm iN kN)), (.long (Wm iN jN))]))
    refine own_F.of (fun _ => XS.imul SJ.here SJ.hx rfl (SJ.dec d5_66) rfl) ?_
    show own_F p e below s Z _ _ _ _ _ (TJ.setTop (mkF m 67 #[.val (.ref aW), .val (.int iN.toInt32), .val (.int jN.toInt32), .val (.int kN.toInt32), .val (.int lN.toInt32), .val (.long (Wm iN jN)), .second] [(.int (kN.toInt32 * (4 : Int32))), (.ref aW), (.long (Wm iN kN)), (.long (Wm iN jN))]))
    refine own_F.of (fun _ => XS.iloadN SJ.here SJ.hx rfl (SJ.dec d5_67) rfl) ?_
    show own_F p e below s Z _ _ _ _ _ (TJ.setTop (mkF m 68 #[.val (.ref aW), .val (.int iN.toInt32), .val (.int jN.toInt32), .val (.int kN.toInt32), .val (.int lN.toInt32), .val (.long (Wm iN jN)), .second] [(.int jN.toInt32), (.int (kN.toInt32 * (4 : Int32))), (.ref aW), (.long (Wm iN kN)), (.long (Wm iN jN))]))
    refine own_F.of (fun _ => XS.iadd SJ.here SJ.hx rfl (SJ.dec d5_68) rfl) ?_
    show own_F p e below s Z _ _ _ _ _ (TJ.setTop (mkF m 69 #[.val (.ref aW), .val (.int iN.toInt32), .val (.int jN.toInt32), .val (.int kN.toInt32), .val (.int lN.toInt32), .val (.long (Wm iN jN)), .second] [(.int ((kN.toInt32 * (4 : Int32)) + jN.toInt32)), (.ref aW), (.long (Wm iN kN)), (.long (Wm iN jN))]))
    refine own_lald SJ A (by rw [own_ix hk hj]; exact (own_n4 (by omega)).2.1) (by rw [own_ix hk hj, (own_n4 (by omega)).1]; exact own_w16_at hk hj) d5_69 ?_
    show own_F p e below s Z _ _ _ _ _ (TJ.setTop (mkF m 70 #[.val (.ref aW), .val (.int iN.toInt32), .val (.int jN.toInt32), .val (.int kN.toInt32), .val (.int lN.toInt32), .val (.long (Wm iN jN)), .second] [(.long (Wm kN jN)), (.long (Wm iN kN)), (.long (Wm iN jN))]))
    refine own_callS SJ (y := (⟨"com/example/slackweave/slackweave/generate/TightestBoundsAddPinLaw", "sum", "(JJ)J"⟩ : MethodName)) (own_w hw 36 rfl) (own_w hw 37 rfl) (own_w hw 23 rfl) (own_w hw 38 rfl) (by decide) (argsL := [(.long (Wm iN kN)), (.long (Wm kN jN))]) (rest := [(.long (Wm iN jN))]) (own_sumC l Z a0 hw (Wm iN kN) (Wm kN jN) h0 SJ.old) all0 (by decide +kernel : parseMethodDescriptor "(JJ)J" = some ⟨[.long, .long], some .long⟩) rfl rfl rfl d5_70 (by decide) (Nat.le_of_ble_eq_true rfl) (by decide) (by decide) (fun T1 h1 v1 S1 K1 q1 => ?_)
    obtain ⟨rfl, rfl⟩ := q1
    show own_F p e below s Z _ _ _ _ _ (T1.setTop (mkF m 73 #[.val (.ref aW), .val (.int iN.toInt32), .val (.int jN.toInt32), .val (.int kN.toInt32), .val (.int lN.toInt32), .val (.long (Wm iN jN)), .second] [(.long (own_sm (Wm iN kN) (Wm kN jN))), (.long (Wm iN jN))]))
    refine own_callS S1 (y := (⟨"java/lang/Math", "min", "(JJ)J"⟩ : MethodName)) (own_w hw 39 rfl) (own_w hw 40 rfl) (own_w hw 41 rfl) (own_w hw 42 rfl) (by decide) (argsL := [(.long (Wm iN jN)), (.long (own_sm (Wm iN kN) (Wm kN jN)))]) (rest := []) (own_minC l Z a0 hw (Wm iN jN) (own_sm (Wm iN kN) (Wm kN jN)) h0 S1.old) all0 (by decide +kernel : parseMethodDescriptor "(JJ)J" = some ⟨[.long, .long], some .long⟩) rfl rfl rfl d5_73 (by decide) (Nat.le_of_ble_eq_true rfl) (by decide) (by decide) (fun T2 h2 v2 S2 K2 q2 => ?_)
    obtain ⟨rfl, rfl⟩ := q2
    show own_F p e below s Z _ _ _ _ _ (T2.setTop (mkF m 76 #[.val (.ref aW), .val (.int iN.toInt32), .val (.int jN.toInt32), .val (.int kN.toInt32), .val (.int lN.toInt32), .val (.long (Wm iN jN)), .second] [(.long (own_mn (Wm iN jN) (own_sm (Wm iN kN) (Wm kN jN))))]))
    refine own_F.of (fun _ => XS.lstore S2.here S2.hx rfl (S2.dec d5_76) rfl (l' := #[.val (.ref aW), .val (.int iN.toInt32), .val (.int jN.toInt32), .val (.int kN.toInt32), .val (.int lN.toInt32), .val (.long (own_mn (Wm iN jN) (own_sm (Wm iN kN) (Wm kN jN)))), .second]) rfl) ?_
    refine own_F.of (fun _ => XS.lload S2.here S2.hx rfl (S2.dec d5_78) rfl) ?_
    refine own_F.of (fun _ => XS.aloadN S2.here S2.hx rfl (S2.dec d5_80) rfl rfl) ?_
    refine own_F.of (fun _ => XS.iloadN S2.here S2.hx rfl (S2.dec d5_81) rfl) ?_
    refine own_F.of (fun _ => XS.iconst S2.here S2.hx rfl (S2.dec d5_82)) ?_
    show own_F p e below s Z _ _ _ _ _ (T2.setTop (mkF m 83 #[.val (.ref aW), .val (.int iN.toInt32), .val (.int jN.toInt32), .val (.int kN.toInt32), .val (.int lN.toInt32), .val (.long (own_mn (Wm iN jN) (own_sm (Wm iN kN) (Wm kN jN)))), .second] [(.int 4), (.int iN.toInt32), (.ref aW), (.long (own_mn (Wm iN jN) (own_sm (Wm iN kN) (Wm kN jN))))]))
    refine own_F.of (fun _ => XS.imul S2.here S2.hx rfl (S2.dec d5_83) rfl) ?_
    show own_F p e below s Z _ _ _ _ _ (T2.setTop (mkF m 84 #[.val (.ref aW), .val (.int iN.toInt32), .val (.int jN.toInt32), .val (.int kN.toInt32), .val (.int lN.toInt32), .val (.long (own_mn (Wm iN jN) (own_sm (Wm iN kN) (Wm kN jN)))), .second] [(.int (iN.toInt32 * (4 : Int32))), (.ref aW), (.long (own_mn (Wm iN jN) (own_sm (Wm iN kN) (Wm kN jN))))]))
    refine own_F.of (fun _ => XS.iload S2.here S2.hx rfl (S2.dec d5_84) rfl) ?_
    show own_F p e below s Z _ _ _ _ _ (T2.setTop (mkF m 86 #[.val (.ref aW), .val (.int iN.toInt32), .val (.int jN.toInt32), .val (.int kN.toInt32), .val (.int lN.toInt32), .val (.long (own_mn (Wm iN jN) (own_sm (Wm iN kN) (Wm kN jN)))), .second] [(.int lN.toInt32), (.int (iN.toInt32 * (4 : Int32))), (.ref aW), (.long (own_mn (Wm iN jN) (own_sm (Wm iN kN) (Wm kN jN))))]))
    refine own_F.of (fun _ => XS.iadd S2.here S2.hx rfl (S2.dec d5_86) rfl) ?_
    show own_F p e below s Z _ _ _ _ _ (T2.setTop (mkF m 87 #[.val (.ref aW), .val (.int iN.toInt32), .val (.int jN.toInt32), .val (.int kN.toInt32), .val (.int lN.toInt32), .val (.long (own_mn (Wm iN jN) (own_sm (Wm iN kN) (Wm kN jN)))), .second] [(.int ((iN.toInt32 * (4 : Int32)) + lN.toInt32)), (.ref aW), (.long (own_mn (Wm iN jN) (own_sm (Wm iN kN) (Wm kN jN))))]))
    refine own_lald S2 A (by rw [own_ix hi hl]; exact (own_n4 (by omega)).2.1) (by rw [own_ix hi hl, (own_n4 (by omega)).1]; exact own_w16_at hi hl) d5_87 ?_
    show own_F p e below s Z _ _ _ _ _ (T2.setTop (mkF m 88 #[.val (.ref aW), .val (.int iN.toInt32), .val (.int jN.toInt32), .val (.int kN.toInt32), .val (.int lN.toInt32), .val (.long (own_mn (Wm iN jN) (own_sm (Wm iN kN) (Wm kN jN)))), .second] [(.long (Wm iN lN)), (.long (own_mn (Wm iN jN) (own_sm (Wm iN kN) (Wm kN jN))))]))
    refine own_F.of (fun _ => XS.aloadN S2.here S2.hx rfl (S2.dec d5_88) rfl rfl) ?_
    refine own_F.of (fun _ => XS.iload S2.here S2.hx rfl (S2.dec d5_89) rfl) ?_
    refine own_F.of (fun _ => XS.iconst S2.here S2.hx rfl (S2.dec d5_91)) ?_
    show own_F p e below s Z _ _ _ _ _ (T2.setTop (mkF m 92 #[.val (.ref aW), .val (.int iN.toInt32), .val (.int jN.toInt32), .val (.int kN.toInt32), .val (.int lN.toInt32), .val (.long (own_mn (Wm iN jN) (own_sm (Wm iN kN) (Wm kN jN)))), .second] [(.int 4), (.int lN.toInt32), (.ref aW), (.long (Wm iN lN)), (.long (own_mn (Wm iN jN) (own_sm (Wm iN kN) (Wm kN jN))))]))
    refine own_F.of (fun _ => XS.imul S2.here S2.hx rfl (S2.dec d5_92) rfl) ?_
    show own_F p e below s Z _ _ _ _ _ (T2.setTop (mkF m 93 #[.val (.ref aW), .val (.int iN.toInt32), .val (.int jN.toInt32), .val (.int kN.toInt32), .val (.int lN.toInt32), .val (.long (own_mn (Wm iN jN) (own_sm (Wm iN kN) (Wm kN jN)))), .second] [(.int (lN.toInt32 * (4 : Int32))), (.ref aW), (.long (Wm iN lN)), (.long (own_mn (Wm iN jN) (own_sm (Wm iN kN) (Wm kN jN))))]))
    refine own_F.of (fun _ => XS.iloadN S2.here S2.hx rfl (S2.dec d5_93) rfl) ?_
    show own_F p e below s Z _ _ _ _ _ (T2.setTop (mkF m 94 #[.val (.ref aW), .val (.int iN.toInt32), .val (.int jN.toInt32), .val (.int kN.toInt32), .val (.int lN.toInt32), .val (.long (own_mn (Wm iN jN) (own_sm (Wm iN kN) (Wm kN jN)))), .second] [(.int jN.toInt32), (.int (lN.toInt32 * (4 : Int32))), (.ref aW), (.long (Wm iN lN)), (.long (own_mn (Wm iN jN) (own_sm (Wm iN kN) (Wm kN jN))))]))
    refine own_F.of (fun _ => XS.iadd S2.here S2.hx rfl (S2.dec d5_94) rfl) ?_
    show own_F p e below s Z _ _ _ _ _ (T2.setTop (mkF m 95 #[.val (.ref aW), .val (.int iN.toInt32), .val (.int jN.toInt32), .val (.int kN.toInt32), .val (.int lN.toInt32), .val (.long (own_mn (Wm iN jN) (own_sm (Wm iN kN) (Wm kN jN)))), .second] [(.int ((lN.toInt32 * (4 : Int32)) + jN.toInt32)), (.ref aW), (.long (Wm iN lN)), (.long (own_mn (Wm iN jN) (own_sm (Wm iN kN) (Wm kN jN))))]))
    refine own_lald S2 A (by rw [own_ix hl hj]; exact (own_n4 (by omega)).2.1) (by rw [own_ix hl hj, (own_n4 (by omega)).1]; exact own_w16_at hl hj) d5_95 ?_
    show own_F p e below s Z _ _ _ _ _ (T2.setTop (mkF m 96 #[.val (.ref aW), .val (.int iN.toInt32), .val (.int jN.toInt32), .val (.int kN.toInt32), .val (.int lN.toInt32), .val (.long (own_mn (Wm iN jN) (own_sm (Wm iN kN) (Wm kN jN)))), .second] [(.long (Wm lN jN)), (.long (Wm iN lN)), (.long (own_mn (Wm iN jN) (own_sm (Wm iN kN) (Wm kN jN))))]))
    refine own_callS S2 (y := (⟨"com/example/slackweave/slackweave/generate/TightestBoundsAddPinLaw", "sum", "(JJ)J"⟩ : MethodName)) (own_w hw 36 rfl) (own_w hw 37 rfl) (own_w hw 23 rfl) (own_w hw 38 rfl) (by decide) (argsL := [(.long (Wm iN lN)), (.long (Wm lN jN))]) (rest := [(.long (own_mn (Wm iN jN) (own_sm (Wm iN kN) (Wm kN jN))))]) (own_sumC l Z a0 hw (Wm iN lN) (Wm lN jN) h0 S2.old) all0 (by decide +kernel : parseMethodDescriptor "(JJ)J" = some ⟨[.long, .long], some .long⟩) rfl rfl rfl d5_96 (by decide) (Nat.le_of_ble_eq_true rfl) (by decide) (by decide) (fun T3 h3 v3 S3 K3 q3 => ?_)
    obtain ⟨rfl, rfl⟩ := q3
    show own_F p e below s Z _ _ _ _ _ (T3.setTop (mkF m 99 #[.val (.ref aW), .val (.int iN.toInt32), .val (.int jN.toInt32), .val (.int kN.toInt32), .val (.int lN.toInt32), .val (.long (own_mn (Wm iN jN) (own_sm (Wm iN kN) (Wm kN jN)))), .second] [(.long (own_sm (Wm iN lN) (Wm lN jN))), (.long (own_mn (Wm iN jN) (own_sm (Wm iN kN) (Wm kN jN))))]))
    refine own_callS S3 (y := (⟨"java/lang/Math", "min", "(JJ)J"⟩ : MethodName)) (own_w hw 39 rfl) (own_w hw 40 rfl) (own_w hw 41 rfl) (own_w hw 42 rfl) (by decide) (argsL := [(.long (own_mn (Wm iN jN) (own_sm (Wm iN kN) (Wm kN jN)))), (.long (own_sm (Wm iN lN) (Wm lN jN)))]) (rest := []) (own_minC l Z a0 hw (own_mn (Wm iN jN) (own_sm (Wm iN kN) (Wm kN jN))) (own_sm (Wm iN lN) (Wm lN jN)) h0 S3.old) all0 (by decide +kernel : parseMethodDescriptor "(JJ)J" = some ⟨[.long, .long], some .long⟩) rfl rfl rfl d5_99 (by decide) (Nat.le_of_ble_eq_true rfl) (by decide) (by decide) (fun T4 h4 v4 S4 K4 q4 => ?_)
    obtain ⟨rfl, rfl⟩ := q4
    show own_F p e below s Z _ _ _ _ _ (T4.setTop (mkF m 102 #[.val (.ref aW), .val (.int iN.toInt32), .val (.int jN.toInt32), .val (.int kN.toInt32), .val (.int lN.toInt32), .val (.long (own_mn (Wm iN jN) (own_sm (Wm iN kN) (Wm kN jN)))), .second] [(.long (own_mn (own_mn (Wm iN jN) (own_sm (Wm iN kN) (Wm kN jN))) (own_sm (Wm iN lN) (Wm lN jN))))]))
    refine own_F.of (fun _ => XS.lstore S4.here S4.hx rfl (S4.dec d5_102) rfl (l' := #[.val (.ref aW), .val (.int iN.toInt32), .val (.int jN.toInt32), .val (.int kN.toInt32), .val (.int lN.toInt32), .val (.long (own_mn (own_mn (Wm iN jN) (own_sm (Wm iN kN) (Wm kN jN))) (own_sm (Wm iN lN) (Wm lN jN)))), .second]) rfl) ?_
    refine own_F.of (fun _ => XS.lload S4.here S4.hx rfl (S4.dec d5_104) rfl) ?_
    refine own_F.of (fun _ => XS.aloadN S4.here S4.hx rfl (S4.dec d5_106) rfl rfl) ?_
    refine own_F.of (fun _ => XS.iloadN S4.here S4.hx rfl (S4.dec d5_107) rfl) ?_
    refine own_F.of (fun _ => XS.iconst S4.here S4.hx rfl (S4.dec d5_108)) ?_
    show own_F p e below s Z _ _ _ _ _ (T4.setTop (mkF m 109 #[.val (.ref aW), .val (.int iN.toInt32), .val (.int jN.toInt32), .val (.int kN.toInt32), .val (.int lN.toInt32), .val (.long (own_mn (own_mn (Wm iN jN) (own_sm (Wm iN kN) (Wm kN jN))) (own_sm (Wm iN lN) (Wm lN jN)))), .second] [(.int 4), (.int iN.toInt32), (.ref aW), (.long (own_mn (own_mn (Wm iN jN) (own_sm (Wm iN kN) (Wm kN jN))) (own_sm (Wm iN lN) (Wm lN jN))))]))
    refine own_F.of (fun _ => XS.imul S4.here S4.hx rfl (S4.dec d5_109) rfl) ?_
    show own_F p e below s Z _ _ _ _ _ (T4.setTop (mkF m 110 #[.val (.ref aW), .val (.int iN.toInt32), .val (.int jN.toInt32), .val (.int kN.toInt32), .val (.int lN.toInt32), .val (.long (own_mn (own_mn (Wm iN jN) (own_sm (Wm iN kN) (Wm kN jN))) (own_sm (Wm iN lN) (Wm lN jN)))), .second] [(.int (iN.toInt32 * (4 : Int32))), (.ref aW), (.long (own_mn (own_mn (Wm iN jN) (own_sm (Wm iN kN) (Wm kN jN))) (own_sm (Wm iN lN) (Wm lN jN))))]))
    refine own_F.of (fun _ => XS.iloadN S4.here S4.hx rfl (S4.dec d5_110) rfl) ?_
    show own_F p e below s Z _ _ _ _ _ (T4.setTop (mkF m 111 #[.val (.ref aW), .val (.int iN.toInt32), .val (.int jN.toInt32), .val (.int kN.toInt32), .val (.int lN.toInt32), .val (.long (own_mn (own_mn (Wm iN jN) (own_sm (Wm iN kN) (Wm kN jN))) (own_sm (Wm iN lN) (Wm lN jN)))), .second] [(.int kN.toInt32), (.int (iN.toInt32 * (4 : Int32))), (.ref aW), (.long (own_mn (own_mn (Wm iN jN) (own_sm (Wm iN kN) (Wm kN jN))) (own_sm (Wm iN lN) (Wm lN jN))))]))
    refine own_F.of (fun _ => XS.iadd S4.here S4.hx rfl (S4.dec d5_111) rfl) ?_
    show own_F p e below s Z _ _ _ _ _ (T4.setTop (mkF m 112 #[.val (.ref aW), .val (.int iN.toInt32), .val (.int jN.toInt32), .val (.int kN.toInt32), .val (.int lN.toInt32), .val (.long (own_mn (own_mn (Wm iN jN) (own_sm (Wm iN kN) (Wm kN jN))) (own_sm (Wm iN lN) (Wm lN jN)))), .second] [(.int ((iN.toInt32 * (4 : Int32)) + kN.toInt32)), (.ref aW), (.long (own_mn (own_mn (Wm iN jN) (own_sm (Wm iN kN) (Wm kN jN))) (own_sm (Wm iN lN) (Wm lN jN))))]))
    refine own_lald S4 A (by rw [own_ix hi hk]; exact (own_n4 (by omega)).2.1) (by rw [own_ix hi hk, (own_n4 (by omega)).1]; exact own_w16_at hi hk) d5_112 ?_
    show own_F p e below s Z _ _ _ _ _ (T4.setTop (mkF m 113 #[.val (.ref aW), .val (.int iN.toInt32), .val (.int jN.toInt32), .val (.int kN.toInt32), .val (.int lN.toInt32), .val (.long (own_mn (own_mn (Wm iN jN) (own_sm (Wm iN kN) (Wm kN jN))) (own_sm (Wm iN lN) (Wm lN jN)))), .second] [(.long (Wm iN kN)), (.long (own_mn (own_mn (Wm iN jN) (own_sm (Wm iN kN) (Wm kN jN))) (own_sm (Wm iN lN) (Wm lN jN))))]))
    refine own_F.of (fun _ => XS.aloadN S4.here S4.hx rfl (S4.dec d5_113) rfl rfl) ?_
    refine own_F.of (fun _ => XS.iloadN S4.here S4.hx rfl (S4.dec d5_114) rfl) ?_
    refine own_F.of (fun _ => XS.iconst S4.here S4.hx rfl (S4.dec d5_115)) ?_
    show own_F p e below s Z _ _ _ _ _ (T4.setTop (mkF m 116 #[.val (.ref aW), .val (.int iN.toInt32), .val (.int jN.toInt32), .val (.int kN.toInt32), .val (.int lN.toInt32), .val (.long (own_mn (own_mn (Wm iN jN) (own_sm (Wm iN kN) (Wm kN jN))) (own_sm (Wm iN lN) (Wm lN jN)))), .second] [(.int 4), (.int kN.toInt32), (.ref aW), (.long (Wm iN kN)), (.long (own_mn (own_mn (Wm iN jN) (own_sm (Wm iN kN) (Wm kN jN))) (own_sm (Wm iN lN) (Wm lN jN))))]))
    refine own_F.of (fun _ => XS.imul S4.here S4.hx rfl (S4.dec d5_116) rfl) ?_
    show own_F p e below s Z _ _ _ _ _ (T4.setTop (mkF m 117 #[.val (.ref aW), .val (.int iN.toInt32), .val (.int jN.toInt32), .val (.int kN.toInt32), .val (.int lN.toInt32), .val (.long (own_mn (own_mn (Wm iN jN) (own_sm (Wm iN kN) (Wm kN jN))) (own_sm (Wm iN lN) (Wm lN jN)))), .second] [(.int (kN.toInt32 * (4 : Int32))), (.ref aW), (.long (Wm iN kN)), (.long (own_mn (own_mn (Wm iN jN) (own_sm (Wm iN kN) (Wm kN jN))) (own_sm (Wm iN lN) (Wm lN jN))))]))
    refine own_F.of (fun _ => XS.iload S4.here S4.hx rfl (S4.dec d5_117) rfl) ?_
    show own_F p e below s Z _ _ _ _ _ (T4.setTop (mkF m 119 #[.val (.ref aW), .val (.int iN.toInt32), .val (.int jN.toInt32), .val (.int kN.toInt32), .val (.int lN.toInt32), .val (.long (own_mn (own_mn (Wm iN jN) (own_sm (Wm iN kN) (Wm kN jN))) (own_sm (Wm iN lN) (Wm lN jN)))), .second] [(.int lN.toInt32), (.int (kN.toInt32 * (4 : Int32))), (.ref aW), (.long (Wm iN kN)), (.long (own_mn (own_mn (Wm iN jN) (own_sm (Wm iN kN) (Wm kN jN))) (own_sm (Wm iN lN) (Wm lN jN))))]))
    refine own_F.of (fun _ => XS.iadd S4.here S4.hx rfl (S4.dec d5_119) rfl) ?_
    show own_F p e below s Z _ _ _ _ _ (T4.setTop (mkF m 120 #[.val (.ref aW), .val (.int iN.toInt32), .val (.int jN.toInt32), .val (.int kN.toInt32), .val (.int lN.toInt32), .val (.long (own_mn (own_mn (Wm iN jN) (own_sm (Wm iN kN) (Wm kN jN))) (own_sm (Wm iN lN) (Wm lN jN)))), .second] [(.int ((kN.toInt32 * (4 : Int32)) + lN.toInt32)), (.ref aW), (.long (Wm iN kN)), (.long (own_mn (own_mn (Wm iN jN) (own_sm (Wm iN kN) (Wm kN jN))) (own_sm (Wm iN lN) (Wm lN jN))))]))
    refine own_lald S4 A (by rw [own_ix hk hl]; exact (own_n4 (by omega)).2.1) (by rw [own_ix hk hl, (own_n4 (by omega)).1]; exact own_w16_at hk hl) d5_120 ?_
    show own_F p e below s Z _ _ _ _ _ (T4.setTop (mkF m 121 #[.val (.ref aW), .val (.int iN.toInt32), .val (.int jN.toInt32), .val (.int kN.toInt32), .val (.int lN.toInt32), .val (.long (own_mn (own_mn (Wm iN jN) (own_sm (Wm iN kN) (Wm kN jN))) (own_sm (Wm iN lN) (Wm lN jN)))), .second] [(.long (Wm kN lN)), (.long (Wm iN kN)), (.long (own_mn (own_mn (Wm iN jN) (own_sm (Wm iN kN) (Wm kN jN))) (own_sm (Wm iN lN) (Wm lN jN))))]))
    refine own_callS S4 (y := (⟨"com/example/slackweave/slackweave/generate/TightestBoundsAddPinLaw", "sum", "(JJ)J"⟩ : MethodName)) (own_w hw 36 rfl) (own_w hw 37 rfl) (own_w hw 23 rfl) (own_w hw 38 rfl) (by decide) (argsL := [(.long (Wm iN kN)), (.long (Wm kN lN))]) (rest := [(.long (own_mn (own_mn (Wm iN jN) (own_sm (Wm iN kN) (Wm kN jN))) (own_sm (Wm iN lN) (Wm lN jN))))]) (own_sumC l Z a0 hw (Wm iN kN) (Wm kN lN) h0 S4.old) all0 (by decide +kernel : parseMethodDescriptor "(JJ)J" = some ⟨[.long, .long], some .long⟩) rfl rfl rfl d5_121 (by decide) (Nat.le_of_ble_eq_true rfl) (by decide) (by decide) (fun T5 h5 v5 S5 K5 q5 => ?_)
    obtain ⟨rfl, rfl⟩ := q5
    show own_F p e below s Z _ _ _ _ _ (T5.setTop (mkF m 124 #[.val (.ref aW), .val (.int iN.toInt32), .val (.int jN.toInt32), .val (.int kN.toInt32), .val (.int lN.toInt32), .val (.long (own_mn (own_mn (Wm iN jN) (own_sm (Wm iN kN) (Wm kN jN))) (own_sm (Wm iN lN) (Wm lN jN)))), .second] [(.long (own_sm (Wm iN kN) (Wm kN lN))), (.long (own_mn (own_mn (Wm iN jN) (own_sm (Wm iN kN) (Wm kN jN))) (own_sm (Wm iN lN) (Wm lN jN))))]))
    refine own_F.of (fun _ => XS.aloadN S5.here S5.hx rfl (S5.dec d5_124) rfl rfl) ?_
    refine own_F.of (fun _ => XS.iload S5.here S5.hx rfl (S5.dec d5_125) rfl) ?_
    refine own_F.of (fun _ => XS.iconst S5.here S5.hx rfl (S5.dec d5_127)) ?_
    show own_F p e below s Z _ _ _ _ _ (T5.setTop (mkF m 128 #[.val (.ref aW), .val (.int iN.toInt32), .val (.int jN.toInt32), .val (.int kN.toInt32), .val (.int lN.toInt32), .val (.long (own_mn (own_mn (Wm iN jN) (own_sm (Wm iN kN) (Wm kN jN))) (own_sm (Wm iN lN) (Wm lN jN)))), .second] [(.int 4), (.int lN.toInt32), (.ref aW), (.long (own_sm (Wm iN kN) (Wm kN lN))), (.long (own_mn (own_mn (Wm iN jN) (own_sm (Wm iN kN) (Wm kN jN))) (own_sm (Wm iN lN) (Wm lN jN))))]))
    refine own_F.of (fun _ => XS.imul S5.here S5.hx rfl (S5.dec d5_128) rfl) ?_
    show own_F p e below s Z _ _ _ _ _ (T5.setTop (mkF m 129 #[.val (.ref aW), .val (.int iN.toInt32), .val (.int jN.toInt32), .val (.int kN.toInt32), .val (.int lN.toInt32), .val (.long (own_mn (own_mn (Wm iN jN) (own_sm (Wm iN kN) (Wm kN jN))) (own_sm (Wm iN lN) (Wm lN jN)))), .second] [(.int (lN.toInt32 * (4 : Int32))), (.ref aW), (.long (own_sm (Wm iN kN) (Wm kN lN))), (.long (own_mn (own_mn (Wm iN jN) (own_sm (Wm iN kN) (Wm kN jN))) (own_sm (Wm iN lN) (Wm lN jN))))]))
    refine own_F.of (fun _ => XS.iloadN S5.here S5.hx rfl (S5.dec d5_129) rfl) ?_
    show own_F p e below s Z _ _ _ _ _ (T5.setTop (mkF m 130 #[.val (.ref aW), .val (.int iN.toInt32), .val (.int jN.toInt32), .val (.int kN.toInt32), .val (.int lN.toInt32), .val (.long (own_mn (own_mn (Wm iN jN) (own_sm (Wm iN kN) (Wm kN jN))) (own_sm (Wm iN lN) (Wm lN jN)))), .second] [(.int jN.toInt32), (.int (lN.toInt32 * (4 : Int32))), (.ref aW), (.long (own_sm (Wm iN kN) (Wm kN lN))), (.long (own_mn (own_mn (Wm iN jN) (own_sm (Wm iN kN) (Wm kN jN))) (own_sm (Wm iN lN) (Wm lN jN))))]))
    refine own_F.of (fun _ => XS.iadd S5.here S5.hx rfl (S5.dec d5_130) rfl) ?_
    show own_F p e below s Z _ _ _ _ _ (T5.setTop (mkF m 131 #[.val (.ref aW), .val (.int iN.toInt32), .val (.int jN.toInt32), .val (.int kN.toInt32), .val (.int lN.toInt32), .val (.long (own_mn (own_mn (Wm iN jN) (own_sm (Wm iN kN) (Wm kN jN))) (own_sm (Wm iN lN) (Wm lN jN)))), .second] [(.int ((lN.toInt32 * (4 : Int32)) + jN.toInt32)), (.ref aW), (.long (own_sm (Wm iN kN) (Wm kN lN))), (.long (own_mn (own_mn (Wm iN jN) (own_sm (Wm iN kN) (Wm kN jN))) (own_sm (Wm iN lN) (Wm lN jN))))]))
    refine own_lald S5 A (by rw [own_ix hl hj]; exact (own_n4 (by omega)).2.1) (by rw [own_ix hl hj, (own_n4 (by omega)).1]; exact own_w16_at hl hj) d5_131 ?_
    show own_F p e below s Z _ _ _ _ _ (T5.setTop (mkF m 132 #[.val (.ref aW), .val (.int iN.toInt32), .val (.int jN.toInt32), .val (.int kN.toInt32), .val (.int lN.toInt32), .val (.long (own_mn (own_mn (Wm iN jN) (own_sm (Wm iN kN) (Wm kN jN))) (own_sm (Wm iN lN) (Wm lN jN)))), .second] [(.long (Wm lN jN)), (.long (own_sm (Wm iN kN) (Wm kN lN))), (.long (own_mn (own_mn (Wm iN jN) (own_sm (Wm iN kN) (Wm kN jN))) (own_sm (Wm iN lN) (Wm lN jN))))]))
    refine own_callS S5 (y := (⟨"com/example/slackweave/slackweave/generate/TightestBoundsAddPinLaw", "sum", "(JJ)J"⟩ : MethodName)) (own_w hw 36 rfl) (own_w hw 37 rfl) (own_w hw 23 rfl) (own_w hw 38 rfl) (by decide) (argsL := [(.long (own_sm (Wm iN kN) (Wm kN lN))), (.long (Wm lN jN))]) (rest := [(.long (own_mn (own_mn (Wm iN jN) (own_sm (Wm iN kN) (Wm kN jN))) (own_sm (Wm iN lN) (Wm lN jN))))]) (own_sumC l Z a0 hw (own_sm (Wm iN kN) (Wm kN lN)) (Wm lN jN) h0 S5.old) all0 (by decide +kernel : parseMethodDescriptor "(JJ)J" = some ⟨[.long, .long], some .long⟩) rfl rfl rfl d5_132 (by decide) (Nat.le_of_ble_eq_true rfl) (by decide) (by decide) (fun T6 h6 v6 S6 K6 q6 => ?_)
    obtain ⟨rfl, rfl⟩ := q6
    show own_F p e below s Z _ _ _ _ _ (T6.setTop (mkF m 135 #[.val (.ref aW), .val (.int iN.toInt32), .val (.int jN.toInt32), .val (.int kN.toInt32), .val (.int lN.toInt32), .val (.long (own_mn (own_mn (Wm iN jN) (own_sm (Wm iN kN) (Wm kN jN))) (own_sm (Wm iN lN) (Wm lN jN)))), .second] [(.long (own_sm (own_sm (Wm iN kN) (Wm kN lN)) (Wm lN jN))), (.long (own_mn (own_mn (Wm iN jN) (own_sm (Wm iN kN) (Wm kN jN))) (own_sm (Wm iN lN) (Wm lN jN))))]))
    refine own_callS S6 (y := (⟨"java/lang/Math", "min", "(JJ)J"⟩ : MethodName)) (own_w hw 39 rfl) (own_w hw 40 rfl) (own_w hw 41 rfl) (own_w hw 42 rfl) (by decide) (argsL := [(.long (own_mn (own_mn (Wm iN jN) (own_sm (Wm iN kN) (Wm kN jN))) (own_sm (Wm iN lN) (Wm lN jN)))), (.long (own_sm (own_sm (Wm iN kN) (Wm kN lN)) (Wm lN jN)))]) (rest := []) (own_minC l Z a0 hw (own_mn (own_mn (Wm iN jN) (own_sm (Wm iN kN) (Wm kN jN))) (own_sm (Wm iN lN) (Wm lN jN))) (own_sm (own_sm (Wm iN kN) (Wm kN lN)) (Wm lN jN)) h0 S6.old) all0 (by decide +kernel : parseMethodDescriptor "(JJ)J" = some ⟨[.long, .long], some .long⟩) rfl rfl rfl d5_135 (by decide) (Nat.le_of_ble_eq_true rfl) (by decide) (by decide) (fun T7 h7 v7 S7 K7 q7 => ?_)
    obtain ⟨rfl, rfl⟩ := q7
    show own_F p e below s Z _ _ _ _ _ (T7.setTop (mkF m 138 #[.val (.ref aW), .val (.int iN.toInt32), .val (.int jN.toInt32), .val (.int kN.toInt32), .val (.int lN.toInt32), .val (.long (own_mn (own_mn (Wm iN jN) (own_sm (Wm iN kN) (Wm kN jN))) (own_sm (Wm iN lN) (Wm lN jN)))), .second] [(.long (own_mn (own_mn (own_mn (Wm iN jN) (own_sm (Wm iN kN) (Wm kN jN))) (own_sm (Wm iN lN) (Wm lN jN))) (own_sm (own_sm (Wm iN kN) (Wm kN lN)) (Wm lN jN))))]))
    refine own_F.of (fun _ => XS.lstore S7.here S7.hx rfl (S7.dec d5_138) rfl (l' := #[.val (.ref aW), .val (.int iN.toInt32), .val (.int jN.toInt32), .val (.int kN.toInt32), .val (.int lN.toInt32), .val (.long (own_mn (own_mn (own_mn (Wm iN jN) (own_sm (Wm iN kN) (Wm kN jN))) (own_sm (Wm iN lN) (Wm lN jN))) (own_sm (own_sm (Wm iN kN) (Wm kN lN)) (Wm lN jN)))), .second]) rfl) ?_
    refine own_F.of (fun _ => XS.lload S7.here S7.hx rfl (S7.dec d5_140) rfl) ?_
    refine own_F.of (fun _ => XS.aloadN S7.here S7.hx rfl (S7.dec d5_142) rfl rfl) ?_
    refine own_F.of (fun _ => XS.iloadN S7.here S7.hx rfl (S7.dec d5_143) rfl) ?_
    refine own_F.of (fun _ => XS.iconst S7.here S7.hx rfl (S7.dec d5_144)) ?_
    show own_F p e below s Z _ _ _ _ _ (T7.setTop (mkF m 145 #[.val (.ref aW), .val (.int iN.toInt32), .val (.int jN.toInt32), .val (.int kN.toInt32), .val (.int lN.toInt32), .val (.long (own_mn (own_mn (own_mn (Wm iN jN) (own_sm (Wm iN kN) (Wm kN jN))) (own_sm (Wm iN lN) (Wm lN jN))) (own_sm (own_sm (Wm iN kN) (Wm kN lN)) (Wm lN jN)))), .second] [(.int 4), (.int iN.toInt32), (.ref aW), (.long (own_mn (own_mn (own_mn (Wm iN jN) (own_sm (Wm iN kN) (Wm kN jN))) (own_sm (Wm iN lN) (Wm lN jN))) (own_sm (own_sm (Wm iN kN) (Wm kN lN)) (Wm lN jN))))]))
    refine own_F.of (fun _ => XS.imul S7.here S7.hx rfl (S7.dec d5_145) rfl) ?_
    show own_F p e below s Z _ _ _ _ _ (T7.setTop (mkF m 146 #[.val (.ref aW), .val (.int iN.toInt32), .val (.int jN.toInt32), .val (.int kN.toInt32), .val (.int lN.toInt32), .val (.long (own_mn (own_mn (own_mn (Wm iN jN) (own_sm (Wm iN kN) (Wm kN jN))) (own_sm (Wm iN lN) (Wm lN jN))) (own_sm (own_sm (Wm iN kN) (Wm kN lN)) (Wm lN jN)))), .second] [(.int (iN.toInt32 * (4 : Int32))), (.ref aW), (.long (own_mn (own_mn (own_mn (Wm iN jN) (own_sm (Wm iN kN) (Wm kN jN))) (own_sm (Wm iN lN) (Wm lN jN))) (own_sm (own_sm (Wm iN kN) (Wm kN lN)) (Wm lN jN))))]))
    refine own_F.of (fun _ => XS.iload S7.here S7.hx rfl (S7.dec d5_146) rfl) ?_
    show own_F p e below s Z _ _ _ _ _ (T7.setTop (mkF m 148 #[.val (.ref aW), .val (.int iN.toInt32), .val (.int jN.toInt32), .val (.int kN.toInt32), .val (.int lN.toInt32), .val (.long (own_mn (own_mn (own_mn (Wm iN jN) (own_sm (Wm iN kN) (Wm kN jN))) (own_sm (Wm iN lN) (Wm lN jN))) (own_sm (own_sm (Wm iN kN) (Wm kN lN)) (Wm lN jN)))), .second] [(.int lN.toInt32), (.int (iN.toInt32 * (4 : Int32))), (.ref aW), (.long (own_mn (own_mn (own_mn (Wm iN jN) (own_sm (Wm iN kN) (Wm kN jN))) (own_sm (Wm iN lN) (Wm lN jN))) (own_sm (own_sm (Wm iN kN) (Wm kN lN)) (Wm lN jN))))]))
    refine own_F.of (fun _ => XS.iadd S7.here S7.hx rfl (S7.dec d5_148) rfl) ?_
    show own_F p e below s Z _ _ _ _ _ (T7.setTop (mkF m 149 #[.val (.ref aW), .val (.int iN.toInt32), .val (.int jN.toInt32), .val (.int kN.toInt32), .val (.int lN.toInt32), .val (.long (own_mn (own_mn (own_mn (Wm iN jN) (own_sm (Wm iN kN) (Wm kN jN))) (own_sm (Wm iN lN) (Wm lN jN))) (own_sm (own_sm (Wm iN kN) (Wm kN lN)) (Wm lN jN)))), .second] [(.int ((iN.toInt32 * (4 : Int32)) + lN.toInt32)), (.ref aW), (.long (own_mn (own_mn (own_mn (Wm iN jN) (own_sm (Wm iN kN) (Wm kN jN))) (own_sm (Wm iN lN) (Wm lN jN))) (own_sm (own_sm (Wm iN kN) (Wm kN lN)) (Wm lN jN))))]))
    refine own_lald S7 A (by rw [own_ix hi hl]; exact (own_n4 (by omega)).2.1) (by rw [own_ix hi hl, (own_n4 (by omega)).1]; exact own_w16_at hi hl) d5_149 ?_
    show own_F p e below s Z _ _ _ _ _ (T7.setTop (mkF m 150 #[.val (.ref aW), .val (.int iN.toInt32), .val (.int jN.toInt32), .val (.int kN.toInt32), .val (.int lN.toInt32), .val (.long (own_mn (own_mn (own_mn (Wm iN jN) (own_sm (Wm iN kN) (Wm kN jN))) (own_sm (Wm iN lN) (Wm lN jN))) (own_sm (own_sm (Wm iN kN) (Wm kN lN)) (Wm lN jN)))), .second] [(.long (Wm iN lN)), (.long (own_mn (own_mn (own_mn (Wm iN jN) (own_sm (Wm iN kN) (Wm kN jN))) (own_sm (Wm iN lN) (Wm lN jN))) (own_sm (own_sm (Wm iN kN) (Wm kN lN)) (Wm lN jN))))]))
    refine own_F.of (fun _ => XS.aloadN S7.here S7.hx rfl (S7.dec d5_150) rfl rfl) ?_
    refine own_F.of (fun _ => XS.iload S7.here S7.hx rfl (S7.dec d5_151) rfl) ?_
    refine own_F.of (fun _ => XS.iconst S7.here S7.hx rfl (S7.dec d5_153)) ?_
    show own_F p e below s Z _ _ _ _ _ (T7.setTop (mkF m 154 #[.val (.ref aW), .val (.int iN.toInt32), .val (.int jN.toInt32), .val (.int kN.toInt32), .val (.int lN.toInt32), .val (.long (own_mn (own_mn (own_mn (Wm iN jN) (own_sm (Wm iN kN) (Wm kN jN))) (own_sm (Wm iN lN) (Wm lN jN))) (own_sm (own_sm (Wm iN kN) (Wm kN lN)) (Wm lN jN)))), .second] [(.int 4), (.int lN.toInt32), (.ref aW), (.long (Wm iN lN)), (.long (own_mn (own_mn (own_mn (Wm iN jN) (own_sm (Wm iN kN) (Wm kN jN))) (own_sm (Wm iN lN) (Wm lN jN))) (own_sm (own_sm (Wm iN kN) (Wm kN lN)) (Wm lN jN))))]))
    refine own_F.of (fun _ => XS.imul S7.here S7.hx rfl (S7.dec d5_154) rfl) ?_
    show own_F p e below s Z _ _ _ _ _ (T7.setTop (mkF m 155 #[.val (.ref aW), .val (.int iN.toInt32), .val (.int jN.toInt32), .val (.int kN.toInt32), .val (.int lN.toInt32), .val (.long (own_mn (own_mn (own_mn (Wm iN jN) (own_sm (Wm iN kN) (Wm kN jN))) (own_sm (Wm iN lN) (Wm lN jN))) (own_sm (own_sm (Wm iN kN) (Wm kN lN)) (Wm lN jN)))), .second] [(.int (lN.toInt32 * (4 : Int32))), (.ref aW), (.long (Wm iN lN)), (.long (own_mn (own_mn (own_mn (Wm iN jN) (own_sm (Wm iN kN) (Wm kN jN))) (own_sm (Wm iN lN) (Wm lN jN))) (own_sm (own_sm (Wm iN kN) (Wm kN lN)) (Wm lN jN))))]))
    refine own_F.of (fun _ => XS.iloadN S7.here S7.hx rfl (S7.dec d5_155) rfl) ?_
    show own_F p e below s Z _ _ _ _ _ (T7.setTop (mkF m 156 #[.val (.ref aW), .val (.int iN.toInt32), .val (.int jN.toInt32), .val (.int kN.toInt32), .val (.int lN.toInt32), .val (.long (own_mn (own_mn (own_mn (Wm iN jN) (own_sm (Wm iN kN) (Wm kN jN))) (own_sm (Wm iN lN) (Wm lN jN))) (own_sm (own_sm (Wm iN kN) (Wm kN lN)) (Wm lN jN)))), .second] [(.int kN.toInt32), (.int (lN.toInt32 * (4 : Int32))), (.ref aW), (.long (Wm iN lN)), (.long (own_mn (own_mn (own_mn (Wm iN jN) (own_sm (Wm iN kN) (Wm kN jN))) (own_sm (Wm iN lN) (Wm lN jN))) (own_sm (own_sm (Wm iN kN) (Wm kN lN)) (Wm lN jN))))]))
    refine own_F.of (fun _ => XS.iadd S7.here S7.hx rfl (S7.dec d5_156) rfl) ?_
    show own_F p e below s Z _ _ _ _ _ (T7.setTop (mkF m 157 #[.val (.ref aW), .val (.int iN.toInt32), .val (.int jN.toInt32), .val (.int kN.toInt32), .val (.int lN.toInt32), .val (.long (own_mn (own_mn (own_mn (Wm iN jN) (own_sm (Wm iN kN) (Wm kN jN))) (own_sm (Wm iN lN) (Wm lN jN))) (own_sm (own_sm (Wm iN kN) (Wm kN lN)) (Wm lN jN)))), .second] [(.int ((lN.toInt32 * (4 : Int32)) + kN.toInt32)), (.ref aW), (.long (Wm iN lN)), (.long (own_mn (own_mn (own_mn (Wm iN jN) (own_sm (Wm iN kN) (Wm kN jN))) (own_sm (Wm iN lN) (Wm lN jN))) (own_sm (own_sm (Wm iN kN) (Wm kN lN)) (Wm lN jN))))]))
    refine own_lald S7 A (by rw [own_ix hl hk]; exact (own_n4 (by omega)).2.1) (by rw [own_ix hl hk, (own_n4 (by omega)).1]; exact own_w16_at hl hk) d5_157 ?_
    show own_F p e below s Z _ _ _ _ _ (T7.setTop (mkF m 158 #[.val (.ref aW), .val (.int iN.toInt32), .val (.int jN.toInt32), .val (.int kN.toInt32), .val (.int lN.toInt32), .val (.long (own_mn (own_mn (own_mn (Wm iN jN) (own_sm (Wm iN kN) (Wm kN jN))) (own_sm (Wm iN lN) (Wm lN jN))) (own_sm (own_sm (Wm iN kN) (Wm kN lN)) (Wm lN jN)))), .second] [(.long (Wm lN kN)), (.long (Wm iN lN)), (.long (own_mn (own_mn (own_mn (Wm iN jN) (own_sm (Wm iN kN) (Wm kN jN))) (own_sm (Wm iN lN) (Wm lN jN))) (own_sm (own_sm (Wm iN kN) (Wm kN lN)) (Wm lN jN))))]))
    refine own_callS S7 (y := (⟨"com/example/slackweave/slackweave/generate/TightestBoundsAddPinLaw", "sum", "(JJ)J"⟩ : MethodName)) (own_w hw 36 rfl) (own_w hw 37 rfl) (own_w hw 23 rfl) (own_w hw 38 rfl) (by decide) (argsL := [(.long (Wm iN lN)), (.long (Wm lN kN))]) (rest := [(.long (own_mn (own_mn (own_mn (Wm iN jN) (own_sm (Wm iN kN) (Wm kN jN))) (own_sm (Wm iN lN) (Wm lN jN))) (own_sm (own_sm (Wm iN kN) (Wm kN lN)) (Wm lN jN))))]) (own_sumC l Z a0 hw (Wm iN lN) (Wm lN kN) h0 S7.old) all0 (by decide +kernel : parseMethodDescriptor "(JJ)J" = some ⟨[.long, .long], some .long⟩) rfl rfl rfl d5_158 (by decide) (Nat.le_of_ble_eq_true rfl) (by decide) (by decide) (fun T8 h8 v8 S8 K8 q8 => ?_)
    obtain ⟨rfl, rfl⟩ := q8
    show own_F p e below s Z _ _ _ _ _ (T8.setTop (mkF m 161 #[.val (.ref aW), .val (.int iN.toInt32), .val (.int jN.toInt32), .val (.int kN.toInt32), .val (.int lN.toInt32), .val (.long (own_mn (own_mn (own_mn (Wm iN jN) (own_sm (Wm iN kN) (Wm kN jN))) (own_sm (Wm iN lN) (Wm lN jN))) (own_sm (own_sm (Wm iN kN) (Wm kN lN)) (Wm lN jN)))), .second] [(.long (own_sm (Wm iN lN) (Wm lN kN))), (.long (own_mn (own_mn (own_mn (Wm iN jN) (own_sm (Wm iN kN) (Wm kN jN))) (own_sm (Wm iN lN) (Wm lN jN))) (own_sm (own_sm (Wm iN kN) (Wm kN lN)) (Wm lN jN))))]))
    refine own_F.of (fun _ => XS.aloadN S8.here S8.hx rfl (S8.dec d5_161) rfl rfl) ?_
    refine own_F.of (fun _ => XS.iloadN S8.here S8.hx rfl (S8.dec d5_162) rfl) ?_
    refine own_F.of (fun _ => XS.iconst S8.here S8.hx rfl (S8.dec d5_163)) ?_
    show own_F p e below s Z _ _ _ _ _ (T8.setTop (mkF m 164 #[.val (.ref aW), .val (.int iN.toInt32), .val (.int jN.toInt32), .val (.int kN.toInt32), .val (.int lN.toInt32), .val (.long (own_mn (own_mn (own_mn (Wm iN jN) (own_sm (Wm iN kN) (Wm kN jN))) (own_sm (Wm iN lN) (Wm lN jN))) (own_sm (own_sm (Wm iN kN) (Wm kN lN)) (Wm lN jN)))), .second] [(.int 4), (.int kN.toInt32), (.ref aW), (.long (own_sm (Wm iN lN) (Wm lN kN))), (.long (own_mn (own_mn (own_mn (Wm iN jN) (own_sm (Wm iN kN) (Wm kN jN))) (own_sm (Wm iN lN) (Wm lN jN))) (own_sm (own_sm (Wm iN kN) (Wm kN lN)) (Wm lN jN))))]))
    refine own_F.of (fun _ => XS.imul S8.here S8.hx rfl (S8.dec d5_164) rfl) ?_
    show own_F p e below s Z _ _ _ _ _ (T8.setTop (mkF m 165 #[.val (.ref aW), .val (.int iN.toInt32), .val (.int jN.toInt32), .val (.int kN.toInt32), .val (.int lN.toInt32), .val (.long (own_mn (own_mn (own_mn (Wm iN jN) (own_sm (Wm iN kN) (Wm kN jN))) (own_sm (Wm iN lN) (Wm lN jN))) (own_sm (own_sm (Wm iN kN) (Wm kN lN)) (Wm lN jN)))), .second] [(.int (kN.toInt32 * (4 : Int32))), (.ref aW), (.long (own_sm (Wm iN lN) (Wm lN kN))), (.long (own_mn (own_mn (own_mn (Wm iN jN) (own_sm (Wm iN kN) (Wm kN jN))) (own_sm (Wm iN lN) (Wm lN jN))) (own_sm (own_sm (Wm iN kN) (Wm kN lN)) (Wm lN jN))))]))
    refine own_F.of (fun _ => XS.iloadN S8.here S8.hx rfl (S8.dec d5_165) rfl) ?_
    show own_F p e below s Z _ _ _ _ _ (T8.setTop (mkF m 166 #[.val (.ref aW), .val (.int iN.toInt32), .val (.int jN.toInt32), .val (.int kN.toInt32), .val (.int lN.toInt32), .val (.long (own_mn (own_mn (own_mn (Wm iN jN) (own_sm (Wm iN kN) (Wm kN jN))) (own_sm (Wm iN lN) (Wm lN jN))) (own_sm (own_sm (Wm iN kN) (Wm kN lN)) (Wm lN jN)))), .second] [(.int jN.toInt32), (.int (kN.toInt32 * (4 : Int32))), (.ref aW), (.long (own_sm (Wm iN lN) (Wm lN kN))), (.long (own_mn (own_mn (own_mn (Wm iN jN) (own_sm (Wm iN kN) (Wm kN jN))) (own_sm (Wm iN lN) (Wm lN jN))) (own_sm (own_sm (Wm iN kN) (Wm kN lN)) (Wm lN jN))))]))
    refine own_F.of (fun _ => XS.iadd S8.here S8.hx rfl (S8.dec d5_166) rfl) ?_
    show own_F p e below s Z _ _ _ _ _ (T8.setTop (mkF m 167 #[.val (.ref aW), .val (.int iN.toInt32), .val (.int jN.toInt32), .val (.int kN.toInt32), .val (.int lN.toInt32), .val (.long (own_mn (own_mn (own_mn (Wm iN jN) (own_sm (Wm iN kN) (Wm kN jN))) (own_sm (Wm iN lN) (Wm lN jN))) (own_sm (own_sm (Wm iN kN) (Wm kN lN)) (Wm lN jN)))), .second] [(.int ((kN.toInt32 * (4 : Int32)) + jN.toInt32)), (.ref aW), (.long (own_sm (Wm iN lN) (Wm lN kN))), (.long (own_mn (own_mn (own_mn (Wm iN jN) (own_sm (Wm iN kN) (Wm kN jN))) (own_sm (Wm iN lN) (Wm lN jN))) (own_sm (own_sm (Wm iN kN) (Wm kN lN)) (Wm lN jN))))]))
    refine own_lald S8 A (by rw [own_ix hk hj]; exact (own_n4 (by omega)).2.1) (by rw [own_ix hk hj, (own_n4 (by omega)).1]; exact own_w16_at hk hj) d5_167 ?_
    show own_F p e below s Z _ _ _ _ _ (T8.setTop (mkF m 168 #[.val (.ref aW), .val (.int iN.toInt32), .val (.int jN.toInt32), .val (.int kN.toInt32), .val (.int lN.toInt32), .val (.long (own_mn (own_mn (own_mn (Wm iN jN) (own_sm (Wm iN kN) (Wm kN jN))) (own_sm (Wm iN lN) (Wm lN jN))) (own_sm (own_sm (Wm iN kN) (Wm kN lN)) (Wm lN jN)))), .second] [(.long (Wm kN jN)), (.long (own_sm (Wm iN lN) (Wm lN kN))), (.long (own_mn (own_mn (own_mn (Wm iN jN) (own_sm (Wm iN kN) (Wm kN jN))) (own_sm (Wm iN lN) (Wm lN jN))) (own_sm (own_sm (Wm iN kN) (Wm kN lN)) (Wm lN jN))))]))
    refine own_callS S8 (y := (⟨"com/example/slackweave/slackweave/generate/TightestBoundsAddPinLaw", "sum", "(JJ)J"⟩ : MethodName)) (own_w hw 36 rfl) (own_w hw 37 rfl) (own_w hw 23 rfl) (own_w hw 38 rfl) (by decide) (argsL := [(.long (own_sm (Wm iN lN) (Wm lN kN))), (.long (Wm kN jN))]) (rest := [(.long (own_mn (own_mn (own_mn (Wm iN jN) (own_sm (Wm iN kN) (Wm kN jN))) (own_sm (Wm iN lN) (Wm lN jN))) (own_sm (own_sm (Wm iN kN) (Wm kN lN)) (Wm lN jN))))]) (own_sumC l Z a0 hw (own_sm (Wm iN lN) (Wm lN kN)) (Wm kN jN) h0 S8.old) all0 (by decide +kernel : parseMethodDescriptor "(JJ)J" = some ⟨[.long, .long], some .long⟩) rfl rfl rfl d5_168 (by decide) (Nat.le_of_ble_eq_true rfl) (by decide) (by decide) (fun T9 h9 v9 S9 K9 q9 => ?_)
    obtain ⟨rfl, rfl⟩ := q9
    show own_F p e below s Z _ _ _ _ _ (T9.setTop (mkF m 171 #[.val (.ref aW), .val (.int iN.toInt32), .val (.int jN.toInt32), .val (.int kN.toInt32), .val (.int lN.toInt32), .val (.long (own_mn (own_mn (own_mn (Wm iN jN) (own_sm (Wm iN kN) (Wm kN jN))) (own_sm (Wm iN lN) (Wm lN jN))) (own_sm (own_sm (Wm iN kN) (Wm kN lN)) (Wm lN jN)))), .second] [(.long (own_sm (own_sm (Wm iN lN) (Wm lN kN)) (Wm kN jN))), (.long (own_mn (own_mn (own_mn (Wm iN jN) (own_sm (Wm iN kN) (Wm kN jN))) (own_sm (Wm iN lN) (Wm lN jN))) (own_sm (own_sm (Wm iN kN) (Wm kN lN)) (Wm lN jN))))]))
    refine own_callS S9 (y := (⟨"java/lang/Math", "min", "(JJ)J"⟩ : MethodName)) (own_w hw 39 rfl) (own_w hw 40 rfl) (own_w hw 41 rfl) (own_w hw 42 rfl) (by decide) (argsL := [(.long (own_mn (own_mn (own_mn (Wm iN jN) (own_sm (Wm iN kN) (Wm kN jN))) (own_sm (Wm iN lN) (Wm lN jN))) (own_sm (own_sm (Wm iN kN) (Wm kN lN)) (Wm lN jN)))), (.long (own_sm (own_sm (Wm iN lN) (Wm lN kN)) (Wm kN jN)))]) (rest := []) (own_minC l Z a0 hw (own_mn (own_mn (own_mn (Wm iN jN) (own_sm (Wm iN kN) (Wm kN jN))) (own_sm (Wm iN lN) (Wm lN jN))) (own_sm (own_sm (Wm iN kN) (Wm kN lN)) (Wm lN jN))) (own_sm (own_sm (Wm iN lN) (Wm lN kN)) (Wm kN jN)) h0 S9.old) all0 (by decide +kernel : parseMethodDescriptor "(JJ)J" = some ⟨[.long, .long], some .long⟩) rfl rfl rfl d5_171 (by decide) (Nat.le_of_ble_eq_true rfl) (by decide) (by decide) (fun T10 h10 v10 S10 K10 q10 => ?_)
    obtain ⟨rfl, rfl⟩ := q10
    show own_F p e below s Z _ _ _ _ _ (T10.setTop (mkF m 174 #[.val (.ref aW), .val (.int iN.toInt32), .val (.int jN.toInt32), .val (.int kN.toInt32), .val (.int lN.toInt32), .val (.long (own_mn (own_mn (own_mn (Wm iN jN) (own_sm (Wm iN kN) (Wm kN jN))) (own_sm (Wm iN lN) (Wm lN jN))) (own_sm (own_sm (Wm iN kN) (Wm kN lN)) (Wm lN jN)))), .second] [(.long (own_mn (own_mn (own_mn (own_mn (Wm iN jN) (own_sm (Wm iN kN) (Wm kN jN))) (own_sm (Wm iN lN) (Wm lN jN))) (own_sm (own_sm (Wm iN kN) (Wm kN lN)) (Wm lN jN))) (own_sm (own_sm (Wm iN lN) (Wm lN kN)) (Wm kN jN))))]))
    refine own_F.of (fun _ => XS.lstore S10.here S10.hx rfl (S10.dec d5_174) rfl (l' := #[.val (.ref aW), .val (.int iN.toInt32), .val (.int jN.toInt32), .val (.int kN.toInt32), .val (.int lN.toInt32), .val (.long (own_mn (own_mn (own_mn (own_mn (Wm iN jN) (own_sm (Wm iN kN) (Wm kN jN))) (own_sm (Wm iN lN) (Wm lN jN))) (own_sm (own_sm (Wm iN kN) (Wm kN lN)) (Wm lN jN))) (own_sm (own_sm (Wm iN lN) (Wm lN kN)) (Wm kN jN)))), .second]) rfl) ?_
    refine own_F.of (fun _ => XS.lload S10.here S10.hx rfl (S10.dec d5_176) rfl) ?_
    show own_F p e below s Z _ _ _ _ _ (T10.setTop (mkF m 178 #[.val (.ref aW), .val (.int iN.toInt32), .val (.int jN.toInt32), .val (.int kN.toInt32), .val (.int lN.toInt32), .val (.long (own_mn (own_mn (own_mn (own_mn (Wm iN jN) (own_sm (Wm iN kN) (Wm kN jN))) (own_sm (Wm iN lN) (Wm lN jN))) (own_sm (own_sm (Wm iN kN) (Wm kN lN)) (Wm lN jN))) (own_sm (own_sm (Wm iN lN) (Wm lN kN)) (Wm kN jN)))), .second] [(.long (own_mn (own_mn (own_mn (own_mn (Wm iN jN) (own_sm (Wm iN kN) (Wm kN jN))) (own_sm (Wm iN lN) (Wm lN jN))) (own_sm (own_sm (Wm iN kN) (Wm kN lN)) (Wm lN jN))) (own_sm (own_sm (Wm iN lN) (Wm lN kN)) (Wm kN jN))))]))
    refine own_retJ S10 d5_178 (by decide) (by decide) ?_
    rw [← heq]
    unfold own_d5
    exact ⟨rfl, rfl⟩
  show own_F p e below s Z _ _ _ _ _ (T0.setTop (mkF m 0 #[.val (.ref aW), .val (.int iN.toInt32), .val (.int jN.toInt32), .unset, .unset, .unset, .unset] []))
  obtain rfl | rfl | rfl | rfl : iN = 0 ∨ iN = 1 ∨ iN = 2 ∨ iN = 3 := by omega
  · obtain rfl | rfl | rfl | rfl : jN = 0 ∨ jN = 1 ∨ jN = 2 ∨ jN = 3 := by omega
    · show own_F p e below s Z _ _ _ _ _ (T0.setTop (mkF m 0 #[.val (.ref aW), .val (.int 0), .val (.int 0), .unset, .unset, .unset, .unset] []))
      refine own_F.of (fun _ => XS.iloadN S0.here S0.hx rfl (S0.dec d5_0) rfl) ?_
      refine own_F.of (fun _ => XS.iloadN S0.here S0.hx rfl (S0.dec d5_1) rfl) ?_
      show own_F p e below s Z _ _ _ _ _ (T0.setTop (mkF m 2 #[.val (.ref aW), .val (.int 0), .val (.int 0), .unset, .unset, .unset, .unset] [(.int 0), (.int 0)]))
      refine own_icmp S0 7 d5_2 (by decide) (by decide) (fun (hc2_11 : ¬ ((0 : Int32) = (0 : Int32))) => False.elim (absurd hc2_11 (by decide))) (fun (hc2_11 : (0 : Int32) = (0 : Int32)) => ?_)
      show own_F p e below s Z _ _ _ _ _ (T0.setTop (mkF m 5 #[.val (.ref aW), .val (.int 0), .val (.int 0), .unset, .unset, .unset, .unset] []))
      refine own_F.of (fun _ => XS.lconst S0.here S0.hx rfl (S0.dec d5_5)) ?_
      show own_F p e below s Z _ _ _ _ _ (T0.setTop (mkF m 6 #[.val (.ref aW), .val (.int 0), .val (.int 0), .unset, .unset, .unset, .unset] [(.long (0 : Int64))]))
      refine own_retJ S0 d5_6 (by decide) (by decide) ?_
      exact ⟨congrArg (fun z => some (Value.long z)) own_dst0.symm, rfl⟩
    · show own_F p e below s Z _ _ _ _ _ (T0.setTop (mkF m 0 #[.val (.ref aW), .val (.int 0), .val (.int 1), .unset, .unset, .unset, .unset] []))
      refine own_F.of (fun _ => XS.iloadN S0.here S0.hx rfl (S0.dec d5_0) rfl) ?_
      refine own_F.of (fun _ => XS.iloadN S0.here S0.hx rfl (S0.dec d5_1) rfl) ?_
      show own_F p e below s Z _ _ _ _ _ (T0.setTop (mkF m 2 #[.val (.ref aW), .val (.int 0), .val (.int 1), .unset, .unset, .unset, .unset] [(.int 1), (.int 0)]))
      refine own_icmp S0 7 d5_2 (by decide) (by decide) (fun (hc2_12 : ¬ ((0 : Int32) = (1 : Int32))) => ?_) (fun (hc2_12 : (0 : Int32) = (1 : Int32)) => False.elim (absurd hc2_12 (by decide)))
      show own_F p e below s Z _ _ _ _ _ (T0.setTop (mkF m 7 #[.val (.ref aW), .val (.int 0), .val (.int 1), .unset, .unset, .unset, .unset] []))
      refine own_F.of (fun _ => XS.iloadN S0.here S0.hx rfl (S0.dec d5_7) rfl) ?_
      show own_F p e below s Z _ _ _ _ _ (T0.setTop (mkF m 8 #[.val (.ref aW), .val (.int 0), .val (.int 1), .unset, .unset, .unset, .unset] [(.int 0)]))
      refine own_if S0 19 d5_8 (by decide) (by decide) (fun (hc8_13 : (0 : Int32) = (0 : Int32)) => ?_) (fun (hc8_13 : ¬ ((0 : Int32) = (0 : Int32))) => False.elim (absurd hc8_13 (by decide)))
      show own_F p e below s Z _ _ _ _ _ (T0.setTop (mkF m 19 #[.val (.ref aW), .val (.int 0), .val (.int 1), .unset, .unset, .unset, .unset] []))
      refine own_F.of (fun _ => XS.iloadN S0.here S0.hx rfl (S0.dec d5_19) rfl) ?_
      refine own_F.of (fun _ => XS.iconst S0.here S0.hx rfl (S0.dec d5_20)) ?_
      show own_F p e below s Z _ _ _ _ _ (T0.setTop (mkF m 21 #[.val (.ref aW), .val (.int 0), .val (.int 1), .unset, .unset, .unset, .unset] [(.int 1), (.int 0)]))
      refine own_icmp S0 33 d5_21 (by decide) (by decide) (fun (hc21_14 : (0 : Int32) = (1 : Int32)) => False.elim (absurd hc21_14 (by decide))) (fun (hc21_14 : ¬ ((0 : Int32) = (1 : Int32))) => ?_)
      show own_F p e below s Z _ _ _ _ _ (T0.setTop (mkF m 24 #[.val (.ref aW), .val (.int 0), .val (.int 1), .unset, .unset, .unset, .unset] []))
      refine own_F.of (fun _ => XS.iloadN S0.here S0.hx rfl (S0.dec d5_24) rfl) ?_
      refine own_F.of (fun _ => XS.iconst S0.here S0.hx rfl (S0.dec d5_25)) ?_
      show own_F p e below s Z _ _ _ _ _ (T0.setTop (mkF m 26 #[.val (.ref aW), .val (.int 0), .val (.int 1), .unset, .unset, .unset, .unset] [(.int 1), (.int 1)]))
      refine own_icmp S0 33 d5_26 (by decide) (by decide) (fun (hc26_15 : (1 : Int32) = (1 : Int32)) => ?_) (fun (hc26_15 : ¬ ((1 : Int32) = (1 : Int32))) => False.elim (absurd hc26_15 (by decide)))
      show own_F p e below s Z _ _ _ _ _ (T0.setTop (mkF m 33 #[.val (.ref aW), .val (.int 0), .val (.int 1), .unset, .unset, .unset, .unset] []))
      refine own_F.of (fun _ => XS.iconst S0.here S0.hx rfl (S0.dec d5_33)) ?_
      show own_F p e below s Z _ _ _ _ _ (T0.setTop (mkF m 34 #[.val (.ref aW), .val (.int 0), .val (.int 1), .unset, .unset, .unset, .unset] [(.int 2)]))
      refine own_F.of (fun _ => XS.istoreN S0.here S0.hx rfl (S0.dec d5_34) rfl (l' := #[.val (.ref aW), .val (.int 0), .val (.int 1), .val (.int 2), .unset, .unset, .unset]) rfl) ?_
      refine own_F.of (fun _ => XS.bipush S0.here S0.hx rfl (S0.dec d5_35)) ?_
      refine own_F.of (fun _ => XS.iloadN S0.here S0.hx rfl (S0.dec d5_37) rfl) ?_
      show own_F p e below s Z _ _ _ _ _ (T0.setTop (mkF m 38 #[.val (.ref aW), .val (.int 0), .val (.int 1), .val (.int 2), .unset, .unset, .unset] [(.int 0), (.int 6)]))
      refine own_F.of (fun _ => XS.isub S0.here S0.hx rfl (S0.dec d5_38) rfl) ?_
      show own_F p e below s Z _ _ _ _ _ (T0.setTop (mkF m 39 #[.val (.ref aW), .val (.int 0), .val (.int 1), .val (.int 2), .unset, .unset, .unset] [(.int 6)]))
      refine own_F.of (fun _ => XS.iloadN S0.here S0.hx rfl (S0.dec d5_39) rfl) ?_
      show own_F p e below s Z _ _ _ _ _ (T0.setTop (mkF m 40 #[.val (.ref aW), .val (.int 0), .val (.int 1), .val (.int 2), .unset, .unset, .unset] [(.int 1), (.int 6)]))
      refine own_F.of (fun _ => XS.isub S0.here S0.hx rfl (S0.dec d5_40) rfl) ?_
      show own_F p e below s Z _ _ _ _ _ (T0.setTop (mkF m 41 #[.val (.ref aW), .val (.int 0), .val (.int 1), .val (.int 2), .unset, .unset, .unset] [(.int 5)]))
      refine own_F.of (fun _ => XS.iloadN S0.here S0.hx rfl (S0.dec d5_41) rfl) ?_
      show own_F p e below s Z _ _ _ _ _ (T0.setTop (mkF m 42 #[.val (.ref aW), .val (.int 0), .val (.int 1), .val (.int 2), .unset, .unset, .unset] [(.int 2), (.int 5)]))
      refine own_F.of (fun _ => XS.isub S0.here S0.hx rfl (S0.dec d5_42) rfl) ?_
      show own_F p e below s Z _ _ _ _ _ (T0.setTop (mkF m 43 #[.val (.ref aW), .val (.int 0), .val (.int 1), .val (.int 2), .unset, .unset, .unset] [(.int 3)]))
      refine own_F.of (fun _ => XS.istore S0.here S0.hx rfl (S0.dec d5_43) rfl (l' := #[.val (.ref aW), .val (.int 0), .val (.int 1), .val (.int 2), .val (.int 3), .unset, .unset]) rfl) ?_
      exact J45 T0 S0 2 3 (by decide) (by decide) (own_dstE (by decide) (by decide) (by decide))
    · show own_F p e below s Z _ _ _ _ _ (T0.setTop (mkF m 0 #[.val (.ref aW), .val (.int 0), .val (.int 2), .unset, .unset, .unset, .unset] []))
      refine own_F.of (fun _ => XS.iloadN S0.here S0.hx rfl (S0.dec d5_0) rfl) ?_
      refine own_F.of (fun _ => XS.iloadN S0.here S0.hx rfl (S0.dec d5_1) rfl) ?_
      show own_F p e below s Z _ _ _ _ _ (T0.setTop (mkF m 2 #[.val (.ref aW), .val (.int 0), .val (.int 2), .unset, .unset, .unset, .unset] [(.int 2), (.int 0)]))
      refine own_icmp S0 7 d5_2 (by decide) (by decide) (fun (hc2_16 : ¬ ((0 : Int32) = (2 : Int32))) => ?_) (fun (hc2_16 : (0 : Int32) = (2 : Int32)) => False.elim (absurd hc2_16 (by decide)))
      show own_F p e below s Z _ _ _ _ _ (T0.setTop (mkF m 7 #[.val (.ref aW), .val (.int 0), .val (.int 2), .unset, .unset, .unset, .unset] []))
      refine own_F.of (fun _ => XS.iloadN S0.here S0.hx rfl (S0.dec d5_7) rfl) ?_
      show own_F p e below s Z _ _ _ _ _ (T0.setTop (mkF m 8 #[.val (.ref aW), .val (.int 0), .val (.int 2), .unset, .unset, .unset, .unset] [(.int 0)]))
      refine own_if S0 19 d5_8 (by decide) (by decide) (fun (hc8_17 : (0 : Int32) = (0 : Int32)) => ?_) (fun (hc8_17 : ¬ ((0 : Int32) = (0 : Int32))) => False.elim (absurd hc8_17 (by decide)))
      show own_F p e below s Z _ _ _ _ _ (T0.setTop (mkF m 19 #[.val (.ref aW), .val (.int 0), .val (.int 2), .unset, .unset, .unset, .unset] []))
      refine own_F.of (fun _ => XS.iloadN S0.here S0.hx rfl (S0.dec d5_19) rfl) ?_
      refine own_F.of (fun _ => XS.iconst S0.here S0.hx rfl (S0.dec d5_20)) ?_
      show own_F p e below s Z _ _ _ _ _ (T0.setTop (mkF m 21 #[.val (.ref aW), .val (.int 0), .val (.int 2), .unset, .unset, .unset, .unset] [(.int 1), (.int 0)]))
      refine own_icmp S0 33 d5_21 (by decide) (by decide) (fun (hc21_18 : (0 : Int32) = (1 : Int32)) => False.elim (absurd hc21_18 (by decide))) (fun (hc21_18 : ¬ ((0 : Int32) = (1 : Int32))) => ?_)
      show own_F p e below s Z _ _ _ _ _ (T0.setTop (mkF m 24 #[.val (.ref aW), .val (.int 0), .val (.int 2), .unset, .unset, .unset, .unset] []))
      refine own_F.of (fun _ => XS.iloadN S0.here S0.hx rfl (S0.dec d5_24) rfl) ?_
      refine own_F.of (fun _ => XS.iconst S0.here S0.hx rfl (S0.dec d5_25)) ?_
      show own_F p e below s Z _ _ _ _ _ (T0.setTop (mkF m 26 #[.val (.ref aW), .val (.int 0), .val (.int 2), .unset, .unset, .unset, .unset] [(.int 1), (.int 2)]))
      refine own_icmp S0 33 d5_26 (by decide) (by decide) (fun (hc26_19 : (2 : Int32) = (1 : Int32)) => False.elim (absurd hc26_19 (by decide))) (fun (hc26_19 : ¬ ((2 : Int32) = (1 : Int32))) => ?_)
      show own_F p e below s Z _ _ _ _ _ (T0.setTop (mkF m 29 #[.val (.ref aW), .val (.int 0), .val (.int 2), .unset, .unset, .unset, .unset] []))
      refine own_F.of (fun _ => XS.iconst S0.here S0.hx rfl (S0.dec d5_29)) ?_
      show own_F p e below s Z _ _ _ _ _ (T0.setTop (mkF m 30 #[.val (.ref aW), .val (.int 0), .val (.int 2), .unset, .unset, .unset, .unset] [(.int 1)]))
      refine own_F.of (fun _ => XS.goto S0.here S0.hx rfl (pc0 := 30) (pc' := 34) rfl (S0.dec d5_30) (by decide) (by decide)) ?_
      show own_F p e below s Z _ _ _ _ _ (T0.setTop (mkF m 34 #[.val (.ref aW), .val (.int 0), .val (.int 2), .unset, .unset, .unset, .unset] [(.int 1)]))
      refine own_F.of (fun _ => XS.istoreN S0.here S0.hx rfl (S0.dec d5_34) rfl (l' := #[.val (.ref aW), .val (.int 0), .val (.int 2), .val (.int 1), .unset, .unset, .unset]) rfl) ?_
      refine own_F.of (fun _ => XS.bipush S0.here S0.hx rfl (S0.dec d5_35)) ?_
      refine own_F.of (fun _ => XS.iloadN S0.here S0.hx rfl (S0.dec d5_37) rfl) ?_
      show own_F p e below s Z _ _ _ _ _ (T0.setTop (mkF m 38 #[.val (.ref aW), .val (.int 0), .val (.int 2), .val (.int 1), .unset, .unset, .unset] [(.int 0), (.int 6)]))
      refine own_F.of (fun _ => XS.isub S0.here S0.hx rfl (S0.dec d5_38) rfl) ?_
      show own_F p e below s Z _ _ _ _ _ (T0.setTop (mkF m 39 #[.val (.ref aW), .val (.int 0), .val (.int 2), .val (.int 1), .unset, .unset, .unset] [(.int 6)]))
      refine own_F.of (fun _ => XS.iloadN S0.here S0.hx rfl (S0.dec d5_39) rfl) ?_
      show own_F p e below s Z _ _ _ _ _ (T0.setTop (mkF m 40 #[.val (.ref aW), .val (.int 0), .val (.int 2), .val (.int 1), .unset, .unset, .unset] [(.int 2), (.int 6)]))
      refine own_F.of (fun _ => XS.isub S0.here S0.hx rfl (S0.dec d5_40) rfl) ?_
      show own_F p e below s Z _ _ _ _ _ (T0.setTop (mkF m 41 #[.val (.ref aW), .val (.int 0), .val (.int 2), .val (.int 1), .unset, .unset, .unset] [(.int 4)]))
      refine own_F.of (fun _ => XS.iloadN S0.here S0.hx rfl (S0.dec d5_41) rfl) ?_
      show own_F p e below s Z _ _ _ _ _ (T0.setTop (mkF m 42 #[.val (.ref aW), .val (.int 0), .val (.int 2), .val (.int 1), .unset, .unset, .unset] [(.int 1), (.int 4)]))
      refine own_F.of (fun _ => XS.isub S0.here S0.hx rfl (S0.dec d5_42) rfl) ?_
      show own_F p e below s Z _ _ _ _ _ (T0.setTop (mkF m 43 #[.val (.ref aW), .val (.int 0), .val (.int 2), .val (.int 1), .unset, .unset, .unset] [(.int 3)]))
      refine own_F.of (fun _ => XS.istore S0.here S0.hx rfl (S0.dec d5_43) rfl (l' := #[.val (.ref aW), .val (.int 0), .val (.int 2), .val (.int 1), .val (.int 3), .unset, .unset]) rfl) ?_
      exact J45 T0 S0 1 3 (by decide) (by decide) (own_dstE (by decide) (by decide) (by decide))
    · show own_F p e below s Z _ _ _ _ _ (T0.setTop (mkF m 0 #[.val (.ref aW), .val (.int 0), .val (.int 3), .unset, .unset, .unset, .unset] []))
      refine own_F.of (fun _ => XS.iloadN S0.here S0.hx rfl (S0.dec d5_0) rfl) ?_
      refine own_F.of (fun _ => XS.iloadN S0.here S0.hx rfl (S0.dec d5_1) rfl) ?_
      show own_F p e below s Z _ _ _ _ _ (T0.setTop (mkF m 2 #[.val (.ref aW), .val (.int 0), .val (.int 3), .unset, .unset, .unset, .unset] [(.int 3), (.int 0)]))
      refine own_icmp S0 7 d5_2 (by decide) (by decide) (fun (hc2_20 : ¬ ((0 : Int32) = (3 : Int32))) => ?_) (fun (hc2_20 : (0 : Int32) = (3 : Int32)) => False.elim (absurd hc2_20 (by decide)))
      show own_F p e below s Z _ _ _ _ _ (T0.setTop (mkF m 7 #[.val (.ref aW), .val (.int 0), .val (.int 3), .unset, .unset, .unset, .unset] []))
      refine own_F.of (fun _ => XS.iloadN S0.here S0.hx rfl (S0.dec d5_7) rfl) ?_
      show own_F p e below s Z _ _ _ _ _ (T0.setTop (mkF m 8 #[.val (.ref aW), .val (.int 0), .val (.int 3), .unset, .unset, .unset, .unset] [(.int 0)]))
      refine own_if S0 19 d5_8 (by decide) (by decide) (fun (hc8_21 : (0 : Int32) = (0 : Int32)) => ?_) (fun (hc8_21 : ¬ ((0 : Int32) = (0 : Int32))) => False.elim (absurd hc8_21 (by decide)))
      show own_F p e below s Z _ _ _ _ _ (T0.setTop (mkF m 19 #[.val (.ref aW), .val (.int 0), .val (.int 3), .unset, .unset, .unset, .unset] []))
      refine own_F.of (fun _ => XS.iloadN S0.here S0.hx rfl (S0.dec d5_19) rfl) ?_
      refine own_F.of (fun _ => XS.iconst S0.here S0.hx rfl (S0.dec d5_20)) ?_
      show own_F p e below s Z _ _ _ _ _ (T0.setTop (mkF m 21 #[.val (.ref aW), .val (.int 0), .val (.int 3), .unset, .unset, .unset, .unset] [(.int 1), (.int 0)]))
      refine own_icmp S0 33 d5_21 (by decide) (by decide) (fun (hc21_22 : (0 : Int32) = (1 : Int32)) => False.elim (absurd hc21_22 (by decide))) (fun (hc21_22 : ¬ ((0 : Int32) = (1 : Int32))) => ?_)
      show own_F p e below s Z _ _ _ _ _ (T0.setTop (mkF m 24 #[.val (.ref aW), .val (.int 0), .val (.int 3), .unset, .unset, .unset, .unset] []))
      refine own_F.of (fun _ => XS.iloadN S0.here S0.hx rfl (S0.dec d5_24) rfl) ?_
      refine own_F.of (fun _ => XS.iconst S0.here S0.hx rfl (S0.dec d5_25)) ?_
      show own_F p e below s Z _ _ _ _ _ (T0.setTop (mkF m 26 #[.val (.ref aW), .val (.int 0), .val (.int 3), .unset, .unset, .unset, .unset] [(.int 1), (.int 3)]))
      refine own_icmp S0 33 d5_26 (by decide) (by decide) (fun (hc26_23 : (3 : Int32) = (1 : Int32)) => False.elim (absurd hc26_23 (by decide))) (fun (hc26_23 : ¬ ((3 : Int32) = (1 : Int32))) => ?_)
      show own_F p e below s Z _ _ _ _ _ (T0.setTop (mkF m 29 #[.val (.ref aW), .val (.int 0), .val (.int 3), .unset, .unset, .unset, .unset] []))
      refine own_F.of (fun _ => XS.iconst S0.here S0.hx rfl (S0.dec d5_29)) ?_
      show own_F p e below s Z _ _ _ _ _ (T0.setTop (mkF m 30 #[.val (.ref aW), .val (.int 0), .val (.int 3), .unset, .unset, .unset, .unset] [(.int 1)]))
      refine own_F.of (fun _ => XS.goto S0.here S0.hx rfl (pc0 := 30) (pc' := 34) rfl (S0.dec d5_30) (by decide) (by decide)) ?_
      show own_F p e below s Z _ _ _ _ _ (T0.setTop (mkF m 34 #[.val (.ref aW), .val (.int 0), .val (.int 3), .unset, .unset, .unset, .unset] [(.int 1)]))
      refine own_F.of (fun _ => XS.istoreN S0.here S0.hx rfl (S0.dec d5_34) rfl (l' := #[.val (.ref aW), .val (.int 0), .val (.int 3), .val (.int 1), .unset, .unset, .unset]) rfl) ?_
      refine own_F.of (fun _ => XS.bipush S0.here S0.hx rfl (S0.dec d5_35)) ?_
      refine own_F.of (fun _ => XS.iloadN S0.here S0.hx rfl (S0.dec d5_37) rfl) ?_
      show own_F p e below s Z _ _ _ _ _ (T0.setTop (mkF m 38 #[.val (.ref aW), .val (.int 0), .val (.int 3), .val (.int 1), .unset, .unset, .unset] [(.int 0), (.int 6)]))
      refine own_F.of (fun _ => XS.isub S0.here S0.hx rfl (S0.dec d5_38) rfl) ?_
      show own_F p e below s Z _ _ _ _ _ (T0.setTop (mkF m 39 #[.val (.ref aW), .val (.int 0), .val (.int 3), .val (.int 1), .unset, .unset, .unset] [(.int 6)]))
      refine own_F.of (fun _ => XS.iloadN S0.here S0.hx rfl (S0.dec d5_39) rfl) ?_
      show own_F p e below s Z _ _ _ _ _ (T0.setTop (mkF m 40 #[.val (.ref aW), .val (.int 0), .val (.int 3), .val (.int 1), .unset, .unset, .unset] [(.int 3), (.int 6)]))
      refine own_F.of (fun _ => XS.isub S0.here S0.hx rfl (S0.dec d5_40) rfl) ?_
      show own_F p e below s Z _ _ _ _ _ (T0.setTop (mkF m 41 #[.val (.ref aW), .val (.int 0), .val (.int 3), .val (.int 1), .unset, .unset, .unset] [(.int 3)]))
      refine own_F.of (fun _ => XS.iloadN S0.here S0.hx rfl (S0.dec d5_41) rfl) ?_
      show own_F p e below s Z _ _ _ _ _ (T0.setTop (mkF m 42 #[.val (.ref aW), .val (.int 0), .val (.int 3), .val (.int 1), .unset, .unset, .unset] [(.int 1), (.int 3)]))
      refine own_F.of (fun _ => XS.isub S0.here S0.hx rfl (S0.dec d5_42) rfl) ?_
      show own_F p e below s Z _ _ _ _ _ (T0.setTop (mkF m 43 #[.val (.ref aW), .val (.int 0), .val (.int 3), .val (.int 1), .unset, .unset, .unset] [(.int 2)]))
      refine own_F.of (fun _ => XS.istore S0.here S0.hx rfl (S0.dec d5_43) rfl (l' := #[.val (.ref aW), .val (.int 0), .val (.int 3), .val (.int 1), .val (.int 2), .unset, .unset]) rfl) ?_
      exact J45 T0 S0 1 2 (by decide) (by decide) (own_dstE (by decide) (by decide) (by decide))
  · obtain rfl | rfl | rfl | rfl : jN = 0 ∨ jN = 1 ∨ jN = 2 ∨ jN = 3 := by omega
    · show own_F p e below s Z _ _ _ _ _ (T0.setTop (mkF m 0 #[.val (.ref aW), .val (.int 1), .val (.int 0), .unset, .unset, .unset, .unset] []))
      refine own_F.of (fun _ => XS.iloadN S0.here S0.hx rfl (S0.dec d5_0) rfl) ?_
      refine own_F.of (fun _ => XS.iloadN S0.here S0.hx rfl (S0.dec d5_1) rfl) ?_
      show own_F p e below s Z _ _ _ _ _ (T0.setTop (mkF m 2 #[.val (.ref aW), .val (.int 1), .val (.int 0), .unset, .unset, .unset, .unset] [(.int 0), (.int 1)]))
      refine own_icmp S0 7 d5_2 (by decide) (by decide) (fun (hc2_24 : ¬ ((1 : Int32) = (0 : Int32))) => ?_) (fun (hc2_24 : (1 : Int32) = (0 : Int32)) => False.elim (absurd hc2_24 (by decide)))
      show own_F p e below s Z _ _ _ _ _ (T0.setTop (mkF m 7 #[.val (.ref aW), .val (.int 1), .val (.int 0), .unset, .unset, .unset, .unset] []))
      refine own_F.of (fun _ => XS.iloadN S0.here S0.hx rfl (S0.dec d5_7) rfl) ?_
      show own_F p e below s Z _ _ _ _ _ (T0.setTop (mkF m 8 #[.val (.ref aW), .val (.int 1), .val (.int 0), .unset, .unset, .unset, .unset] [(.int 1)]))
      refine own_if S0 19 d5_8 (by decide) (by decide) (fun (hc8_25 : (1 : Int32) = (0 : Int32)) => False.elim (absurd hc8_25 (by decide))) (fun (hc8_25 : ¬ ((1 : Int32) = (0 : Int32))) => ?_)
      show own_F p e below s Z _ _ _ _ _ (T0.setTop (mkF m 11 #[.val (.ref aW), .val (.int 1), .val (.int 0), .unset, .unset, .unset, .unset] []))
      refine own_F.of (fun _ => XS.iloadN S0.here S0.hx rfl (S0.dec d5_11) rfl) ?_
      show own_F p e below s Z _ _ _ _ _ (T0.setTop (mkF m 12 #[.val (.ref aW), .val (.int 1), .val (.int 0), .unset, .unset, .unset, .unset] [(.int 0)]))
      refine own_if S0 19 d5_12 (by decide) (by decide) (fun (hc12_26 : (0 : Int32) = (0 : Int32)) => ?_) (fun (hc12_26 : ¬ ((0 : Int32) = (0 : Int32))) => False.elim (absurd hc12_26 (by decide)))
      show own_F p e below s Z _ _ _ _ _ (T0.setTop (mkF m 19 #[.val (.ref aW), .val (.int 1), .val (.int 0), .unset, .unset, .unset, .unset] []))
      refine own_F.of (fun _ => XS.iloadN S0.here S0.hx rfl (S0.dec d5_19) rfl) ?_
      refine own_F.of (fun _ => XS.iconst S0.here S0.hx rfl (S0.dec d5_20)) ?_
      show own_F p e below s Z _ _ _ _ _ (T0.setTop (mkF m 21 #[.val (.ref aW), .val (.int 1), .val (.int 0), .unset, .unset, .unset, .unset] [(.int 1), (.int 1)]))
      refine own_icmp S0 33 d5_21 (by decide) (by decide) (fun (hc21_27 : (1 : Int32) = (1 : Int32)) => ?_) (fun (hc21_27 : ¬ ((1 : Int32) = (1 : Int32))) => False.elim (absurd hc21_27 (by decide)))
      show own_F p e below s Z _ _ _ _ _ (T0.setTop (mkF m 33 #[.val (.ref aW), .val (.int 1), .val (.int 0), .unset, .unset, .unset, .unset] []))
      refine own_F.of (fun _ => XS.iconst S0.here S0.hx rfl (S0.dec d5_33)) ?_
      show own_F p e below s Z _ _ _ _ _ (T0.setTop (mkF m 34 #[.val (.ref aW), .val (.int 1), .val (.int 0), .unset, .unset, .unset, .unset] [(.int 2)]))
      refine own_F.of (fun _ => XS.istoreN S0.here S0.hx rfl (S0.dec d5_34) rfl (l' := #[.val (.ref aW), .val (.int 1), .val (.int 0), .val (.int 2), .unset, .unset, .unset]) rfl) ?_
      refine own_F.of (fun _ => XS.bipush S0.here S0.hx rfl (S0.dec d5_35)) ?_
      refine own_F.of (fun _ => XS.iloadN S0.here S0.hx rfl (S0.dec d5_37) rfl) ?_
      show own_F p e below s Z _ _ _ _ _ (T0.setTop (mkF m 38 #[.val (.ref aW), .val (.int 1), .val (.int 0), .val (.int 2), .unset, .unset, .unset] [(.int 1), (.int 6)]))
      refine own_F.of (fun _ => XS.isub S0.here S0.hx rfl (S0.dec d5_38) rfl) ?_
      show own_F p e below s Z _ _ _ _ _ (T0.setTop (mkF m 39 #[.val (.ref aW), .val (.int 1), .val (.int 0), .val (.int 2), .unset, .unset, .unset] [(.int 5)]))
      refine own_F.of (fun _ => XS.iloadN S0.here S0.hx rfl (S0.dec d5_39) rfl) ?_
      show own_F p e below s Z _ _ _ _ _ (T0.setTop (mkF m 40 #[.val (.ref aW), .val (.int 1), .val (.int 0), .val (.int 2), .unset, .unset, .unset] [(.int 0), (.int 5)]))
      refine own_F.of (fun _ => XS.isub S0.here S0.hx rfl (S0.dec d5_40) rfl) ?_
      show own_F p e below s Z _ _ _ _ _ (T0.setTop (mkF m 41 #[.val (.ref aW), .val (.int 1), .val (.int 0), .val (.int 2), .unset, .unset, .unset] [(.int 5)]))
      refine own_F.of (fun _ => XS.iloadN S0.here S0.hx rfl (S0.dec d5_41) rfl) ?_
      show own_F p e below s Z _ _ _ _ _ (T0.setTop (mkF m 42 #[.val (.ref aW), .val (.int 1), .val (.int 0), .val (.int 2), .unset, .unset, .unset] [(.int 2), (.int 5)]))
      refine own_F.of (fun _ => XS.isub S0.here S0.hx rfl (S0.dec d5_42) rfl) ?_
      show own_F p e below s Z _ _ _ _ _ (T0.setTop (mkF m 43 #[.val (.ref aW), .val (.int 1), .val (.int 0), .val (.int 2), .unset, .unset, .unset] [(.int 3)]))
      refine own_F.of (fun _ => XS.istore S0.here S0.hx rfl (S0.dec d5_43) rfl (l' := #[.val (.ref aW), .val (.int 1), .val (.int 0), .val (.int 2), .val (.int 3), .unset, .unset]) rfl) ?_
      exact J45 T0 S0 2 3 (by decide) (by decide) (own_dstE (by decide) (by decide) (by decide))
    · show own_F p e below s Z _ _ _ _ _ (T0.setTop (mkF m 0 #[.val (.ref aW), .val (.int 1), .val (.int 1), .unset, .unset, .unset, .unset] []))
      refine own_F.of (fun _ => XS.iloadN S0.here S0.hx rfl (S0.dec d5_0) rfl) ?_
      refine own_F.of (fun _ => XS.iloadN S0.here S0.hx rfl (S0.dec d5_1) rfl) ?_
      show own_F p e below s Z _ _ _ _ _ (T0.setTop (mkF m 2 #[.val (.ref aW), .val (.int 1), .val (.int 1), .unset, .unset, .unset, .unset] [(.int 1), (.int 1)]))
      refine own_icmp S0 7 d5_2 (by decide) (by decide) (fun (hc2_28 : ¬ ((1 : Int32) = (1 : Int32))) => False.elim (absurd hc2_28 (by decide))) (fun (hc2_28 : (1 : Int32) = (1 : Int32)) => ?_)
      show own_F p e below s Z _ _ _ _ _ (T0.setTop (mkF m 5 #[.val (.ref aW), .val (.int 1), .val (.int 1), .unset, .unset, .unset, .unset] []))
      refine own_F.of (fun _ => XS.lconst S0.here S0.hx rfl (S0.dec d5_5)) ?_
      show own_F p e below s Z _ _ _ _ _ (T0.setTop (mkF m 6 #[.val (.ref aW), .val (.int 1), .val (.int 1), .unset, .unset, .unset, .unset] [(.long (0 : Int64))]))
      refine own_retJ S0 d5_6 (by decide) (by decide) ?_
      exact ⟨congrArg (fun z => some (Value.long z)) own_dst0.symm, rfl⟩
    · show own_F p e below s Z _ _ _ _ _ (T0.setTop (mkF m 0 #[.val (.ref aW), .val (.int 1), .val (.int 2), .unset, .unset, .unset, .unset] []))
      refine own_F.of (fun _ => XS.iloadN S0.here S0.hx rfl (S0.dec d5_0) rfl) ?_
      refine own_F.of (fun _ => XS.iloadN S0.here S0.hx rfl (S0.dec d5_1) rfl) ?_
      show own_F p e below s Z _ _ _ _ _ (T0.setTop (mkF m 2 #[.val (.ref aW), .val (.int 1), .val (.int 2), .unset, .unset, .unset, .unset] [(.int 2), (.int 1)]))
      refine own_icmp S0 7 d5_2 (by decide) (by decide) (fun (hc2_29 : ¬ ((1 : Int32) = (2 : Int32))) => ?_) (fun (hc2_29 : (1 : Int32) = (2 : Int32)) => False.elim (absurd hc2_29 (by decide)))
      show own_F p e below s Z _ _ _ _ _ (T0.setTop (mkF m 7 #[.val (.ref aW), .val (.int 1), .val (.int 2), .unset, .unset, .unset, .unset] []))
      refine own_F.of (fun _ => XS.iloadN S0.here S0.hx rfl (S0.dec d5_7) rfl) ?_
      show own_F p e below s Z _ _ _ _ _ (T0.setTop (mkF m 8 #[.val (.ref aW), .val (.int 1), .val (.int 2), .unset, .unset, .unset, .unset] [(.int 1)]))
      refine own_if S0 19 d5_8 (by decide) (by decide) (fun (hc8_30 : (1 : Int32) = (0 : Int32)) => False.elim (absurd hc8_30 (by decide))) (fun (hc8_30 : ¬ ((1 : Int32) = (0 : Int32))) => ?_)
      show own_F p e below s Z _ _ _ _ _ (T0.setTop (mkF m 11 #[.val (.ref aW), .val (.int 1), .val (.int 2), .unset, .unset, .unset, .unset] []))
      refine own_F.of (fun _ => XS.iloadN S0.here S0.hx rfl (S0.dec d5_11) rfl) ?_
      show own_F p e below s Z _ _ _ _ _ (T0.setTop (mkF m 12 #[.val (.ref aW), .val (.int 1), .val (.int 2), .unset, .unset, .unset, .unset] [(.int 2)]))
      refine own_if S0 19 d5_12 (by decide) (by decide) (fun (hc12_31 : (2 : Int32) = (0 : Int32)) => False.elim (absurd hc12_31 (by decide))) (fun (hc12_31 : ¬ ((2 : Int32) = (0 : Int32))) => ?_)
      show own_F p e below s Z _ _ _ _ _ (T0.setTop (mkF m 15 #[.val (.ref aW), .val (.int 1), .val (.int 2), .unset, .unset, .unset, .unset] []))
      refine own_F.of (fun _ => XS.iconst S0.here S0.hx rfl (S0.dec d5_15)) ?_
      show own_F p e below s Z _ _ _ _ _ (T0.setTop (mkF m 16 #[.val (.ref aW), .val (.int 1), .val (.int 2), .unset, .unset, .unset, .unset] [(.int 0)]))
      refine own_F.of (fun _ => XS.goto S0.here S0.hx rfl (pc0 := 16) (pc' := 34) rfl (S0.dec d5_16) (by decide) (by decide)) ?_
      show own_F p e below s Z _ _ _ _ _ (T0.setTop (mkF m 34 #[.val (.ref aW), .val (.int 1), .val (.int 2), .unset, .unset, .unset, .unset] [(.int 0)]))
      refine own_F.of (fun _ => XS.istoreN S0.here S0.hx rfl (S0.dec d5_34) rfl (l' := #[.val (.ref aW), .val (.int 1), .val (.int 2), .val (.int 0), .unset, .unset, .unset]) rfl) ?_
      refine own_F.of (fun _ => XS.bipush S0.here S0.hx rfl (S0.dec d5_35)) ?_
      refine own_F.of (fun _ => XS.iloadN S0.here S0.hx rfl (S0.dec d5_37) rfl) ?_
      show own_F p e below s Z _ _ _ _ _ (T0.setTop (mkF m 38 #[.val (.ref aW), .val (.int 1), .val (.int 2), .val (.int 0), .unset, .unset, .unset] [(.int 1), (.int 6)]))
      refine own_F.of (fun _ => XS.isub S0.here S0.hx rfl (S0.dec d5_38) rfl) ?_
      show own_F p e below s Z _ _ _ _ _ (T0.setTop (mkF m 39 #[.val (.ref aW), .val (.int 1), .val (.int 2), .val (.int 0), .unset, .unset, .unset] [(.int 5)]))
      refine own_F.of (fun _ => XS.iloadN S0.here S0.hx rfl (S0.dec d5_39) rfl) ?_
      show own_F p e below s Z _ _ _ _ _ (T0.setTop (mkF m 40 #[.val (.ref aW), .val (.int 1), .val (.int 2), .val (.int 0), .unset, .unset, .unset] [(.int 2), (.int 5)]))
      refine own_F.of (fun _ => XS.isub S0.here S0.hx rfl (S0.dec d5_40) rfl) ?_
      show own_F p e below s Z _ _ _ _ _ (T0.setTop (mkF m 41 #[.val (.ref aW), .val (.int 1), .val (.int 2), .val (.int 0), .unset, .unset, .unset] [(.int 3)]))
      refine own_F.of (fun _ => XS.iloadN S0.here S0.hx rfl (S0.dec d5_41) rfl) ?_
      show own_F p e below s Z _ _ _ _ _ (T0.setTop (mkF m 42 #[.val (.ref aW), .val (.int 1), .val (.int 2), .val (.int 0), .unset, .unset, .unset] [(.int 0), (.int 3)]))
      refine own_F.of (fun _ => XS.isub S0.here S0.hx rfl (S0.dec d5_42) rfl) ?_
      show own_F p e below s Z _ _ _ _ _ (T0.setTop (mkF m 43 #[.val (.ref aW), .val (.int 1), .val (.int 2), .val (.int 0), .unset, .unset, .unset] [(.int 3)]))
      refine own_F.of (fun _ => XS.istore S0.here S0.hx rfl (S0.dec d5_43) rfl (l' := #[.val (.ref aW), .val (.int 1), .val (.int 2), .val (.int 0), .val (.int 3), .unset, .unset]) rfl) ?_
      exact J45 T0 S0 0 3 (by decide) (by decide) (own_dstE (by decide) (by decide) (by decide))
    · show own_F p e below s Z _ _ _ _ _ (T0.setTop (mkF m 0 #[.val (.ref aW), .val (.int 1), .val (.int 3), .unset, .unset, .unset, .unset] []))
      refine own_F.of (fun _ => XS.iloadN S0.here S0.hx rfl (S0.dec d5_0) rfl) ?_
      refine own_F.of (fun _ => XS.iloadN S0.here S0.hx rfl (S0.dec d5_1) rfl) ?_
      show own_F p e below s Z _ _ _ _ _ (T0.setTop (mkF m 2 #[.val (.ref aW), .val (.int 1), .val (.int 3), .unset, .unset, .unset, .unset] [(.int 3), (.int 1)]))
      refine own_icmp S0 7 d5_2 (by decide) (by decide) (fun (hc2_32 : ¬ ((1 : Int32) = (3 : Int32))) => ?_) (fun (hc2_32 : (1 : Int32) = (3 : Int32)) => False.elim (absurd hc2_32 (by decide)))
      show own_F p e below s Z _ _ _ _ _ (T0.setTop (mkF m 7 #[.val (.ref aW), .val (.int 1), .val (.int 3), .unset, .unset, .unset, .unset] []))
      refine own_F.of (fun _ => XS.iloadN S0.here S0.hx rfl (S0.dec d5_7) rfl) ?_
      show own_F p e below s Z _ _ _ _ _ (T0.setTop (mkF m 8 #[.val (.ref aW), .val (.int 1), .val (.int 3), .unset, .unset, .unset, .unset] [(.int 1)]))
      refine own_if S0 19 d5_8 (by decide) (by decide) (fun (hc8_33 : (1 : Int32) = (0 : Int32)) => False.elim (absurd hc8_33 (by decide))) (fun (hc8_33 : ¬ ((1 : Int32) = (0 : Int32))) => ?_)
      show own_F p e below s Z _ _ _ _ _ (T0.setTop (mkF m 11 #[.val (.ref aW), .val (.int 1), .val (.int 3), .unset, .unset, .unset, .unset] []))
      refine own_F.of (fun _ => XS.iloadN S0.here S0.hx rfl (S0.dec d5_11) rfl) ?_
      show own_F p e below s Z _ _ _ _ _ (T0.setTop (mkF m 12 #[.val (.ref aW), .val (.int 1), .val (.int 3), .unset, .unset, .unset, .unset] [(.int 3)]))
      refine own_if S0 19 d5_12 (by decide) (by decide) (fun (hc12_34 : (3 : Int32) = (0 : Int32)) => False.elim (absurd hc12_34 (by decide))) (fun (hc12_34 : ¬ ((3 : Int32) = (0 : Int32))) => ?_)
      show own_F p e below s Z _ _ _ _ _ (T0.setTop (mkF m 15 #[.val (.ref aW), .val (.int 1), .val (.int 3), .unset, .unset, .unset, .unset] []))
      refine own_F.of (fun _ => XS.iconst S0.here S0.hx rfl (S0.dec d5_15)) ?_
      show own_F p e below s Z _ _ _ _ _ (T0.setTop (mkF m 16 #[.val (.ref aW), .val (.int 1), .val (.int 3), .unset, .unset, .unset, .unset] [(.int 0)]))
      refine own_F.of (fun _ => XS.goto S0.here S0.hx rfl (pc0 := 16) (pc' := 34) rfl (S0.dec d5_16) (by decide) (by decide)) ?_
      show own_F p e below s Z _ _ _ _ _ (T0.setTop (mkF m 34 #[.val (.ref aW), .val (.int 1), .val (.int 3), .unset, .unset, .unset, .unset] [(.int 0)]))
      refine own_F.of (fun _ => XS.istoreN S0.here S0.hx rfl (S0.dec d5_34) rfl (l' := #[.val (.ref aW), .val (.int 1), .val (.int 3), .val (.int 0), .unset, .unset, .unset]) rfl) ?_
      refine own_F.of (fun _ => XS.bipush S0.here S0.hx rfl (S0.dec d5_35)) ?_
      refine own_F.of (fun _ => XS.iloadN S0.here S0.hx rfl (S0.dec d5_37) rfl) ?_
      show own_F p e below s Z _ _ _ _ _ (T0.setTop (mkF m 38 #[.val (.ref aW), .val (.int 1), .val (.int 3), .val (.int 0), .unset, .unset, .unset] [(.int 1), (.int 6)]))
      refine own_F.of (fun _ => XS.isub S0.here S0.hx rfl (S0.dec d5_38) rfl) ?_
      show own_F p e below s Z _ _ _ _ _ (T0.setTop (mkF m 39 #[.val (.ref aW), .val (.int 1), .val (.int 3), .val (.int 0), .unset, .unset, .unset] [(.int 5)]))
      refine own_F.of (fun _ => XS.iloadN S0.here S0.hx rfl (S0.dec d5_39) rfl) ?_
      show own_F p e below s Z _ _ _ _ _ (T0.setTop (mkF m 40 #[.val (.ref aW), .val (.int 1), .val (.int 3), .val (.int 0), .unset, .unset, .unset] [(.int 3), (.int 5)]))
      refine own_F.of (fun _ => XS.isub S0.here S0.hx rfl (S0.dec d5_40) rfl) ?_
      show own_F p e below s Z _ _ _ _ _ (T0.setTop (mkF m 41 #[.val (.ref aW), .val (.int 1), .val (.int 3), .val (.int 0), .unset, .unset, .unset] [(.int 2)]))
      refine own_F.of (fun _ => XS.iloadN S0.here S0.hx rfl (S0.dec d5_41) rfl) ?_
      show own_F p e below s Z _ _ _ _ _ (T0.setTop (mkF m 42 #[.val (.ref aW), .val (.int 1), .val (.int 3), .val (.int 0), .unset, .unset, .unset] [(.int 0), (.int 2)]))
      refine own_F.of (fun _ => XS.isub S0.here S0.hx rfl (S0.dec d5_42) rfl) ?_
      show own_F p e below s Z _ _ _ _ _ (T0.setTop (mkF m 43 #[.val (.ref aW), .val (.int 1), .val (.int 3), .val (.int 0), .unset, .unset, .unset] [(.int 2)]))
      refine own_F.of (fun _ => XS.istore S0.here S0.hx rfl (S0.dec d5_43) rfl (l' := #[.val (.ref aW), .val (.int 1), .val (.int 3), .val (.int 0), .val (.int 2), .unset, .unset]) rfl) ?_
      exact J45 T0 S0 0 2 (by decide) (by decide) (own_dstE (by decide) (by decide) (by decide))
  · obtain rfl | rfl | rfl | rfl : jN = 0 ∨ jN = 1 ∨ jN = 2 ∨ jN = 3 := by omega
    · show own_F p e below s Z _ _ _ _ _ (T0.setTop (mkF m 0 #[.val (.ref aW), .val (.int 2), .val (.int 0), .unset, .unset, .unset, .unset] []))
      refine own_F.of (fun _ => XS.iloadN S0.here S0.hx rfl (S0.dec d5_0) rfl) ?_
      refine own_F.of (fun _ => XS.iloadN S0.here S0.hx rfl (S0.dec d5_1) rfl) ?_
      show own_F p e below s Z _ _ _ _ _ (T0.setTop (mkF m 2 #[.val (.ref aW), .val (.int 2), .val (.int 0), .unset, .unset, .unset, .unset] [(.int 0), (.int 2)]))
      refine own_icmp S0 7 d5_2 (by decide) (by decide) (fun (hc2_35 : ¬ ((2 : Int32) = (0 : Int32))) => ?_) (fun (hc2_35 : (2 : Int32) = (0 : Int32)) => False.elim (absurd hc2_35 (by decide)))
      show own_F p e below s Z _ _ _ _ _ (T0.setTop (mkF m 7 #[.val (.ref aW), .val (.int 2), .val (.int 0), .unset, .unset, .unset, .unset] []))
      refine own_F.of (fun _ => XS.iloadN S0.here S0.hx rfl (S0.dec d5_7) rfl) ?_
      show own_F p e below s Z _ _ _ _ _ (T0.setTop (mkF m 8 #[.val (.ref aW), .val (.int 2), .val (.int 0), .unset, .unset, .unset, .unset] [(.int 2)]))
      refine own_if S0 19 d5_8 (by decide) (by decide) (fun (hc8_36 : (2 : Int32) = (0 : Int32)) => False.elim (absurd hc8_36 (by decide))) (fun (hc8_36 : ¬ ((2 : Int32) = (0 : Int32))) => ?_)
      show own_F p e below s Z _ _ _ _ _ (T0.setTop (mkF m 11 #[.val (.ref aW), .val (.int 2), .val (.int 0), .unset, .unset, .unset, .unset] []))
      refine own_F.of (fun _ => XS.iloadN S0.here S0.hx rfl (S0.dec d5_11) rfl) ?_
      show own_F p e below s Z _ _ _ _ _ (T0.setTop (mkF m 12 #[.val (.ref aW), .val (.int 2), .val (.int 0), .unset, .unset, .unset, .unset] [(.int 0)]))
      refine own_if S0 19 d5_12 (by decide) (by decide) (fun (hc12_37 : (0 : Int32) = (0 : Int32)) => ?_) (fun (hc12_37 : ¬ ((0 : Int32) = (0 : Int32))) => False.elim (absurd hc12_37 (by decide)))
      show own_F p e below s Z _ _ _ _ _ (T0.setTop (mkF m 19 #[.val (.ref aW), .val (.int 2), .val (.int 0), .unset, .unset, .unset, .unset] []))
      refine own_F.of (fun _ => XS.iloadN S0.here S0.hx rfl (S0.dec d5_19) rfl) ?_
      refine own_F.of (fun _ => XS.iconst S0.here S0.hx rfl (S0.dec d5_20)) ?_
      show own_F p e below s Z _ _ _ _ _ (T0.setTop (mkF m 21 #[.val (.ref aW), .val (.int 2), .val (.int 0), .unset, .unset, .unset, .unset] [(.int 1), (.int 2)]))
      refine own_icmp S0 33 d5_21 (by decide) (by decide) (fun (hc21_38 : (2 : Int32) = (1 : Int32)) => False.elim (absurd hc21_38 (by decide))) (fun (hc21_38 : ¬ ((2 : Int32) = (1 : Int32))) => ?_)
      show own_F p e below s Z _ _ _ _ _ (T0.setTop (mkF m 24 #[.val (.ref aW), .val (.int 2), .val (.int 0), .unset, .unset, .unset, .unset] []))
      refine own_F.of (fun _ => XS.iloadN S0.here S0.hx rfl (S0.dec d5_24) rfl) ?_
      refine own_F.of (fun _ => XS.iconst S0.here S0.hx rfl (S0.dec d5_25)) ?_
      show own_F p e below s Z _ _ _ _ _ (T0.setTop (mkF m 26 #[.val (.ref aW), .val (.int 2), .val (.int 0), .unset, .unset, .unset, .unset] [(.int 1), (.int 0)]))
      refine own_icmp S0 33 d5_26 (by decide) (by decide) (fun (hc26_39 : (0 : Int32) = (1 : Int32)) => False.elim (absurd hc26_39 (by decide))) (fun (hc26_39 : ¬ ((0 : Int32) = (1 : Int32))) => ?_)
      show own_F p e below s Z _ _ _ _ _ (T0.setTop (mkF m 29 #[.val (.ref aW), .val (.int 2), .val (.int 0), .unset, .unset, .unset, .unset] []))
      refine own_F.of (fun _ => XS.iconst S0.here S0.hx rfl (S0.dec d5_29)) ?_
      show own_F p e below s Z _ _ _ _ _ (T0.setTop (mkF m 30 #[.val (.ref aW), .val (.int 2), .val (.int 0), .unset, .unset, .unset, .unset] [(.int 1)]))
      refine own_F.of (fun _ => XS.goto S0.here S0.hx rfl (pc0 := 30) (pc' := 34) rfl (S0.dec d5_30) (by decide) (by decide)) ?_
      show own_F p e below s Z _ _ _ _ _ (T0.setTop (mkF m 34 #[.val (.ref aW), .val (.int 2), .val (.int 0), .unset, .unset, .unset, .unset] [(.int 1)]))
      refine own_F.of (fun _ => XS.istoreN S0.here S0.hx rfl (S0.dec d5_34) rfl (l' := #[.val (.ref aW), .val (.int 2), .val (.int 0), .val (.int 1), .unset, .unset, .unset]) rfl) ?_
      refine own_F.of (fun _ => XS.bipush S0.here S0.hx rfl (S0.dec d5_35)) ?_
      refine own_F.of (fun _ => XS.iloadN S0.here S0.hx rfl (S0.dec d5_37) rfl) ?_
      show own_F p e below s Z _ _ _ _ _ (T0.setTop (mkF m 38 #[.val (.ref aW), .val (.int 2), .val (.int 0), .val (.int 1), .unset, .unset, .unset] [(.int 2), (.int 6)]))
      refine own_F.of (fun _ => XS.isub S0.here S0.hx rfl (S0.dec d5_38) rfl) ?_
      show own_F p e below s Z _ _ _ _ _ (T0.setTop (mkF m 39 #[.val (.ref aW), .val (.int 2), .val (.int 0), .val (.int 1), .unset, .unset, .unset] [(.int 4)]))
      refine own_F.of (fun _ => XS.iloadN S0.here S0.hx rfl (S0.dec d5_39) rfl) ?_
      show own_F p e below s Z _ _ _ _ _ (T0.setTop (mkF m 40 #[.val (.ref aW), .val (.int 2), .val (.int 0), .val (.int 1), .unset, .unset, .unset] [(.int 0), (.int 4)]))
      refine own_F.of (fun _ => XS.isub S0.here S0.hx rfl (S0.dec d5_40) rfl) ?_
      show own_F p e below s Z _ _ _ _ _ (T0.setTop (mkF m 41 #[.val (.ref aW), .val (.int 2), .val (.int 0), .val (.int 1), .unset, .unset, .unset] [(.int 4)]))
      refine own_F.of (fun _ => XS.iloadN S0.here S0.hx rfl (S0.dec d5_41) rfl) ?_
      show own_F p e below s Z _ _ _ _ _ (T0.setTop (mkF m 42 #[.val (.ref aW), .val (.int 2), .val (.int 0), .val (.int 1), .unset, .unset, .unset] [(.int 1), (.int 4)]))
      refine own_F.of (fun _ => XS.isub S0.here S0.hx rfl (S0.dec d5_42) rfl) ?_
      show own_F p e below s Z _ _ _ _ _ (T0.setTop (mkF m 43 #[.val (.ref aW), .val (.int 2), .val (.int 0), .val (.int 1), .unset, .unset, .unset] [(.int 3)]))
      refine own_F.of (fun _ => XS.istore S0.here S0.hx rfl (S0.dec d5_43) rfl (l' := #[.val (.ref aW), .val (.int 2), .val (.int 0), .val (.int 1), .val (.int 3), .unset, .unset]) rfl) ?_
      exact J45 T0 S0 1 3 (by decide) (by decide) (own_dstE (by decide) (by decide) (by decide))
    · show own_F p e below s Z _ _ _ _ _ (T0.setTop (mkF m 0 #[.val (.ref aW), .val (.int 2), .val (.int 1), .unset, .unset, .unset, .unset] []))
      refine own_F.of (fun _ => XS.iloadN S0.here S0.hx rfl (S0.dec d5_0) rfl) ?_
      refine own_F.of (fun _ => XS.iloadN S0.here S0.hx rfl (S0.dec d5_1) rfl) ?_
      show own_F p e below s Z _ _ _ _ _ (T0.setTop (mkF m 2 #[.val (.ref aW), .val (.int 2), .val (.int 1), .unset, .unset, .unset, .unset] [(.int 1), (.int 2)]))
      refine own_icmp S0 7 d5_2 (by decide) (by decide) (fun (hc2_40 : ¬ ((2 : Int32) = (1 : Int32))) => ?_) (fun (hc2_40 : (2 : Int32) = (1 : Int32)) => False.elim (absurd hc2_40 (by decide)))
      show own_F p e below s Z _ _ _ _ _ (T0.setTop (mkF m 7 #[.val (.ref aW), .val (.int 2), .val (.int 1), .unset, .unset, .unset, .unset] []))
      refine own_F.of (fun _ => XS.iloadN S0.here S0.hx rfl (S0.dec d5_7) rfl) ?_
      show own_F p e below s Z _ _ _ _ _ (T0.setTop (mkF m 8 #[.val (.ref aW), .val (.int 2), .val (.int 1), .unset, .unset, .unset, .unset] [(.int 2)]))
      refine own_if S0 19 d5_8 (by decide) (by decide) (fun (hc8_41 : (2 : Int32) = (0 : Int32)) => False.elim (absurd hc8_41 (by decide))) (fun (hc8_41 : ¬ ((2 : Int32) = (0 : Int32))) => ?_)
      show own_F p e below s Z _ _ _ _ _ (T0.setTop (mkF m 11 #[.val (.ref aW), .val (.int 2), .val (.int 1), .unset, .unset, .unset, .unset] []))
      refine own_F.of (fun _ => XS.iloadN S0.here S0.hx rfl (S0.dec d5_11) rfl) ?_
      show own_F p e below s Z _ _ _ _ _ (T0.setTop (mkF m 12 #[.val (.ref aW), .val (.int 2), .val (.int 1), .unset, .unset, .unset, .unset] [(.int 1)]))
      refine own_if S0 19 d5_12 (by decide) (by decide) (fun (hc12_42 : (1 : Int32) = (0 : Int32)) => False.elim (absurd hc12_42 (by decide))) (fun (hc12_42 : ¬ ((1 : Int32) = (0 : Int32))) => ?_)
      show own_F p e below s Z _ _ _ _ _ (T0.setTop (mkF m 15 #[.val (.ref aW), .val (.int 2), .val (.int 1), .unset, .unset, .unset, .unset] []))
      refine own_F.of (fun _ => XS.iconst S0.here S0.hx rfl (S0.dec d5_15)) ?_
      show own_F p e below s Z _ _ _ _ _ (T0.setTop (mkF m 16 #[.val (.ref aW), .val (.int 2), .val (.int 1), .unset, .unset, .unset, .unset] [(.int 0)]))
      refine own_F.of (fun _ => XS.goto S0.here S0.hx rfl (pc0 := 16) (pc' := 34) rfl (S0.dec d5_16) (by decide) (by decide)) ?_
      show own_F p e below s Z _ _ _ _ _ (T0.setTop (mkF m 34 #[.val (.ref aW), .val (.int 2), .val (.int 1), .unset, .unset, .unset, .unset] [(.int 0)]))
      refine own_F.of (fun _ => XS.istoreN S0.here S0.hx rfl (S0.dec d5_34) rfl (l' := #[.val (.ref aW), .val (.int 2), .val (.int 1), .val (.int 0), .unset, .unset, .unset]) rfl) ?_
      refine own_F.of (fun _ => XS.bipush S0.here S0.hx rfl (S0.dec d5_35)) ?_
      refine own_F.of (fun _ => XS.iloadN S0.here S0.hx rfl (S0.dec d5_37) rfl) ?_
      show own_F p e below s Z _ _ _ _ _ (T0.setTop (mkF m 38 #[.val (.ref aW), .val (.int 2), .val (.int 1), .val (.int 0), .unset, .unset, .unset] [(.int 2), (.int 6)]))
      refine own_F.of (fun _ => XS.isub S0.here S0.hx rfl (S0.dec d5_38) rfl) ?_
      show own_F p e below s Z _ _ _ _ _ (T0.setTop (mkF m 39 #[.val (.ref aW), .val (.int 2), .val (.int 1), .val (.int 0), .unset, .unset, .unset] [(.int 4)]))
      refine own_F.of (fun _ => XS.iloadN S0.here S0.hx rfl (S0.dec d5_39) rfl) ?_
      show own_F p e below s Z _ _ _ _ _ (T0.setTop (mkF m 40 #[.val (.ref aW), .val (.int 2), .val (.int 1), .val (.int 0), .unset, .unset, .unset] [(.int 1), (.int 4)]))
      refine own_F.of (fun _ => XS.isub S0.here S0.hx rfl (S0.dec d5_40) rfl) ?_
      show own_F p e below s Z _ _ _ _ _ (T0.setTop (mkF m 41 #[.val (.ref aW), .val (.int 2), .val (.int 1), .val (.int 0), .unset, .unset, .unset] [(.int 3)]))
      refine own_F.of (fun _ => XS.iloadN S0.here S0.hx rfl (S0.dec d5_41) rfl) ?_
      show own_F p e below s Z _ _ _ _ _ (T0.setTop (mkF m 42 #[.val (.ref aW), .val (.int 2), .val (.int 1), .val (.int 0), .unset, .unset, .unset] [(.int 0), (.int 3)]))
      refine own_F.of (fun _ => XS.isub S0.here S0.hx rfl (S0.dec d5_42) rfl) ?_
      show own_F p e below s Z _ _ _ _ _ (T0.setTop (mkF m 43 #[.val (.ref aW), .val (.int 2), .val (.int 1), .val (.int 0), .unset, .unset, .unset] [(.int 3)]))
      refine own_F.of (fun _ => XS.istore S0.here S0.hx rfl (S0.dec d5_43) rfl (l' := #[.val (.ref aW), .val (.int 2), .val (.int 1), .val (.int 0), .val (.int 3), .unset, .unset]) rfl) ?_
      exact J45 T0 S0 0 3 (by decide) (by decide) (own_dstE (by decide) (by decide) (by decide))
    · show own_F p e below s Z _ _ _ _ _ (T0.setTop (mkF m 0 #[.val (.ref aW), .val (.int 2), .val (.int 2), .unset, .unset, .unset, .unset] []))
      refine own_F.of (fun _ => XS.iloadN S0.here S0.hx rfl (S0.dec d5_0) rfl) ?_
      refine own_F.of (fun _ => XS.iloadN S0.here S0.hx rfl (S0.dec d5_1) rfl) ?_
      show own_F p e below s Z _ _ _ _ _ (T0.setTop (mkF m 2 #[.val (.ref aW), .val (.int 2), .val (.int 2), .unset, .unset, .unset, .unset] [(.int 2), (.int 2)]))
      refine own_icmp S0 7 d5_2 (by decide) (by decide) (fun (hc2_43 : ¬ ((2 : Int32) = (2 : Int32))) => False.elim (absurd hc2_43 (by decide))) (fun (hc2_43 : (2 : Int32) = (2 : Int32)) => ?_)
      show own_F p e below s Z _ _ _ _ _ (T0.setTop (mkF m 5 #[.val (.ref aW), .val (.int 2), .val (.int 2), .unset, .unset, .unset, .unset] []))
      refine own_F.of (fun _ => XS.lconst S0.here S0.hx rfl (S0.dec d5_5)) ?_
      show own_F p e below s Z _ _ _ _ _ (T0.setTop (mkF m 6 #[.val (.ref aW), .val (.int 2), .val (.int 2), .unset, .unset, .unset, .unset] [(.long (0 : Int64))]))
      refine own_retJ S0 d5_6 (by decide) (by decide) ?_
      exact ⟨congrArg (fun z => some (Value.long z)) own_dst0.symm, rfl⟩
    · show own_F p e below s Z _ _ _ _ _ (T0.setTop (mkF m 0 #[.val (.ref aW), .val (.int 2), .val (.int 3), .unset, .unset, .unset, .unset] []))
      refine own_F.of (fun _ => XS.iloadN S0.here S0.hx rfl (S0.dec d5_0) rfl) ?_
      refine own_F.of (fun _ => XS.iloadN S0.here S0.hx rfl (S0.dec d5_1) rfl) ?_
      show own_F p e below s Z _ _ _ _ _ (T0.setTop (mkF m 2 #[.val (.ref aW), .val (.int 2), .val (.int 3), .unset, .unset, .unset, .unset] [(.int 3), (.int 2)]))
      refine own_icmp S0 7 d5_2 (by decide) (by decide) (fun (hc2_44 : ¬ ((2 : Int32) = (3 : Int32))) => ?_) (fun (hc2_44 : (2 : Int32) = (3 : Int32)) => False.elim (absurd hc2_44 (by decide)))
      show own_F p e below s Z _ _ _ _ _ (T0.setTop (mkF m 7 #[.val (.ref aW), .val (.int 2), .val (.int 3), .unset, .unset, .unset, .unset] []))
      refine own_F.of (fun _ => XS.iloadN S0.here S0.hx rfl (S0.dec d5_7) rfl) ?_
      show own_F p e below s Z _ _ _ _ _ (T0.setTop (mkF m 8 #[.val (.ref aW), .val (.int 2), .val (.int 3), .unset, .unset, .unset, .unset] [(.int 2)]))
      refine own_if S0 19 d5_8 (by decide) (by decide) (fun (hc8_45 : (2 : Int32) = (0 : Int32)) => False.elim (absurd hc8_45 (by decide))) (fun (hc8_45 : ¬ ((2 : Int32) = (0 : Int32))) => ?_)
      show own_F p e below s Z _ _ _ _ _ (T0.setTop (mkF m 11 #[.val (.ref aW), .val (.int 2), .val (.int 3), .unset, .unset, .unset, .unset] []))
      refine own_F.of (fun _ => XS.iloadN S0.here S0.hx rfl (S0.dec d5_11) rfl) ?_
      show own_F p e below s Z _ _ _ _ _ (T0.setTop (mkF m 12 #[.val (.ref aW), .val (.int 2), .val (.int 3), .unset, .unset, .unset, .unset] [(.int 3)]))
      refine own_if S0 19 d5_12 (by decide) (by decide) (fun (hc12_46 : (3 : Int32) = (0 : Int32)) => False.elim (absurd hc12_46 (by decide))) (fun (hc12_46 : ¬ ((3 : Int32) = (0 : Int32))) => ?_)
      show own_F p e below s Z _ _ _ _ _ (T0.setTop (mkF m 15 #[.val (.ref aW), .val (.int 2), .val (.int 3), .unset, .unset, .unset, .unset] []))
      refine own_F.of (fun _ => XS.iconst S0.here S0.hx rfl (S0.dec d5_15)) ?_
      show own_F p e below s Z _ _ _ _ _ (T0.setTop (mkF m 16 #[.val (.ref aW), .val (.int 2), .val (.int 3), .unset, .unset, .unset, .unset] [(.int 0)]))
      refine own_F.of (fun _ => XS.goto S0.here S0.hx rfl (pc0 := 16) (pc' := 34) rfl (S0.dec d5_16) (by decide) (by decide)) ?_
      show own_F p e below s Z _ _ _ _ _ (T0.setTop (mkF m 34 #[.val (.ref aW), .val (.int 2), .val (.int 3), .unset, .unset, .unset, .unset] [(.int 0)]))
      refine own_F.of (fun _ => XS.istoreN S0.here S0.hx rfl (S0.dec d5_34) rfl (l' := #[.val (.ref aW), .val (.int 2), .val (.int 3), .val (.int 0), .unset, .unset, .unset]) rfl) ?_
      refine own_F.of (fun _ => XS.bipush S0.here S0.hx rfl (S0.dec d5_35)) ?_
      refine own_F.of (fun _ => XS.iloadN S0.here S0.hx rfl (S0.dec d5_37) rfl) ?_
      show own_F p e below s Z _ _ _ _ _ (T0.setTop (mkF m 38 #[.val (.ref aW), .val (.int 2), .val (.int 3), .val (.int 0), .unset, .unset, .unset] [(.int 2), (.int 6)]))
      refine own_F.of (fun _ => XS.isub S0.here S0.hx rfl (S0.dec d5_38) rfl) ?_
      show own_F p e below s Z _ _ _ _ _ (T0.setTop (mkF m 39 #[.val (.ref aW), .val (.int 2), .val (.int 3), .val (.int 0), .unset, .unset, .unset] [(.int 4)]))
      refine own_F.of (fun _ => XS.iloadN S0.here S0.hx rfl (S0.dec d5_39) rfl) ?_
      show own_F p e below s Z _ _ _ _ _ (T0.setTop (mkF m 40 #[.val (.ref aW), .val (.int 2), .val (.int 3), .val (.int 0), .unset, .unset, .unset] [(.int 3), (.int 4)]))
      refine own_F.of (fun _ => XS.isub S0.here S0.hx rfl (S0.dec d5_40) rfl) ?_
      show own_F p e below s Z _ _ _ _ _ (T0.setTop (mkF m 41 #[.val (.ref aW), .val (.int 2), .val (.int 3), .val (.int 0), .unset, .unset, .unset] [(.int 1)]))
      refine own_F.of (fun _ => XS.iloadN S0.here S0.hx rfl (S0.dec d5_41) rfl) ?_
      show own_F p e below s Z _ _ _ _ _ (T0.setTop (mkF m 42 #[.val (.ref aW), .val (.int 2), .val (.int 3), .val (.int 0), .unset, .unset, .unset] [(.int 0), (.int 1)]))
      refine own_F.of (fun _ => XS.isub S0.here S0.hx rfl (S0.dec d5_42) rfl) ?_
      show own_F p e below s Z _ _ _ _ _ (T0.setTop (mkF m 43 #[.val (.ref aW), .val (.int 2), .val (.int 3), .val (.int 0), .unset, .unset, .unset] [(.int 1)]))
      refine own_F.of (fun _ => XS.istore S0.here S0.hx rfl (S0.dec d5_43) rfl (l' := #[.val (.ref aW), .val (.int 2), .val (.int 3), .val (.int 0), .val (.int 1), .unset, .unset]) rfl) ?_
      exact J45 T0 S0 0 1 (by decide) (by decide) (own_dstE (by decide) (by decide) (by decide))
  · obtain rfl | rfl | rfl | rfl : jN = 0 ∨ jN = 1 ∨ jN = 2 ∨ jN = 3 := by omega
    · show own_F p e below s Z _ _ _ _ _ (T0.setTop (mkF m 0 #[.val (.ref aW), .val (.int 3), .val (.int 0), .unset, .unset, .unset, .unset] []))
      refine own_F.of (fun _ => XS.iloadN S0.here S0.hx rfl (S0.dec d5_0) rfl) ?_
      refine own_F.of (fun _ => XS.iloadN S0.here S0.hx rfl (S0.dec d5_1) rfl) ?_
      show own_F p e below s Z _ _ _ _ _ (T0.setTop (mkF m 2 #[.val (.ref aW), .val (.int 3), .val (.int 0), .unset, .unset, .unset, .unset] [(.int 0), (.int 3)]))
      refine own_icmp S0 7 d5_2 (by decide) (by decide) (fun (hc2_47 : ¬ ((3 : Int32) = (0 : Int32))) => ?_) (fun (hc2_47 : (3 : Int32) = (0 : Int32)) => False.elim (absurd hc2_47 (by decide)))
      show own_F p e below s Z _ _ _ _ _ (T0.setTop (mkF m 7 #[.val (.ref aW), .val (.int 3), .val (.int 0), .unset, .unset, .unset, .unset] []))
      refine own_F.of (fun _ => XS.iloadN S0.here S0.hx rfl (S0.dec d5_7) rfl) ?_
      show own_F p e below s Z _ _ _ _ _ (T0.setTop (mkF m 8 #[.val (.ref aW), .val (.int 3), .val (.int 0), .unset, .unset, .unset, .unset] [(.int 3)]))
      refine own_if S0 19 d5_8 (by decide) (by decide) (fun (hc8_48 : (3 : Int32) = (0 : Int32)) => False.elim (absurd hc8_48 (by decide))) (fun (hc8_48 : ¬ ((3 : Int32) = (0 : Int32))) => ?_)
      show own_F p e below s Z _ _ _ _ _ (T0.setTop (mkF m 11 #[.val (.ref aW), .val (.int 3), .val (.int 0), .unset, .unset, .unset, .unset] []))
      refine own_F.of (fun _ => XS.iloadN S0.here S0.hx rfl (S0.dec d5_11) rfl) ?_
      show own_F p e below s Z _ _ _ _ _ (T0.setTop (mkF m 12 #[.val (.ref aW), .val (.int 3), .val (.int 0), .unset, .unset, .unset, .unset] [(.int 0)]))
      refine own_if S0 19 d5_12 (by decide) (by decide) (fun (hc12_49 : (0 : Int32) = (0 : Int32)) => ?_) (fun (hc12_49 : ¬ ((0 : Int32) = (0 : Int32))) => False.elim (absurd hc12_49 (by decide)))
      show own_F p e below s Z _ _ _ _ _ (T0.setTop (mkF m 19 #[.val (.ref aW), .val (.int 3), .val (.int 0), .unset, .unset, .unset, .unset] []))
      refine own_F.of (fun _ => XS.iloadN S0.here S0.hx rfl (S0.dec d5_19) rfl) ?_
      refine own_F.of (fun _ => XS.iconst S0.here S0.hx rfl (S0.dec d5_20)) ?_
      show own_F p e below s Z _ _ _ _ _ (T0.setTop (mkF m 21 #[.val (.ref aW), .val (.int 3), .val (.int 0), .unset, .unset, .unset, .unset] [(.int 1), (.int 3)]))
      refine own_icmp S0 33 d5_21 (by decide) (by decide) (fun (hc21_50 : (3 : Int32) = (1 : Int32)) => False.elim (absurd hc21_50 (by decide))) (fun (hc21_50 : ¬ ((3 : Int32) = (1 : Int32))) => ?_)
      show own_F p e below s Z _ _ _ _ _ (T0.setTop (mkF m 24 #[.val (.ref aW), .val (.int 3), .val (.int 0), .unset, .unset, .unset, .unset] []))
      refine own_F.of (fun _ => XS.iloadN S0.here S0.hx rfl (S0.dec d5_24) rfl) ?_
      refine own_F.of (fun _ => XS.iconst S0.here S0.hx rfl (S0.dec d5_25)) ?_
      show own_F p e below s Z _ _ _ _ _ (T0.setTop (mkF m 26 #[.val (.ref aW), .val (.int 3), .val (.int 0), .unset, .unset, .unset, .unset] [(.int 1), (.int 0)]))
      refine own_icmp S0 33 d5_26 (by decide) (by decide) (fun (hc26_51 : (0 : Int32) = (1 : Int32)) => False.elim (absurd hc26_51 (by decide))) (fun (hc26_51 : ¬ ((0 : Int32) = (1 : Int32))) => ?_)
      show own_F p e below s Z _ _ _ _ _ (T0.setTop (mkF m 29 #[.val (.ref aW), .val (.int 3), .val (.int 0), .unset, .unset, .unset, .unset] []))
      refine own_F.of (fun _ => XS.iconst S0.here S0.hx rfl (S0.dec d5_29)) ?_
      show own_F p e below s Z _ _ _ _ _ (T0.setTop (mkF m 30 #[.val (.ref aW), .val (.int 3), .val (.int 0), .unset, .unset, .unset, .unset] [(.int 1)]))
      refine own_F.of (fun _ => XS.goto S0.here S0.hx rfl (pc0 := 30) (pc' := 34) rfl (S0.dec d5_30) (by decide) (by decide)) ?_
      show own_F p e below s Z _ _ _ _ _ (T0.setTop (mkF m 34 #[.val (.ref aW), .val (.int 3), .val (.int 0), .unset, .unset, .unset, .unset] [(.int 1)]))
      refine own_F.of (fun _ => XS.istoreN S0.here S0.hx rfl (S0.dec d5_34) rfl (l' := #[.val (.ref aW), .val (.int 3), .val (.int 0), .val (.int 1), .unset, .unset, .unset]) rfl) ?_
      refine own_F.of (fun _ => XS.bipush S0.here S0.hx rfl (S0.dec d5_35)) ?_
      refine own_F.of (fun _ => XS.iloadN S0.here S0.hx rfl (S0.dec d5_37) rfl) ?_
      show own_F p e below s Z _ _ _ _ _ (T0.setTop (mkF m 38 #[.val (.ref aW), .val (.int 3), .val (.int 0), .val (.int 1), .unset, .unset, .unset] [(.int 3), (.int 6)]))
      refine own_F.of (fun _ => XS.isub S0.here S0.hx rfl (S0.dec d5_38) rfl) ?_
      show own_F p e below s Z _ _ _ _ _ (T0.setTop (mkF m 39 #[.val (.ref aW), .val (.int 3), .val (.int 0), .val (.int 1), .unset, .unset, .unset] [(.int 3)]))
      refine own_F.of (fun _ => XS.iloadN S0.here S0.hx rfl (S0.dec d5_39) rfl) ?_
      show own_F p e below s Z _ _ _ _ _ (T0.setTop (mkF m 40 #[.val (.ref aW), .val (.int 3), .val (.int 0), .val (.int 1), .unset, .unset, .unset] [(.int 0), (.int 3)]))
      refine own_F.of (fun _ => XS.isub S0.here S0.hx rfl (S0.dec d5_40) rfl) ?_
      show own_F p e below s Z _ _ _ _ _ (T0.setTop (mkF m 41 #[.val (.ref aW), .val (.int 3), .val (.int 0), .val (.int 1), .unset, .unset, .unset] [(.int 3)]))
      refine own_F.of (fun _ => XS.iloadN S0.here S0.hx rfl (S0.dec d5_41) rfl) ?_
      show own_F p e below s Z _ _ _ _ _ (T0.setTop (mkF m 42 #[.val (.ref aW), .val (.int 3), .val (.int 0), .val (.int 1), .unset, .unset, .unset] [(.int 1), (.int 3)]))
      refine own_F.of (fun _ => XS.isub S0.here S0.hx rfl (S0.dec d5_42) rfl) ?_
      show own_F p e below s Z _ _ _ _ _ (T0.setTop (mkF m 43 #[.val (.ref aW), .val (.int 3), .val (.int 0), .val (.int 1), .unset, .unset, .unset] [(.int 2)]))
      refine own_F.of (fun _ => XS.istore S0.here S0.hx rfl (S0.dec d5_43) rfl (l' := #[.val (.ref aW), .val (.int 3), .val (.int 0), .val (.int 1), .val (.int 2), .unset, .unset]) rfl) ?_
      exact J45 T0 S0 1 2 (by decide) (by decide) (own_dstE (by decide) (by decide) (by decide))
    · show own_F p e below s Z _ _ _ _ _ (T0.setTop (mkF m 0 #[.val (.ref aW), .val (.int 3), .val (.int 1), .unset, .unset, .unset, .unset] []))
      refine own_F.of (fun _ => XS.iloadN S0.here S0.hx rfl (S0.dec d5_0) rfl) ?_
      refine own_F.of (fun _ => XS.iloadN S0.here S0.hx rfl (S0.dec d5_1) rfl) ?_
      show own_F p e below s Z _ _ _ _ _ (T0.setTop (mkF m 2 #[.val (.ref aW), .val (.int 3), .val (.int 1), .unset, .unset, .unset, .unset] [(.int 1), (.int 3)]))
      refine own_icmp S0 7 d5_2 (by decide) (by decide) (fun (hc2_52 : ¬ ((3 : Int32) = (1 : Int32))) => ?_) (fun (hc2_52 : (3 : Int32) = (1 : Int32)) => False.elim (absurd hc2_52 (by decide)))
      show own_F p e below s Z _ _ _ _ _ (T0.setTop (mkF m 7 #[.val (.ref aW), .val (.int 3), .val (.int 1), .unset, .unset, .unset, .unset] []))
      refine own_F.of (fun _ => XS.iloadN S0.here S0.hx rfl (S0.dec d5_7) rfl) ?_
      show own_F p e below s Z _ _ _ _ _ (T0.setTop (mkF m 8 #[.val (.ref aW), .val (.int 3), .val (.int 1), .unset, .unset, .unset, .unset] [(.int 3)]))
      refine own_if S0 19 d5_8 (by decide) (by decide) (fun (hc8_53 : (3 : Int32) = (0 : Int32)) => False.elim (absurd hc8_53 (by decide))) (fun (hc8_53 : ¬ ((3 : Int32) = (0 : Int32))) => ?_)
      show own_F p e below s Z _ _ _ _ _ (T0.setTop (mkF m 11 #[.val (.ref aW), .val (.int 3), .val (.int 1), .unset, .unset, .unset, .unset] []))
      refine own_F.of (fun _ => XS.iloadN S0.here S0.hx rfl (S0.dec d5_11) rfl) ?_
      show own_F p e below s Z _ _ _ _ _ (T0.setTop (mkF m 12 #[.val (.ref aW), .val (.int 3), .val (.int 1), .unset, .unset, .unset, .unset] [(.int 1)]))
      refine own_if S0 19 d5_12 (by decide) (by decide) (fun (hc12_54 : (1 : Int32) = (0 : Int32)) => False.elim (absurd hc12_54 (by decide))) (fun (hc12_54 : ¬ ((1 : Int32) = (0 : Int32))) => ?_)
      show own_F p e below s Z _ _ _ _ _ (T0.setTop (mkF m 15 #[.val (.ref aW), .val (.int 3), .val (.int 1), .unset, .unset, .unset, .unset] []))
      refine own_F.of (fun _ => XS.iconst S0.here S0.hx rfl (S0.dec d5_15)) ?_
      show own_F p e below s Z _ _ _ _ _ (T0.setTop (mkF m 16 #[.val (.ref aW), .val (.int 3), .val (.int 1), .unset, .unset, .unset, .unset] [(.int 0)]))
      refine own_F.of (fun _ => XS.goto S0.here S0.hx rfl (pc0 := 16) (pc' := 34) rfl (S0.dec d5_16) (by decide) (by decide)) ?_
      show own_F p e below s Z _ _ _ _ _ (T0.setTop (mkF m 34 #[.val (.ref aW), .val (.int 3), .val (.int 1), .unset, .unset, .unset, .unset] [(.int 0)]))
      refine own_F.of (fun _ => XS.istoreN S0.here S0.hx rfl (S0.dec d5_34) rfl (l' := #[.val (.ref aW), .val (.int 3), .val (.int 1), .val (.int 0), .unset, .unset, .unset]) rfl) ?_
      refine own_F.of (fun _ => XS.bipush S0.here S0.hx rfl (S0.dec d5_35)) ?_
      refine own_F.of (fun _ => XS.iloadN S0.here S0.hx rfl (S0.dec d5_37) rfl) ?_
      show own_F p e below s Z _ _ _ _ _ (T0.setTop (mkF m 38 #[.val (.ref aW), .val (.int 3), .val (.int 1), .val (.int 0), .unset, .unset, .unset] [(.int 3), (.int 6)]))
      refine own_F.of (fun _ => XS.isub S0.here S0.hx rfl (S0.dec d5_38) rfl) ?_
      show own_F p e below s Z _ _ _ _ _ (T0.setTop (mkF m 39 #[.val (.ref aW), .val (.int 3), .val (.int 1), .val (.int 0), .unset, .unset, .unset] [(.int 3)]))
      refine own_F.of (fun _ => XS.iloadN S0.here S0.hx rfl (S0.dec d5_39) rfl) ?_
      show own_F p e below s Z _ _ _ _ _ (T0.setTop (mkF m 40 #[.val (.ref aW), .val (.int 3), .val (.int 1), .val (.int 0), .unset, .unset, .unset] [(.int 1), (.int 3)]))
      refine own_F.of (fun _ => XS.isub S0.here S0.hx rfl (S0.dec d5_40) rfl) ?_
      show own_F p e below s Z _ _ _ _ _ (T0.setTop (mkF m 41 #[.val (.ref aW), .val (.int 3), .val (.int 1), .val (.int 0), .unset, .unset, .unset] [(.int 2)]))
      refine own_F.of (fun _ => XS.iloadN S0.here S0.hx rfl (S0.dec d5_41) rfl) ?_
      show own_F p e below s Z _ _ _ _ _ (T0.setTop (mkF m 42 #[.val (.ref aW), .val (.int 3), .val (.int 1), .val (.int 0), .unset, .unset, .unset] [(.int 0), (.int 2)]))
      refine own_F.of (fun _ => XS.isub S0.here S0.hx rfl (S0.dec d5_42) rfl) ?_
      show own_F p e below s Z _ _ _ _ _ (T0.setTop (mkF m 43 #[.val (.ref aW), .val (.int 3), .val (.int 1), .val (.int 0), .unset, .unset, .unset] [(.int 2)]))
      refine own_F.of (fun _ => XS.istore S0.here S0.hx rfl (S0.dec d5_43) rfl (l' := #[.val (.ref aW), .val (.int 3), .val (.int 1), .val (.int 0), .val (.int 2), .unset, .unset]) rfl) ?_
      exact J45 T0 S0 0 2 (by decide) (by decide) (own_dstE (by decide) (by decide) (by decide))
    · show own_F p e below s Z _ _ _ _ _ (T0.setTop (mkF m 0 #[.val (.ref aW), .val (.int 3), .val (.int 2), .unset, .unset, .unset, .unset] []))
      refine own_F.of (fun _ => XS.iloadN S0.here S0.hx rfl (S0.dec d5_0) rfl) ?_
      refine own_F.of (fun _ => XS.iloadN S0.here S0.hx rfl (S0.dec d5_1) rfl) ?_
      show own_F p e below s Z _ _ _ _ _ (T0.setTop (mkF m 2 #[.val (.ref aW), .val (.int 3), .val (.int 2), .unset, .unset, .unset, .unset] [(.int 2), (.int 3)]))
      refine own_icmp S0 7 d5_2 (by decide) (by decide) (fun (hc2_55 : ¬ ((3 : Int32) = (2 : Int32))) => ?_) (fun (hc2_55 : (3 : Int32) = (2 : Int32)) => False.elim (absurd hc2_55 (by decide)))
      show own_F p e below s Z _ _ _ _ _ (T0.setTop (mkF m 7 #[.val (.ref aW), .val (.int 3), .val (.int 2), .unset, .unset, .unset, .unset] []))
      refine own_F.of (fun _ => XS.iloadN S0.here S0.hx rfl (S0.dec d5_7) rfl) ?_
      show own_F p e below s Z _ _ _ _ _ (T0.setTop (mkF m 8 #[.val (.ref aW), .val (.int 3), .val (.int 2), .unset, .unset, .unset, .unset] [(.int 3)]))
      refine own_if S0 19 d5_8 (by decide) (by decide) (fun (hc8_56 : (3 : Int32) = (0 : Int32)) => False.elim (absurd hc8_56 (by decide))) (fun (hc8_56 : ¬ ((3 : Int32) = (0 : Int32))) => ?_)
      show own_F p e below s Z _ _ _ _ _ (T0.setTop (mkF m 11 #[.val (.ref aW), .val (.int 3), .val (.int 2), .unset, .unset, .unset, .unset] []))
      refine own_F.of (fun _ => XS.iloadN S0.here S0.hx rfl (S0.dec d5_11) rfl) ?_
      show own_F p e below s Z _ _ _ _ _ (T0.setTop (mkF m 12 #[.val (.ref aW), .val (.int 3), .val (.int 2), .unset, .unset, .unset, .unset] [(.int 2)]))
      refine own_if S0 19 d5_12 (by decide) (by decide) (fun (hc12_57 : (2 : Int32) = (0 : Int32)) => False.elim (absurd hc12_57 (by decide))) (fun (hc12_57 : ¬ ((2 : Int32) = (0 : Int32))) => ?_)
      show own_F p e below s Z _ _ _ _ _ (T0.setTop (mkF m 15 #[.val (.ref aW), .val (.int 3), .val (.int 2), .unset, .unset, .unset, .unset] []))
      refine own_F.of (fun _ => XS.iconst S0.here S0.hx rfl (S0.dec d5_15)) ?_
      show own_F p e below s Z _ _ _ _ _ (T0.setTop (mkF m 16 #[.val (.ref aW), .val (.int 3), .val (.int 2), .unset, .unset, .unset, .unset] [(.int 0)]))
      refine own_F.of (fun _ => XS.goto S0.here S0.hx rfl (pc0 := 16) (pc' := 34) rfl (S0.dec d5_16) (by decide) (by decide)) ?_
      show own_F p e below s Z _ _ _ _ _ (T0.setTop (mkF m 34 #[.val (.ref aW), .val (.int 3), .val (.int 2), .unset, .unset, .unset, .unset] [(.int 0)]))
      refine own_F.of (fun _ => XS.istoreN S0.here S0.hx rfl (S0.dec d5_34) rfl (l' := #[.val (.ref aW), .val (.int 3), .val (.int 2), .val (.int 0), .unset, .unset, .unset]) rfl) ?_
      refine own_F.of (fun _ => XS.bipush S0.here S0.hx rfl (S0.dec d5_35)) ?_
      refine own_F.of (fun _ => XS.iloadN S0.here S0.hx rfl (S0.dec d5_37) rfl) ?_
      show own_F p e below s Z _ _ _ _ _ (T0.setTop (mkF m 38 #[.val (.ref aW), .val (.int 3), .val (.int 2), .val (.int 0), .unset, .unset, .unset] [(.int 3), (.int 6)]))
      refine own_F.of (fun _ => XS.isub S0.here S0.hx rfl (S0.dec d5_38) rfl) ?_
      show own_F p e below s Z _ _ _ _ _ (T0.setTop (mkF m 39 #[.val (.ref aW), .val (.int 3), .val (.int 2), .val (.int 0), .unset, .unset, .unset] [(.int 3)]))
      refine own_F.of (fun _ => XS.iloadN S0.here S0.hx rfl (S0.dec d5_39) rfl) ?_
      show own_F p e below s Z _ _ _ _ _ (T0.setTop (mkF m 40 #[.val (.ref aW), .val (.int 3), .val (.int 2), .val (.int 0), .unset, .unset, .unset] [(.int 2), (.int 3)]))
      refine own_F.of (fun _ => XS.isub S0.here S0.hx rfl (S0.dec d5_40) rfl) ?_
      show own_F p e below s Z _ _ _ _ _ (T0.setTop (mkF m 41 #[.val (.ref aW), .val (.int 3), .val (.int 2), .val (.int 0), .unset, .unset, .unset] [(.int 1)]))
      refine own_F.of (fun _ => XS.iloadN S0.here S0.hx rfl (S0.dec d5_41) rfl) ?_
      show own_F p e below s Z _ _ _ _ _ (T0.setTop (mkF m 42 #[.val (.ref aW), .val (.int 3), .val (.int 2), .val (.int 0), .unset, .unset, .unset] [(.int 0), (.int 1)]))
      refine own_F.of (fun _ => XS.isub S0.here S0.hx rfl (S0.dec d5_42) rfl) ?_
      show own_F p e below s Z _ _ _ _ _ (T0.setTop (mkF m 43 #[.val (.ref aW), .val (.int 3), .val (.int 2), .val (.int 0), .unset, .unset, .unset] [(.int 1)]))
      refine own_F.of (fun _ => XS.istore S0.here S0.hx rfl (S0.dec d5_43) rfl (l' := #[.val (.ref aW), .val (.int 3), .val (.int 2), .val (.int 0), .val (.int 1), .unset, .unset]) rfl) ?_
      exact J45 T0 S0 0 1 (by decide) (by decide) (own_dstE (by decide) (by decide) (by decide))
    · show own_F p e below s Z _ _ _ _ _ (T0.setTop (mkF m 0 #[.val (.ref aW), .val (.int 3), .val (.int 3), .unset, .unset, .unset, .unset] []))
      refine own_F.of (fun _ => XS.iloadN S0.here S0.hx rfl (S0.dec d5_0) rfl) ?_
      refine own_F.of (fun _ => XS.iloadN S0.here S0.hx rfl (S0.dec d5_1) rfl) ?_
      show own_F p e below s Z _ _ _ _ _ (T0.setTop (mkF m 2 #[.val (.ref aW), .val (.int 3), .val (.int 3), .unset, .unset, .unset, .unset] [(.int 3), (.int 3)]))
      refine own_icmp S0 7 d5_2 (by decide) (by decide) (fun (hc2_58 : ¬ ((3 : Int32) = (3 : Int32))) => False.elim (absurd hc2_58 (by decide))) (fun (hc2_58 : (3 : Int32) = (3 : Int32)) => ?_)
      show own_F p e below s Z _ _ _ _ _ (T0.setTop (mkF m 5 #[.val (.ref aW), .val (.int 3), .val (.int 3), .unset, .unset, .unset, .unset] []))
      refine own_F.of (fun _ => XS.lconst S0.here S0.hx rfl (S0.dec d5_5)) ?_
      show own_F p e below s Z _ _ _ _ _ (T0.setTop (mkF m 6 #[.val (.ref aW), .val (.int 3), .val (.int 3), .unset, .unset, .unset, .unset] [(.long (0 : Int64))]))
      refine own_retJ S0 d5_6 (by decide) (by decide) ?_
      exact ⟨congrArg (fun z => some (Value.long z)) own_dst0.symm, rfl⟩
theorem d4_0 : decode method_4_code 0 = .ok (.aload_n 0, 1) := by decide +kernel
theorem d4_1 : decode method_4_code 1 = .ok (.iload_n 2, 1) := by decide +kernel
theorem d4_2 : decode method_4_code 2 = .ok (.iload_n 1, 1) := by decide +kernel
theorem d4_3 : decode method_4_code 3 = .ok (.invokestatic 22, 3) := by decide +kernel
theorem d4_6 : decode method_4_code 6 = .ok (.lstore 5, 2) := by decide +kernel
theorem d4_8 : decode method_4_code 8 = .ok (.lload 5, 2) := by decide +kernel
theorem d4_10 : decode method_4_code 10 = .ok (.ldc2_w 9, 3) := by decide +kernel
theorem d4_13 : decode method_4_code 13 = .ok (.lcmp, 1) := by decide +kernel
theorem d4_14 : decode method_4_code 14 = .ok (.ifCond .eq 15, 3) := by decide +kernel
theorem d4_17 : decode method_4_code 17 = .ok (.lload_n 3, 1) := by decide +kernel
theorem d4_18 : decode method_4_code 18 = .ok (.lload 5, 2) := by decide +kernel
theorem d4_20 : decode method_4_code 20 = .ok (.lneg, 1) := by decide +kernel
theorem d4_21 : decode method_4_code 21 = .ok (.lcmp, 1) := by decide +kernel
theorem d4_22 : decode method_4_code 22 = .ok (.ifCond .ge 7, 3) := by decide +kernel
theorem d4_25 : decode method_4_code 25 = .ok (.lload 5, 2) := by decide +kernel
theorem d4_27 : decode method_4_code 27 = .ok (.lneg, 1) := by decide +kernel
theorem d4_28 : decode method_4_code 28 = .ok (.lreturn, 1) := by decide +kernel
theorem d4_29 : decode method_4_code 29 = .ok (.lload_n 3, 1) := by decide +kernel
theorem d4_30 : decode method_4_code 30 = .ok (.lreturn, 1) := by decide +kernel
theorem pn4 : plainFor (⟨"com/example/slackweave/slackweave/generate/TightestBoundsAddPinLaw", "clampMax", "([JIIJ)J"⟩ : MethodName) = true := plainFor_of_name (by first | (simp [plainName, overriddenIn]; done) | decide +kernel)
set_option maxRecDepth 65536 in
set_option maxHeartbeats 40000000 in
theorem own_clamp (l : Launch) (Z : State) (a0 : Array Value) (hw : ∀ d ∈ tables_1, d.before a0 Z = true) (aW : Addr) (Wm : Nat → Nat → Int64) (fN tN : Nat) (hf : fN < 4) (ht : tN < 4) (mv : Int64) (h0 : Heap) (hO : Ext Z.heap h0) (A : own_A Z h0 aW .long (own_w16 Wm)) :
    own_C l Z (⟨"com/example/slackweave/slackweave/generate/TightestBoundsAddPinLaw", "clampMax", "([JIIJ)J"⟩ : MethodName) method_4_code 7 (some .long) [] ({ frames := 2, cells := 0, slots := 0, locals := 58 } : Room) [] #[(.ref aW), (.int fN.toInt32), (.int tN.toInt32), (.long mv)] h0 (fun v h => ∃ x, v = some (.long x) ∧ x = own_cl Wm fN tN mv ∧ h0 = h) := by
  refine own_C.of pn4 hO all0 ?_
  intro p e s m below meth c T0 S0
  refine own_F.cast (by first | (simp [entryFrame, mkF, argsToLocals, Value.category]; done) | rfl : entryFrame m #[(.ref aW), (.int fN.toInt32), (.int tN.toInt32), (.long mv)] 7 = mkF m 0 #[.val (.ref aW), .val (.int fN.toInt32), .val (.int tN.toInt32), .val (.long mv), .second, .unset, .unset] []) ?_
  show own_F p e below s Z _ _ _ _ _ (T0.setTop (mkF m 0 #[.val (.ref aW), .val (.int fN.toInt32), .val (.int tN.toInt32), .val (.long mv), .second, .unset, .unset] []))
  refine own_F.of (fun _ => XS.aloadN S0.here S0.hx rfl (S0.dec d4_0) rfl rfl) ?_
  refine own_F.of (fun _ => XS.iloadN S0.here S0.hx rfl (S0.dec d4_1) rfl) ?_
  refine own_F.of (fun _ => XS.iloadN S0.here S0.hx rfl (S0.dec d4_2) rfl) ?_
  show own_F p e below s Z _ _ _ _ _ (T0.setTop (mkF m 3 #[.val (.ref aW), .val (.int fN.toInt32), .val (.int tN.toInt32), .val (.long mv), .second, .unset, .unset] [(.int fN.toInt32), (.int tN.toInt32), (.ref aW)]))
  refine own_callS S0 (y := (⟨"com/example/slackweave/slackweave/generate/TightestBoundsAddPinLaw", "dist", "([JII)J"⟩ : MethodName)) (own_w hw 25 rfl) (own_w hw 26 rfl) (own_w hw 23 rfl) (own_w hw 27 rfl) (by decide) (argsL := [(.ref aW), (.int tN.toInt32), (.int fN.toInt32)]) (rest := []) (own_dist l Z a0 hw aW Wm tN fN ht hf h0 S0.old A) all0 (by decide +kernel : parseMethodDescriptor "([JII)J" = some ⟨[(.array .long), .int, .int], some .long⟩) rfl rfl rfl d4_3 (by decide) (Nat.le_of_ble_eq_true rfl) (by decide) (by decide) (fun T1 h1 v1 S1 K1 q1 => ?_)
  obtain ⟨rfl, rfl⟩ := q1
  show own_F p e below s Z _ _ _ _ _ (T1.setTop (mkF m 6 #[.val (.ref aW), .val (.int fN.toInt32), .val (.int tN.toInt32), .val (.long mv), .second, .unset, .unset] [(.long (own_dst Wm tN fN))]))
  refine own_F.of (fun _ => XS.lstore S1.here S1.hx rfl (S1.dec d4_6) rfl (l' := #[.val (.ref aW), .val (.int fN.toInt32), .val (.int tN.toInt32), .val (.long mv), .second, .val (.long (own_dst Wm tN fN)), .second]) rfl) ?_
  refine own_F.of (fun _ => XS.lload S1.here S1.hx rfl (S1.dec d4_8) rfl) ?_
  show own_F p e below s Z _ _ _ _ _ (T1.setTop (mkF m 10 #[.val (.ref aW), .val (.int fN.toInt32), .val (.int tN.toInt32), .val (.long mv), .second, .val (.long (own_dst Wm tN fN)), .second] [(.long (own_dst Wm tN fN))]))
  refine own_ldcJ S1 (own_w hw 0 rfl) d4_10 ?_
  show own_F p e below s Z _ _ _ _ _ (T1.setTop (mkF m 13 #[.val (.ref aW), .val (.int fN.toInt32), .val (.int tN.toInt32), .val (.long mv), .second, .val (.long (own_dst Wm tN fN)), .second] [(.long (9223372036854775807 : Int64)), (.long (own_dst Wm tN fN))]))
  refine own_F.of (fun _ => XS.lcmp S1.here S1.hx rfl (S1.dec d4_13) rfl) ?_
  show own_F p e below s Z _ _ _ _ _ (T1.setTop (mkF m 14 #[.val (.ref aW), .val (.int fN.toInt32), .val (.int tN.toInt32), .val (.long mv), .second, .val (.long (own_dst Wm tN fN)), .second] [(.int (lcmpW (own_dst Wm tN fN) (9223372036854775807 : Int64)))]))
  refine own_if S1 29 d4_14 (by decide) (by decide) (fun (hc14_2 : (lcmpW (own_dst Wm tN fN) (9223372036854775807 : Int64)) = (0 : Int32)) => ?_) (fun (hc14_2 : ¬ ((lcmpW (own_dst Wm tN fN) (9223372036854775807 : Int64)) = (0 : Int32))) => ?_)
  · show own_F p e below s Z _ _ _ _ _ (T1.setTop (mkF m 29 #[.val (.ref aW), .val (.int fN.toInt32), .val (.int tN.toInt32), .val (.long mv), .second, .val (.long (own_dst Wm tN fN)), .second] []))
    refine own_F.of (fun _ => XS.lloadN S1.here S1.hx rfl (S1.dec d4_29) rfl) ?_
    show own_F p e below s Z _ _ _ _ _ (T1.setTop (mkF m 30 #[.val (.ref aW), .val (.int fN.toInt32), .val (.int tN.toInt32), .val (.long mv), .second, .val (.long (own_dst Wm tN fN)), .second] [(.long mv)]))
    refine own_retJ S1 d4_30 (by decide) (by decide) ?_
    exact ⟨_, rfl, own_clA hc14_2, rfl⟩
  · show own_F p e below s Z _ _ _ _ _ (T1.setTop (mkF m 17 #[.val (.ref aW), .val (.int fN.toInt32), .val (.int tN.toInt32), .val (.long mv), .second, .val (.long (own_dst Wm tN fN)), .second] []))
    refine own_F.of (fun _ => XS.lloadN S1.here S1.hx rfl (S1.dec d4_17) rfl) ?_
    refine own_F.of (fun _ => XS.lload S1.here S1.hx rfl (S1.dec d4_18) rfl) ?_
    show own_F p e below s Z _ _ _ _ _ (T1.setTop (mkF m 20 #[.val (.ref aW), .val (.int fN.toInt32), .val (.int tN.toInt32), .val (.long mv), .second, .val (.long (own_dst Wm tN fN)), .second] [(.long (own_dst Wm tN fN)), (.long mv)]))
    refine own_F.of (fun _ => XS.lneg S1.here S1.hx rfl (S1.dec d4_20) rfl) ?_
    show own_F p e below s Z _ _ _ _ _ (T1.setTop (mkF m 21 #[.val (.ref aW), .val (.int fN.toInt32), .val (.int tN.toInt32), .val (.long mv), .second, .val (.long (own_dst Wm tN fN)), .second] [(.long (-(own_dst Wm tN fN))), (.long mv)]))
    refine own_F.of (fun _ => XS.lcmp S1.here S1.hx rfl (S1.dec d4_21) rfl) ?_
    show own_F p e below s Z _ _ _ _ _ (T1.setTop (mkF m 22 #[.val (.ref aW), .val (.int fN.toInt32), .val (.int tN.toInt32), .val (.long mv), .second, .val (.long (own_dst Wm tN fN)), .second] [(.int (lcmpW mv (-(own_dst Wm tN fN))))]))
    refine own_if S1 29 d4_22 (by decide) (by decide) (fun (hc22_3 : ¬ ((lcmpW mv (-(own_dst Wm tN fN))) < (0 : Int32))) => ?_) (fun (hc22_3 : (lcmpW mv (-(own_dst Wm tN fN))) < (0 : Int32)) => ?_)
    · show own_F p e below s Z _ _ _ _ _ (T1.setTop (mkF m 29 #[.val (.ref aW), .val (.int fN.toInt32), .val (.int tN.toInt32), .val (.long mv), .second, .val (.long (own_dst Wm tN fN)), .second] []))
      refine own_F.of (fun _ => XS.lloadN S1.here S1.hx rfl (S1.dec d4_29) rfl) ?_
      show own_F p e below s Z _ _ _ _ _ (T1.setTop (mkF m 30 #[.val (.ref aW), .val (.int fN.toInt32), .val (.int tN.toInt32), .val (.long mv), .second, .val (.long (own_dst Wm tN fN)), .second] [(.long mv)]))
      refine own_retJ S1 d4_30 (by decide) (by decide) ?_
      exact ⟨_, rfl, own_clC hc22_3, rfl⟩
    · show own_F p e below s Z _ _ _ _ _ (T1.setTop (mkF m 25 #[.val (.ref aW), .val (.int fN.toInt32), .val (.int tN.toInt32), .val (.long mv), .second, .val (.long (own_dst Wm tN fN)), .second] []))
      refine own_F.of (fun _ => XS.lload S1.here S1.hx rfl (S1.dec d4_25) rfl) ?_
      show own_F p e below s Z _ _ _ _ _ (T1.setTop (mkF m 27 #[.val (.ref aW), .val (.int fN.toInt32), .val (.int tN.toInt32), .val (.long mv), .second, .val (.long (own_dst Wm tN fN)), .second] [(.long (own_dst Wm tN fN))]))
      refine own_F.of (fun _ => XS.lneg S1.here S1.hx rfl (S1.dec d4_27) rfl) ?_
      show own_F p e below s Z _ _ _ _ _ (T1.setTop (mkF m 28 #[.val (.ref aW), .val (.int fN.toInt32), .val (.int tN.toInt32), .val (.long mv), .second, .val (.long (own_dst Wm tN fN)), .second] [(.long (-(own_dst Wm tN fN)))]))
      refine own_retJ S1 d4_28 (by decide) (by decide) ?_
      exact ⟨_, rfl, own_clB hc14_2 hc22_3, rfl⟩
theorem d11_0 : decode prog_7_method_2_code 0 = .ok (.aload_n 0, 1) := by decide +kernel
theorem d11_1 : decode prog_7_method_2_code 1 = .ok (.getfield 11, 3) := by decide +kernel
theorem d11_4 : decode prog_7_method_2_code 4 = .ok (.iload_n 1, 1) := by decide +kernel
theorem d11_5 : decode prog_7_method_2_code 5 = .ok (.aaload, 1) := by decide +kernel
theorem d11_6 : decode prog_7_method_2_code 6 = .ok (.iload_n 2, 1) := by decide +kernel
theorem d11_7 : decode prog_7_method_2_code 7 = .ok (.laload, 1) := by decide +kernel
theorem d11_8 : decode prog_7_method_2_code 8 = .ok (.lreturn, 1) := by decide +kernel
theorem pn11 : plainFor (⟨"com/example/slackweave/slackweave/generate/TightestBounds", "of", "(II)J"⟩ : MethodName) = true := plainFor_of_name (by first | (simp [plainName, overriddenIn]; done) | decide +kernel)
set_option maxRecDepth 65536 in
set_option maxHeartbeats 40000000 in
theorem own_of (l : Launch) (Z : State) (a0 : Array Value) (hw : ∀ d ∈ tables_1, d.before a0 Z = true) (a1 aM aW : Addr) (Rw : Nat → Addr) (Dm Wm : Nat → Nat → Int64) (iN jN : Nat) (hi : iN < 4) (hj : jN < 4) (h0 : Heap) (hO : Ext Z.heap h0) (H : own_M Z h0 a1 aM aW Rw Dm Wm) :
    own_C l Z (⟨"com/example/slackweave/slackweave/generate/TightestBounds", "of", "(II)J"⟩ : MethodName) prog_7_method_2_code 3 (some .long) [] ({ frames := 0, cells := 0, slots := 0, locals := 0 } : Room) [] #[(.ref a1), (.int iN.toInt32), (.int jN.toInt32)] h0 (fun v h => v = some (.long (Dm iN jN)) ∧ h0 = h) := by
  refine own_C.of pn11 hO all0 ?_
  intro p e s m below meth c T0 S0
  refine own_F.cast (by first | (simp [entryFrame, mkF, argsToLocals, Value.category]; done) | rfl : entryFrame m #[(.ref a1), (.int iN.toInt32), (.int jN.toInt32)] 3 = mkF m 0 #[.val (.ref a1), .val (.int iN.toInt32), .val (.int jN.toInt32)] []) ?_
  show own_F p e below s Z _ _ _ _ _ (T0.setTop (mkF m 0 #[.val (.ref a1), .val (.int iN.toInt32), .val (.int jN.toInt32)] []))
  refine own_F.of (fun _ => XS.aloadN S0.here S0.hx rfl (S0.dec d11_0) rfl rfl) ?_
  show own_F p e below s Z _ _ _ _ _ (T0.setTop (mkF m 1 #[.val (.ref a1), .val (.int iN.toInt32), .val (.int jN.toInt32)] [(.ref a1)]))
  refine own_getF S0 (host := "") (Or.inl (own_w hw 13 rfl)) Via.refl H.fld d11_1 (fun T1 S1 => ?_)
  show own_F p e below s Z _ _ _ _ _ (T1.setTop (mkF m 4 #[.val (.ref a1), .val (.int iN.toInt32), .val (.int jN.toInt32)] [(.ref aM)]))
  refine own_F.of (fun _ => XS.iloadN S1.here S1.hx rfl (S1.dec d11_4) rfl) ?_
  show own_F p e below s Z _ _ _ _ _ (T1.setTop (mkF m 5 #[.val (.ref a1), .val (.int iN.toInt32), .val (.int jN.toInt32)] [(.int iN.toInt32), (.ref aM)]))
  refine own_aald S1 H.tab rfl (own_n4 (Nat.lt_trans hi (by decide))).2.1 (own_at4 hi) d11_5 ?_
  show own_F p e below s Z _ _ _ _ _ (T1.setTop (mkF m 6 #[.val (.ref a1), .val (.int iN.toInt32), .val (.int jN.toInt32)] [(.ref (Rw iN))]))
  refine own_F.of (fun _ => XS.iloadN S1.here S1.hx rfl (S1.dec d11_6) rfl) ?_
  show own_F p e below s Z _ _ _ _ _ (T1.setTop (mkF m 7 #[.val (.ref a1), .val (.int iN.toInt32), .val (.int jN.toInt32)] [(.int jN.toInt32), (.ref (Rw iN))]))
  refine own_lald S1 (H.rw hi) (own_n4 (Nat.lt_trans hj (by decide))).2.1 (by rw [(own_n4 (Nat.lt_trans hj (by decide))).1]; exact own_row_at hj) d11_7 ?_
  show own_F p e below s Z _ _ _ _ _ (T1.setTop (mkF m 8 #[.val (.ref a1), .val (.int iN.toInt32), .val (.int jN.toInt32)] [(.long (Dm iN jN))]))
  refine own_retJ S1 d11_8 (by decide) (by decide) ?_
  exact ⟨rfl, rfl⟩
theorem d10_0 : decode method_6_code 0 = .ok (.aload_n 0, 1) := by decide +kernel
theorem d10_1 : decode method_6_code 1 = .ok (.iload_n 2, 1) := by decide +kernel
theorem d10_2 : decode method_6_code 2 = .ok (.iconst 0, 1) := by decide +kernel
theorem d10_3 : decode method_6_code 3 = .ok (.invokevirtual 26, 3) := by decide +kernel
theorem d10_6 : decode method_6_code 6 = .ok (.aload_n 1, 1) := by decide +kernel
theorem d10_7 : decode method_6_code 7 = .ok (.iload_n 2, 1) := by decide +kernel
theorem d10_8 : decode method_6_code 8 = .ok (.iconst 0, 1) := by decide +kernel
theorem d10_9 : decode method_6_code 9 = .ok (.invokestatic 22, 3) := by decide +kernel
theorem d10_12 : decode method_6_code 12 = .ok (.lcmp, 1) := by decide +kernel
theorem d10_13 : decode method_6_code 13 = .ok (.ifCond .ne 55, 3) := by decide +kernel
theorem d10_16 : decode method_6_code 16 = .ok (.aload_n 0, 1) := by decide +kernel
theorem d10_17 : decode method_6_code 17 = .ok (.iload_n 2, 1) := by decide +kernel
theorem d10_18 : decode method_6_code 18 = .ok (.iconst 1, 1) := by decide +kernel
theorem d10_19 : decode method_6_code 19 = .ok (.invokevirtual 26, 3) := by decide +kernel
theorem d10_22 : decode method_6_code 22 = .ok (.aload_n 1, 1) := by decide +kernel
theorem d10_23 : decode method_6_code 23 = .ok (.iload_n 2, 1) := by decide +kernel
theorem d10_24 : decode method_6_code 24 = .ok (.iconst 1, 1) := by decide +kernel
theorem d10_25 : decode method_6_code 25 = .ok (.invokestatic 22, 3) := by decide +kernel
theorem d10_28 : decode method_6_code 28 = .ok (.lcmp, 1) := by decide +kernel
theorem d10_29 : decode method_6_code 29 = .ok (.ifCond .ne 39, 3) := by decide +kernel
theorem d10_32 : decode method_6_code 32 = .ok (.aload_n 0, 1) := by decide +kernel
theorem d10_33 : decode method_6_code 33 = .ok (.iload_n 2, 1) := by decide +kernel
theorem d10_34 : decode method_6_code 34 = .ok (.iconst 2, 1) := by decide +kernel
theorem d10_35 : decode method_6_code 35 = .ok (.invokevirtual 26, 3) := by decide +kernel
theorem d10_38 : decode method_6_code 38 = .ok (.aload_n 1, 1) := by decide +kernel
theorem d10_39 : decode method_6_code 39 = .ok (.iload_n 2, 1) := by decide +kernel
theorem d10_40 : decode method_6_code 40 = .ok (.iconst 2, 1) := by decide +kernel
theorem d10_41 : decode method_6_code 41 = .ok (.invokestatic 22, 3) := by decide +kernel
theorem d10_44 : decode method_6_code 44 = .ok (.lcmp, 1) := by decide +kernel
theorem d10_45 : decode method_6_code 45 = .ok (.ifCond .ne 23, 3) := by decide +kernel
theorem d10_48 : decode method_6_code 48 = .ok (.aload_n 0, 1) := by decide +kernel
theorem d10_49 : decode method_6_code 49 = .ok (.iload_n 2, 1) := by decide +kernel
theorem d10_50 : decode method_6_code 50 = .ok (.iconst 3, 1) := by decide +kernel
theorem d10_51 : decode method_6_code 51 = .ok (.invokevirtual 26, 3) := by decide +kernel
theorem d10_54 : decode method_6_code 54 = .ok (.aload_n 1, 1) := by decide +kernel
theorem d10_55 : decode method_6_code 55 = .ok (.iload_n 2, 1) := by decide +kernel
theorem d10_56 : decode method_6_code 56 = .ok (.iconst 3, 1) := by decide +kernel
theorem d10_57 : decode method_6_code 57 = .ok (.invokestatic 22, 3) := by decide +kernel
theorem d10_60 : decode method_6_code 60 = .ok (.lcmp, 1) := by decide +kernel
theorem d10_61 : decode method_6_code 61 = .ok (.ifCond .ne 7, 3) := by decide +kernel
theorem d10_64 : decode method_6_code 64 = .ok (.iconst 1, 1) := by decide +kernel
theorem d10_65 : decode method_6_code 65 = .ok (.goto 4, 3) := by decide +kernel
theorem d10_68 : decode method_6_code 68 = .ok (.iconst 0, 1) := by decide +kernel
theorem d10_69 : decode method_6_code 69 = .ok (.ireturn, 1) := by decide +kernel
theorem pn10 : plainFor (⟨"com/example/slackweave/slackweave/generate/TightestBoundsAddPinLaw", "row", "(Lcom/example/slackweave/slackweave/generate/TightestBounds;[JI)Z"⟩ : MethodName) = true := plainFor_of_name (by first | (simp [plainName, overriddenIn]; done) | decide +kernel)
set_option maxRecDepth 65536 in
set_option maxHeartbeats 40000000 in
theorem own_rowC (l : Launch) (Z : State) (a0 : Array Value) (hw : ∀ d ∈ tables_1, d.before a0 Z = true) (a1 aM aW : Addr) (Rw : Nat → Addr) (Dm Wm : Nat → Nat → Int64) (iN : Nat) (hi : iN < 4) (h0 : Heap) (hO : Ext Z.heap h0) (H : own_M Z h0 a1 aM aW Rw Dm Wm) (he : ∀ j, j < 4 → Dm iN j = own_dst Wm iN j) :
    own_C l Z (⟨"com/example/slackweave/slackweave/generate/TightestBoundsAddPinLaw", "row", "(Lcom/example/slackweave/slackweave/generate/TightestBounds;[JI)Z"⟩ : MethodName) method_6_code 3 (some .boolean) [] ({ frames := 2, cells := 0, slots := 0, locals := 60 } : Room) [] #[(.ref a1), (.ref aW), (.int iN.toInt32)] h0 (fun v h => v = some (.int 1) ∧ h0 = h) := by
  refine own_C.of pn10 hO all0 ?_
  intro p e s m below meth c T0 S0
  refine own_F.cast (by first | (simp [entryFrame, mkF, argsToLocals, Value.category]; done) | rfl : entryFrame m #[(.ref a1), (.ref aW), (.int iN.toInt32)] 3 = mkF m 0 #[.val (.ref a1), .val (.ref aW), .val (.int iN.toInt32)] []) ?_
  show own_F p e below s Z _ _ _ _ _ (T0.setTop (mkF m 0 #[.val (.ref a1), .val (.ref aW), .val (.int iN.toInt32)] []))
  refine own_F.of (fun _ => XS.aloadN S0.here S0.hx rfl (S0.dec d10_0) rfl rfl) ?_
  refine own_F.of (fun _ => XS.iloadN S0.here S0.hx rfl (S0.dec d10_1) rfl) ?_
  refine own_F.of (fun _ => XS.iconst S0.here S0.hx rfl (S0.dec d10_2)) ?_
  show own_F p e below s Z _ _ _ _ _ (T0.setTop (mkF m 3 #[.val (.ref a1), .val (.ref aW), .val (.int iN.toInt32)] [(.int 0), (.int iN.toInt32), (.ref a1)]))
  refine own_callV S0 (y := (⟨"com/example/slackweave/slackweave/generate/TightestBounds", "of", "(II)J"⟩ : MethodName)) (y' := (⟨"com/example/slackweave/slackweave/generate/TightestBounds", "of", "(II)J"⟩ : MethodName)) (own_w hw 47 rfl) (own_w hw 48 rfl) (own_nf S0 (own_w hw 50 rfl)) (own_w hw 50 rfl) (own_w hw 49 rfl) (own_w hw 51 rfl) (own_w hw 4 rfl) (by decide) H.exa (argsL := [(.int iN.toInt32), (.int (0 : Int32))]) (rest := []) (own_of l Z a0 hw a1 aM aW Rw Dm Wm iN 0 hi (by decide) h0 S0.old H) all0 (by decide +kernel : parseMethodDescriptor "(II)J" = some ⟨[.int, .int], some .long⟩) rfl rfl rfl d10_3 (by decide) (Nat.le_of_ble_eq_true rfl) (by decide) (by decide) (fun T1 h1 v1 S1 K1 q1 => ?_)
  obtain ⟨rfl, rfl⟩ := q1
  show own_F p e below s Z _ _ _ _ _ (T1.setTop (mkF m 6 #[.val (.ref a1), .val (.ref aW), .val (.int iN.toInt32)] [(.long (Dm iN 0))]))
  refine own_F.of (fun _ => XS.aloadN S1.here S1.hx rfl (S1.dec d10_6) rfl rfl) ?_
  refine own_F.of (fun _ => XS.iloadN S1.here S1.hx rfl (S1.dec d10_7) rfl) ?_
  refine own_F.of (fun _ => XS.iconst S1.here S1.hx rfl (S1.dec d10_8)) ?_
  show own_F p e below s Z _ _ _ _ _ (T1.setTop (mkF m 9 #[.val (.ref a1), .val (.ref aW), .val (.int iN.toInt32)] [(.int 0), (.int iN.toInt32), (.ref aW), (.long (Dm iN 0))]))
  refine own_callS S1 (y := (⟨"com/example/slackweave/slackweave/generate/TightestBoundsAddPinLaw", "dist", "([JII)J"⟩ : MethodName)) (own_w hw 25 rfl) (own_w hw 26 rfl) (own_w hw 23 rfl) (own_w hw 27 rfl) (by decide) (argsL := [(.ref aW), (.int iN.toInt32), (.int (0 : Int32))]) (rest := [(.long (Dm iN 0))]) (own_dist l Z a0 hw aW Wm iN 0 hi (by decide) h0 S1.old H.wt) all0 (by decide +kernel : parseMethodDescriptor "([JII)J" = some ⟨[(.array .long), .int, .int], some .long⟩) rfl rfl rfl d10_9 (by decide) (Nat.le_of_ble_eq_true rfl) (by decide) (by decide) (fun T2 h2 v2 S2 K2 q2 => ?_)
  obtain ⟨rfl, rfl⟩ := q2
  show own_F p e below s Z _ _ _ _ _ (T2.setTop (mkF m 12 #[.val (.ref a1), .val (.ref aW), .val (.int iN.toInt32)] [(.long (own_dst Wm iN 0)), (.long (Dm iN 0))]))
  refine own_F.of (fun _ => XS.lcmp S2.here S2.hx rfl (S2.dec d10_12) rfl) ?_
  show own_F p e below s Z _ _ _ _ _ (T2.setTop (mkF m 13 #[.val (.ref a1), .val (.ref aW), .val (.int iN.toInt32)] [(.int (lcmpW (Dm iN 0) (own_dst Wm iN 0)))]))
  refine own_if S2 68 d10_13 (by decide) (by decide) (fun (hc13_3 : ¬ ((lcmpW (Dm iN 0) (own_dst Wm iN 0)) = (0 : Int32))) => False.elim (hc13_3 ((lw_eq _ _).mpr (he 0 (by decide))))) (fun (hc13_3 : (lcmpW (Dm iN 0) (own_dst Wm iN 0)) = (0 : Int32)) => ?_)
  show own_F p e below s Z _ _ _ _ _ (T2.setTop (mkF m 16 #[.val (.ref a1), .val (.ref aW), .val (.int iN.toInt32)] []))
  refine own_F.of (fun _ => XS.aloadN S2.here S2.hx rfl (S2.dec d10_16) rfl rfl) ?_
  refine own_F.of (fun _ => XS.iloadN S2.here S2.hx rfl (S2.dec d10_17) rfl) ?_
  refine own_F.of (fun _ => XS.iconst S2.here S2.hx rfl (S2.dec d10_18)) ?_
  show own_F p e below s Z _ _ _ _ _ (T2.setTop (mkF m 19 #[.val (.ref a1), .val (.ref aW), .val (.int iN.toInt32)] [(.int 1), (.int iN.toInt32), (.ref a1)]))
  refine own_callV S2 (y := (⟨"com/example/slackweave/slackweave/generate/TightestBounds", "of", "(II)J"⟩ : MethodName)) (y' := (⟨"com/example/slackweave/slackweave/generate/TightestBounds", "of", "(II)J"⟩ : MethodName)) (own_w hw 47 rfl) (own_w hw 48 rfl) (own_nf S2 (own_w hw 50 rfl)) (own_w hw 50 rfl) (own_w hw 49 rfl) (own_w hw 51 rfl) (own_w hw 4 rfl) (by decide) H.exa (argsL := [(.int iN.toInt32), (.int (1 : Int32))]) (rest := []) (own_of l Z a0 hw a1 aM aW Rw Dm Wm iN 1 hi (by decide) h0 S2.old H) all0 (by decide +kernel : parseMethodDescriptor "(II)J" = some ⟨[.int, .int], some .long⟩) rfl rfl rfl d10_19 (by decide) (Nat.le_of_ble_eq_true rfl) (by decide) (by decide) (fun T4 h4 v4 S4 K4 q4 => ?_)
  obtain ⟨rfl, rfl⟩ := q4
  show own_F p e below s Z _ _ _ _ _ (T4.setTop (mkF m 22 #[.val (.ref a1), .val (.ref aW), .val (.int iN.toInt32)] [(.long (Dm iN 1))]))
  refine own_F.of (fun _ => XS.aloadN S4.here S4.hx rfl (S4.dec d10_22) rfl rfl) ?_
  refine own_F.of (fun _ => XS.iloadN S4.here S4.hx rfl (S4.dec d10_23) rfl) ?_
  refine own_F.of (fun _ => XS.iconst S4.here S4.hx rfl (S4.dec d10_24)) ?_
  show own_F p e below s Z _ _ _ _ _ (T4.setTop (mkF m 25 #[.val (.ref a1), .val (.ref aW), .val (.int iN.toInt32)] [(.int 1), (.int iN.toInt32), (.ref aW), (.long (Dm iN 1))]))
  refine own_callS S4 (y := (⟨"com/example/slackweave/slackweave/generate/TightestBoundsAddPinLaw", "dist", "([JII)J"⟩ : MethodName)) (own_w hw 25 rfl) (own_w hw 26 rfl) (own_w hw 23 rfl) (own_w hw 27 rfl) (by decide) (argsL := [(.ref aW), (.int iN.toInt32), (.int (1 : Int32))]) (rest := [(.long (Dm iN 1))]) (own_dist l Z a0 hw aW Wm iN 1 hi (by decide) h0 S4.old H.wt) all0 (by decide +kernel : parseMethodDescriptor "([JII)J" = some ⟨[(.array .long), .int, .int], some .long⟩) rfl rfl rfl d10_25 (by decide) (Nat.le_of_ble_eq_true rfl) (by decide) (by decide) (fun T5 h5 v5 S5 K5 q5 => ?_)
  obtain ⟨rfl, rfl⟩ := q5
  show own_F p e below s Z _ _ _ _ _ (T5.setTop (mkF m 28 #[.val (.ref a1), .val (.ref aW), .val (.int iN.toInt32)] [(.long (own_dst Wm iN 1)), (.long (Dm iN 1))]))
  refine own_F.of (fun _ => XS.lcmp S5.here S5.hx rfl (S5.dec d10_28) rfl) ?_
  show own_F p e below s Z _ _ _ _ _ (T5.setTop (mkF m 29 #[.val (.ref a1), .val (.ref aW), .val (.int iN.toInt32)] [(.int (lcmpW (Dm iN 1) (own_dst Wm iN 1)))]))
  refine own_if S5 68 d10_29 (by decide) (by decide) (fun (hc29_6 : ¬ ((lcmpW (Dm iN 1) (own_dst Wm iN 1)) = (0 : Int32))) => False.elim (hc29_6 ((lw_eq _ _).mpr (he 1 (by decide))))) (fun (hc29_6 : (lcmpW (Dm iN 1) (own_dst Wm iN 1)) = (0 : Int32)) => ?_)
  show own_F p e below s Z _ _ _ _ _ (T5.setTop (mkF m 32 #[.val (.ref a1), .val (.ref aW), .val (.int iN.toInt32)] []))
  refine own_F.of (fun _ => XS.aloadN S5.here S5.hx rfl (S5.dec d10_32) rfl rfl) ?_
  refine own_F.of (fun _ => XS.iloadN S5.here S5.hx rfl (S5.dec d10_33) rfl) ?_
  refine own_F.of (fun _ => XS.iconst S5.here S5.hx rfl (S5.dec d10_34)) ?_
  show own_F p e below s Z _ _ _ _ _ (T5.setTop (mkF m 35 #[.val (.ref a1), .val (.ref aW), .val (.int iN.toInt32)] [(.int 2), (.int iN.toInt32), (.ref a1)]))
  refine own_callV S5 (y := (⟨"com/example/slackweave/slackweave/generate/TightestBounds", "of", "(II)J"⟩ : MethodName)) (y' := (⟨"com/example/slackweave/slackweave/generate/TightestBounds", "of", "(II)J"⟩ : MethodName)) (own_w hw 47 rfl) (own_w hw 48 rfl) (own_nf S5 (own_w hw 50 rfl)) (own_w hw 50 rfl) (own_w hw 49 rfl) (own_w hw 51 rfl) (own_w hw 4 rfl) (by decide) H.exa (argsL := [(.int iN.toInt32), (.int (2 : Int32))]) (rest := []) (own_of l Z a0 hw a1 aM aW Rw Dm Wm iN 2 hi (by decide) h0 S5.old H) all0 (by decide +kernel : parseMethodDescriptor "(II)J" = some ⟨[.int, .int], some .long⟩) rfl rfl rfl d10_35 (by decide) (Nat.le_of_ble_eq_true rfl) (by decide) (by decide) (fun T7 h7 v7 S7 K7 q7 => ?_)
  obtain ⟨rfl, rfl⟩ := q7
  show own_F p e below s Z _ _ _ _ _ (T7.setTop (mkF m 38 #[.val (.ref a1), .val (.ref aW), .val (.int iN.toInt32)] [(.long (Dm iN 2))]))
  refine own_F.of (fun _ => XS.aloadN S7.here S7.hx rfl (S7.dec d10_38) rfl rfl) ?_
  refine own_F.of (fun _ => XS.iloadN S7.here S7.hx rfl (S7.dec d10_39) rfl) ?_
  refine own_F.of (fun _ => XS.iconst S7.here S7.hx rfl (S7.dec d10_40)) ?_
  show own_F p e below s Z _ _ _ _ _ (T7.setTop (mkF m 41 #[.val (.ref a1), .val (.ref aW), .val (.int iN.toInt32)] [(.int 2), (.int iN.toInt32), (.ref aW), (.long (Dm iN 2))]))
  refine own_callS S7 (y := (⟨"com/example/slackweave/slackweave/generate/TightestBoundsAddPinLaw", "dist", "([JII)J"⟩ : MethodName)) (own_w hw 25 rfl) (own_w hw 26 rfl) (own_w hw 23 rfl) (own_w hw 27 rfl) (by decide) (argsL := [(.ref aW), (.int iN.toInt32), (.int (2 : Int32))]) (rest := [(.long (Dm iN 2))]) (own_dist l Z a0 hw aW Wm iN 2 hi (by decide) h0 S7.old H.wt) all0 (by decide +kernel : parseMethodDescriptor "([JII)J" = some ⟨[(.array .long), .int, .int], some .long⟩) rfl rfl rfl d10_41 (by decide) (Nat.le_of_ble_eq_true rfl) (by decide) (by decide) (fun T8 h8 v8 S8 K8 q8 => ?_)
  obtain ⟨rfl, rfl⟩ := q8
  show own_F p e below s Z _ _ _ _ _ (T8.setTop (mkF m 44 #[.val (.ref a1), .val (.ref aW), .val (.int iN.toInt32)] [(.long (own_dst Wm iN 2)), (.long (Dm iN 2))]))
  refine own_F.of (fun _ => XS.lcmp S8.here S8.hx rfl (S8.dec d10_44) rfl) ?_
  show own_F p e below s Z _ _ _ _ _ (T8.setTop (mkF m 45 #[.val (.ref a1), .val (.ref aW), .val (.int iN.toInt32)] [(.int (lcmpW (Dm iN 2) (own_dst Wm iN 2)))]))
  refine own_if S8 68 d10_45 (by decide) (by decide) (fun (hc45_9 : ¬ ((lcmpW (Dm iN 2) (own_dst Wm iN 2)) = (0 : Int32))) => False.elim (hc45_9 ((lw_eq _ _).mpr (he 2 (by decide))))) (fun (hc45_9 : (lcmpW (Dm iN 2) (own_dst Wm iN 2)) = (0 : Int32)) => ?_)
  show own_F p e below s Z _ _ _ _ _ (T8.setTop (mkF m 48 #[.val (.ref a1), .val (.ref aW), .val (.int iN.toInt32)] []))
  refine own_F.of (fun _ => XS.aloadN S8.here S8.hx rfl (S8.dec d10_48) rfl rfl) ?_
  refine own_F.of (fun _ => XS.iloadN S8.here S8.hx rfl (S8.dec d10_49) rfl) ?_
  refine own_F.of (fun _ => XS.iconst S8.here S8.hx rfl (S8.dec d10_50)) ?_
  show own_F p e below s Z _ _ _ _ _ (T8.setTop (mkF m 51 #[.val (.ref a1), .val (.ref aW), .val (.int iN.toInt32)] [(.int 3), (.int iN.toInt32), (.ref a1)]))
  refine own_callV S8 (y := (⟨"com/example/slackweave/slackweave/generate/TightestBounds", "of", "(II)J"⟩ : MethodName)) (y' := (⟨"com/example/slackweave/slackweave/generate/TightestBounds", "of", "(II)J"⟩ : MethodName)) (own_w hw 47 rfl) (own_w hw 48 rfl) (own_nf S8 (own_w hw 50 rfl)) (own_w hw 50 rfl) (own_w hw 49 rfl) (own_w hw 51 rfl) (own_w hw 4 rfl) (by decide) H.exa (argsL := [(.int iN.toInt32), (.int (3 : Int32))]) (rest := []) (own_of l Z a0 hw a1 aM aW Rw Dm Wm iN 3 hi (by decide) h0 S8.old H) all0 (by decide +kernel : parseMethodDescriptor "(II)J" = some ⟨[.int, .int], some .long⟩) rfl rfl rfl d10_51 (by decide) (Nat.le_of_ble_eq_true rfl) (by decide) (by decide) (fun T10 h10 v10 S10 K10 q10 => ?_)
  obtain ⟨rfl, rfl⟩ := q10
  show own_F p e below s Z _ _ _ _ _ (T10.setTop (mkF m 54 #[.val (.ref a1), .val (.ref aW), .val (.int iN.toInt32)] [(.long (Dm iN 3))]))
  refine own_F.of (fun _ => XS.aloadN S10.here S10.hx rfl (S10.dec d10_54) rfl rfl) ?_
  refine own_F.of (fun _ => XS.iloadN S10.here S10.hx rfl (S10.dec d10_55) rfl) ?_
  refine own_F.of (fun _ => XS.iconst S10.here S10.hx rfl (S10.dec d10_56)) ?_
  show own_F p e below s Z _ _ _ _ _ (T10.setTop (mkF m 57 #[.val (.ref a1), .val (.ref aW), .val (.int iN.toInt32)] [(.int 3), (.int iN.toInt32), (.ref aW), (.long (Dm iN 3))]))
  refine own_callS S10 (y := (⟨"com/example/slackweave/slackweave/generate/TightestBoundsAddPinLaw", "dist", "([JII)J"⟩ : MethodName)) (own_w hw 25 rfl) (own_w hw 26 rfl) (own_w hw 23 rfl) (own_w hw 27 rfl) (by decide) (argsL := [(.ref aW), (.int iN.toInt32), (.int (3 : Int32))]) (rest := [(.long (Dm iN 3))]) (own_dist l Z a0 hw aW Wm iN 3 hi (by decide) h0 S10.old H.wt) all0 (by decide +kernel : parseMethodDescriptor "([JII)J" = some ⟨[(.array .long), .int, .int], some .long⟩) rfl rfl rfl d10_57 (by decide) (Nat.le_of_ble_eq_true rfl) (by decide) (by decide) (fun T11 h11 v11 S11 K11 q11 => ?_)
  obtain ⟨rfl, rfl⟩ := q11
  show own_F p e below s Z _ _ _ _ _ (T11.setTop (mkF m 60 #[.val (.ref a1), .val (.ref aW), .val (.int iN.toInt32)] [(.long (own_dst Wm iN 3)), (.long (Dm iN 3))]))
  refine own_F.of (fun _ => XS.lcmp S11.here S11.hx rfl (S11.dec d10_60) rfl) ?_
  show own_F p e below s Z _ _ _ _ _ (T11.setTop (mkF m 61 #[.val (.ref a1), .val (.ref aW), .val (.int iN.toInt32)] [(.int (lcmpW (Dm iN 3) (own_dst Wm iN 3)))]))
  refine own_if S11 68 d10_61 (by decide) (by decide) (fun (hc61_12 : ¬ ((lcmpW (Dm iN 3) (own_dst Wm iN 3)) = (0 : Int32))) => False.elim (hc61_12 ((lw_eq _ _).mpr (he 3 (by decide))))) (fun (hc61_12 : (lcmpW (Dm iN 3) (own_dst Wm iN 3)) = (0 : Int32)) => ?_)
  show own_F p e below s Z _ _ _ _ _ (T11.setTop (mkF m 64 #[.val (.ref a1), .val (.ref aW), .val (.int iN.toInt32)] []))
  refine own_F.of (fun _ => XS.iconst S11.here S11.hx rfl (S11.dec d10_64)) ?_
  show own_F p e below s Z _ _ _ _ _ (T11.setTop (mkF m 65 #[.val (.ref a1), .val (.ref aW), .val (.int iN.toInt32)] [(.int 1)]))
  refine own_F.of (fun _ => XS.goto S11.here S11.hx rfl (pc0 := 65) (pc' := 69) rfl (S11.dec d10_65) (by decide) (by decide)) ?_
  show own_F p e below s Z _ _ _ _ _ (T11.setTop (mkF m 69 #[.val (.ref a1), .val (.ref aW), .val (.int iN.toInt32)] [(.int 1)]))
  refine own_retZ S11 (by simp) d10_69 (by decide) (by decide) ?_
  exact ⟨rfl, rfl⟩
theorem d7_0 : decode method_5_code 0 = .ok (.lload_n 3, 1) := by decide +kernel
theorem d7_1 : decode method_5_code 1 = .ok (.aload_n 0, 1) := by decide +kernel
theorem d7_2 : decode method_5_code 2 = .ok (.iload_n 1, 1) := by decide +kernel
theorem d7_3 : decode method_5_code 3 = .ok (.iconst 4, 1) := by decide +kernel
theorem d7_4 : decode method_5_code 4 = .ok (.imul, 1) := by decide +kernel
theorem d7_5 : decode method_5_code 5 = .ok (.iload_n 2, 1) := by decide +kernel
theorem d7_6 : decode method_5_code 6 = .ok (.iadd, 1) := by decide +kernel
theorem d7_7 : decode method_5_code 7 = .ok (.laload, 1) := by decide +kernel
theorem d7_8 : decode method_5_code 8 = .ok (.lcmp, 1) := by decide +kernel
theorem d7_9 : decode method_5_code 9 = .ok (.ifCond .ge 11, 3) := by decide +kernel
theorem d7_12 : decode method_5_code 12 = .ok (.aload_n 0, 1) := by decide +kernel
theorem d7_13 : decode method_5_code 13 = .ok (.iload_n 1, 1) := by decide +kernel
theorem d7_14 : decode method_5_code 14 = .ok (.iconst 4, 1) := by decide +kernel
theorem d7_15 : decode method_5_code 15 = .ok (.imul, 1) := by decide +kernel
theorem d7_16 : decode method_5_code 16 = .ok (.iload_n 2, 1) := by decide +kernel
theorem d7_17 : decode method_5_code 17 = .ok (.iadd, 1) := by decide +kernel
theorem d7_18 : decode method_5_code 18 = .ok (.lload_n 3, 1) := by decide +kernel
theorem d7_19 : decode method_5_code 19 = .ok (.lastore, 1) := by decide +kernel
theorem d7_20 : decode method_5_code 20 = .ok (.return_, 1) := by decide +kernel
theorem pn7 : plainFor (⟨"com/example/slackweave/slackweave/generate/TightestBoundsAddPinLaw", "edge", "([JIIJ)V"⟩ : MethodName) = true := plainFor_of_name (by first | (simp [plainName, overriddenIn]; done) | decide +kernel)
set_option maxRecDepth 65536 in
set_option maxHeartbeats 40000000 in
theorem own_edgeC (l : Launch) (Z : State) (a0 : Array Value) (hw : ∀ d ∈ tables_1, d.before a0 Z = true) (a1 aM aW : Addr) (Rw : Nat → Addr) (Dm Wm : Nat → Nat → Int64) (fN tN : Nat) (hf : fN < 4) (ht : tN < 4) (xv : Int64) (h0 : Heap) (hO : Ext Z.heap h0) (H : own_M Z h0 a1 aM aW Rw Dm Wm) :
    own_C l Z (⟨"com/example/slackweave/slackweave/generate/TightestBoundsAddPinLaw", "edge", "([JIIJ)V"⟩ : MethodName) method_5_code 5 none [] ({ frames := 0, cells := 0, slots := 0, locals := 0 } : Room) (own_news Z h0) #[(.ref aW), (.int fN.toInt32), (.int tN.toInt32), (.long xv)] h0 (fun v h => v = none ∧ own_M Z h a1 aM aW Rw Dm (own_edge Wm fN tN xv)) := by
  refine own_C.of pn7 hO own_news_le ?_
  intro p e s m below meth c T0 S0
  refine own_F.cast (by first | (simp [entryFrame, mkF, argsToLocals, Value.category]; done) | rfl : entryFrame m #[(.ref aW), (.int fN.toInt32), (.int tN.toInt32), (.long xv)] 5 = mkF m 0 #[.val (.ref aW), .val (.int fN.toInt32), .val (.int tN.toInt32), .val (.long xv), .second] []) ?_
  show own_F p e below s Z _ _ _ _ _ (T0.setTop (mkF m 0 #[.val (.ref aW), .val (.int fN.toInt32), .val (.int tN.toInt32), .val (.long xv), .second] []))
  refine own_F.of (fun _ => XS.lloadN S0.here S0.hx rfl (S0.dec d7_0) rfl) ?_
  refine own_F.of (fun _ => XS.aloadN S0.here S0.hx rfl (S0.dec d7_1) rfl rfl) ?_
  refine own_F.of (fun _ => XS.iloadN S0.here S0.hx rfl (S0.dec d7_2) rfl) ?_
  refine own_F.of (fun _ => XS.iconst S0.here S0.hx rfl (S0.dec d7_3)) ?_
  show own_F p e below s Z _ _ _ _ _ (T0.setTop (mkF m 4 #[.val (.ref aW), .val (.int fN.toInt32), .val (.int tN.toInt32), .val (.long xv), .second] [(.int 4), (.int fN.toInt32), (.ref aW), (.long xv)]))
  refine own_F.of (fun _ => XS.imul S0.here S0.hx rfl (S0.dec d7_4) rfl) ?_
  show own_F p e below s Z _ _ _ _ _ (T0.setTop (mkF m 5 #[.val (.ref aW), .val (.int fN.toInt32), .val (.int tN.toInt32), .val (.long xv), .second] [(.int (fN.toInt32 * (4 : Int32))), (.ref aW), (.long xv)]))
  refine own_F.of (fun _ => XS.iloadN S0.here S0.hx rfl (S0.dec d7_5) rfl) ?_
  show own_F p e below s Z _ _ _ _ _ (T0.setTop (mkF m 6 #[.val (.ref aW), .val (.int fN.toInt32), .val (.int tN.toInt32), .val (.long xv), .second] [(.int tN.toInt32), (.int (fN.toInt32 * (4 : Int32))), (.ref aW), (.long xv)]))
  refine own_F.of (fun _ => XS.iadd S0.here S0.hx rfl (S0.dec d7_6) rfl) ?_
  show own_F p e below s Z _ _ _ _ _ (T0.setTop (mkF m 7 #[.val (.ref aW), .val (.int fN.toInt32), .val (.int tN.toInt32), .val (.long xv), .second] [(.int ((fN.toInt32 * (4 : Int32)) + tN.toInt32)), (.ref aW), (.long xv)]))
  refine own_lald S0 H.wt (by rw [own_ix hf ht]; exact (own_n4 (by omega)).2.1) (by rw [own_ix hf ht, (own_n4 (by omega)).1]; exact own_w16_at hf ht) d7_7 ?_
  show own_F p e below s Z _ _ _ _ _ (T0.setTop (mkF m 8 #[.val (.ref aW), .val (.int fN.toInt32), .val (.int tN.toInt32), .val (.long xv), .second] [(.long (Wm fN tN)), (.long xv)]))
  refine own_F.of (fun _ => XS.lcmp S0.here S0.hx rfl (S0.dec d7_8) rfl) ?_
  show own_F p e below s Z _ _ _ _ _ (T0.setTop (mkF m 9 #[.val (.ref aW), .val (.int fN.toInt32), .val (.int tN.toInt32), .val (.long xv), .second] [(.int (lcmpW xv (Wm fN tN)))]))
  refine own_if S0 20 d7_9 (by decide) (by decide) (fun (hc9_1 : ¬ ((lcmpW xv (Wm fN tN)) < (0 : Int32))) => ?_) (fun (hc9_1 : (lcmpW xv (Wm fN tN)) < (0 : Int32)) => ?_)
  · show own_F p e below s Z _ _ _ _ _ (T0.setTop (mkF m 20 #[.val (.ref aW), .val (.int fN.toInt32), .val (.int tN.toInt32), .val (.long xv), .second] []))
    refine own_retV S0 d7_20 (by decide) (by decide) ?_
    exact ⟨rfl, by unfold own_edge; rw [if_neg (fun q => hc9_1 ((lw_lt _ _).mpr q))]; exact H⟩
  · show own_F p e below s Z _ _ _ _ _ (T0.setTop (mkF m 12 #[.val (.ref aW), .val (.int fN.toInt32), .val (.int tN.toInt32), .val (.long xv), .second] []))
    refine own_F.of (fun _ => XS.aloadN S0.here S0.hx rfl (S0.dec d7_12) rfl rfl) ?_
    refine own_F.of (fun _ => XS.iloadN S0.here S0.hx rfl (S0.dec d7_13) rfl) ?_
    refine own_F.of (fun _ => XS.iconst S0.here S0.hx rfl (S0.dec d7_14)) ?_
    show own_F p e below s Z _ _ _ _ _ (T0.setTop (mkF m 15 #[.val (.ref aW), .val (.int fN.toInt32), .val (.int tN.toInt32), .val (.long xv), .second] [(.int 4), (.int fN.toInt32), (.ref aW)]))
    refine own_F.of (fun _ => XS.imul S0.here S0.hx rfl (S0.dec d7_15) rfl) ?_
    show own_F p e below s Z _ _ _ _ _ (T0.setTop (mkF m 16 #[.val (.ref aW), .val (.int fN.toInt32), .val (.int tN.toInt32), .val (.long xv), .second] [(.int (fN.toInt32 * (4 : Int32))), (.ref aW)]))
    refine own_F.of (fun _ => XS.iloadN S0.here S0.hx rfl (S0.dec d7_16) rfl) ?_
    show own_F p e below s Z _ _ _ _ _ (T0.setTop (mkF m 17 #[.val (.ref aW), .val (.int fN.toInt32), .val (.int tN.toInt32), .val (.long xv), .second] [(.int tN.toInt32), (.int (fN.toInt32 * (4 : Int32))), (.ref aW)]))
    refine own_F.of (fun _ => XS.iadd S0.here S0.hx rfl (S0.dec d7_17) rfl) ?_
    show own_F p e below s Z _ _ _ _ _ (T0.setTop (mkF m 18 #[.val (.ref aW), .val (.int fN.toInt32), .val (.int tN.toInt32), .val (.long xv), .second] [(.int ((fN.toInt32 * (4 : Int32)) + tN.toInt32)), (.ref aW)]))
    refine own_F.of (fun _ => XS.lloadN S0.here S0.hx rfl (S0.dec d7_18) rfl) ?_
    show own_F p e below s Z _ _ _ _ _ (T0.setTop (mkF m 19 #[.val (.ref aW), .val (.int fN.toInt32), .val (.int tN.toInt32), .val (.long xv), .second] [(.long xv), (.int ((fN.toInt32 * (4 : Int32)) + tN.toInt32)), (.ref aW)]))
    refine own_jst S0 H.wt (by rw [own_ix hf ht]; exact (own_n4 (by omega)).2.1) (by rw [own_ix hf ht, (own_n4 (by omega)).1, own_w16_len]; omega) d7_19 (own_news_may H.1.2) (fun T2 h2 S2 W2 A2 => ?_)
    rw [own_ix hf ht, (own_n4 (by omega)).1] at W2
    have H2 := H.put (own_w hw 3 rfl) hf ht W2
    show own_F p e below s Z _ _ _ _ _ (T2.setTop (mkF m 20 #[.val (.ref aW), .val (.int fN.toInt32), .val (.int tN.toInt32), .val (.long xv), .second] []))
    refine own_retV S2 d7_20 (by decide) (by decide) ?_
    exact ⟨rfl, by unfold own_edge; rw [if_pos ((lw_lt _ _).mp hc9_1)]; exact H2⟩
theorem d6_0 : decode prog_7_method_3_code 0 = .ok (.aload_n 0, 1) := by decide +kernel
theorem d6_1 : decode prog_7_method_3_code 1 = .ok (.getfield 11, 3) := by decide +kernel
theorem d6_4 : decode prog_7_method_3_code 4 = .ok (.iload_n 2, 1) := by decide +kernel
theorem d6_5 : decode prog_7_method_3_code 5 = .ok (.aaload, 1) := by decide +kernel
theorem d6_6 : decode prog_7_method_3_code 6 = .ok (.iload_n 1, 1) := by decide +kernel
theorem d6_7 : decode prog_7_method_3_code 7 = .ok (.laload, 1) := by decide +kernel
theorem d6_8 : decode prog_7_method_3_code 8 = .ok (.lstore 5, 2) := by decide +kernel
theorem d6_10 : decode prog_7_method_3_code 10 = .ok (.lload 5, 2) := by decide +kernel
theorem d6_12 : decode prog_7_method_3_code 12 = .ok (.ldc2_w 16, 3) := by decide +kernel
theorem d6_15 : decode prog_7_method_3_code 15 = .ok (.lcmp, 1) := by decide +kernel
theorem d6_16 : decode prog_7_method_3_code 16 = .ok (.ifCond .eq 29, 3) := by decide +kernel
theorem d6_19 : decode prog_7_method_3_code 19 = .ok (.lload_n 3, 1) := by decide +kernel
theorem d6_20 : decode prog_7_method_3_code 20 = .ok (.lload 5, 2) := by decide +kernel
theorem d6_22 : decode prog_7_method_3_code 22 = .ok (.ladd, 1) := by decide +kernel
theorem d6_23 : decode prog_7_method_3_code 23 = .ok (.lconst 0, 1) := by decide +kernel
theorem d6_24 : decode prog_7_method_3_code 24 = .ok (.lcmp, 1) := by decide +kernel
theorem d6_25 : decode prog_7_method_3_code 25 = .ok (.ifCond .ge 20, 3) := by decide +kernel
theorem d6_28 : decode prog_7_method_3_code 28 = .ok (.new 24, 3) := by decide +kernel
theorem d6_31 : decode prog_7_method_3_code 31 = .ok (.dup, 1) := by decide +kernel
theorem d6_32 : decode prog_7_method_3_code 32 = .ok (.lload_n 3, 1) := by decide +kernel
theorem d6_33 : decode prog_7_method_3_code 33 = .ok (.lload 5, 2) := by decide +kernel
theorem d6_35 : decode prog_7_method_3_code 35 = .ok (.lneg, 1) := by decide +kernel
theorem d6_36 : decode prog_7_method_3_code 36 = .ok (.invokedynamic 26, 5) := by decide +kernel
theorem d6_41 : decode prog_7_method_3_code 41 = .ok (.invokespecial 30, 3) := by decide +kernel
theorem d6_44 : decode prog_7_method_3_code 44 = .ok (.athrow, 1) := by decide +kernel
theorem d6_45 : decode prog_7_method_3_code 45 = .ok (.lload_n 3, 1) := by decide +kernel
theorem d6_46 : decode prog_7_method_3_code 46 = .ok (.aload_n 0, 1) := by decide +kernel
theorem d6_47 : decode prog_7_method_3_code 47 = .ok (.getfield 11, 3) := by decide +kernel
theorem d6_50 : decode prog_7_method_3_code 50 = .ok (.iload_n 1, 1) := by decide +kernel
theorem d6_51 : decode prog_7_method_3_code 51 = .ok (.aaload, 1) := by decide +kernel
theorem d6_52 : decode prog_7_method_3_code 52 = .ok (.iload_n 2, 1) := by decide +kernel
theorem d6_53 : decode prog_7_method_3_code 53 = .ok (.laload, 1) := by decide +kernel
theorem d6_54 : decode prog_7_method_3_code 54 = .ok (.lcmp, 1) := by decide +kernel
theorem d6_55 : decode prog_7_method_3_code 55 = .ok (.ifCond .lt 4, 3) := by decide +kernel
theorem d6_58 : decode prog_7_method_3_code 58 = .ok (.return_, 1) := by decide +kernel
theorem d6_59 : decode prog_7_method_3_code 59 = .ok (.aload_n 0, 1) := by decide +kernel
theorem d6_60 : decode prog_7_method_3_code 60 = .ok (.getfield 11, 3) := by decide +kernel
theorem d6_63 : decode prog_7_method_3_code 63 = .ok (.arraylength, 1) := by decide +kernel
theorem d6_64 : decode prog_7_method_3_code 64 = .ok (.istore 7, 2) := by decide +kernel
theorem d6_66 : decode prog_7_method_3_code 66 = .ok (.iload 7, 2) := by decide +kernel
theorem d6_68 : decode prog_7_method_3_code 68 = .ok (.newarray .int, 2) := by decide +kernel
theorem d6_70 : decode prog_7_method_3_code 70 = .ok (.astore 8, 2) := by decide +kernel
theorem d6_72 : decode prog_7_method_3_code 72 = .ok (.iconst 0, 1) := by decide +kernel
theorem d6_73 : decode prog_7_method_3_code 73 = .ok (.istore 9, 2) := by decide +kernel
theorem d6_75 : decode prog_7_method_3_code 75 = .ok (.iload 7, 2) := by decide +kernel
theorem d6_77 : decode prog_7_method_3_code 77 = .ok (.newarray .int, 2) := by decide +kernel
theorem d6_79 : decode prog_7_method_3_code 79 = .ok (.astore 10, 2) := by decide +kernel
theorem d6_81 : decode prog_7_method_3_code 81 = .ok (.iconst 0, 1) := by decide +kernel
theorem d6_82 : decode prog_7_method_3_code 82 = .ok (.istore 11, 2) := by decide +kernel
theorem d6_84 : decode prog_7_method_3_code 84 = .ok (.iconst 0, 1) := by decide +kernel
theorem d6_85 : decode prog_7_method_3_code 85 = .ok (.istore 12, 2) := by decide +kernel
theorem d6_87 : decode prog_7_method_3_code 87 = .ok (.iload 12, 2) := by decide +kernel
theorem d6_89 : decode prog_7_method_3_code 89 = .ok (.iload 7, 2) := by decide +kernel
theorem d6_91 : decode prog_7_method_3_code 91 = .ok (.if_icmp .ge 103, 3) := by decide +kernel
theorem d6_94 : decode prog_7_method_3_code 94 = .ok (.aload_n 0, 1) := by decide +kernel
theorem d6_95 : decode prog_7_method_3_code 95 = .ok (.getfield 11, 3) := by decide +kernel
theorem d6_98 : decode prog_7_method_3_code 98 = .ok (.iload 12, 2) := by decide +kernel
theorem d6_100 : decode prog_7_method_3_code 100 = .ok (.aaload, 1) := by decide +kernel
theorem d6_101 : decode prog_7_method_3_code 101 = .ok (.iload_n 1, 1) := by decide +kernel
theorem d6_102 : decode prog_7_method_3_code 102 = .ok (.laload, 1) := by decide +kernel
theorem d6_103 : decode prog_7_method_3_code 103 = .ok (.lstore 13, 2) := by decide +kernel
theorem d6_105 : decode prog_7_method_3_code 105 = .ok (.lload 13, 2) := by decide +kernel
theorem d6_107 : decode prog_7_method_3_code 107 = .ok (.ldc2_w 16, 3) := by decide +kernel
theorem d6_110 : decode prog_7_method_3_code 110 = .ok (.lcmp, 1) := by decide +kernel
theorem d6_111 : decode prog_7_method_3_code 111 = .ok (.ifCond .eq 30, 3) := by decide +kernel
theorem d6_114 : decode prog_7_method_3_code 114 = .ok (.lload 13, 2) := by decide +kernel
theorem d6_116 : decode prog_7_method_3_code 116 = .ok (.lload_n 3, 1) := by decide +kernel
theorem d6_117 : decode prog_7_method_3_code 117 = .ok (.ladd, 1) := by decide +kernel
theorem d6_118 : decode prog_7_method_3_code 118 = .ok (.aload_n 0, 1) := by decide +kernel
theorem d6_119 : decode prog_7_method_3_code 119 = .ok (.getfield 11, 3) := by decide +kernel
theorem d6_122 : decode prog_7_method_3_code 122 = .ok (.iload 12, 2) := by decide +kernel
theorem d6_124 : decode prog_7_method_3_code 124 = .ok (.aaload, 1) := by decide +kernel
theorem d6_125 : decode prog_7_method_3_code 125 = .ok (.iload_n 2, 1) := by decide +kernel
theorem d6_126 : decode prog_7_method_3_code 126 = .ok (.laload, 1) := by decide +kernel
theorem d6_127 : decode prog_7_method_3_code 127 = .ok (.lcmp, 1) := by decide +kernel
theorem d6_128 : decode prog_7_method_3_code 128 = .ok (.ifCond .ge 13, 3) := by decide +kernel
theorem d6_131 : decode prog_7_method_3_code 131 = .ok (.aload 8, 2) := by decide +kernel
theorem d6_133 : decode prog_7_method_3_code 133 = .ok (.iload 9, 2) := by decide +kernel
theorem d6_135 : decode prog_7_method_3_code 135 = .ok (.iinc 9 1, 3) := by decide +kernel
theorem d6_138 : decode prog_7_method_3_code 138 = .ok (.iload 12, 2) := by decide +kernel
theorem d6_140 : decode prog_7_method_3_code 140 = .ok (.iastore, 1) := by decide +kernel
theorem d6_141 : decode prog_7_method_3_code 141 = .ok (.aload_n 0, 1) := by decide +kernel
theorem d6_142 : decode prog_7_method_3_code 142 = .ok (.getfield 11, 3) := by decide +kernel
theorem d6_145 : decode prog_7_method_3_code 145 = .ok (.iload_n 2, 1) := by decide +kernel
theorem d6_146 : decode prog_7_method_3_code 146 = .ok (.aaload, 1) := by decide +kernel
theorem d6_147 : decode prog_7_method_3_code 147 = .ok (.iload 12, 2) := by decide +kernel
theorem d6_149 : decode prog_7_method_3_code 149 = .ok (.laload, 1) := by decide +kernel
theorem d6_150 : decode prog_7_method_3_code 150 = .ok (.lstore 15, 2) := by decide +kernel
theorem d6_152 : decode prog_7_method_3_code 152 = .ok (.lload 15, 2) := by decide +kernel
theorem d6_154 : decode prog_7_method_3_code 154 = .ok (.ldc2_w 16, 3) := by decide +kernel
theorem d6_157 : decode prog_7_method_3_code 157 = .ok (.lcmp, 1) := by decide +kernel
theorem d6_158 : decode prog_7_method_3_code 158 = .ok (.ifCond .eq 30, 3) := by decide +kernel
theorem d6_161 : decode prog_7_method_3_code 161 = .ok (.lload_n 3, 1) := by decide +kernel
theorem d6_162 : decode prog_7_method_3_code 162 = .ok (.lload 15, 2) := by decide +kernel
theorem d6_164 : decode prog_7_method_3_code 164 = .ok (.ladd, 1) := by decide +kernel
theorem d6_165 : decode prog_7_method_3_code 165 = .ok (.aload_n 0, 1) := by decide +kernel
theorem d6_166 : decode prog_7_method_3_code 166 = .ok (.getfield 11, 3) := by decide +kernel
theorem d6_169 : decode prog_7_method_3_code 169 = .ok (.iload_n 1, 1) := by decide +kernel
theorem d6_170 : decode prog_7_method_3_code 170 = .ok (.aaload, 1) := by decide +kernel
theorem d6_171 : decode prog_7_method_3_code 171 = .ok (.iload 12, 2) := by decide +kernel
theorem d6_173 : decode prog_7_method_3_code 173 = .ok (.laload, 1) := by decide +kernel
theorem d6_174 : decode prog_7_method_3_code 174 = .ok (.lcmp, 1) := by decide +kernel
theorem d6_175 : decode prog_7_method_3_code 175 = .ok (.ifCond .ge 13, 3) := by decide +kernel
theorem d6_178 : decode prog_7_method_3_code 178 = .ok (.aload 10, 2) := by decide +kernel
theorem d6_180 : decode prog_7_method_3_code 180 = .ok (.iload 11, 2) := by decide +kernel
theorem d6_182 : decode prog_7_method_3_code 182 = .ok (.iinc 11 1, 3) := by decide +kernel
theorem d6_185 : decode prog_7_method_3_code 185 = .ok (.iload 12, 2) := by decide +kernel
theorem d6_187 : decode prog_7_method_3_code 187 = .ok (.iastore, 1) := by decide +kernel
theorem d6_188 : decode prog_7_method_3_code 188 = .ok (.iinc 12 1, 3) := by decide +kernel
theorem d6_191 : decode prog_7_method_3_code 191 = .ok (.goto (-104), 3) := by decide +kernel
theorem d6_194 : decode prog_7_method_3_code 194 = .ok (.iconst 0, 1) := by decide +kernel
theorem d6_195 : decode prog_7_method_3_code 195 = .ok (.istore 12, 2) := by decide +kernel
theorem d6_197 : decode prog_7_method_3_code 197 = .ok (.iload 12, 2) := by decide +kernel
theorem d6_199 : decode prog_7_method_3_code 199 = .ok (.iload 9, 2) := by decide +kernel
theorem d6_201 : decode prog_7_method_3_code 201 = .ok (.if_icmp .ge 88, 3) := by decide +kernel
theorem d6_204 : decode prog_7_method_3_code 204 = .ok (.aload_n 0, 1) := by decide +kernel
theorem d6_205 : decode prog_7_method_3_code 205 = .ok (.getfield 11, 3) := by decide +kernel
theorem d6_208 : decode prog_7_method_3_code 208 = .ok (.aload 8, 2) := by decide +kernel
theorem d6_210 : decode prog_7_method_3_code 210 = .ok (.iload 12, 2) := by decide +kernel
theorem d6_212 : decode prog_7_method_3_code 212 = .ok (.iaload, 1) := by decide +kernel
theorem d6_213 : decode prog_7_method_3_code 213 = .ok (.aaload, 1) := by decide +kernel
theorem d6_214 : decode prog_7_method_3_code 214 = .ok (.astore 13, 2) := by decide +kernel
theorem d6_216 : decode prog_7_method_3_code 216 = .ok (.aload 13, 2) := by decide +kernel
theorem d6_218 : decode prog_7_method_3_code 218 = .ok (.iload_n 1, 1) := by decide +kernel
theorem d6_219 : decode prog_7_method_3_code 219 = .ok (.laload, 1) := by decide +kernel
theorem d6_220 : decode prog_7_method_3_code 220 = .ok (.lload_n 3, 1) := by decide +kernel
theorem d6_221 : decode prog_7_method_3_code 221 = .ok (.ladd, 1) := by decide +kernel
theorem d6_222 : decode prog_7_method_3_code 222 = .ok (.lstore 14, 2) := by decide +kernel
theorem d6_224 : decode prog_7_method_3_code 224 = .ok (.aload_n 0, 1) := by decide +kernel
theorem d6_225 : decode prog_7_method_3_code 225 = .ok (.getfield 11, 3) := by decide +kernel
theorem d6_228 : decode prog_7_method_3_code 228 = .ok (.iload_n 2, 1) := by decide +kernel
theorem d6_229 : decode prog_7_method_3_code 229 = .ok (.aaload, 1) := by decide +kernel
theorem d6_230 : decode prog_7_method_3_code 230 = .ok (.astore 16, 2) := by decide +kernel
theorem d6_232 : decode prog_7_method_3_code 232 = .ok (.iconst 0, 1) := by decide +kernel
theorem d6_233 : decode prog_7_method_3_code 233 = .ok (.istore 17, 2) := by decide +kernel
theorem d6_235 : decode prog_7_method_3_code 235 = .ok (.iload 17, 2) := by decide +kernel
theorem d6_237 : decode prog_7_method_3_code 237 = .ok (.iload 11, 2) := by decide +kernel
theorem d6_239 : decode prog_7_method_3_code 239 = .ok (.if_icmp .ge 44, 3) := by decide +kernel
theorem d6_242 : decode prog_7_method_3_code 242 = .ok (.aload 10, 2) := by decide +kernel
theorem d6_244 : decode prog_7_method_3_code 244 = .ok (.iload 17, 2) := by decide +kernel
theorem d6_246 : decode prog_7_method_3_code 246 = .ok (.iaload, 1) := by decide +kernel
theorem d6_247 : decode prog_7_method_3_code 247 = .ok (.istore 18, 2) := by decide +kernel
theorem d6_249 : decode prog_7_method_3_code 249 = .ok (.lload 14, 2) := by decide +kernel
theorem d6_251 : decode prog_7_method_3_code 251 = .ok (.aload 16, 2) := by decide +kernel
theorem d6_253 : decode prog_7_method_3_code 253 = .ok (.iload 18, 2) := by decide +kernel
theorem d6_255 : decode prog_7_method_3_code 255 = .ok (.laload, 1) := by decide +kernel
theorem d6_256 : decode prog_7_method_3_code 256 = .ok (.ladd, 1) := by decide +kernel
theorem d6_257 : decode prog_7_method_3_code 257 = .ok (.lstore 19, 2) := by decide +kernel
theorem d6_259 : decode prog_7_method_3_code 259 = .ok (.lload 19, 2) := by decide +kernel
theorem d6_261 : decode prog_7_method_3_code 261 = .ok (.aload 13, 2) := by decide +kernel
theorem d6_263 : decode prog_7_method_3_code 263 = .ok (.iload 18, 2) := by decide +kernel
theorem d6_265 : decode prog_7_method_3_code 265 = .ok (.laload, 1) := by decide +kernel
theorem d6_266 : decode prog_7_method_3_code 266 = .ok (.lcmp, 1) := by decide +kernel
theorem d6_267 : decode prog_7_method_3_code 267 = .ok (.ifCond .ge 10, 3) := by decide +kernel
theorem d6_270 : decode prog_7_method_3_code 270 = .ok (.aload 13, 2) := by decide +kernel
theorem d6_272 : decode prog_7_method_3_code 272 = .ok (.iload 18, 2) := by decide +kernel
theorem d6_274 : decode prog_7_method_3_code 274 = .ok (.lload 19, 2) := by decide +kernel
theorem d6_276 : decode prog_7_method_3_code 276 = .ok (.lastore, 1) := by decide +kernel
theorem d6_277 : decode prog_7_method_3_code 277 = .ok (.iinc 17 1, 3) := by decide +kernel
theorem d6_280 : decode prog_7_method_3_code 280 = .ok (.goto (-45), 3) := by decide +kernel
theorem d6_283 : decode prog_7_method_3_code 283 = .ok (.iinc 12 1, 3) := by decide +kernel
theorem d6_286 : decode prog_7_method_3_code 286 = .ok (.goto (-89), 3) := by decide +kernel
theorem d6_289 : decode prog_7_method_3_code 289 = .ok (.return_, 1) := by decide +kernel
theorem pn6 : plainFor (⟨"com/example/slackweave/slackweave/generate/TightestBounds", "add", "(IIJ)V"⟩ : MethodName) = true := plainFor_of_name (by first | (simp [plainName, overriddenIn]; done) | decide +kernel)
def own_L2 (a b : Slot) : Prop := (a = .unset ∧ b = .unset) ∨ ∃ v : Int64, a = .val (.long v) ∧ b = .second
def own_S1 (a : Slot) : Prop := a = .unset ∨ ∃ v : Int32, a = .val (.int v)
def own_QA (a b c d e : Slot) : Prop := (∃ v w : Int64, a = .val (.long v) ∧ b = .second ∧ c = .val (.long w) ∧ d = .second ∧ e = .unset) ∨ ∃ (r : Addr) (z : Int64) (r' : Addr) (q : Int32), a = .val (.ref r) ∧ b = .val (.long z) ∧ c = .second ∧ d = .val (.ref r') ∧ e = .val (.int q)
def own_Q0 (n : Nat) (a b c d : Slot) : Prop := (n = 0 ∧ a = .unset ∧ b = .unset ∧ c = .unset ∧ d = .unset) ∨ ∃ v w : Int64, a = .val (.long v) ∧ b = .second ∧ c = .val (.long w) ∧ d = .second
theorem own_Q0.c {n : Nat} {a b c d : Slot} (h : own_Q0 n a b c d) : own_L2 c d := by
  rcases h with ⟨-, -, -, h1, h2⟩ | ⟨_, w, -, -, h1, h2⟩
  · exact Or.inl ⟨h1, h2⟩
  · exact Or.inr ⟨w, h1, h2⟩

set_option maxRecDepth 65536 in
set_option maxHeartbeats 40000000 in
theorem own_addC (l : Launch) (Z : State) (a0 : Array Value) (hw : ∀ d ∈ tables_1, d.before a0 Z = true) (a1 aM aW : Addr) (Rw : Nat → Addr) (Dm Wm : Nat → Nat → Int64) (fN tN : Nat) (hf : fN < 4) (ht : tN < 4) (xv : Int64) (h0 : Heap) (hO : Ext Z.heap h0) (H : own_M Z h0 a1 aM aW Rw Dm Wm) (hp : Dm tN fN = (9223372036854775807 : Int64) ∨ ¬ xv + Dm tN fN < 0) :
    own_C l Z (⟨"com/example/slackweave/slackweave/generate/TightestBounds", "add", "(IIJ)V"⟩ : MethodName) prog_7_method_3_code 21 none [] ({ frames := 0, cells := 2, slots := 8, locals := 0 } : Room) (own_news Z h0) #[(.ref a1), (.int fN.toInt32), (.int tN.toInt32), (.long xv)] h0 (fun v h => v = none ∧ own_M Z h a1 aM aW Rw (own_add Dm fN tN xv) Wm) := by
  refine own_C.of pn6 hO own_news_le ?_
  intro p e s m below meth c T0 S0
  refine own_F.cast (by first | (simp [entryFrame, mkF, argsToLocals, Value.category]; done) | rfl : entryFrame m #[(.ref a1), (.int fN.toInt32), (.int tN.toInt32), (.long xv)] 21 = mkF m 0 #[.val (.ref a1), .val (.int fN.toInt32), .val (.int tN.toInt32), .val (.long xv), .second, .unset, .unset, .unset, .unset, .unset, .unset, .unset, .unset, .unset, .unset, .unset, .unset, .unset, .unset, .unset, .unset] []) ?_
  have lS := own_Sl_len (D := Dm) (f := fN) (t := tN) (x := xv) (n := 4)
  have lT := own_Tl_len (D := Dm) (f := fN) (t := tN) (x := xv) (n := 4)
  have J197 : ∀ (hlt : xv < Dm fN tN) (is pre : List Nat) (Dc : Nat → Nat → Int64) (hJ : Heap) (TJ : State) (SJ : own_S Z h0 (own_news Z h0) (⟨"com/example/slackweave/slackweave/generate/TightestBounds", "add", "(IIJ)V"⟩ : MethodName).cls prog_7_method_3_code 21 none (⟨"com/example/slackweave/slackweave/generate/TightestBounds", "add", "(IIJ)V"⟩ : MethodName).name p l e ({ frames := 0, cells := 2, slots := 8, locals := 0 } : Room) s m #[.ref a1, .int fN.toInt32, .int tN.toInt32, .long xv] below meth c TJ hJ 2 8) (bS bT : Addr) (HJ : own_M Z hJ a1 aM aW Rw Dc Wm) (AS : own_A Z hJ bS .int (own_pad (own_Sl Dm fN tN xv 4))) (AT : own_A Z hJ bT .int (own_pad (own_Tl Dm fN tN xv 4))) (s13 s14 s15 s16 s17 s18 s19 s20 : Slot), (own_Sl Dm fN tN xv 4) = pre ++ is → own_out fN tN xv (own_Tl Dm fN tN xv 4) is Dc = own_add Dm fN tN xv → own_QA s13 s14 s15 s16 s17 → own_S1 s18 → own_L2 s19 s20 → own_F p e below s Z h0 (own_news Z h0) ({ frames := 0, cells := 2, slots := 8, locals := 0 } : Room).cells ({ frames := 0, cells := 2, slots := 8, locals := 0 } : Room).slots (fun v h => v = none ∧ own_M Z h a1 aM aW Rw (own_add Dm fN tN xv) Wm) (TJ.setTop (mkF m 197 #[.val (.ref a1), .val (.int fN.toInt32), .val (.int tN.toInt32), .val (.long xv), .second, .val (.long (Dm tN fN)), .second, .val (.int (4 : Int32)), .val (.ref bS), .val (.int (own_Sl Dm fN tN xv 4).length.toInt32), .val (.ref bT), .val (.int (own_Tl Dm fN tN xv 4).length.toInt32), .val (.int pre.length.toInt32), s13, s14, s15, s16, s17, s18, s19, s20] [])) := by
    intro hlt is
    induction is with
    | nil =>
      intro pre Dc hJ TJ SJ bS bT HJ AS AT s13 s14 s15 s16 s17 s18 s19 s20 hpre heq hQ q18 q19
      rw [List.append_nil] at hpre
      show own_F p e below s Z _ _ _ _ _ (TJ.setTop (mkF m 197 #[.val (.ref a1), .val (.int fN.toInt32), .val (.int tN.toInt32), .val (.long xv), .second, .val (.long (Dm tN fN)), .second, .val (.int 4), .val (.ref bS), .val (.int (own_Sl Dm fN tN xv 4).length.toInt32), .val (.ref bT), .val (.int (own_Tl Dm fN tN xv 4).length.toInt32), .val (.int pre.length.toInt32), s13, s14, s15, s16, s17, s18, s19, s20] []))
      refine own_F.of (fun _ => XS.iload SJ.here SJ.hx rfl (SJ.dec d6_197) rfl) ?_
      refine own_F.of (fun _ => XS.iload SJ.here SJ.hx rfl (SJ.dec d6_199) rfl) ?_
      show own_F p e below s Z _ _ _ _ _ (TJ.setTop (mkF m 201 #[.val (.ref a1), .val (.int fN.toInt32), .val (.int tN.toInt32), .val (.long xv), .second, .val (.long (Dm tN fN)), .second, .val (.int 4), .val (.ref bS), .val (.int (own_Sl Dm fN tN xv 4).length.toInt32), .val (.ref bT), .val (.int (own_Tl Dm fN tN xv 4).length.toInt32), .val (.int pre.length.toInt32), s13, s14, s15, s16, s17, s18, s19, s20] [(.int (own_Sl Dm fN tN xv 4).length.toInt32), (.int pre.length.toInt32)]))
      refine own_icmp SJ 289 d6_201 (by decide) (by decide) (fun (hc201_1 : ¬ (pre.length.toInt32 < (own_Sl Dm fN tN xv 4).length.toInt32)) => ?_) (fun (hc201_1 : pre.length.toInt32 < (own_Sl Dm fN tN xv 4).length.toInt32) => False.elim (absurd ((own_lt (by rw [← hpre]; omega) (by omega)).mp hc201_1) (by rw [hpre]; omega)))
      show own_F p e below s Z _ _ _ _ _ (TJ.setTop (mkF m 289 #[.val (.ref a1), .val (.int fN.toInt32), .val (.int tN.toInt32), .val (.long xv), .second, .val (.long (Dm tN fN)), .second, .val (.int 4), .val (.ref bS), .val (.int (own_Sl Dm fN tN xv 4).length.toInt32), .val (.ref bT), .val (.int (own_Tl Dm fN tN xv 4).length.toInt32), .val (.int pre.length.toInt32), s13, s14, s15, s16, s17, s18, s19, s20] []))
      refine own_retV SJ d6_289 (by decide) (by decide) ?_
      exact ⟨rfl, by rw [← heq]; exact HJ⟩
    | cons i is ih =>
      intro pre Dc hJ TJ SJ bS bT HJ AS AT s13 s14 s15 s16 s17 s18 s19 s20 hpre heq hQ q18 q19
      have hlen : (own_Sl Dm fN tN xv 4).length = pre.length + (is.length + 1) := by rw [hpre]; simp
      have hi : i < 4 := (own_Sl_mem.mp (show i ∈ (own_Sl Dm fN tN xv 4) by rw [hpre]; simp)).1
      have J235 : ∀ (js pre2 : List Nat) (Dd : Nat → Nat → Int64) (hK : Heap) (TK : State) (SK : own_S Z h0 (own_news Z h0) (⟨"com/example/slackweave/slackweave/generate/TightestBounds", "add", "(IIJ)V"⟩ : MethodName).cls prog_7_method_3_code 21 none (⟨"com/example/slackweave/slackweave/generate/TightestBounds", "add", "(IIJ)V"⟩ : MethodName).name p l e ({ frames := 0, cells := 2, slots := 8, locals := 0 } : Room) s m #[.ref a1, .int fN.toInt32, .int tN.toInt32, .long xv] below meth c TK hK 2 8) (HK : own_M Z hK a1 aM aW Rw Dd Wm) (BS : own_A Z hK bS .int (own_pad (own_Sl Dm fN tN xv 4))) (BT : own_A Z hK bT .int (own_pad (own_Tl Dm fN tN xv 4))) (s18 s19 s20 : Slot), (own_Tl Dm fN tN xv 4) = pre2 ++ js → own_inn tN i (Dc i fN + xv) js Dd = own_inn tN i (Dc i fN + xv) (own_Tl Dm fN tN xv 4) Dc → own_S1 s18 → own_L2 s19 s20 → own_F p e below s Z h0 (own_news Z h0) ({ frames := 0, cells := 2, slots := 8, locals := 0 } : Room).cells ({ frames := 0, cells := 2, slots := 8, locals := 0 } : Room).slots (fun v h => v = none ∧ own_M Z h a1 aM aW Rw (own_add Dm fN tN xv) Wm) (TK.setTop (mkF m 235 #[.val (.ref a1), .val (.int fN.toInt32), .val (.int tN.toInt32), .val (.long xv), .second, .val (.long (Dm tN fN)), .second, .val (.int (4 : Int32)), .val (.ref bS), .val (.int (own_Sl Dm fN tN xv 4).length.toInt32), .val (.ref bT), .val (.int (own_Tl Dm fN tN xv 4).length.toInt32), .val (.int pre.length.toInt32), .val (.ref (Rw i)), .val (.long (Dc i fN + xv)), .second, .val (.ref (Rw tN)), .val (.int pre2.length.toInt32), s18, s19, s20] [])) := by
        intro js
        induction js with
        | nil =>
          intro pre2 Dd hK TK SK HK BS BT s18 s19 s20 hpre2 heq2 q18 q19
          rw [List.append_nil] at hpre2
          show own_F p e below s Z _ _ _ _ _ (TK.setTop (mkF m 235 #[.val (.ref a1), .val (.int fN.toInt32), .val (.int tN.toInt32), .val (.long xv), .second, .val (.long (Dm tN fN)), .second, .val (.int 4), .val (.ref bS), .val (.int (own_Sl Dm fN tN xv 4).length.toInt32), .val (.ref bT), .val (.int (own_Tl Dm fN tN xv 4).length.toInt32), .val (.int pre.length.toInt32), .val (.ref (Rw i)), .val (.long (Dc i fN + xv)), .second, .val (.ref (Rw tN)), .val (.int pre2.length.toInt32), s18, s19, s20] []))
          refine own_F.of (fun _ => XS.iload SK.here SK.hx rfl (SK.dec d6_235) rfl) ?_
          refine own_F.of (fun _ => XS.iload SK.here SK.hx rfl (SK.dec d6_237) rfl) ?_
          show own_F p e below s Z _ _ _ _ _ (TK.setTop (mkF m 239 #[.val (.ref a1), .val (.int fN.toInt32), .val (.int tN.toInt32), .val (.long xv), .second, .val (.long (Dm tN fN)), .second, .val (.int 4), .val (.ref bS), .val (.int (own_Sl Dm fN tN xv 4).length.toInt32), .val (.ref bT), .val (.int (own_Tl Dm fN tN xv 4).length.toInt32), .val (.int pre.length.toInt32), .val (.ref (Rw i)), .val (.long (Dc i fN + xv)), .second, .val (.ref (Rw tN)), .val (.int pre2.length.toInt32), s18, s19, s20] [(.int (own_Tl Dm fN tN xv 4).length.toInt32), (.int pre2.length.toInt32)]))
          refine own_icmp SK 283 d6_239 (by decide) (by decide) (fun (hc239_2 : ¬ (pre2.length.toInt32 < (own_Tl Dm fN tN xv 4).length.toInt32)) => ?_) (fun (hc239_2 : pre2.length.toInt32 < (own_Tl Dm fN tN xv 4).length.toInt32) => False.elim (absurd ((own_lt (by rw [← hpre2]; omega) (by omega)).mp hc239_2) (by rw [hpre2]; omega)))
          show own_F p e below s Z _ _ _ _ _ (TK.setTop (mkF m 283 #[.val (.ref a1), .val (.int fN.toInt32), .val (.int tN.toInt32), .val (.long xv), .second, .val (.long (Dm tN fN)), .second, .val (.int 4), .val (.ref bS), .val (.int (own_Sl Dm fN tN xv 4).length.toInt32), .val (.ref bT), .val (.int (own_Tl Dm fN tN xv 4).length.toInt32), .val (.int pre.length.toInt32), .val (.ref (Rw i)), .val (.long (Dc i fN + xv)), .second, .val (.ref (Rw tN)), .val (.int pre2.length.toInt32), s18, s19, s20] []))
          refine own_F.of (fun _ => XS.iinc SK.here SK.hx rfl (SK.dec d6_283) rfl (l' := #[.val (.ref a1), .val (.int fN.toInt32), .val (.int tN.toInt32), .val (.long xv), .second, .val (.long (Dm tN fN)), .second, .val (.int 4), .val (.ref bS), .val (.int (own_Sl Dm fN tN xv 4).length.toInt32), .val (.ref bT), .val (.int (own_Tl Dm fN tN xv 4).length.toInt32), .val (.int (pre.length.toInt32 + (1 : Int32))), .val (.ref (Rw i)), .val (.long (Dc i fN + xv)), .second, .val (.ref (Rw tN)), .val (.int pre2.length.toInt32), s18, s19, s20]) rfl) ?_
          show own_F p e below s Z _ _ _ _ _ (TK.setTop (mkF m 286 #[.val (.ref a1), .val (.int fN.toInt32), .val (.int tN.toInt32), .val (.long xv), .second, .val (.long (Dm tN fN)), .second, .val (.int 4), .val (.ref bS), .val (.int (own_Sl Dm fN tN xv 4).length.toInt32), .val (.ref bT), .val (.int (own_Tl Dm fN tN xv 4).length.toInt32), .val (.int (pre.length.toInt32 + (1 : Int32))), .val (.ref (Rw i)), .val (.long (Dc i fN + xv)), .second, .val (.ref (Rw tN)), .val (.int pre2.length.toInt32), s18, s19, s20] []))
          refine own_F.of (fun _ => XS.goto SK.here SK.hx rfl (pc0 := 286) (pc' := 197) rfl (SK.dec d6_286) (by decide) (by decide)) ?_
          show own_F p e below s Z _ _ _ _ _ (TK.setTop (mkF m 197 #[.val (.ref a1), .val (.int fN.toInt32), .val (.int tN.toInt32), .val (.long xv), .second, .val (.long (Dm tN fN)), .second, .val (.int 4), .val (.ref bS), .val (.int (own_Sl Dm fN tN xv 4).length.toInt32), .val (.ref bT), .val (.int (own_Tl Dm fN tN xv 4).length.toInt32), .val (.int (pre.length.toInt32 + (1 : Int32))), .val (.ref (Rw i)), .val (.long (Dc i fN + xv)), .second, .val (.ref (Rw tN)), .val (.int pre2.length.toInt32), s18, s19, s20] []))
          rw [show pre.length.toInt32 + (1 : Int32) = (pre ++ [i]).length.toInt32 by rw [own_suc (by omega), List.length_append]; rfl]
          exact ih (pre ++ [i]) Dd hK TK SK bS bT HK BS BT _ _ _ _ _ _ _ _ (by rw [hpre, List.append_assoc]; rfl) (by rw [show Dd = own_inn tN i (Dc i fN + xv) (own_Tl Dm fN tN xv 4) Dc from heq2]; exact heq) (Or.inr ⟨_, _, _, _, rfl, rfl, rfl, rfl, rfl⟩) q18 q19
        | cons j js ih2 =>
          intro pre2 Dd hK TK SK HK BS BT s18 s19 s20 hpre2 heq2 q18 q19
          have hlen2 : (own_Tl Dm fN tN xv 4).length = pre2.length + (js.length + 1) := by rw [hpre2]; simp
          have hj : j < 4 := (own_Tl_mem.mp (show j ∈ (own_Tl Dm fN tN xv 4) by rw [hpre2]; simp)).1
          show own_F p e below s Z _ _ _ _ _ (TK.setTop (mkF m 235 #[.val (.ref a1), .val (.int fN.toInt32), .val (.int tN.toInt32), .val (.long xv), .second, .val (.long (Dm tN fN)), .second, .val (.int 4), .val (.ref bS), .val (.int (own_Sl Dm fN tN xv 4).length.toInt32), .val (.ref bT), .val (.int (own_Tl Dm fN tN xv 4).length.toInt32), .val (.int pre.length.toInt32), .val (.ref (Rw i)), .val (.long (Dc i fN + xv)), .second, .val (.ref (Rw tN)), .val (.int pre2.length.toInt32), s18, s19, s20] []))
          refine own_F.of (fun _ => XS.iload SK.here SK.hx rfl (SK.dec d6_235) rfl) ?_
          refine own_F.of (fun _ => XS.iload SK.here SK.hx rfl (SK.dec d6_237) rfl) ?_
          show own_F p e below s Z _ _ _ _ _ (TK.setTop (mkF m 239 #[.val (.ref a1), .val (.int fN.toInt32), .val (.int tN.toInt32), .val (.long xv), .second, .val (.long (Dm tN fN)), .second, .val (.int 4), .val (.ref bS), .val (.int (own_Sl Dm fN tN xv 4).length.toInt32), .val (.ref bT), .val (.int (own_Tl Dm fN tN xv 4).length.toInt32), .val (.int pre.length.toInt32), .val (.ref (Rw i)), .val (.long (Dc i fN + xv)), .second, .val (.ref (Rw tN)), .val (.int pre2.length.toInt32), s18, s19, s20] [(.int (own_Tl Dm fN tN xv 4).length.toInt32), (.int pre2.length.toInt32)]))
          refine own_icmp SK 283 d6_239 (by decide) (by decide) (fun (hc239_3 : ¬ (pre2.length.toInt32 < (own_Tl Dm fN tN xv 4).length.toInt32)) => False.elim (hc239_3 ((own_lt (by omega) (by omega)).mpr (by omega)))) (fun (hc239_3 : pre2.length.toInt32 < (own_Tl Dm fN tN xv 4).length.toInt32) => ?_)
          show own_F p e below s Z _ _ _ _ _ (TK.setTop (mkF m 242 #[.val (.ref a1), .val (.int fN.toInt32), .val (.int tN.toInt32), .val (.long xv), .second, .val (.long (Dm tN fN)), .second, .val (.int 4), .val (.ref bS), .val (.int (own_Sl Dm fN tN xv 4).length.toInt32), .val (.ref bT), .val (.int (own_Tl Dm fN tN xv 4).length.toInt32), .val (.int pre.length.toInt32), .val (.ref (Rw i)), .val (.long (Dc i fN + xv)), .second, .val (.ref (Rw tN)), .val (.int pre2.length.toInt32), s18, s19, s20] []))
          refine own_F.of (fun _ => XS.aload SK.here SK.hx rfl (SK.dec d6_242) rfl rfl) ?_
          refine own_F.of (fun _ => XS.iload SK.here SK.hx rfl (SK.dec d6_244) rfl) ?_
          show own_F p e below s Z _ _ _ _ _ (TK.setTop (mkF m 246 #[.val (.ref a1), .val (.int fN.toInt32), .val (.int tN.toInt32), .val (.long xv), .second, .val (.long (Dm tN fN)), .second, .val (.int 4), .val (.ref bS), .val (.int (own_Sl Dm fN tN xv 4).length.toInt32), .val (.ref bT), .val (.int (own_Tl Dm fN tN xv 4).length.toInt32), .val (.int pre.length.toInt32), .val (.ref (Rw i)), .val (.long (Dc i fN + xv)), .second, .val (.ref (Rw tN)), .val (.int pre2.length.toInt32), s18, s19, s20] [(.int pre2.length.toInt32), (.ref bT)]))
          refine own_iald SK BT (own_n4 (by omega)).2.1 (by rw [(own_n4 (by omega)).1]; exact own_pad_at hpre2 (by omega)) d6_246 ?_
          show own_F p e below s Z _ _ _ _ _ (TK.setTop (mkF m 247 #[.val (.ref a1), .val (.int fN.toInt32), .val (.int tN.toInt32), .val (.long xv), .second, .val (.long (Dm tN fN)), .second, .val (.int 4), .val (.ref bS), .val (.int (own_Sl Dm fN tN xv 4).length.toInt32), .val (.ref bT), .val (.int (own_Tl Dm fN tN xv 4).length.toInt32), .val (.int pre.length.toInt32), .val (.ref (Rw i)), .val (.long (Dc i fN + xv)), .second, .val (.ref (Rw tN)), .val (.int pre2.length.toInt32), s18, s19, s20] [(.int j.toInt32)]))
          refine own_F.of (fun _ => XS.istore SK.here SK.hx rfl (SK.dec d6_247) rfl (l' := #[.val (.ref a1), .val (.int fN.toInt32), .val (.int tN.toInt32), .val (.long xv), .second, .val (.long (Dm tN fN)), .second, .val (.int 4), .val (.ref bS), .val (.int (own_Sl Dm fN tN xv 4).length.toInt32), .val (.ref bT), .val (.int (own_Tl Dm fN tN xv 4).length.toInt32), .val (.int pre.length.toInt32), .val (.ref (Rw i)), .val (.long (Dc i fN + xv)), .second, .val (.ref (Rw tN)), .val (.int pre2.length.toInt32), .val (.int j.toInt32), s19, s20]) (by rcases q18 with rfl | ⟨_, rfl⟩ <;> rfl)) ?_
          refine own_F.of (fun _ => XS.lload SK.here SK.hx rfl (SK.dec d6_249) rfl) ?_
          refine own_F.of (fun _ => XS.aload SK.here SK.hx rfl (SK.dec d6_251) rfl rfl) ?_
          refine own_F.of (fun _ => XS.iload SK.here SK.hx rfl (SK.dec d6_253) rfl) ?_
          show own_F p e below s Z _ _ _ _ _ (TK.setTop (mkF m 255 #[.val (.ref a1), .val (.int fN.toInt32), .val (.int tN.toInt32), .val (.long xv), .second, .val (.long (Dm tN fN)), .second, .val (.int 4), .val (.ref bS), .val (.int (own_Sl Dm fN tN xv 4).length.toInt32), .val (.ref bT), .val (.int (own_Tl Dm fN tN xv 4).length.toInt32), .val (.int pre.length.toInt32), .val (.ref (Rw i)), .val (.long (Dc i fN + xv)), .second, .val (.ref (Rw tN)), .val (.int pre2.length.toInt32), .val (.int j.toInt32), s19, s20] [(.int j.toInt32), (.ref (Rw tN)), (.long (Dc i fN + xv))]))
          refine own_lald SK (HK.rw ht) (own_n4 (Nat.lt_trans hj (by decide))).2.1 (by rw [(own_n4 (Nat.lt_trans hj (by decide))).1]; exact own_row_at hj) d6_255 ?_
          show own_F p e below s Z _ _ _ _ _ (TK.setTop (mkF m 256 #[.val (.ref a1), .val (.int fN.toInt32), .val (.int tN.toInt32), .val (.long xv), .second, .val (.long (Dm tN fN)), .second, .val (.int 4), .val (.ref bS), .val (.int (own_Sl Dm fN tN xv 4).length.toInt32), .val (.ref bT), .val (.int (own_Tl Dm fN tN xv 4).length.toInt32), .val (.int pre.length.toInt32), .val (.ref (Rw i)), .val (.long (Dc i fN + xv)), .second, .val (.ref (Rw tN)), .val (.int pre2.length.toInt32), .val (.int j.toInt32), s19, s20] [(.long (Dd tN j)), (.long (Dc i fN + xv))]))
          refine own_F.of (fun _ => XS.ladd SK.here SK.hx rfl (SK.dec d6_256) rfl) ?_
          show own_F p e below s Z _ _ _ _ _ (TK.setTop (mkF m 257 #[.val (.ref a1), .val (.int fN.toInt32), .val (.int tN.toInt32), .val (.long xv), .second, .val (.long (Dm tN fN)), .second, .val (.int 4), .val (.ref bS), .val (.int (own_Sl Dm fN tN xv 4).length.toInt32), .val (.ref bT), .val (.int (own_Tl Dm fN tN xv 4).length.toInt32), .val (.int pre.length.toInt32), .val (.ref (Rw i)), .val (.long (Dc i fN + xv)), .second, .val (.ref (Rw tN)), .val (.int pre2.length.toInt32), .val (.int j.toInt32), s19, s20] [(.long ((Dc i fN + xv) + (Dd tN j)))]))
          refine own_F.of (fun _ => XS.lstore SK.here SK.hx rfl (SK.dec d6_257) rfl (l' := #[.val (.ref a1), .val (.int fN.toInt32), .val (.int tN.toInt32), .val (.long xv), .second, .val (.long (Dm tN fN)), .second, .val (.int 4), .val (.ref bS), .val (.int (own_Sl Dm fN tN xv 4).length.toInt32), .val (.ref bT), .val (.int (own_Tl Dm fN tN xv 4).length.toInt32), .val (.int pre.length.toInt32), .val (.ref (Rw i)), .val (.long (Dc i fN + xv)), .second, .val (.ref (Rw tN)), .val (.int pre2.length.toInt32), .val (.int j.toInt32), .val (.long ((Dc i fN + xv) + (Dd tN j))), .second]) (by rcases q19 with ⟨rfl, rfl⟩ | ⟨_, rfl, rfl⟩ <;> rfl)) ?_
          refine own_F.of (fun _ => XS.lload SK.here SK.hx rfl (SK.dec d6_259) rfl) ?_
          refine own_F.of (fun _ => XS.aload SK.here SK.hx rfl (SK.dec d6_261) rfl rfl) ?_
          refine own_F.of (fun _ => XS.iload SK.here SK.hx rfl (SK.dec d6_263) rfl) ?_
          show own_F p e below s Z _ _ _ _ _ (TK.setTop (mkF m 265 #[.val (.ref a1), .val (.int fN.toInt32), .val (.int tN.toInt32), .val (.long xv), .second, .val (.long (Dm tN fN)), .second, .val (.int 4), .val (.ref bS), .val (.int (own_Sl Dm fN tN xv 4).length.toInt32), .val (.ref bT), .val (.int (own_Tl Dm fN tN xv 4).length.toInt32), .val (.int pre.length.toInt32), .val (.ref (Rw i)), .val (.long (Dc i fN + xv)), .second, .val (.ref (Rw tN)), .val (.int pre2.length.toInt32), .val (.int j.toInt32), .val (.long ((Dc i fN + xv) + (Dd tN j))), .second] [(.int j.toInt32), (.ref (Rw i)), (.long ((Dc i fN + xv) + (Dd tN j)))]))
          refine own_lald SK (HK.rw hi) (own_n4 (Nat.lt_trans hj (by decide))).2.1 (by rw [(own_n4 (Nat.lt_trans hj (by decide))).1]; exact own_row_at hj) d6_265 ?_
          show own_F p e below s Z _ _ _ _ _ (TK.setTop (mkF m 266 #[.val (.ref a1), .val (.int fN.toInt32), .val (.int tN.toInt32), .val (.long xv), .second, .val (.long (Dm tN fN)), .second, .val (.int 4), .val (.ref bS), .val (.int (own_Sl Dm fN tN xv 4).length.toInt32), .val (.ref bT), .val (.int (own_Tl Dm fN tN xv 4).length.toInt32), .val (.int pre.length.toInt32), .val (.ref (Rw i)), .val (.long (Dc i fN + xv)), .second, .val (.ref (Rw tN)), .val (.int pre2.length.toInt32), .val (.int j.toInt32), .val (.long ((Dc i fN + xv) + (Dd tN j))), .second] [(.long (Dd i j)), (.long ((Dc i fN + xv) + (Dd tN j)))]))
          refine own_F.of (fun _ => XS.lcmp SK.here SK.hx rfl (SK.dec d6_266) rfl) ?_
          show own_F p e below s Z _ _ _ _ _ (TK.setTop (mkF m 267 #[.val (.ref a1), .val (.int fN.toInt32), .val (.int tN.toInt32), .val (.long xv), .second, .val (.long (Dm tN fN)), .second, .val (.int 4), .val (.ref bS), .val (.int (own_Sl Dm fN tN xv 4).length.toInt32), .val (.ref bT), .val (.int (own_Tl Dm fN tN xv 4).length.toInt32), .val (.int pre.length.toInt32), .val (.ref (Rw i)), .val (.long (Dc i fN + xv)), .second, .val (.ref (Rw tN)), .val (.int pre2.length.toInt32), .val (.int j.toInt32), .val (.long ((Dc i fN + xv) + (Dd tN j))), .second] [(.int (lcmpW ((Dc i fN + xv) + (Dd tN j)) (Dd i j)))]))
          refine own_if SK 277 d6_267 (by decide) (by decide) (fun (hc267_4 : ¬ ((lcmpW ((Dc i fN + xv) + (Dd tN j)) (Dd i j)) < (0 : Int32))) => ?_) (fun (hc267_4 : (lcmpW ((Dc i fN + xv) + (Dd tN j)) (Dd i j)) < (0 : Int32)) => ?_)
          · show own_F p e below s Z _ _ _ _ _ (TK.setTop (mkF m 277 #[.val (.ref a1), .val (.int fN.toInt32), .val (.int tN.toInt32), .val (.long xv), .second, .val (.long (Dm tN fN)), .second, .val (.int 4), .val (.ref bS), .val (.int (own_Sl Dm fN tN xv 4).length.toInt32), .val (.ref bT), .val (.int (own_Tl Dm fN tN xv 4).length.toInt32), .val (.int pre.length.toInt32), .val (.ref (Rw i)), .val (.long (Dc i fN + xv)), .second, .val (.ref (Rw tN)), .val (.int pre2.length.toInt32), .val (.int j.toInt32), .val (.long ((Dc i fN + xv) + (Dd tN j))), .second] []))
            refine own_F.of (fun _ => XS.iinc SK.here SK.hx rfl (SK.dec d6_277) rfl (l' := #[.val (.ref a1), .val (.int fN.toInt32), .val (.int tN.toInt32), .val (.long xv), .second, .val (.long (Dm tN fN)), .second, .val (.int 4), .val (.ref bS), .val (.int (own_Sl Dm fN tN xv 4).length.toInt32), .val (.ref bT), .val (.int (own_Tl Dm fN tN xv 4).length.toInt32), .val (.int pre.length.toInt32), .val (.ref (Rw i)), .val (.long (Dc i fN + xv)), .second, .val (.ref (Rw tN)), .val (.int (pre2.length.toInt32 + (1 : Int32))), .val (.int j.toInt32), .val (.long ((Dc i fN + xv) + (Dd tN j))), .second]) rfl) ?_
            show own_F p e below s Z _ _ _ _ _ (TK.setTop (mkF m 280 #[.val (.ref a1), .val (.int fN.toInt32), .val (.int tN.toInt32), .val (.long xv), .second, .val (.long (Dm tN fN)), .second, .val (.int 4), .val (.ref bS), .val (.int (own_Sl Dm fN tN xv 4).length.toInt32), .val (.ref bT), .val (.int (own_Tl Dm fN tN xv 4).length.toInt32), .val (.int pre.length.toInt32), .val (.ref (Rw i)), .val (.long (Dc i fN + xv)), .second, .val (.ref (Rw tN)), .val (.int (pre2.length.toInt32 + (1 : Int32))), .val (.int j.toInt32), .val (.long ((Dc i fN + xv) + (Dd tN j))), .second] []))
            refine own_F.of (fun _ => XS.goto SK.here SK.hx rfl (pc0 := 280) (pc' := 235) rfl (SK.dec d6_280) (by decide) (by decide)) ?_
            show own_F p e below s Z _ _ _ _ _ (TK.setTop (mkF m 235 #[.val (.ref a1), .val (.int fN.toInt32), .val (.int tN.toInt32), .val (.long xv), .second, .val (.long (Dm tN fN)), .second, .val (.int 4), .val (.ref bS), .val (.int (own_Sl Dm fN tN xv 4).length.toInt32), .val (.ref bT), .val (.int (own_Tl Dm fN tN xv 4).length.toInt32), .val (.int pre.length.toInt32), .val (.ref (Rw i)), .val (.long (Dc i fN + xv)), .second, .val (.ref (Rw tN)), .val (.int (pre2.length.toInt32 + (1 : Int32))), .val (.int j.toInt32), .val (.long ((Dc i fN + xv) + (Dd tN j))), .second] []))
            rw [show pre2.length.toInt32 + (1 : Int32) = (pre2 ++ [j]).length.toInt32 by rw [own_suc (by omega), List.length_append]; rfl]
            exact ih2 (pre2 ++ [j]) _ hK TK SK HK BS BT _ _ _ (by rw [hpre2, List.append_assoc]; rfl) (Eq.trans (by show _ = own_inn tN i (Dc i fN + xv) js (if Dc i fN + xv + Dd tN j < Dd i j then own_s2 Dd i j (Dc i fN + xv + Dd tN j) else Dd); rw [if_neg (fun z => hc267_4 ((lw_lt _ _).mpr z))]) heq2) (Or.inr ⟨_, rfl⟩) (Or.inr ⟨_, rfl, rfl⟩)
          · show own_F p e below s Z _ _ _ _ _ (TK.setTop (mkF m 270 #[.val (.ref a1), .val (.int fN.toInt32), .val (.int tN.toInt32), .val (.long xv), .second, .val (.long (Dm tN fN)), .second, .val (.int 4), .val (.ref bS), .val (.int (own_Sl Dm fN tN xv 4).length.toInt32), .val (.ref bT), .val (.int (own_Tl Dm fN tN xv 4).length.toInt32), .val (.int pre.length.toInt32), .val (.ref (Rw i)), .val (.long (Dc i fN + xv)), .second, .val (.ref (Rw tN)), .val (.int pre2.length.toInt32), .val (.int j.toInt32), .val (.long ((Dc i fN + xv) + (Dd tN j))), .second] []))
            refine own_F.of (fun _ => XS.aload SK.here SK.hx rfl (SK.dec d6_270) rfl rfl) ?_
            refine own_F.of (fun _ => XS.iload SK.here SK.hx rfl (SK.dec d6_272) rfl) ?_
            refine own_F.of (fun _ => XS.lload SK.here SK.hx rfl (SK.dec d6_274) rfl) ?_
            show own_F p e below s Z _ _ _ _ _ (TK.setTop (mkF m 276 #[.val (.ref a1), .val (.int fN.toInt32), .val (.int tN.toInt32), .val (.long xv), .second, .val (.long (Dm tN fN)), .second, .val (.int 4), .val (.ref bS), .val (.int (own_Sl Dm fN tN xv 4).length.toInt32), .val (.ref bT), .val (.int (own_Tl Dm fN tN xv 4).length.toInt32), .val (.int pre.length.toInt32), .val (.ref (Rw i)), .val (.long (Dc i fN + xv)), .second, .val (.ref (Rw tN)), .val (.int pre2.length.toInt32), .val (.int j.toInt32), .val (.long ((Dc i fN + xv) + (Dd tN j))), .second] [(.long ((Dc i fN + xv) + (Dd tN j))), (.int j.toInt32), (.ref (Rw i))]))
            refine own_jst SK (HK.rw hi) (own_n4 (by omega)).2.1 (by rw [(own_n4 (by omega)).1, own_row_len]; exact hj) d6_276 (own_news_may (HK.le hi)) (fun T5 h5 S5 W5 A5 => ?_)
            rw [(own_n4 (by omega)).1] at W5
            have H5 := HK.row (own_w hw 3 rfl) hi hj W5
            have C5 := BS.other W5 (BS.neT (HK.rw hi) (by decide))
            have G5 := BT.other W5 (BT.neT (HK.rw hi) (by decide))
            show own_F p e below s Z _ _ _ _ _ (T5.setTop (mkF m 277 #[.val (.ref a1), .val (.int fN.toInt32), .val (.int tN.toInt32), .val (.long xv), .second, .val (.long (Dm tN fN)), .second, .val (.int 4), .val (.ref bS), .val (.int (own_Sl Dm fN tN xv 4).length.toInt32), .val (.ref bT), .val (.int (own_Tl Dm fN tN xv 4).length.toInt32), .val (.int pre.length.toInt32), .val (.ref (Rw i)), .val (.long (Dc i fN + xv)), .second, .val (.ref (Rw tN)), .val (.int pre2.length.toInt32), .val (.int j.toInt32), .val (.long ((Dc i fN + xv) + (Dd tN j))), .second] []))
            refine own_F.of (fun _ => XS.iinc S5.here S5.hx rfl (S5.dec d6_277) rfl (l' := #[.val (.ref a1), .val (.int fN.toInt32), .val (.int tN.toInt32), .val (.long xv), .second, .val (.long (Dm tN fN)), .second, .val (.int 4), .val (.ref bS), .val (.int (own_Sl Dm fN tN xv 4).length.toInt32), .val (.ref bT), .val (.int (own_Tl Dm fN tN xv 4).length.toInt32), .val (.int pre.length.toInt32), .val (.ref (Rw i)), .val (.long (Dc i fN + xv)), .second, .val (.ref (Rw tN)), .val (.int (pre2.length.toInt32 + (1 : Int32))), .val (.int j.toInt32), .val (.long ((Dc i fN + xv) + (Dd tN j))), .second]) rfl) ?_
            show own_F p e below s Z _ _ _ _ _ (T5.setTop (mkF m 280 #[.val (.ref a1), .val (.int fN.toInt32), .val (.int tN.toInt32), .val (.long xv), .second, .val (.long (Dm tN fN)), .second, .val (.int 4), .val (.ref bS), .val (.int (own_Sl Dm fN tN xv 4).length.toInt32), .val (.ref bT), .val (.int (own_Tl Dm fN tN xv 4).length.toInt32), .val (.int pre.length.toInt32), .val (.ref (Rw i)), .val (.long (Dc i fN + xv)), .second, .val (.ref (Rw tN)), .val (.int (pre2.length.toInt32 + (1 : Int32))), .val (.int j.toInt32), .val (.long ((Dc i fN + xv) + (Dd tN j))), .second] []))
            refine own_F.of (fun _ => XS.goto S5.here S5.hx rfl (pc0 := 280) (pc' := 235) rfl (S5.dec d6_280) (by decide) (by decide)) ?_
            show own_F p e below s Z _ _ _ _ _ (T5.setTop (mkF m 235 #[.val (.ref a1), .val (.int fN.toInt32), .val (.int tN.toInt32), .val (.long xv), .second, .val (.long (Dm tN fN)), .second, .val (.int 4), .val (.ref bS), .val (.int (own_Sl Dm fN tN xv 4).length.toInt32), .val (.ref bT), .val (.int (own_Tl Dm fN tN xv 4).length.toInt32), .val (.int pre.length.toInt32), .val (.ref (Rw i)), .val (.long (Dc i fN + xv)), .second, .val (.ref (Rw tN)), .val (.int (pre2.length.toInt32 + (1 : Int32))), .val (.int j.toInt32), .val (.long ((Dc i fN + xv) + (Dd tN j))), .second] []))
            rw [show pre2.length.toInt32 + (1 : Int32) = (pre2 ++ [j]).length.toInt32 by rw [own_suc (by omega), List.length_append]; rfl]
            exact ih2 (pre2 ++ [j]) _ h5 T5 S5 H5 C5 G5 _ _ _ (by rw [hpre2, List.append_assoc]; rfl) (Eq.trans (by show _ = own_inn tN i (Dc i fN + xv) js (if Dc i fN + xv + Dd tN j < Dd i j then own_s2 Dd i j (Dc i fN + xv + Dd tN j) else Dd); rw [if_pos ((lw_lt _ _).mp hc267_4)]) heq2) (Or.inr ⟨_, rfl⟩) (Or.inr ⟨_, rfl, rfl⟩)
      rcases hQ with ⟨v13, v15, rfl, rfl, rfl, rfl, rfl⟩ | ⟨r13, v14, r16, i17, rfl, rfl, rfl, rfl, rfl⟩
      · show own_F p e below s Z _ _ _ _ _ (TJ.setTop (mkF m 197 #[.val (.ref a1), .val (.int fN.toInt32), .val (.int tN.toInt32), .val (.long xv), .second, .val (.long (Dm tN fN)), .second, .val (.int 4), .val (.ref bS), .val (.int (own_Sl Dm fN tN xv 4).length.toInt32), .val (.ref bT), .val (.int (own_Tl Dm fN tN xv 4).length.toInt32), .val (.int pre.length.toInt32), .val (.long v13), .second, .val (.long v15), .second, .unset, s18, s19, s20] []))
        refine own_F.of (fun _ => XS.iload SJ.here SJ.hx rfl (SJ.dec d6_197) rfl) ?_
        refine own_F.of (fun _ => XS.iload SJ.here SJ.hx rfl (SJ.dec d6_199) rfl) ?_
        show own_F p e below s Z _ _ _ _ _ (TJ.setTop (mkF m 201 #[.val (.ref a1), .val (.int fN.toInt32), .val (.int tN.toInt32), .val (.long xv), .second, .val (.long (Dm tN fN)), .second, .val (.int 4), .val (.ref bS), .val (.int (own_Sl Dm fN tN xv 4).length.toInt32), .val (.ref bT), .val (.int (own_Tl Dm fN tN xv 4).length.toInt32), .val (.int pre.length.toInt32), .val (.long v13), .second, .val (.long v15), .second, .unset, s18, s19, s20] [(.int (own_Sl Dm fN tN xv 4).length.toInt32), (.int pre.length.toInt32)]))
        refine own_icmp SJ 289 d6_201 (by decide) (by decide) (fun (hc201_6 : ¬ (pre.length.toInt32 < (own_Sl Dm fN tN xv 4).length.toInt32)) => False.elim (hc201_6 ((own_lt (by omega) (by omega)).mpr (by omega)))) (fun (hc201_6 : pre.length.toInt32 < (own_Sl Dm fN tN xv 4).length.toInt32) => ?_)
        show own_F p e below s Z _ _ _ _ _ (TJ.setTop (mkF m 204 #[.val (.ref a1), .val (.int fN.toInt32), .val (.int tN.toInt32), .val (.long xv), .second, .val (.long (Dm tN fN)), .second, .val (.int 4), .val (.ref bS), .val (.int (own_Sl Dm fN tN xv 4).length.toInt32), .val (.ref bT), .val (.int (own_Tl Dm fN tN xv 4).length.toInt32), .val (.int pre.length.toInt32), .val (.long v13), .second, .val (.long v15), .second, .unset, s18, s19, s20] []))
        refine own_F.of (fun _ => XS.aloadN SJ.here SJ.hx rfl (SJ.dec d6_204) rfl rfl) ?_
        show own_F p e below s Z _ _ _ _ _ (TJ.setTop (mkF m 205 #[.val (.ref a1), .val (.int fN.toInt32), .val (.int tN.toInt32), .val (.long xv), .second, .val (.long (Dm tN fN)), .second, .val (.int 4), .val (.ref bS), .val (.int (own_Sl Dm fN tN xv 4).length.toInt32), .val (.ref bT), .val (.int (own_Tl Dm fN tN xv 4).length.toInt32), .val (.int pre.length.toInt32), .val (.long v13), .second, .val (.long v15), .second, .unset, s18, s19, s20] [(.ref a1)]))
        refine own_getF SJ (host := "") (Or.inl (own_w hw 13 rfl)) Via.refl HJ.fld d6_205 (fun T7 S7 => ?_)
        show own_F p e below s Z _ _ _ _ _ (T7.setTop (mkF m 208 #[.val (.ref a1), .val (.int fN.toInt32), .val (.int tN.toInt32), .val (.long xv), .second, .val (.long (Dm tN fN)), .second, .val (.int 4), .val (.ref bS), .val (.int (own_Sl Dm fN tN xv 4).length.toInt32), .val (.ref bT), .val (.int (own_Tl Dm fN tN xv 4).length.toInt32), .val (.int pre.length.toInt32), .val (.long v13), .second, .val (.long v15), .second, .unset, s18, s19, s20] [(.ref aM)]))
        refine own_F.of (fun _ => XS.aload S7.here S7.hx rfl (S7.dec d6_208) rfl rfl) ?_
        refine own_F.of (fun _ => XS.iload S7.here S7.hx rfl (S7.dec d6_210) rfl) ?_
        show own_F p e below s Z _ _ _ _ _ (T7.setTop (mkF m 212 #[.val (.ref a1), .val (.int fN.toInt32), .val (.int tN.toInt32), .val (.long xv), .second, .val (.long (Dm tN fN)), .second, .val (.int 4), .val (.ref bS), .val (.int (own_Sl Dm fN tN xv 4).length.toInt32), .val (.ref bT), .val (.int (own_Tl Dm fN tN xv 4).length.toInt32), .val (.int pre.length.toInt32), .val (.long v13), .second, .val (.long v15), .second, .unset, s18, s19, s20] [(.int pre.length.toInt32), (.ref bS), (.ref aM)]))
        refine own_iald S7 AS (own_n4 (by omega)).2.1 (by rw [(own_n4 (by omega)).1]; exact own_pad_at hpre (by omega)) d6_212 ?_
        show own_F p e below s Z _ _ _ _ _ (T7.setTop (mkF m 213 #[.val (.ref a1), .val (.int fN.toInt32), .val (.int tN.toInt32), .val (.long xv), .second, .val (.long (Dm tN fN)), .second, .val (.int 4), .val (.ref bS), .val (.int (own_Sl Dm fN tN xv 4).length.toInt32), .val (.ref bT), .val (.int (own_Tl Dm fN tN xv 4).length.toInt32), .val (.int pre.length.toInt32), .val (.long v13), .second, .val (.long v15), .second, .unset, s18, s19, s20] [(.int i.toInt32), (.ref aM)]))
        refine own_aald S7 HJ.tab rfl (own_n4 (Nat.lt_trans hi (by decide))).2.1 (own_at4 hi) d6_213 ?_
        show own_F p e below s Z _ _ _ _ _ (T7.setTop (mkF m 214 #[.val (.ref a1), .val (.int fN.toInt32), .val (.int tN.toInt32), .val (.long xv), .second, .val (.long (Dm tN fN)), .second, .val (.int 4), .val (.ref bS), .val (.int (own_Sl Dm fN tN xv 4).length.toInt32), .val (.ref bT), .val (.int (own_Tl Dm fN tN xv 4).length.toInt32), .val (.int pre.length.toInt32), .val (.long v13), .second, .val (.long v15), .second, .unset, s18, s19, s20] [(.ref (Rw i))]))
        refine own_F.of (fun _ => XS.astore S7.here S7.hx rfl (S7.dec d6_214) rfl rfl (l' := #[.val (.ref a1), .val (.int fN.toInt32), .val (.int tN.toInt32), .val (.long xv), .second, .val (.long (Dm tN fN)), .second, .val (.int 4), .val (.ref bS), .val (.int (own_Sl Dm fN tN xv 4).length.toInt32), .val (.ref bT), .val (.int (own_Tl Dm fN tN xv 4).length.toInt32), .val (.int pre.length.toInt32), .val (.ref (Rw i)), .unset, .val (.long v15), .second, .unset, s18, s19, s20]) rfl) ?_
        refine own_F.of (fun _ => XS.aload S7.here S7.hx rfl (S7.dec d6_216) rfl rfl) ?_
        refine own_F.of (fun _ => XS.iloadN S7.here S7.hx rfl (S7.dec d6_218) rfl) ?_
        show own_F p e below s Z _ _ _ _ _ (T7.setTop (mkF m 219 #[.val (.ref a1), .val (.int fN.toInt32), .val (.int tN.toInt32), .val (.long xv), .second, .val (.long (Dm tN fN)), .second, .val (.int 4), .val (.ref bS), .val (.int (own_Sl Dm fN tN xv 4).length.toInt32), .val (.ref bT), .val (.int (own_Tl Dm fN tN xv 4).length.toInt32), .val (.int pre.length.toInt32), .val (.ref (Rw i)), .unset, .val (.long v15), .second, .unset, s18, s19, s20] [(.int fN.toInt32), (.ref (Rw i))]))
        refine own_lald S7 (HJ.rw hi) (own_n4 (Nat.lt_trans hf (by decide))).2.1 (by rw [(own_n4 (Nat.lt_trans hf (by decide))).1]; exact own_row_at hf) d6_219 ?_
        show own_F p e below s Z _ _ _ _ _ (T7.setTop (mkF m 220 #[.val (.ref a1), .val (.int fN.toInt32), .val (.int tN.toInt32), .val (.long xv), .second, .val (.long (Dm tN fN)), .second, .val (.int 4), .val (.ref bS), .val (.int (own_Sl Dm fN tN xv 4).length.toInt32), .val (.ref bT), .val (.int (own_Tl Dm fN tN xv 4).length.toInt32), .val (.int pre.length.toInt32), .val (.ref (Rw i)), .unset, .val (.long v15), .second, .unset, s18, s19, s20] [(.long (Dc i fN))]))
        refine own_F.of (fun _ => XS.lloadN S7.here S7.hx rfl (S7.dec d6_220) rfl) ?_
        show own_F p e below s Z _ _ _ _ _ (T7.setTop (mkF m 221 #[.val (.ref a1), .val (.int fN.toInt32), .val (.int tN.toInt32), .val (.long xv), .second, .val (.long (Dm tN fN)), .second, .val (.int 4), .val (.ref bS), .val (.int (own_Sl Dm fN tN xv 4).length.toInt32), .val (.ref bT), .val (.int (own_Tl Dm fN tN xv 4).length.toInt32), .val (.int pre.length.toInt32), .val (.ref (Rw i)), .unset, .val (.long v15), .second, .unset, s18, s19, s20] [(.long xv), (.long (Dc i fN))]))
        refine own_F.of (fun _ => XS.ladd S7.here S7.hx rfl (S7.dec d6_221) rfl) ?_
        show own_F p e below s Z _ _ _ _ _ (T7.setTop (mkF m 222 #[.val (.ref a1), .val (.int fN.toInt32), .val (.int tN.toInt32), .val (.long xv), .second, .val (.long (Dm tN fN)), .second, .val (.int 4), .val (.ref bS), .val (.int (own_Sl Dm fN tN xv 4).length.toInt32), .val (.ref bT), .val (.int (own_Tl Dm fN tN xv 4).length.toInt32), .val (.int pre.length.toInt32), .val (.ref (Rw i)), .unset, .val (.long v15), .second, .unset, s18, s19, s20] [(.long ((Dc i fN) + xv))]))
        refine own_F.of (fun _ => XS.lstore S7.here S7.hx rfl (S7.dec d6_222) rfl (l' := #[.val (.ref a1), .val (.int fN.toInt32), .val (.int tN.toInt32), .val (.long xv), .second, .val (.long (Dm tN fN)), .second, .val (.int 4), .val (.ref bS), .val (.int (own_Sl Dm fN tN xv 4).length.toInt32), .val (.ref bT), .val (.int (own_Tl Dm fN tN xv 4).length.toInt32), .val (.int pre.length.toInt32), .val (.ref (Rw i)), .val (.long ((Dc i fN) + xv)), .second, .unset, .unset, s18, s19, s20]) rfl) ?_
        refine own_F.of (fun _ => XS.aloadN S7.here S7.hx rfl (S7.dec d6_224) rfl rfl) ?_
        show own_F p e below s Z _ _ _ _ _ (T7.setTop (mkF m 225 #[.val (.ref a1), .val (.int fN.toInt32), .val (.int tN.toInt32), .val (.long xv), .second, .val (.long (Dm tN fN)), .second, .val (.int 4), .val (.ref bS), .val (.int (own_Sl Dm fN tN xv 4).length.toInt32), .val (.ref bT), .val (.int (own_Tl Dm fN tN xv 4).length.toInt32), .val (.int pre.length.toInt32), .val (.ref (Rw i)), .val (.long ((Dc i fN) + xv)), .second, .unset, .unset, s18, s19, s20] [(.ref a1)]))
        refine own_getF S7 (host := "") (Or.inl (own_w hw 13 rfl)) Via.refl HJ.fld d6_225 (fun T8 S8 => ?_)
        show own_F p e below s Z _ _ _ _ _ (T8.setTop (mkF m 228 #[.val (.ref a1), .val (.int fN.toInt32), .val (.int tN.toInt32), .val (.long xv), .second, .val (.long (Dm tN fN)), .second, .val (.int 4), .val (.ref bS), .val (.int (own_Sl Dm fN tN xv 4).length.toInt32), .val (.ref bT), .val (.int (own_Tl Dm fN tN xv 4).length.toInt32), .val (.int pre.length.toInt32), .val (.ref (Rw i)), .val (.long ((Dc i fN) + xv)), .second, .unset, .unset, s18, s19, s20] [(.ref aM)]))
        refine own_F.of (fun _ => XS.iloadN S8.here S8.hx rfl (S8.dec d6_228) rfl) ?_
        show own_F p e below s Z _ _ _ _ _ (T8.setTop (mkF m 229 #[.val (.ref a1), .val (.int fN.toInt32), .val (.int tN.toInt32), .val (.long xv), .second, .val (.long (Dm tN fN)), .second, .val (.int 4), .val (.ref bS), .val (.int (own_Sl Dm fN tN xv 4).length.toInt32), .val (.ref bT), .val (.int (own_Tl Dm fN tN xv 4).length.toInt32), .val (.int pre.length.toInt32), .val (.ref (Rw i)), .val (.long ((Dc i fN) + xv)), .second, .unset, .unset, s18, s19, s20] [(.int tN.toInt32), (.ref aM)]))
        refine own_aald S8 HJ.tab rfl (own_n4 (Nat.lt_trans ht (by decide))).2.1 (own_at4 ht) d6_229 ?_
        show own_F p e below s Z _ _ _ _ _ (T8.setTop (mkF m 230 #[.val (.ref a1), .val (.int fN.toInt32), .val (.int tN.toInt32), .val (.long xv), .second, .val (.long (Dm tN fN)), .second, .val (.int 4), .val (.ref bS), .val (.int (own_Sl Dm fN tN xv 4).length.toInt32), .val (.ref bT), .val (.int (own_Tl Dm fN tN xv 4).length.toInt32), .val (.int pre.length.toInt32), .val (.ref (Rw i)), .val (.long ((Dc i fN) + xv)), .second, .unset, .unset, s18, s19, s20] [(.ref (Rw tN))]))
        refine own_F.of (fun _ => XS.astore S8.here S8.hx rfl (S8.dec d6_230) rfl rfl (l' := #[.val (.ref a1), .val (.int fN.toInt32), .val (.int tN.toInt32), .val (.long xv), .second, .val (.long (Dm tN fN)), .second, .val (.int 4), .val (.ref bS), .val (.int (own_Sl Dm fN tN xv 4).length.toInt32), .val (.ref bT), .val (.int (own_Tl Dm fN tN xv 4).length.toInt32), .val (.int pre.length.toInt32), .val (.ref (Rw i)), .val (.long ((Dc i fN) + xv)), .second, .val (.ref (Rw tN)), .unset, s18, s19, s20]) rfl) ?_
        refine own_F.of (fun _ => XS.iconst S8.here S8.hx rfl (S8.dec d6_232)) ?_
        show own_F p e below s Z _ _ _ _ _ (T8.setTop (mkF m 233 #[.val (.ref a1), .val (.int fN.toInt32), .val (.int tN.toInt32), .val (.long xv), .second, .val (.long (Dm tN fN)), .second, .val (.int 4), .val (.ref bS), .val (.int (own_Sl Dm fN tN xv 4).length.toInt32), .val (.ref bT), .val (.int (own_Tl Dm fN tN xv 4).length.toInt32), .val (.int pre.length.toInt32), .val (.ref (Rw i)), .val (.long ((Dc i fN) + xv)), .second, .val (.ref (Rw tN)), .unset, s18, s19, s20] [(.int 0)]))
        refine own_F.of (fun _ => XS.istore S8.here S8.hx rfl (S8.dec d6_233) rfl (l' := #[.val (.ref a1), .val (.int fN.toInt32), .val (.int tN.toInt32), .val (.long xv), .second, .val (.long (Dm tN fN)), .second, .val (.int 4), .val (.ref bS), .val (.int (own_Sl Dm fN tN xv 4).length.toInt32), .val (.ref bT), .val (.int (own_Tl Dm fN tN xv 4).length.toInt32), .val (.int pre.length.toInt32), .val (.ref (Rw i)), .val (.long ((Dc i fN) + xv)), .second, .val (.ref (Rw tN)), .val (.int 0), s18, s19, s20]) rfl) ?_
        rw [show (0 : Int32) = ([] : List Nat).length.toInt32 from rfl]
        exact J235 (own_Tl Dm fN tN xv 4) [] Dc hJ T8 S8 HJ AS AT _ _ _ rfl rfl q18 q19
      · show own_F p e below s Z _ _ _ _ _ (TJ.setTop (mkF m 197 #[.val (.ref a1), .val (.int fN.toInt32), .val (.int tN.toInt32), .val (.long xv), .second, .val (.long (Dm tN fN)), .second, .val (.int 4), .val (.ref bS), .val (.int (own_Sl Dm fN tN xv 4).length.toInt32), .val (.ref bT), .val (.int (own_Tl Dm fN tN xv 4).length.toInt32), .val (.int pre.length.toInt32), .val (.ref r13), .val (.long v14), .second, .val (.ref r16), .val (.int i17), s18, s19, s20] []))
        refine own_F.of (fun _ => XS.iload SJ.here SJ.hx rfl (SJ.dec d6_197) rfl) ?_
        refine own_F.of (fun _ => XS.iload SJ.here SJ.hx rfl (SJ.dec d6_199) rfl) ?_
        show own_F p e below s Z _ _ _ _ _ (TJ.setTop (mkF m 201 #[.val (.ref a1), .val (.int fN.toInt32), .val (.int tN.toInt32), .val (.long xv), .second, .val (.long (Dm tN fN)), .second, .val (.int 4), .val (.ref bS), .val (.int (own_Sl Dm fN tN xv 4).length.toInt32), .val (.ref bT), .val (.int (own_Tl Dm fN tN xv 4).length.toInt32), .val (.int pre.length.toInt32), .val (.ref r13), .val (.long v14), .second, .val (.ref r16), .val (.int i17), s18, s19, s20] [(.int (own_Sl Dm fN tN xv 4).length.toInt32), (.int pre.length.toInt32)]))
        refine own_icmp SJ 289 d6_201 (by decide) (by decide) (fun (hc201_9 : ¬ (pre.length.toInt32 < (own_Sl Dm fN tN xv 4).length.toInt32)) => False.elim (hc201_9 ((own_lt (by omega) (by omega)).mpr (by omega)))) (fun (hc201_9 : pre.length.toInt32 < (own_Sl Dm fN tN xv 4).length.toInt32) => ?_)
        show own_F p e below s Z _ _ _ _ _ (TJ.setTop (mkF m 204 #[.val (.ref a1), .val (.int fN.toInt32), .val (.int tN.toInt32), .val (.long xv), .second, .val (.long (Dm tN fN)), .second, .val (.int 4), .val (.ref bS), .val (.int (own_Sl Dm fN tN xv 4).length.toInt32), .val (.ref bT), .val (.int (own_Tl Dm fN tN xv 4).length.toInt32), .val (.int pre.length.toInt32), .val (.ref r13), .val (.long v14), .second, .val (.ref r16), .val (.int i17), s18, s19, s20] []))
        refine own_F.of (fun _ => XS.aloadN SJ.here SJ.hx rfl (SJ.dec d6_204) rfl rfl) ?_
        show own_F p e below s Z _ _ _ _ _ (TJ.setTop (mkF m 205 #[.val (.ref a1), .val (.int fN.toInt32), .val (.int tN.toInt32), .val (.long xv), .second, .val (.long (Dm tN fN)), .second, .val (.int 4), .val (.ref bS), .val (.int (own_Sl Dm fN tN xv 4).length.toInt32), .val (.ref bT), .val (.int (own_Tl Dm fN tN xv 4).length.toInt32), .val (.int pre.length.toInt32), .val (.ref r13), .val (.long v14), .second, .val (.ref r16), .val (.int i17), s18, s19, s20] [(.ref a1)]))
        refine own_getF SJ (host := "") (Or.inl (own_w hw 13 rfl)) Via.refl HJ.fld d6_205 (fun T10 S10 => ?_)
        show own_F p e below s Z _ _ _ _ _ (T10.setTop (mkF m 208 #[.val (.ref a1), .val (.int fN.toInt32), .val (.int tN.toInt32), .val (.long xv), .second, .val (.long (Dm tN fN)), .second, .val (.int 4), .val (.ref bS), .val (.int (own_Sl Dm fN tN xv 4).length.toInt32), .val (.ref bT), .val (.int (own_Tl Dm fN tN xv 4).length.toInt32), .val (.int pre.length.toInt32), .val (.ref r13), .val (.long v14), .second, .val (.ref r16), .val (.int i17), s18, s19, s20] [(.ref aM)]))
        refine own_F.of (fun _ => XS.aload S10.here S10.hx rfl (S10.dec d6_208) rfl rfl) ?_
        refine own_F.of (fun _ => XS.iload S10.here S10.hx rfl (S10.dec d6_210) rfl) ?_
        show own_F p e below s Z _ _ _ _ _ (T10.setTop (mkF m 212 #[.val (.ref a1), .val (.int fN.toInt32), .val (.int tN.toInt32), .val (.long xv), .second, .val (.long (Dm tN fN)), .second, .val (.int 4), .val (.ref bS), .val (.int (own_Sl Dm fN tN xv 4).length.toInt32), .val (.ref bT), .val (.int (own_Tl Dm fN tN xv 4).length.toInt32), .val (.int pre.length.toInt32), .val (.ref r13), .val (.long v14), .second, .val (.ref r16), .val (.int i17), s18, s19, s20] [(.int pre.length.toInt32), (.ref bS), (.ref aM)]))
        refine own_iald S10 AS (own_n4 (by omega)).2.1 (by rw [(own_n4 (by omega)).1]; exact own_pad_at hpre (by omega)) d6_212 ?_
        show own_F p e below s Z _ _ _ _ _ (T10.setTop (mkF m 213 #[.val (.ref a1), .val (.int fN.toInt32), .val (.int tN.toInt32), .val (.long xv), .second, .val (.long (Dm tN fN)), .second, .val (.int 4), .val (.ref bS), .val (.int (own_Sl Dm fN tN xv 4).length.toInt32), .val (.ref bT), .val (.int (own_Tl Dm fN tN xv 4).length.toInt32), .val (.int pre.length.toInt32), .val (.ref r13), .val (.long v14), .second, .val (.ref r16), .val (.int i17), s18, s19, s20] [(.int i.toInt32), (.ref aM)]))
        refine own_aald S10 HJ.tab rfl (own_n4 (Nat.lt_trans hi (by decide))).2.1 (own_at4 hi) d6_213 ?_
        show own_F p e below s Z _ _ _ _ _ (T10.setTop (mkF m 214 #[.val (.ref a1), .val (.int fN.toInt32), .val (.int tN.toInt32), .val (.long xv), .second, .val (.long (Dm tN fN)), .second, .val (.int 4), .val (.ref bS), .val (.int (own_Sl Dm fN tN xv 4).length.toInt32), .val (.ref bT), .val (.int (own_Tl Dm fN tN xv 4).length.toInt32), .val (.int pre.length.toInt32), .val (.ref r13), .val (.long v14), .second, .val (.ref r16), .val (.int i17), s18, s19, s20] [(.ref (Rw i))]))
        refine own_F.of (fun _ => XS.astore S10.here S10.hx rfl (S10.dec d6_214) rfl rfl (l' := #[.val (.ref a1), .val (.int fN.toInt32), .val (.int tN.toInt32), .val (.long xv), .second, .val (.long (Dm tN fN)), .second, .val (.int 4), .val (.ref bS), .val (.int (own_Sl Dm fN tN xv 4).length.toInt32), .val (.ref bT), .val (.int (own_Tl Dm fN tN xv 4).length.toInt32), .val (.int pre.length.toInt32), .val (.ref (Rw i)), .val (.long v14), .second, .val (.ref r16), .val (.int i17), s18, s19, s20]) rfl) ?_
        refine own_F.of (fun _ => XS.aload S10.here S10.hx rfl (S10.dec d6_216) rfl rfl) ?_
        refine own_F.of (fun _ => XS.iloadN S10.here S10.hx rfl (S10.dec d6_218) rfl) ?_
        show own_F p e below s Z _ _ _ _ _ (T10.setTop (mkF m 219 #[.val (.ref a1), .val (.int fN.toInt32), .val (.int tN.toInt32), .val (.long xv), .second, .val (.long (Dm tN fN)), .second, .val (.int 4), .val (.ref bS), .val (.int (own_Sl Dm fN tN xv 4).length.toInt32), .val (.ref bT), .val (.int (own_Tl Dm fN tN xv 4).length.toInt32), .val (.int pre.length.toInt32), .val (.ref (Rw i)), .val (.long v14), .second, .val (.ref r16), .val (.int i17), s18, s19, s20] [(.int fN.toInt32), (.ref (Rw i))]))
        refine own_lald S10 (HJ.rw hi) (own_n4 (Nat.lt_trans hf (by decide))).2.1 (by rw [(own_n4 (Nat.lt_trans hf (by decide))).1]; exact own_row_at hf) d6_219 ?_
        show own_F p e below s Z _ _ _ _ _ (T10.setTop (mkF m 220 #[.val (.ref a1), .val (.int fN.toInt32), .val (.int tN.toInt32), .val (.long xv), .second, .val (.long (Dm tN fN)), .second, .val (.int 4), .val (.ref bS), .val (.int (own_Sl Dm fN tN xv 4).length.toInt32), .val (.ref bT), .val (.int (own_Tl Dm fN tN xv 4).length.toInt32), .val (.int pre.length.toInt32), .val (.ref (Rw i)), .val (.long v14), .second, .val (.ref r16), .val (.int i17), s18, s19, s20] [(.long (Dc i fN))]))
        refine own_F.of (fun _ => XS.lloadN S10.here S10.hx rfl (S10.dec d6_220) rfl) ?_
        show own_F p e below s Z _ _ _ _ _ (T10.setTop (mkF m 221 #[.val (.ref a1), .val (.int fN.toInt32), .val (.int tN.toInt32), .val (.long xv), .second, .val (.long (Dm tN fN)), .second, .val (.int 4), .val (.ref bS), .val (.int (own_Sl Dm fN tN xv 4).length.toInt32), .val (.ref bT), .val (.int (own_Tl Dm fN tN xv 4).length.toInt32), .val (.int pre.length.toInt32), .val (.ref (Rw i)), .val (.long v14), .second, .val (.ref r16), .val (.int i17), s18, s19, s20] [(.long xv), (.long (Dc i fN))]))
        refine own_F.of (fun _ => XS.ladd S10.here S10.hx rfl (S10.dec d6_221) rfl) ?_
        show own_F p e below s Z _ _ _ _ _ (T10.setTop (mkF m 222 #[.val (.ref a1), .val (.int fN.toInt32), .val (.int tN.toInt32), .val (.long xv), .second, .val (.long (Dm tN fN)), .second, .val (.int 4), .val (.ref bS), .val (.int (own_Sl Dm fN tN xv 4).length.toInt32), .val (.ref bT), .val (.int (own_Tl Dm fN tN xv 4).length.toInt32), .val (.int pre.length.toInt32), .val (.ref (Rw i)), .val (.long v14), .second, .val (.ref r16), .val (.int i17), s18, s19, s20] [(.long ((Dc i fN) + xv))]))
        refine own_F.of (fun _ => XS.lstore S10.here S10.hx rfl (S10.dec d6_222) rfl (l' := #[.val (.ref a1), .val (.int fN.toInt32), .val (.int tN.toInt32), .val (.long xv), .second, .val (.long (Dm tN fN)), .second, .val (.int 4), .val (.ref bS), .val (.int (own_Sl Dm fN tN xv 4).length.toInt32), .val (.ref bT), .val (.int (own_Tl Dm fN tN xv 4).length.toInt32), .val (.int pre.length.toInt32), .val (.ref (Rw i)), .val (.long ((Dc i fN) + xv)), .second, .val (.ref r16), .val (.int i17), s18, s19, s20]) rfl) ?_
        refine own_F.of (fun _ => XS.aloadN S10.here S10.hx rfl (S10.dec d6_224) rfl rfl) ?_
        show own_F p e below s Z _ _ _ _ _ (T10.setTop (mkF m 225 #[.val (.ref a1), .val (.int fN.toInt32), .val (.int tN.toInt32), .val (.long xv), .second, .val (.long (Dm tN fN)), .second, .val (.int 4), .val (.ref bS), .val (.int (own_Sl Dm fN tN xv 4).length.toInt32), .val (.ref bT), .val (.int (own_Tl Dm fN tN xv 4).length.toInt32), .val (.int pre.length.toInt32), .val (.ref (Rw i)), .val (.long ((Dc i fN) + xv)), .second, .val (.ref r16), .val (.int i17), s18, s19, s20] [(.ref a1)]))
        refine own_getF S10 (host := "") (Or.inl (own_w hw 13 rfl)) Via.refl HJ.fld d6_225 (fun T11 S11 => ?_)
        show own_F p e below s Z _ _ _ _ _ (T11.setTop (mkF m 228 #[.val (.ref a1), .val (.int fN.toInt32), .val (.int tN.toInt32), .val (.long xv), .second, .val (.long (Dm tN fN)), .second, .val (.int 4), .val (.ref bS), .val (.int (own_Sl Dm fN tN xv 4).length.toInt32), .val (.ref bT), .val (.int (own_Tl Dm fN tN xv 4).length.toInt32), .val (.int pre.length.toInt32), .val (.ref (Rw i)), .val (.long ((Dc i fN) + xv)), .second, .val (.ref r16), .val (.int i17), s18, s19, s20] [(.ref aM)]))
        refine own_F.of (fun _ => XS.iloadN S11.here S11.hx rfl (S11.dec d6_228) rfl) ?_
        show own_F p e below s Z _ _ _ _ _ (T11.setTop (mkF m 229 #[.val (.ref a1), .val (.int fN.toInt32), .val (.int tN.toInt32), .val (.long xv), .second, .val (.long (Dm tN fN)), .second, .val (.int 4), .val (.ref bS), .val (.int (own_Sl Dm fN tN xv 4).length.toInt32), .val (.ref bT), .val (.int (own_Tl Dm fN tN xv 4).length.toInt32), .val (.int pre.length.toInt32), .val (.ref (Rw i)), .val (.long ((Dc i fN) + xv)), .second, .val (.ref r16), .val (.int i17), s18, s19, s20] [(.int tN.toInt32), (.ref aM)]))
        refine own_aald S11 HJ.tab rfl (own_n4 (Nat.lt_trans ht (by decide))).2.1 (own_at4 ht) d6_229 ?_
        show own_F p e below s Z _ _ _ _ _ (T11.setTop (mkF m 230 #[.val (.ref a1), .val (.int fN.toInt32), .val (.int tN.toInt32), .val (.long xv), .second, .val (.long (Dm tN fN)), .second, .val (.int 4), .val (.ref bS), .val (.int (own_Sl Dm fN tN xv 4).length.toInt32), .val (.ref bT), .val (.int (own_Tl Dm fN tN xv 4).length.toInt32), .val (.int pre.length.toInt32), .val (.ref (Rw i)), .val (.long ((Dc i fN) + xv)), .second, .val (.ref r16), .val (.int i17), s18, s19, s20] [(.ref (Rw tN))]))
        refine own_F.of (fun _ => XS.astore S11.here S11.hx rfl (S11.dec d6_230) rfl rfl (l' := #[.val (.ref a1), .val (.int fN.toInt32), .val (.int tN.toInt32), .val (.long xv), .second, .val (.long (Dm tN fN)), .second, .val (.int 4), .val (.ref bS), .val (.int (own_Sl Dm fN tN xv 4).length.toInt32), .val (.ref bT), .val (.int (own_Tl Dm fN tN xv 4).length.toInt32), .val (.int pre.length.toInt32), .val (.ref (Rw i)), .val (.long ((Dc i fN) + xv)), .second, .val (.ref (Rw tN)), .val (.int i17), s18, s19, s20]) rfl) ?_
        refine own_F.of (fun _ => XS.iconst S11.here S11.hx rfl (S11.dec d6_232)) ?_
        show own_F p e below s Z _ _ _ _ _ (T11.setTop (mkF m 233 #[.val (.ref a1), .val (.int fN.toInt32), .val (.int tN.toInt32), .val (.long xv), .second, .val (.long (Dm tN fN)), .second, .val (.int 4), .val (.ref bS), .val (.int (own_Sl Dm fN tN xv 4).length.toInt32), .val (.ref bT), .val (.int (own_Tl Dm fN tN xv 4).length.toInt32), .val (.int pre.length.toInt32), .val (.ref (Rw i)), .val (.long ((Dc i fN) + xv)), .second, .val (.ref (Rw tN)), .val (.int i17), s18, s19, s20] [(.int 0)]))
        refine own_F.of (fun _ => XS.istore S11.here S11.hx rfl (S11.dec d6_233) rfl (l' := #[.val (.ref a1), .val (.int fN.toInt32), .val (.int tN.toInt32), .val (.long xv), .second, .val (.long (Dm tN fN)), .second, .val (.int 4), .val (.ref bS), .val (.int (own_Sl Dm fN tN xv 4).length.toInt32), .val (.ref bT), .val (.int (own_Tl Dm fN tN xv 4).length.toInt32), .val (.int pre.length.toInt32), .val (.ref (Rw i)), .val (.long ((Dc i fN) + xv)), .second, .val (.ref (Rw tN)), .val (.int 0), s18, s19, s20]) rfl) ?_
        rw [show (0 : Int32) = ([] : List Nat).length.toInt32 from rfl]
        exact J235 (own_Tl Dm fN tN xv 4) [] Dc hJ T11 S11 HJ AS AT _ _ _ rfl rfl q18 q19
  have J87 : ∀ (hlt : xv < Dm fN tN) (fu nN : Nat) (hJ : Heap) (TJ : State) (SJ : own_S Z h0 (own_news Z h0) (⟨"com/example/slackweave/slackweave/generate/TightestBounds", "add", "(IIJ)V"⟩ : MethodName).cls prog_7_method_3_code 21 none (⟨"com/example/slackweave/slackweave/generate/TightestBounds", "add", "(IIJ)V"⟩ : MethodName).name p l e ({ frames := 0, cells := 2, slots := 8, locals := 0 } : Room) s m #[.ref a1, .int fN.toInt32, .int tN.toInt32, .long xv] below meth c TJ hJ 2 8) (bS bT : Addr) (gS : Z.heap.size ≤ bS) (gT : Z.heap.size ≤ bT) (nST : bS ≠ bT) (HJ : own_M Z hJ a1 aM aW Rw Dm Wm) (AS : own_A Z hJ bS .int (own_pad (own_Sl Dm fN tN xv nN))) (AT : own_A Z hJ bT .int (own_pad (own_Tl Dm fN tN xv nN))) (s13 s14 s15 s16 : Slot), own_Q0 nN s13 s14 s15 s16 → 4 - nN ≤ fu → nN ≤ 4 → own_F p e below s Z h0 (own_news Z h0) ({ frames := 0, cells := 2, slots := 8, locals := 0 } : Room).cells ({ frames := 0, cells := 2, slots := 8, locals := 0 } : Room).slots (fun v h => v = none ∧ own_M Z h a1 aM aW Rw (own_add Dm fN tN xv) Wm) (TJ.setTop (mkF m 87 #[.val (.ref a1), .val (.int fN.toInt32), .val (.int tN.toInt32), .val (.long xv), .second, .val (.long (Dm tN fN)), .second, .val (.int (4 : Int32)), .val (.ref bS), .val (.int (own_Sl Dm fN tN xv nN).length.toInt32), .val (.ref bT), .val (.int (own_Tl Dm fN tN xv nN).length.toInt32), .val (.int nN.toInt32), s13, s14, s15, s16, .unset, .unset, .unset, .unset] [])) := by
    intro hlt fu
    induction fu with
    | zero =>
      intro nN hJ TJ SJ bS bT gS gT nST HJ AS AT s13 s14 s15 s16 hq hfu hn4
      obtain rfl : nN = 4 := by omega
      obtain ⟨v13, v15, rfl, rfl, rfl, rfl⟩ := hq.resolve_left (fun z => absurd z.1 (by decide))
      show own_F p e below s Z _ _ _ _ _ (TJ.setTop (mkF m 87 #[.val (.ref a1), .val (.int fN.toInt32), .val (.int tN.toInt32), .val (.long xv), .second, .val (.long (Dm tN fN)), .second, .val (.int 4), .val (.ref bS), .val (.int (own_Sl Dm fN tN xv 4).length.toInt32), .val (.ref bT), .val (.int (own_Tl Dm fN tN xv 4).length.toInt32), .val (.int 4), .val (.long v13), .second, .val (.long v15), .second, .unset, .unset, .unset, .unset] []))
      refine own_F.of (fun _ => XS.iload SJ.here SJ.hx rfl (SJ.dec d6_87) rfl) ?_
      refine own_F.of (fun _ => XS.iload SJ.here SJ.hx rfl (SJ.dec d6_89) rfl) ?_
      show own_F p e below s Z _ _ _ _ _ (TJ.setTop (mkF m 91 #[.val (.ref a1), .val (.int fN.toInt32), .val (.int tN.toInt32), .val (.long xv), .second, .val (.long (Dm tN fN)), .second, .val (.int 4), .val (.ref bS), .val (.int (own_Sl Dm fN tN xv 4).length.toInt32), .val (.ref bT), .val (.int (own_Tl Dm fN tN xv 4).length.toInt32), .val (.int 4), .val (.long v13), .second, .val (.long v15), .second, .unset, .unset, .unset, .unset] [(.int 4), (.int 4)]))
      refine own_icmp SJ 194 d6_91 (by decide) (by decide) (fun (hc91_12 : ¬ ((4 : Int32) < (4 : Int32))) => ?_) (fun (hc91_12 : (4 : Int32) < (4 : Int32)) => False.elim (absurd hc91_12 (by decide)))
      show own_F p e below s Z _ _ _ _ _ (TJ.setTop (mkF m 194 #[.val (.ref a1), .val (.int fN.toInt32), .val (.int tN.toInt32), .val (.long xv), .second, .val (.long (Dm tN fN)), .second, .val (.int 4), .val (.ref bS), .val (.int (own_Sl Dm fN tN xv 4).length.toInt32), .val (.ref bT), .val (.int (own_Tl Dm fN tN xv 4).length.toInt32), .val (.int 4), .val (.long v13), .second, .val (.long v15), .second, .unset, .unset, .unset, .unset] []))
      refine own_F.of (fun _ => XS.iconst SJ.here SJ.hx rfl (SJ.dec d6_194)) ?_
      show own_F p e below s Z _ _ _ _ _ (TJ.setTop (mkF m 195 #[.val (.ref a1), .val (.int fN.toInt32), .val (.int tN.toInt32), .val (.long xv), .second, .val (.long (Dm tN fN)), .second, .val (.int 4), .val (.ref bS), .val (.int (own_Sl Dm fN tN xv 4).length.toInt32), .val (.ref bT), .val (.int (own_Tl Dm fN tN xv 4).length.toInt32), .val (.int 4), .val (.long v13), .second, .val (.long v15), .second, .unset, .unset, .unset, .unset] [(.int 0)]))
      refine own_F.of (fun _ => XS.istore SJ.here SJ.hx rfl (SJ.dec d6_195) rfl (l' := #[.val (.ref a1), .val (.int fN.toInt32), .val (.int tN.toInt32), .val (.long xv), .second, .val (.long (Dm tN fN)), .second, .val (.int 4), .val (.ref bS), .val (.int (own_Sl Dm fN tN xv 4).length.toInt32), .val (.ref bT), .val (.int (own_Tl Dm fN tN xv 4).length.toInt32), .val (.int 0), .val (.long v13), .second, .val (.long v15), .second, .unset, .unset, .unset, .unset]) rfl) ?_
      rw [show (0 : Int32) = ([] : List Nat).length.toInt32 from rfl]
      exact J197 hlt (own_Sl Dm fN tN xv 4) [] Dm hJ TJ SJ bS bT HJ AS AT _ _ _ _ _ _ _ _ rfl (by unfold own_add; rw [if_pos hlt]) (Or.inl ⟨_, _, rfl, rfl, rfl, rfl, rfl⟩) (Or.inl rfl) (Or.inl ⟨rfl, rfl⟩)
    | succ fu ih =>
      intro nN hJ TJ SJ bS bT gS gT nST HJ AS AT s13 s14 s15 s16 hq hfu hn4
      rcases Nat.lt_or_ge nN 4 with hn | hn
      · have kS := own_Sl_len (D := Dm) (f := fN) (t := tN) (x := xv) (n := nN)
        have kT := own_Tl_len (D := Dm) (f := fN) (t := tN) (x := xv) (n := nN)
        have J188 : ∀ (hK : Heap) (TK : State) (SK : own_S Z h0 (own_news Z h0) (⟨"com/example/slackweave/slackweave/generate/TightestBounds", "add", "(IIJ)V"⟩ : MethodName).cls prog_7_method_3_code 21 none (⟨"com/example/slackweave/slackweave/generate/TightestBounds", "add", "(IIJ)V"⟩ : MethodName).name p l e ({ frames := 0, cells := 2, slots := 8, locals := 0 } : Room) s m #[.ref a1, .int fN.toInt32, .int tN.toInt32, .long xv] below meth c TK hK 2 8) (HK : own_M Z hK a1 aM aW Rw Dm Wm) (BS : own_A Z hK bS .int (own_pad (own_Sl Dm fN tN xv (nN + 1)))) (BT : own_A Z hK bT .int (own_pad (own_Tl Dm fN tN xv (nN + 1)))) (v13 v15 : Int64), own_F p e below s Z h0 (own_news Z h0) ({ frames := 0, cells := 2, slots := 8, locals := 0 } : Room).cells ({ frames := 0, cells := 2, slots := 8, locals := 0 } : Room).slots (fun v h => v = none ∧ own_M Z h a1 aM aW Rw (own_add Dm fN tN xv) Wm) (TK.setTop (mkF m 188 #[.val (.ref a1), .val (.int fN.toInt32), .val (.int tN.toInt32), .val (.long xv), .second, .val (.long (Dm tN fN)), .second, .val (.int (4 : Int32)), .val (.ref bS), .val (.int (own_Sl Dm fN tN xv (nN + 1)).length.toInt32), .val (.ref bT), .val (.int (own_Tl Dm fN tN xv (nN + 1)).length.toInt32), .val (.int nN.toInt32), .val (.long v13), .second, .val (.long v15), .second, .unset, .unset, .unset, .unset] [])) := by
          intro hK TK SK HK BS BT v13 v15
          show own_F p e below s Z _ _ _ _ _ (TK.setTop (mkF m 188 #[.val (.ref a1), .val (.int fN.toInt32), .val (.int tN.toInt32), .val (.long xv), .second, .val (.long (Dm tN fN)), .second, .val (.int 4), .val (.ref bS), .val (.int (own_Sl Dm fN tN xv (nN + 1)).length.toInt32), .val (.ref bT), .val (.int (own_Tl Dm fN tN xv (nN + 1)).length.toInt32), .val (.int nN.toInt32), .val (.long v13), .second, .val (.long v15), .second, .unset, .unset, .unset, .unset] []))
          refine own_F.of (fun _ => XS.iinc SK.here SK.hx rfl (SK.dec d6_188) rfl (l' := #[.val (.ref a1), .val (.int fN.toInt32), .val (.int tN.toInt32), .val (.long xv), .second, .val (.long (Dm tN fN)), .second, .val (.int 4), .val (.ref bS), .val (.int (own_Sl Dm fN tN xv (nN + 1)).length.toInt32), .val (.ref bT), .val (.int (own_Tl Dm fN tN xv (nN + 1)).length.toInt32), .val (.int (nN.toInt32 + (1 : Int32))), .val (.long v13), .second, .val (.long v15), .second, .unset, .unset, .unset, .unset]) rfl) ?_
          show own_F p e below s Z _ _ _ _ _ (TK.setTop (mkF m 191 #[.val (.ref a1), .val (.int fN.toInt32), .val (.int tN.toInt32), .val (.long xv), .second, .val (.long (Dm tN fN)), .second, .val (.int 4), .val (.ref bS), .val (.int (own_Sl Dm fN tN xv (nN + 1)).length.toInt32), .val (.ref bT), .val (.int (own_Tl Dm fN tN xv (nN + 1)).length.toInt32), .val (.int (nN.toInt32 + (1 : Int32))), .val (.long v13), .second, .val (.long v15), .second, .unset, .unset, .unset, .unset] []))
          refine own_F.of (fun _ => XS.goto SK.here SK.hx rfl (pc0 := 191) (pc' := 87) rfl (SK.dec d6_191) (by decide) (by decide)) ?_
          show own_F p e below s Z _ _ _ _ _ (TK.setTop (mkF m 87 #[.val (.ref a1), .val (.int fN.toInt32), .val (.int tN.toInt32), .val (.long xv), .second, .val (.long (Dm tN fN)), .second, .val (.int 4), .val (.ref bS), .val (.int (own_Sl Dm fN tN xv (nN + 1)).length.toInt32), .val (.ref bT), .val (.int (own_Tl Dm fN tN xv (nN + 1)).length.toInt32), .val (.int (nN.toInt32 + (1 : Int32))), .val (.long v13), .second, .val (.long v15), .second, .unset, .unset, .unset, .unset] []))
          rw [own_suc (n := nN) (by omega)]
          exact ih (nN + 1) hK TK SK bS bT gS gT nST HK BS BT _ _ _ _ (Or.inr ⟨_, _, rfl, rfl, rfl, rfl⟩) (by omega) (by omega)
        have J141 : ∀ (hK : Heap) (TK : State) (SK : own_S Z h0 (own_news Z h0) (⟨"com/example/slackweave/slackweave/generate/TightestBounds", "add", "(IIJ)V"⟩ : MethodName).cls prog_7_method_3_code 21 none (⟨"com/example/slackweave/slackweave/generate/TightestBounds", "add", "(IIJ)V"⟩ : MethodName).name p l e ({ frames := 0, cells := 2, slots := 8, locals := 0 } : Room) s m #[.ref a1, .int fN.toInt32, .int tN.toInt32, .long xv] below meth c TK hK 2 8) (HK : own_M Z hK a1 aM aW Rw Dm Wm) (BS : own_A Z hK bS .int (own_pad (own_Sl Dm fN tN xv (nN + 1)))) (BT : own_A Z hK bT .int (own_pad (own_Tl Dm fN tN xv nN))) (v13 : Int64) (s15 s16 : Slot), own_L2 s15 s16 → own_F p e below s Z h0 (own_news Z h0) ({ frames := 0, cells := 2, slots := 8, locals := 0 } : Room).cells ({ frames := 0, cells := 2, slots := 8, locals := 0 } : Room).slots (fun v h => v = none ∧ own_M Z h a1 aM aW Rw (own_add Dm fN tN xv) Wm) (TK.setTop (mkF m 141 #[.val (.ref a1), .val (.int fN.toInt32), .val (.int tN.toInt32), .val (.long xv), .second, .val (.long (Dm tN fN)), .second, .val (.int (4 : Int32)), .val (.ref bS), .val (.int (own_Sl Dm fN tN xv (nN + 1)).length.toInt32), .val (.ref bT), .val (.int (own_Tl Dm fN tN xv nN).length.toInt32), .val (.int nN.toInt32), .val (.long v13), .second, s15, s16, .unset, .unset, .unset, .unset] [])) := by
          intro hK TK SK HK BS BT v13 s15 s16 q15
          show own_F p e below s Z _ _ _ _ _ (TK.setTop (mkF m 141 #[.val (.ref a1), .val (.int fN.toInt32), .val (.int tN.toInt32), .val (.long xv), .second, .val (.long (Dm tN fN)), .second, .val (.int 4), .val (.ref bS), .val (.int (own_Sl Dm fN tN xv (nN + 1)).length.toInt32), .val (.ref bT), .val (.int (own_Tl Dm fN tN xv nN).length.toInt32), .val (.int nN.toInt32), .val (.long v13), .second, s15, s16, .unset, .unset, .unset, .unset] []))
          refine own_F.of (fun _ => XS.aloadN SK.here SK.hx rfl (SK.dec d6_141) rfl rfl) ?_
          show own_F p e below s Z _ _ _ _ _ (TK.setTop (mkF m 142 #[.val (.ref a1), .val (.int fN.toInt32), .val (.int tN.toInt32), .val (.long xv), .second, .val (.long (Dm tN fN)), .second, .val (.int 4), .val (.ref bS), .val (.int (own_Sl Dm fN tN xv (nN + 1)).length.toInt32), .val (.ref bT), .val (.int (own_Tl Dm fN tN xv nN).length.toInt32), .val (.int nN.toInt32), .val (.long v13), .second, s15, s16, .unset, .unset, .unset, .unset] [(.ref a1)]))
          refine own_getF SK (host := "") (Or.inl (own_w hw 13 rfl)) Via.refl HK.fld d6_142 (fun T13 S13 => ?_)
          show own_F p e below s Z _ _ _ _ _ (T13.setTop (mkF m 145 #[.val (.ref a1), .val (.int fN.toInt32), .val (.int tN.toInt32), .val (.long xv), .second, .val (.long (Dm tN fN)), .second, .val (.int 4), .val (.ref bS), .val (.int (own_Sl Dm fN tN xv (nN + 1)).length.toInt32), .val (.ref bT), .val (.int (own_Tl Dm fN tN xv nN).length.toInt32), .val (.int nN.toInt32), .val (.long v13), .second, s15, s16, .unset, .unset, .unset, .unset] [(.ref aM)]))
          refine own_F.of (fun _ => XS.iloadN S13.here S13.hx rfl (S13.dec d6_145) rfl) ?_
          show own_F p e below s Z _ _ _ _ _ (T13.setTop (mkF m 146 #[.val (.ref a1), .val (.int fN.toInt32), .val (.int tN.toInt32), .val (.long xv), .second, .val (.long (Dm tN fN)), .second, .val (.int 4), .val (.ref bS), .val (.int (own_Sl Dm fN tN xv (nN + 1)).length.toInt32), .val (.ref bT), .val (.int (own_Tl Dm fN tN xv nN).length.toInt32), .val (.int nN.toInt32), .val (.long v13), .second, s15, s16, .unset, .unset, .unset, .unset] [(.int tN.toInt32), (.ref aM)]))
          refine own_aald S13 HK.tab rfl (own_n4 (Nat.lt_trans ht (by decide))).2.1 (own_at4 ht) d6_146 ?_
          show own_F p e below s Z _ _ _ _ _ (T13.setTop (mkF m 147 #[.val (.ref a1), .val (.int fN.toInt32), .val (.int tN.toInt32), .val (.long xv), .second, .val (.long (Dm tN fN)), .second, .val (.int 4), .val (.ref bS), .val (.int (own_Sl Dm fN tN xv (nN + 1)).length.toInt32), .val (.ref bT), .val (.int (own_Tl Dm fN tN xv nN).length.toInt32), .val (.int nN.toInt32), .val (.long v13), .second, s15, s16, .unset, .unset, .unset, .unset] [(.ref (Rw tN))]))
          refine own_F.of (fun _ => XS.iload S13.here S13.hx rfl (S13.dec d6_147) rfl) ?_
          show own_F p e below s Z _ _ _ _ _ (T13.setTop (mkF m 149 #[.val (.ref a1), .val (.int fN.toInt32), .val (.int tN.toInt32), .val (.long xv), .second, .val (.long (Dm tN fN)), .second, .val (.int 4), .val (.ref bS), .val (.int (own_Sl Dm fN tN xv (nN + 1)).length.toInt32), .val (.ref bT), .val (.int (own_Tl Dm fN tN xv nN).length.toInt32), .val (.int nN.toInt32), .val (.long v13), .second, s15, s16, .unset, .unset, .unset, .unset] [(.int nN.toInt32), (.ref (Rw tN))]))
          refine own_lald S13 (HK.rw ht) (own_n4 (Nat.lt_trans hn (by decide))).2.1 (by rw [(own_n4 (Nat.lt_trans hn (by decide))).1]; exact own_row_at hn) d6_149 ?_
          show own_F p e below s Z _ _ _ _ _ (T13.setTop (mkF m 150 #[.val (.ref a1), .val (.int fN.toInt32), .val (.int tN.toInt32), .val (.long xv), .second, .val (.long (Dm tN fN)), .second, .val (.int 4), .val (.ref bS), .val (.int (own_Sl Dm fN tN xv (nN + 1)).length.toInt32), .val (.ref bT), .val (.int (own_Tl Dm fN tN xv nN).length.toInt32), .val (.int nN.toInt32), .val (.long v13), .second, s15, s16, .unset, .unset, .unset, .unset] [(.long (Dm tN nN))]))
          refine own_F.of (fun _ => XS.lstore S13.here S13.hx rfl (S13.dec d6_150) rfl (l' := #[.val (.ref a1), .val (.int fN.toInt32), .val (.int tN.toInt32), .val (.long xv), .second, .val (.long (Dm tN fN)), .second, .val (.int 4), .val (.ref bS), .val (.int (own_Sl Dm fN tN xv (nN + 1)).length.toInt32), .val (.ref bT), .val (.int (own_Tl Dm fN tN xv nN).length.toInt32), .val (.int nN.toInt32), .val (.long v13), .second, .val (.long (Dm tN nN)), .second, .unset, .unset, .unset, .unset]) (by rcases q15 with ⟨rfl, rfl⟩ | ⟨_, rfl, rfl⟩ <;> rfl)) ?_
          refine own_F.of (fun _ => XS.lload S13.here S13.hx rfl (S13.dec d6_152) rfl) ?_
          show own_F p e below s Z _ _ _ _ _ (T13.setTop (mkF m 154 #[.val (.ref a1), .val (.int fN.toInt32), .val (.int tN.toInt32), .val (.long xv), .second, .val (.long (Dm tN fN)), .second, .val (.int 4), .val (.ref bS), .val (.int (own_Sl Dm fN tN xv (nN + 1)).length.toInt32), .val (.ref bT), .val (.int (own_Tl Dm fN tN xv nN).length.toInt32), .val (.int nN.toInt32), .val (.long v13), .second, .val (.long (Dm tN nN)), .second, .unset, .unset, .unset, .unset] [(.long (Dm tN nN))]))
          refine own_ldcJ S13 (own_w hw 15 rfl) d6_154 ?_
          show own_F p e below s Z _ _ _ _ _ (T13.setTop (mkF m 157 #[.val (.ref a1), .val (.int fN.toInt32), .val (.int tN.toInt32), .val (.long xv), .second, .val (.long (Dm tN fN)), .second, .val (.int 4), .val (.ref bS), .val (.int (own_Sl Dm fN tN xv (nN + 1)).length.toInt32), .val (.ref bT), .val (.int (own_Tl Dm fN tN xv nN).length.toInt32), .val (.int nN.toInt32), .val (.long v13), .second, .val (.long (Dm tN nN)), .second, .unset, .unset, .unset, .unset] [(.long (9223372036854775807 : Int64)), (.long (Dm tN nN))]))
          refine own_F.of (fun _ => XS.lcmp S13.here S13.hx rfl (S13.dec d6_157) rfl) ?_
          show own_F p e below s Z _ _ _ _ _ (T13.setTop (mkF m 158 #[.val (.ref a1), .val (.int fN.toInt32), .val (.int tN.toInt32), .val (.long xv), .second, .val (.long (Dm tN fN)), .second, .val (.int 4), .val (.ref bS), .val (.int (own_Sl Dm fN tN xv (nN + 1)).length.toInt32), .val (.ref bT), .val (.int (own_Tl Dm fN tN xv nN).length.toInt32), .val (.int nN.toInt32), .val (.long v13), .second, .val (.long (Dm tN nN)), .second, .unset, .unset, .unset, .unset] [(.int (lcmpW (Dm tN nN) (9223372036854775807 : Int64)))]))
          refine own_if S13 188 d6_158 (by decide) (by decide) (fun (hc158_14 : (lcmpW (Dm tN nN) (9223372036854775807 : Int64)) = (0 : Int32)) => ?_) (fun (hc158_14 : ¬ ((lcmpW (Dm tN nN) (9223372036854775807 : Int64)) = (0 : Int32))) => ?_)
          · show own_F p e below s Z _ _ _ _ _ (T13.setTop (mkF m 188 #[.val (.ref a1), .val (.int fN.toInt32), .val (.int tN.toInt32), .val (.long xv), .second, .val (.long (Dm tN fN)), .second, .val (.int 4), .val (.ref bS), .val (.int (own_Sl Dm fN tN xv (nN + 1)).length.toInt32), .val (.ref bT), .val (.int (own_Tl Dm fN tN xv nN).length.toInt32), .val (.int nN.toInt32), .val (.long v13), .second, .val (.long (Dm tN nN)), .second, .unset, .unset, .unset, .unset] []))
            have eqT := own_Tl_no (D := Dm) (f := fN) (t := tN) (n := nN) (x := xv) (Or.inl ((lw_eq _ _).mp hc158_14))
            rw [← eqT]
            have BT' := BT
            rw [← eqT] at BT'
            exact J188 hK T13 S13 HK BS BT' _ _
          · show own_F p e below s Z _ _ _ _ _ (T13.setTop (mkF m 161 #[.val (.ref a1), .val (.int fN.toInt32), .val (.int tN.toInt32), .val (.long xv), .second, .val (.long (Dm tN fN)), .second, .val (.int 4), .val (.ref bS), .val (.int (own_Sl Dm fN tN xv (nN + 1)).length.toInt32), .val (.ref bT), .val (.int (own_Tl Dm fN tN xv nN).length.toInt32), .val (.int nN.toInt32), .val (.long v13), .second, .val (.long (Dm tN nN)), .second, .unset, .unset, .unset, .unset] []))
            refine own_F.of (fun _ => XS.lloadN S13.here S13.hx rfl (S13.dec d6_161) rfl) ?_
            refine own_F.of (fun _ => XS.lload S13.here S13.hx rfl (S13.dec d6_162) rfl) ?_
            show own_F p e below s Z _ _ _ _ _ (T13.setTop (mkF m 164 #[.val (.ref a1), .val (.int fN.toInt32), .val (.int tN.toInt32), .val (.long xv), .second, .val (.long (Dm tN fN)), .second, .val (.int 4), .val (.ref bS), .val (.int (own_Sl Dm fN tN xv (nN + 1)).length.toInt32), .val (.ref bT), .val (.int (own_Tl Dm fN tN xv nN).length.toInt32), .val (.int nN.toInt32), .val (.long v13), .second, .val (.long (Dm tN nN)), .second, .unset, .unset, .unset, .unset] [(.long (Dm tN nN)), (.long xv)]))
            refine own_F.of (fun _ => XS.ladd S13.here S13.hx rfl (S13.dec d6_164) rfl) ?_
            show own_F p e below s Z _ _ _ _ _ (T13.setTop (mkF m 165 #[.val (.ref a1), .val (.int fN.toInt32), .val (.int tN.toInt32), .val (.long xv), .second, .val (.long (Dm tN fN)), .second, .val (.int 4), .val (.ref bS), .val (.int (own_Sl Dm fN tN xv (nN + 1)).length.toInt32), .val (.ref bT), .val (.int (own_Tl Dm fN tN xv nN).length.toInt32), .val (.int nN.toInt32), .val (.long v13), .second, .val (.long (Dm tN nN)), .second, .unset, .unset, .unset, .unset] [(.long (xv + (Dm tN nN)))]))
            refine own_F.of (fun _ => XS.aloadN S13.here S13.hx rfl (S13.dec d6_165) rfl rfl) ?_
            show own_F p e below s Z _ _ _ _ _ (T13.setTop (mkF m 166 #[.val (.ref a1), .val (.int fN.toInt32), .val (.int tN.toInt32), .val (.long xv), .second, .val (.long (Dm tN fN)), .second, .val (.int 4), .val (.ref bS), .val (.int (own_Sl Dm fN tN xv (nN + 1)).length.toInt32), .val (.ref bT), .val (.int (own_Tl Dm fN tN xv nN).length.toInt32), .val (.int nN.toInt32), .val (.long v13), .second, .val (.long (Dm tN nN)), .second, .unset, .unset, .unset, .unset] [(.ref a1), (.long (xv + (Dm tN nN)))]))
            refine own_getF S13 (host := "") (Or.inl (own_w hw 13 rfl)) Via.refl HK.fld d6_166 (fun T15 S15 => ?_)
            show own_F p e below s Z _ _ _ _ _ (T15.setTop (mkF m 169 #[.val (.ref a1), .val (.int fN.toInt32), .val (.int tN.toInt32), .val (.long xv), .second, .val (.long (Dm tN fN)), .second, .val (.int 4), .val (.ref bS), .val (.int (own_Sl Dm fN tN xv (nN + 1)).length.toInt32), .val (.ref bT), .val (.int (own_Tl Dm fN tN xv nN).length.toInt32), .val (.int nN.toInt32), .val (.long v13), .second, .val (.long (Dm tN nN)), .second, .unset, .unset, .unset, .unset] [(.ref aM), (.long (xv + (Dm tN nN)))]))
            refine own_F.of (fun _ => XS.iloadN S15.here S15.hx rfl (S15.dec d6_169) rfl) ?_
            show own_F p e below s Z _ _ _ _ _ (T15.setTop (mkF m 170 #[.val (.ref a1), .val (.int fN.toInt32), .val (.int tN.toInt32), .val (.long xv), .second, .val (.long (Dm tN fN)), .second, .val (.int 4), .val (.ref bS), .val (.int (own_Sl Dm fN tN xv (nN + 1)).length.toInt32), .val (.ref bT), .val (.int (own_Tl Dm fN tN xv nN).length.toInt32), .val (.int nN.toInt32), .val (.long v13), .second, .val (.long (Dm tN nN)), .second, .unset, .unset, .unset, .unset] [(.int fN.toInt32), (.ref aM), (.long (xv + (Dm tN nN)))]))
            refine own_aald S15 HK.tab rfl (own_n4 (Nat.lt_trans hf (by decide))).2.1 (own_at4 hf) d6_170 ?_
            show own_F p e below s Z _ _ _ _ _ (T15.setTop (mkF m 171 #[.val (.ref a1), .val (.int fN.toInt32), .val (.int tN.toInt32), .val (.long xv), .second, .val (.long (Dm tN fN)), .second, .val (.int 4), .val (.ref bS), .val (.int (own_Sl Dm fN tN xv (nN + 1)).length.toInt32), .val (.ref bT), .val (.int (own_Tl Dm fN tN xv nN).length.toInt32), .val (.int nN.toInt32), .val (.long v13), .second, .val (.long (Dm tN nN)), .second, .unset, .unset, .unset, .unset] [(.ref (Rw fN)), (.long (xv + (Dm tN nN)))]))
            refine own_F.of (fun _ => XS.iload S15.here S15.hx rfl (S15.dec d6_171) rfl) ?_
            show own_F p e below s Z _ _ _ _ _ (T15.setTop (mkF m 173 #[.val (.ref a1), .val (.int fN.toInt32), .val (.int tN.toInt32), .val (.long xv), .second, .val (.long (Dm tN fN)), .second, .val (.int 4), .val (.ref bS), .val (.int (own_Sl Dm fN tN xv (nN + 1)).length.toInt32), .val (.ref bT), .val (.int (own_Tl Dm fN tN xv nN).length.toInt32), .val (.int nN.toInt32), .val (.long v13), .second, .val (.long (Dm tN nN)), .second, .unset, .unset, .unset, .unset] [(.int nN.toInt32), (.ref (Rw fN)), (.long (xv + (Dm tN nN)))]))
            refine own_lald S15 (HK.rw hf) (own_n4 (Nat.lt_trans hn (by decide))).2.1 (by rw [(own_n4 (Nat.lt_trans hn (by decide))).1]; exact own_row_at hn) d6_173 ?_
            show own_F p e below s Z _ _ _ _ _ (T15.setTop (mkF m 174 #[.val (.ref a1), .val (.int fN.toInt32), .val (.int tN.toInt32), .val (.long xv), .second, .val (.long (Dm tN fN)), .second, .val (.int 4), .val (.ref bS), .val (.int (own_Sl Dm fN tN xv (nN + 1)).length.toInt32), .val (.ref bT), .val (.int (own_Tl Dm fN tN xv nN).length.toInt32), .val (.int nN.toInt32), .val (.long v13), .second, .val (.long (Dm tN nN)), .second, .unset, .unset, .unset, .unset] [(.long (Dm fN nN)), (.long (xv + (Dm tN nN)))]))
            refine own_F.of (fun _ => XS.lcmp S15.here S15.hx rfl (S15.dec d6_174) rfl) ?_
            show own_F p e below s Z _ _ _ _ _ (T15.setTop (mkF m 175 #[.val (.ref a1), .val (.int fN.toInt32), .val (.int tN.toInt32), .val (.long xv), .second, .val (.long (Dm tN fN)), .second, .val (.int 4), .val (.ref bS), .val (.int (own_Sl Dm fN tN xv (nN + 1)).length.toInt32), .val (.ref bT), .val (.int (own_Tl Dm fN tN xv nN).length.toInt32), .val (.int nN.toInt32), .val (.long v13), .second, .val (.long (Dm tN nN)), .second, .unset, .unset, .unset, .unset] [(.int (lcmpW (xv + (Dm tN nN)) (Dm fN nN)))]))
            refine own_if S15 188 d6_175 (by decide) (by decide) (fun (hc175_16 : ¬ ((lcmpW (xv + (Dm tN nN)) (Dm fN nN)) < (0 : Int32))) => ?_) (fun (hc175_16 : (lcmpW (xv + (Dm tN nN)) (Dm fN nN)) < (0 : Int32)) => ?_)
            · show own_F p e below s Z _ _ _ _ _ (T15.setTop (mkF m 188 #[.val (.ref a1), .val (.int fN.toInt32), .val (.int tN.toInt32), .val (.long xv), .second, .val (.long (Dm tN fN)), .second, .val (.int 4), .val (.ref bS), .val (.int (own_Sl Dm fN tN xv (nN + 1)).length.toInt32), .val (.ref bT), .val (.int (own_Tl Dm fN tN xv nN).length.toInt32), .val (.int nN.toInt32), .val (.long v13), .second, .val (.long (Dm tN nN)), .second, .unset, .unset, .unset, .unset] []))
              have eqT := own_Tl_no (D := Dm) (f := fN) (t := tN) (n := nN) (x := xv) (Or.inr (fun z => hc175_16 ((lw_lt _ _).mpr z)))
              rw [← eqT]
              have BT' := BT
              rw [← eqT] at BT'
              exact J188 hK T15 S15 HK BS BT' _ _
            · show own_F p e below s Z _ _ _ _ _ (T15.setTop (mkF m 178 #[.val (.ref a1), .val (.int fN.toInt32), .val (.int tN.toInt32), .val (.long xv), .second, .val (.long (Dm tN fN)), .second, .val (.int 4), .val (.ref bS), .val (.int (own_Sl Dm fN tN xv (nN + 1)).length.toInt32), .val (.ref bT), .val (.int (own_Tl Dm fN tN xv nN).length.toInt32), .val (.int nN.toInt32), .val (.long v13), .second, .val (.long (Dm tN nN)), .second, .unset, .unset, .unset, .unset] []))
              refine own_F.of (fun _ => XS.aload S15.here S15.hx rfl (S15.dec d6_178) rfl rfl) ?_
              refine own_F.of (fun _ => XS.iload S15.here S15.hx rfl (S15.dec d6_180) rfl) ?_
              show own_F p e below s Z _ _ _ _ _ (T15.setTop (mkF m 182 #[.val (.ref a1), .val (.int fN.toInt32), .val (.int tN.toInt32), .val (.long xv), .second, .val (.long (Dm tN fN)), .second, .val (.int 4), .val (.ref bS), .val (.int (own_Sl Dm fN tN xv (nN + 1)).length.toInt32), .val (.ref bT), .val (.int (own_Tl Dm fN tN xv nN).length.toInt32), .val (.int nN.toInt32), .val (.long v13), .second, .val (.long (Dm tN nN)), .second, .unset, .unset, .unset, .unset] [(.int (own_Tl Dm fN tN xv nN).length.toInt32), (.ref bT)]))
              refine own_F.of (fun _ => XS.iinc S15.here S15.hx rfl (S15.dec d6_182) rfl (l' := #[.val (.ref a1), .val (.int fN.toInt32), .val (.int tN.toInt32), .val (.long xv), .second, .val (.long (Dm tN fN)), .second, .val (.int 4), .val (.ref bS), .val (.int (own_Sl Dm fN tN xv (nN + 1)).length.toInt32), .val (.ref bT), .val (.int ((own_Tl Dm fN tN xv nN).length.toInt32 + (1 : Int32))), .val (.int nN.toInt32), .val (.long v13), .second, .val (.long (Dm tN nN)), .second, .unset, .unset, .unset, .unset]) rfl) ?_
              show own_F p e below s Z _ _ _ _ _ (T15.setTop (mkF m 185 #[.val (.ref a1), .val (.int fN.toInt32), .val (.int tN.toInt32), .val (.long xv), .second, .val (.long (Dm tN fN)), .second, .val (.int 4), .val (.ref bS), .val (.int (own_Sl Dm fN tN xv (nN + 1)).length.toInt32), .val (.ref bT), .val (.int ((own_Tl Dm fN tN xv nN).length.toInt32 + (1 : Int32))), .val (.int nN.toInt32), .val (.long v13), .second, .val (.long (Dm tN nN)), .second, .unset, .unset, .unset, .unset] [(.int (own_Tl Dm fN tN xv nN).length.toInt32), (.ref bT)]))
              refine own_F.of (fun _ => XS.iload S15.here S15.hx rfl (S15.dec d6_185) rfl) ?_
              show own_F p e below s Z _ _ _ _ _ (T15.setTop (mkF m 187 #[.val (.ref a1), .val (.int fN.toInt32), .val (.int tN.toInt32), .val (.long xv), .second, .val (.long (Dm tN fN)), .second, .val (.int 4), .val (.ref bS), .val (.int (own_Sl Dm fN tN xv (nN + 1)).length.toInt32), .val (.ref bT), .val (.int ((own_Tl Dm fN tN xv nN).length.toInt32 + (1 : Int32))), .val (.int nN.toInt32), .val (.long v13), .second, .val (.long (Dm tN nN)), .second, .unset, .unset, .unset, .unset] [(.int nN.toInt32), (.int (own_Tl Dm fN tN xv nN).length.toInt32), (.ref bT)]))
              refine own_ist S15 BT (own_n4 (by omega)).2.1 (by rw [(own_n4 (by omega)).1, own_pad_len]; omega) d6_187 (own_news_may gT) (fun T17 h17 S17 W17 A17 => ?_)
              have eqT := own_Tl_yes (D := Dm) (f := fN) (t := tN) (n := nN) (x := xv) (fun z => hc158_14 ((lw_eq _ _).mpr z)) ((lw_lt _ _).mp hc175_16)
              rw [(own_n4 (by omega)).1, own_pad_snoc (by omega), ← eqT] at A17
              have H17 := HK.oth (own_w hw 3 rfl) BT W17
              have O17 := BS.other W17 nST
              rw [own_suc (by omega), show (own_Tl Dm fN tN xv nN).length + 1 = (own_Tl Dm fN tN xv (nN + 1)).length by rw [eqT, List.length_append]; rfl]
              show own_F p e below s Z _ _ _ _ _ (T17.setTop (mkF m 188 #[.val (.ref a1), .val (.int fN.toInt32), .val (.int tN.toInt32), .val (.long xv), .second, .val (.long (Dm tN fN)), .second, .val (.int 4), .val (.ref bS), .val (.int (own_Sl Dm fN tN xv (nN + 1)).length.toInt32), .val (.ref bT), .val (.int (own_Tl Dm fN tN xv (nN + 1)).length.toInt32), .val (.int nN.toInt32), .val (.long v13), .second, .val (.long (Dm tN nN)), .second, .unset, .unset, .unset, .unset] []))
              exact J188 h17 T17 S17 H17 O17 A17 _ _
        show own_F p e below s Z _ _ _ _ _ (TJ.setTop (mkF m 87 #[.val (.ref a1), .val (.int fN.toInt32), .val (.int tN.toInt32), .val (.long xv), .second, .val (.long (Dm tN fN)), .second, .val (.int 4), .val (.ref bS), .val (.int (own_Sl Dm fN tN xv nN).length.toInt32), .val (.ref bT), .val (.int (own_Tl Dm fN tN xv nN).length.toInt32), .val (.int nN.toInt32), s13, s14, s15, s16, .unset, .unset, .unset, .unset] []))
        refine own_F.of (fun _ => XS.iload SJ.here SJ.hx rfl (SJ.dec d6_87) rfl) ?_
        refine own_F.of (fun _ => XS.iload SJ.here SJ.hx rfl (SJ.dec d6_89) rfl) ?_
        show own_F p e below s Z _ _ _ _ _ (TJ.setTop (mkF m 91 #[.val (.ref a1), .val (.int fN.toInt32), .val (.int tN.toInt32), .val (.long xv), .second, .val (.long (Dm tN fN)), .second, .val (.int 4), .val (.ref bS), .val (.int (own_Sl Dm fN tN xv nN).length.toInt32), .val (.ref bT), .val (.int (own_Tl Dm fN tN xv nN).length.toInt32), .val (.int nN.toInt32), s13, s14, s15, s16, .unset, .unset, .unset, .unset] [(.int 4), (.int nN.toInt32)]))
        refine own_icmp SJ 194 d6_91 (by decide) (by decide) (fun (hc91_18 : ¬ (nN.toInt32 < (4 : Int32))) => False.elim (hc91_18 (by rw [show (4 : Int32) = (4 : Nat).toInt32 from rfl]; exact (own_lt (by omega) (by decide)).mpr hn))) (fun (hc91_18 : nN.toInt32 < (4 : Int32)) => ?_)
        show own_F p e below s Z _ _ _ _ _ (TJ.setTop (mkF m 94 #[.val (.ref a1), .val (.int fN.toInt32), .val (.int tN.toInt32), .val (.long xv), .second, .val (.long (Dm tN fN)), .second, .val (.int 4), .val (.ref bS), .val (.int (own_Sl Dm fN tN xv nN).length.toInt32), .val (.ref bT), .val (.int (own_Tl Dm fN tN xv nN).length.toInt32), .val (.int nN.toInt32), s13, s14, s15, s16, .unset, .unset, .unset, .unset] []))
        refine own_F.of (fun _ => XS.aloadN SJ.here SJ.hx rfl (SJ.dec d6_94) rfl rfl) ?_
        show own_F p e below s Z _ _ _ _ _ (TJ.setTop (mkF m 95 #[.val (.ref a1), .val (.int fN.toInt32), .val (.int tN.toInt32), .val (.long xv), .second, .val (.long (Dm tN fN)), .second, .val (.int 4), .val (.ref bS), .val (.int (own_Sl Dm fN tN xv nN).length.toInt32), .val (.ref bT), .val (.int (own_Tl Dm fN tN xv nN).length.toInt32), .val (.int nN.toInt32), s13, s14, s15, s16, .unset, .unset, .unset, .unset] [(.ref a1)]))
        refine own_getF SJ (host := "") (Or.inl (own_w hw 13 rfl)) Via.refl HJ.fld d6_95 (fun T19 S19 => ?_)
        show own_F p e below s Z _ _ _ _ _ (T19.setTop (mkF m 98 #[.val (.ref a1), .val (.int fN.toInt32), .val (.int tN.toInt32), .val (.long xv), .second, .val (.long (Dm tN fN)), .second, .val (.int 4), .val (.ref bS), .val (.int (own_Sl Dm fN tN xv nN).length.toInt32), .val (.ref bT), .val (.int (own_Tl Dm fN tN xv nN).length.toInt32), .val (.int nN.toInt32), s13, s14, s15, s16, .unset, .unset, .unset, .unset] [(.ref aM)]))
        refine own_F.of (fun _ => XS.iload S19.here S19.hx rfl (S19.dec d6_98) rfl) ?_
        show own_F p e below s Z _ _ _ _ _ (T19.setTop (mkF m 100 #[.val (.ref a1), .val (.int fN.toInt32), .val (.int tN.toInt32), .val (.long xv), .second, .val (.long (Dm tN fN)), .second, .val (.int 4), .val (.ref bS), .val (.int (own_Sl Dm fN tN xv nN).length.toInt32), .val (.ref bT), .val (.int (own_Tl Dm fN tN xv nN).length.toInt32), .val (.int nN.toInt32), s13, s14, s15, s16, .unset, .unset, .unset, .unset] [(.int nN.toInt32), (.ref aM)]))
        refine own_aald S19 HJ.tab rfl (own_n4 (Nat.lt_trans hn (by decide))).2.1 (own_at4 hn) d6_100 ?_
        show own_F p e below s Z _ _ _ _ _ (T19.setTop (mkF m 101 #[.val (.ref a1), .val (.int fN.toInt32), .val (.int tN.toInt32), .val (.long xv), .second, .val (.long (Dm tN fN)), .second, .val (.int 4), .val (.ref bS), .val (.int (own_Sl Dm fN tN xv nN).length.toInt32), .val (.ref bT), .val (.int (own_Tl Dm fN tN xv nN).length.toInt32), .val (.int nN.toInt32), s13, s14, s15, s16, .unset, .unset, .unset, .unset] [(.ref (Rw nN))]))
        refine own_F.of (fun _ => XS.iloadN S19.here S19.hx rfl (S19.dec d6_101) rfl) ?_
        show own_F p e below s Z _ _ _ _ _ (T19.setTop (mkF m 102 #[.val (.ref a1), .val (.int fN.toInt32), .val (.int tN.toInt32), .val (.long xv), .second, .val (.long (Dm tN fN)), .second, .val (.int 4), .val (.ref bS), .val (.int (own_Sl Dm fN tN xv nN).length.toInt32), .val (.ref bT), .val (.int (own_Tl Dm fN tN xv nN).length.toInt32), .val (.int nN.toInt32), s13, s14, s15, s16, .unset, .unset, .unset, .unset] [(.int fN.toInt32), (.ref (Rw nN))]))
        refine own_lald S19 (HJ.rw hn) (own_n4 (Nat.lt_trans hf (by decide))).2.1 (by rw [(own_n4 (Nat.lt_trans hf (by decide))).1]; exact own_row_at hf) d6_102 ?_
        show own_F p e below s Z _ _ _ _ _ (T19.setTop (mkF m 103 #[.val (.ref a1), .val (.int fN.toInt32), .val (.int tN.toInt32), .val (.long xv), .second, .val (.long (Dm tN fN)), .second, .val (.int 4), .val (.ref bS), .val (.int (own_Sl Dm fN tN xv nN).length.toInt32), .val (.ref bT), .val (.int (own_Tl Dm fN tN xv nN).length.toInt32), .val (.int nN.toInt32), s13, s14, s15, s16, .unset, .unset, .unset, .unset] [(.long (Dm nN fN))]))
        refine own_F.of (fun _ => XS.lstore S19.here S19.hx rfl (S19.dec d6_103) rfl (l' := #[.val (.ref a1), .val (.int fN.toInt32), .val (.int tN.toInt32), .val (.long xv), .second, .val (.long (Dm tN fN)), .second, .val (.int 4), .val (.ref bS), .val (.int (own_Sl Dm fN tN xv nN).length.toInt32), .val (.ref bT), .val (.int (own_Tl Dm fN tN xv nN).length.toInt32), .val (.int nN.toInt32), .val (.long (Dm nN fN)), .second, s15, s16, .unset, .unset, .unset, .unset]) (by rcases hq with ⟨-, rfl, rfl, rfl, rfl⟩ | ⟨_, _, rfl, rfl, rfl, rfl⟩ <;> rfl)) ?_
        refine own_F.of (fun _ => XS.lload S19.here S19.hx rfl (S19.dec d6_105) rfl) ?_
        show own_F p e below s Z _ _ _ _ _ (T19.setTop (mkF m 107 #[.val (.ref a1), .val (.int fN.toInt32), .val (.int tN.toInt32), .val (.long xv), .second, .val (.long (Dm tN fN)), .second, .val (.int 4), .val (.ref bS), .val (.int (own_Sl Dm fN tN xv nN).length.toInt32), .val (.ref bT), .val (.int (own_Tl Dm fN tN xv nN).length.toInt32), .val (.int nN.toInt32), .val (.long (Dm nN fN)), .second, s15, s16, .unset, .unset, .unset, .unset] [(.long (Dm nN fN))]))
        refine own_ldcJ S19 (own_w hw 15 rfl) d6_107 ?_
        show own_F p e below s Z _ _ _ _ _ (T19.setTop (mkF m 110 #[.val (.ref a1), .val (.int fN.toInt32), .val (.int tN.toInt32), .val (.long xv), .second, .val (.long (Dm tN fN)), .second, .val (.int 4), .val (.ref bS), .val (.int (own_Sl Dm fN tN xv nN).length.toInt32), .val (.ref bT), .val (.int (own_Tl Dm fN tN xv nN).length.toInt32), .val (.int nN.toInt32), .val (.long (Dm nN fN)), .second, s15, s16, .unset, .unset, .unset, .unset] [(.long (9223372036854775807 : Int64)), (.long (Dm nN fN))]))
        refine own_F.of (fun _ => XS.lcmp S19.here S19.hx rfl (S19.dec d6_110) rfl) ?_
        show own_F p e below s Z _ _ _ _ _ (T19.setTop (mkF m 111 #[.val (.ref a1), .val (.int fN.toInt32), .val (.int tN.toInt32), .val (.long xv), .second, .val (.long (Dm tN fN)), .second, .val (.int 4), .val (.ref bS), .val (.int (own_Sl Dm fN tN xv nN).length.toInt32), .val (.ref bT), .val (.int (own_Tl Dm fN tN xv nN).length.toInt32), .val (.int nN.toInt32), .val (.long (Dm nN fN)), .second, s15, s16, .unset, .unset, .unset, .unset] [(.int (lcmpW (Dm nN fN) (9223372036854775807 : Int64)))]))
        refine own_if S19 141 d6_111 (by decide) (by decide) (fun (hc111_20 : (lcmpW (Dm nN fN) (9223372036854775807 : Int64)) = (0 : Int32)) => ?_) (fun (hc111_20 : ¬ ((lcmpW (Dm nN fN) (9223372036854775807 : Int64)) = (0 : Int32))) => ?_)
        · show own_F p e below s Z _ _ _ _ _ (T19.setTop (mkF m 141 #[.val (.ref a1), .val (.int fN.toInt32), .val (.int tN.toInt32), .val (.long xv), .second, .val (.long (Dm tN fN)), .second, .val (.int 4), .val (.ref bS), .val (.int (own_Sl Dm fN tN xv nN).length.toInt32), .val (.ref bT), .val (.int (own_Tl Dm fN tN xv nN).length.toInt32), .val (.int nN.toInt32), .val (.long (Dm nN fN)), .second, s15, s16, .unset, .unset, .unset, .unset] []))
          have eqS := own_Sl_no (D := Dm) (f := fN) (t := tN) (n := nN) (x := xv) (Or.inl ((lw_eq _ _).mp hc111_20))
          rw [← eqS]
          have BS' := AS
          rw [← eqS] at BS'
          exact J141 hJ T19 S19 HJ BS' AT _ _ _ hq.c
        · show own_F p e below s Z _ _ _ _ _ (T19.setTop (mkF m 114 #[.val (.ref a1), .val (.int fN.toInt32), .val (.int tN.toInt32), .val (.long xv), .second, .val (.long (Dm tN fN)), .second, .val (.int 4), .val (.ref bS), .val (.int (own_Sl Dm fN tN xv nN).length.toInt32), .val (.ref bT), .val (.int (own_Tl Dm fN tN xv nN).length.toInt32), .val (.int nN.toInt32), .val (.long (Dm nN fN)), .second, s15, s16, .unset, .unset, .unset, .unset] []))
          refine own_F.of (fun _ => XS.lload S19.here S19.hx rfl (S19.dec d6_114) rfl) ?_
          refine own_F.of (fun _ => XS.lloadN S19.here S19.hx rfl (S19.dec d6_116) rfl) ?_
          show own_F p e below s Z _ _ _ _ _ (T19.setTop (mkF m 117 #[.val (.ref a1), .val (.int fN.toInt32), .val (.int tN.toInt32), .val (.long xv), .second, .val (.long (Dm tN fN)), .second, .val (.int 4), .val (.ref bS), .val (.int (own_Sl Dm fN tN xv nN).length.toInt32), .val (.ref bT), .val (.int (own_Tl Dm fN tN xv nN).length.toInt32), .val (.int nN.toInt32), .val (.long (Dm nN fN)), .second, s15, s16, .unset, .unset, .unset, .unset] [(.long xv), (.long (Dm nN fN))]))
          refine own_F.of (fun _ => XS.ladd S19.here S19.hx rfl (S19.dec d6_117) rfl) ?_
          show own_F p e below s Z _ _ _ _ _ (T19.setTop (mkF m 118 #[.val (.ref a1), .val (.int fN.toInt32), .val (.int tN.toInt32), .val (.long xv), .second, .val (.long (Dm tN fN)), .second, .val (.int 4), .val (.ref bS), .val (.int (own_Sl Dm fN tN xv nN).length.toInt32), .val (.ref bT), .val (.int (own_Tl Dm fN tN xv nN).length.toInt32), .val (.int nN.toInt32), .val (.long (Dm nN fN)), .second, s15, s16, .unset, .unset, .unset, .unset] [(.long ((Dm nN fN) + xv))]))
          refine own_F.of (fun _ => XS.aloadN S19.here S19.hx rfl (S19.dec d6_118) rfl rfl) ?_
          show own_F p e below s Z _ _ _ _ _ (T19.setTop (mkF m 119 #[.val (.ref a1), .val (.int fN.toInt32), .val (.int tN.toInt32), .val (.long xv), .second, .val (.long (Dm tN fN)), .second, .val (.int 4), .val (.ref bS), .val (.int (own_Sl Dm fN tN xv nN).length.toInt32), .val (.ref bT), .val (.int (own_Tl Dm fN tN xv nN).length.toInt32), .val (.int nN.toInt32), .val (.long (Dm nN fN)), .second, s15, s16, .unset, .unset, .unset, .unset] [(.ref a1), (.long ((Dm nN fN) + xv))]))
          refine own_getF S19 (host := "") (Or.inl (own_w hw 13 rfl)) Via.refl HJ.fld d6_119 (fun T21 S21 => ?_)
          show own_F p e below s Z _ _ _ _ _ (T21.setTop (mkF m 122 #[.val (.ref a1), .val (.int fN.toInt32), .val (.int tN.toInt32), .val (.long xv), .second, .val (.long (Dm tN fN)), .second, .val (.int 4), .val (.ref bS), .val (.int (own_Sl Dm fN tN xv nN).length.toInt32), .val (.ref bT), .val (.int (own_Tl Dm fN tN xv nN).length.toInt32), .val (.int nN.toInt32), .val (.long (Dm nN fN)), .second, s15, s16, .unset, .unset, .unset, .unset] [(.ref aM), (.long ((Dm nN fN) + xv))]))
          refine own_F.of (fun _ => XS.iload S21.here S21.hx rfl (S21.dec d6_122) rfl) ?_
          show own_F p e below s Z _ _ _ _ _ (T21.setTop (mkF m 124 #[.val (.ref a1), .val (.int fN.toInt32), .val (.int tN.toInt32), .val (.long xv), .second, .val (.long (Dm tN fN)), .second, .val (.int 4), .val (.ref bS), .val (.int (own_Sl Dm fN tN xv nN).length.toInt32), .val (.ref bT), .val (.int (own_Tl Dm fN tN xv nN).length.toInt32), .val (.int nN.toInt32), .val (.long (Dm nN fN)), .second, s15, s16, .unset, .unset, .unset, .unset] [(.int nN.toInt32), (.ref aM), (.long ((Dm nN fN) + xv))]))
          refine own_aald S21 HJ.tab rfl (own_n4 (Nat.lt_trans hn (by decide))).2.1 (own_at4 hn) d6_124 ?_
          show own_F p e below s Z _ _ _ _ _ (T21.setTop (mkF m 125 #[.val (.ref a1), .val (.int fN.toInt32), .val (.int tN.toInt32), .val (.long xv), .second, .val (.long (Dm tN fN)), .second, .val (.int 4), .val (.ref bS), .val (.int (own_Sl Dm fN tN xv nN).length.toInt32), .val (.ref bT), .val (.int (own_Tl Dm fN tN xv nN).length.toInt32), .val (.int nN.toInt32), .val (.long (Dm nN fN)), .second, s15, s16, .unset, .unset, .unset, .unset] [(.ref (Rw nN)), (.long ((Dm nN fN) + xv))]))
          refine own_F.of (fun _ => XS.iloadN S21.here S21.hx rfl (S21.dec d6_125) rfl) ?_
          show own_F p e below s Z _ _ _ _ _ (T21.setTop (mkF m 126 #[.val (.ref a1), .val (.int fN.toInt32), .val (.int tN.toInt32), .val (.long xv), .second, .val (.long (Dm tN fN)), .second, .val (.int 4), .val (.ref bS), .val (.int (own_Sl Dm fN tN xv nN).length.toInt32), .val (.ref bT), .val (.int (own_Tl Dm fN tN xv nN).length.toInt32), .val (.int nN.toInt32), .val (.long (Dm nN fN)), .second, s15, s16, .unset, .unset, .unset, .unset] [(.int tN.toInt32), (.ref (Rw nN)), (.long ((Dm nN fN) + xv))]))
          refine own_lald S21 (HJ.rw hn) (own_n4 (Nat.lt_trans ht (by decide))).2.1 (by rw [(own_n4 (Nat.lt_trans ht (by decide))).1]; exact own_row_at ht) d6_126 ?_
          show own_F p e below s Z _ _ _ _ _ (T21.setTop (mkF m 127 #[.val (.ref a1), .val (.int fN.toInt32), .val (.int tN.toInt32), .val (.long xv), .second, .val (.long (Dm tN fN)), .second, .val (.int 4), .val (.ref bS), .val (.int (own_Sl Dm fN tN xv nN).length.toInt32), .val (.ref bT), .val (.int (own_Tl Dm fN tN xv nN).length.toInt32), .val (.int nN.toInt32), .val (.long (Dm nN fN)), .second, s15, s16, .unset, .unset, .unset, .unset] [(.long (Dm nN tN)), (.long ((Dm nN fN) + xv))]))
          refine own_F.of (fun _ => XS.lcmp S21.here S21.hx rfl (S21.dec d6_127) rfl) ?_
          show own_F p e below s Z _ _ _ _ _ (T21.setTop (mkF m 128 #[.val (.ref a1), .val (.int fN.toInt32), .val (.int tN.toInt32), .val (.long xv), .second, .val (.long (Dm tN fN)), .second, .val (.int 4), .val (.ref bS), .val (.int (own_Sl Dm fN tN xv nN).length.toInt32), .val (.ref bT), .val (.int (own_Tl Dm fN tN xv nN).length.toInt32), .val (.int nN.toInt32), .val (.long (Dm nN fN)), .second, s15, s16, .unset, .unset, .unset, .unset] [(.int (lcmpW ((Dm nN fN) + xv) (Dm nN tN)))]))
          refine own_if S21 141 d6_128 (by decide) (by decide) (fun (hc128_22 : ¬ ((lcmpW ((Dm nN fN) + xv) (Dm nN tN)) < (0 : Int32))) => ?_) (fun (hc128_22 : (lcmpW ((Dm nN fN) + xv) (Dm nN tN)) < (0 : Int32)) => ?_)
          · show own_F p e below s Z _ _ _ _ _ (T21.setTop (mkF m 141 #[.val (.ref a1), .val (.int fN.toInt32), .val (.int tN.toInt32), .val (.long xv), .second, .val (.long (Dm tN fN)), .second, .val (.int 4), .val (.ref bS), .val (.int (own_Sl Dm fN tN xv nN).length.toInt32), .val (.ref bT), .val (.int (own_Tl Dm fN tN xv nN).length.toInt32), .val (.int nN.toInt32), .val (.long (Dm nN fN)), .second, s15, s16, .unset, .unset, .unset, .unset] []))
            have eqS := own_Sl_no (D := Dm) (f := fN) (t := tN) (n := nN) (x := xv) (Or.inr (fun z => hc128_22 ((lw_lt _ _).mpr z)))
            rw [← eqS]
            have BS' := AS
            rw [← eqS] at BS'
            exact J141 hJ T21 S21 HJ BS' AT _ _ _ hq.c
          · show own_F p e below s Z _ _ _ _ _ (T21.setTop (mkF m 131 #[.val (.ref a1), .val (.int fN.toInt32), .val (.int tN.toInt32), .val (.long xv), .second, .val (.long (Dm tN fN)), .second, .val (.int 4), .val (.ref bS), .val (.int (own_Sl Dm fN tN xv nN).length.toInt32), .val (.ref bT), .val (.int (own_Tl Dm fN tN xv nN).length.toInt32), .val (.int nN.toInt32), .val (.long (Dm nN fN)), .second, s15, s16, .unset, .unset, .unset, .unset] []))
            refine own_F.of (fun _ => XS.aload S21.here S21.hx rfl (S21.dec d6_131) rfl rfl) ?_
            refine own_F.of (fun _ => XS.iload S21.here S21.hx rfl (S21.dec d6_133) rfl) ?_
            show own_F p e below s Z _ _ _ _ _ (T21.setTop (mkF m 135 #[.val (.ref a1), .val (.int fN.toInt32), .val (.int tN.toInt32), .val (.long xv), .second, .val (.long (Dm tN fN)), .second, .val (.int 4), .val (.ref bS), .val (.int (own_Sl Dm fN tN xv nN).length.toInt32), .val (.ref bT), .val (.int (own_Tl Dm fN tN xv nN).length.toInt32), .val (.int nN.toInt32), .val (.long (Dm nN fN)), .second, s15, s16, .unset, .unset, .unset, .unset] [(.int (own_Sl Dm fN tN xv nN).length.toInt32), (.ref bS)]))
            refine own_F.of (fun _ => XS.iinc S21.here S21.hx rfl (S21.dec d6_135) rfl (l' := #[.val (.ref a1), .val (.int fN.toInt32), .val (.int tN.toInt32), .val (.long xv), .second, .val (.long (Dm tN fN)), .second, .val (.int 4), .val (.ref bS), .val (.int ((own_Sl Dm fN tN xv nN).length.toInt32 + (1 : Int32))), .val (.ref bT), .val (.int (own_Tl Dm fN tN xv nN).length.toInt32), .val (.int nN.toInt32), .val (.long (Dm nN fN)), .second, s15, s16, .unset, .unset, .unset, .unset]) rfl) ?_
            show own_F p e below s Z _ _ _ _ _ (T21.setTop (mkF m 138 #[.val (.ref a1), .val (.int fN.toInt32), .val (.int tN.toInt32), .val (.long xv), .second, .val (.long (Dm tN fN)), .second, .val (.int 4), .val (.ref bS), .val (.int ((own_Sl Dm fN tN xv nN).length.toInt32 + (1 : Int32))), .val (.ref bT), .val (.int (own_Tl Dm fN tN xv nN).length.toInt32), .val (.int nN.toInt32), .val (.long (Dm nN fN)), .second, s15, s16, .unset, .unset, .unset, .unset] [(.int (own_Sl Dm fN tN xv nN).length.toInt32), (.ref bS)]))
            refine own_F.of (fun _ => XS.iload S21.here S21.hx rfl (S21.dec d6_138) rfl) ?_
            show own_F p e below s Z _ _ _ _ _ (T21.setTop (mkF m 140 #[.val (.ref a1), .val (.int fN.toInt32), .val (.int tN.toInt32), .val (.long xv), .second, .val (.long (Dm tN fN)), .second, .val (.int 4), .val (.ref bS), .val (.int ((own_Sl Dm fN tN xv nN).length.toInt32 + (1 : Int32))), .val (.ref bT), .val (.int (own_Tl Dm fN tN xv nN).length.toInt32), .val (.int nN.toInt32), .val (.long (Dm nN fN)), .second, s15, s16, .unset, .unset, .unset, .unset] [(.int nN.toInt32), (.int (own_Sl Dm fN tN xv nN).length.toInt32), (.ref bS)]))
            refine own_ist S21 AS (own_n4 (by omega)).2.1 (by rw [(own_n4 (by omega)).1, own_pad_len]; omega) d6_140 (own_news_may gS) (fun T23 h23 S23 W23 A23 => ?_)
            have eqS := own_Sl_yes (D := Dm) (f := fN) (t := tN) (n := nN) (x := xv) (fun z => hc111_20 ((lw_eq _ _).mpr z)) ((lw_lt _ _).mp hc128_22)
            rw [(own_n4 (by omega)).1, own_pad_snoc (by omega), ← eqS] at A23
            have H23 := HJ.oth (own_w hw 3 rfl) AS W23
            have O23 := AT.other W23 (Ne.symm nST)
            rw [own_suc (by omega), show (own_Sl Dm fN tN xv nN).length + 1 = (own_Sl Dm fN tN xv (nN + 1)).length by rw [eqS, List.length_append]; rfl]
            show own_F p e below s Z _ _ _ _ _ (T23.setTop (mkF m 141 #[.val (.ref a1), .val (.int fN.toInt32), .val (.int tN.toInt32), .val (.long xv), .second, .val (.long (Dm tN fN)), .second, .val (.int 4), .val (.ref bS), .val (.int (own_Sl Dm fN tN xv (nN + 1)).length.toInt32), .val (.ref bT), .val (.int (own_Tl Dm fN tN xv nN).length.toInt32), .val (.int nN.toInt32), .val (.long (Dm nN fN)), .second, s15, s16, .unset, .unset, .unset, .unset] []))
            exact J141 h23 T23 S23 H23 A23 O23 _ _ _ hq.c
      · obtain rfl : nN = 4 := by omega
        obtain ⟨v13, v15, rfl, rfl, rfl, rfl⟩ := hq.resolve_left (fun z => absurd z.1 (by decide))
        show own_F p e below s Z _ _ _ _ _ (TJ.setTop (mkF m 87 #[.val (.ref a1), .val (.int fN.toInt32), .val (.int tN.toInt32), .val (.long xv), .second, .val (.long (Dm tN fN)), .second, .val (.int 4), .val (.ref bS), .val (.int (own_Sl Dm fN tN xv 4).length.toInt32), .val (.ref bT), .val (.int (own_Tl Dm fN tN xv 4).length.toInt32), .val (.int 4), .val (.long v13), .second, .val (.long v15), .second, .unset, .unset, .unset, .unset] []))
        refine own_F.of (fun _ => XS.iload SJ.here SJ.hx rfl (SJ.dec d6_87) rfl) ?_
        refine own_F.of (fun _ => XS.iload SJ.here SJ.hx rfl (SJ.dec d6_89) rfl) ?_
        show own_F p e below s Z _ _ _ _ _ (TJ.setTop (mkF m 91 #[.val (.ref a1), .val (.int fN.toInt32), .val (.int tN.toInt32), .val (.long xv), .second, .val (.long (Dm tN fN)), .second, .val (.int 4), .val (.ref bS), .val (.int (own_Sl Dm fN tN xv 4).length.toInt32), .val (.ref bT), .val (.int (own_Tl Dm fN tN xv 4).length.toInt32), .val (.int 4), .val (.long v13), .second, .val (.long v15), .second, .unset, .unset, .unset, .unset] [(.int 4), (.int 4)]))
        refine own_icmp SJ 194 d6_91 (by decide) (by decide) (fun (hc91_24 : ¬ ((4 : Int32) < (4 : Int32))) => ?_) (fun (hc91_24 : (4 : Int32) < (4 : Int32)) => False.elim (absurd hc91_24 (by decide)))
        show own_F p e below s Z _ _ _ _ _ (TJ.setTop (mkF m 194 #[.val (.ref a1), .val (.int fN.toInt32), .val (.int tN.toInt32), .val (.long xv), .second, .val (.long (Dm tN fN)), .second, .val (.int 4), .val (.ref bS), .val (.int (own_Sl Dm fN tN xv 4).length.toInt32), .val (.ref bT), .val (.int (own_Tl Dm fN tN xv 4).length.toInt32), .val (.int 4), .val (.long v13), .second, .val (.long v15), .second, .unset, .unset, .unset, .unset] []))
        refine own_F.of (fun _ => XS.iconst SJ.here SJ.hx rfl (SJ.dec d6_194)) ?_
        show own_F p e below s Z _ _ _ _ _ (TJ.setTop (mkF m 195 #[.val (.ref a1), .val (.int fN.toInt32), .val (.int tN.toInt32), .val (.long xv), .second, .val (.long (Dm tN fN)), .second, .val (.int 4), .val (.ref bS), .val (.int (own_Sl Dm fN tN xv 4).length.toInt32), .val (.ref bT), .val (.int (own_Tl Dm fN tN xv 4).length.toInt32), .val (.int 4), .val (.long v13), .second, .val (.long v15), .second, .unset, .unset, .unset, .unset] [(.int 0)]))
        refine own_F.of (fun _ => XS.istore SJ.here SJ.hx rfl (SJ.dec d6_195) rfl (l' := #[.val (.ref a1), .val (.int fN.toInt32), .val (.int tN.toInt32), .val (.long xv), .second, .val (.long (Dm tN fN)), .second, .val (.int 4), .val (.ref bS), .val (.int (own_Sl Dm fN tN xv 4).length.toInt32), .val (.ref bT), .val (.int (own_Tl Dm fN tN xv 4).length.toInt32), .val (.int 0), .val (.long v13), .second, .val (.long v15), .second, .unset, .unset, .unset, .unset]) rfl) ?_
        rw [show (0 : Int32) = ([] : List Nat).length.toInt32 from rfl]
        exact J197 hlt (own_Sl Dm fN tN xv 4) [] Dm hJ TJ SJ bS bT HJ AS AT _ _ _ _ _ _ _ _ rfl (by unfold own_add; rw [if_pos hlt]) (Or.inl ⟨_, _, rfl, rfl, rfl, rfl, rfl⟩) (Or.inl rfl) (Or.inl ⟨rfl, rfl⟩)
  have J45 : ∀ (TJ : State) (SJ : own_S Z h0 (own_news Z h0) (⟨"com/example/slackweave/slackweave/generate/TightestBounds", "add", "(IIJ)V"⟩ : MethodName).cls prog_7_method_3_code 21 none (⟨"com/example/slackweave/slackweave/generate/TightestBounds", "add", "(IIJ)V"⟩ : MethodName).name p l e ({ frames := 0, cells := 2, slots := 8, locals := 0 } : Room) s m #[.ref a1, .int fN.toInt32, .int tN.toInt32, .long xv] below meth c TJ h0 0 0), own_F p e below s Z h0 (own_news Z h0) ({ frames := 0, cells := 2, slots := 8, locals := 0 } : Room).cells ({ frames := 0, cells := 2, slots := 8, locals := 0 } : Room).slots (fun v h => v = none ∧ own_M Z h a1 aM aW Rw (own_add Dm fN tN xv) Wm) (TJ.setTop (mkF m 45 #[.val (.ref a1), .val (.int fN.toInt32), .val (.int tN.toInt32), .val (.long xv), .second, .val (.long (Dm tN fN)), .second, .unset, .unset, .unset, .unset, .unset, .unset, .unset, .unset, .unset, .unset, .unset, .unset, .unset, .unset] [])) := by
    intro TJ SJ
    show own_F p e below s Z _ _ _ _ _ (TJ.setTop (mkF m 45 #[.val (.ref a1), .val (.int fN.toInt32), .val (.int tN.toInt32), .val (.long xv), .second, .val (.long (Dm tN fN)), .second, .unset, .unset, .unset, .unset, .unset, .unset, .unset, .unset, .unset, .unset, .unset, .unset, .unset, .unset] []))
    refine own_F.of (fun _ => XS.lloadN SJ.here SJ.hx rfl (SJ.dec d6_45) rfl) ?_
    refine own_F.of (fun _ => XS.aloadN SJ.here SJ.hx rfl (SJ.dec d6_46) rfl rfl) ?_
    show own_F p e below s Z _ _ _ _ _ (TJ.setTop (mkF m 47 #[.val (.ref a1), .val (.int fN.toInt32), .val (.int tN.toInt32), .val (.long xv), .second, .val (.long (Dm tN fN)), .second, .unset, .unset, .unset, .unset, .unset, .unset, .unset, .unset, .unset, .unset, .unset, .unset, .unset, .unset] [(.ref a1), (.long xv)]))
    refine own_getF SJ (host := "") (Or.inl (own_w hw 13 rfl)) Via.refl H.fld d6_47 (fun T25 S25 => ?_)
    show own_F p e below s Z _ _ _ _ _ (T25.setTop (mkF m 50 #[.val (.ref a1), .val (.int fN.toInt32), .val (.int tN.toInt32), .val (.long xv), .second, .val (.long (Dm tN fN)), .second, .unset, .unset, .unset, .unset, .unset, .unset, .unset, .unset, .unset, .unset, .unset, .unset, .unset, .unset] [(.ref aM), (.long xv)]))
    refine own_F.of (fun _ => XS.iloadN S25.here S25.hx rfl (S25.dec d6_50) rfl) ?_
    show own_F p e below s Z _ _ _ _ _ (T25.setTop (mkF m 51 #[.val (.ref a1), .val (.int fN.toInt32), .val (.int tN.toInt32), .val (.long xv), .second, .val (.long (Dm tN fN)), .second, .unset, .unset, .unset, .unset, .unset, .unset, .unset, .unset, .unset, .unset, .unset, .unset, .unset, .unset] [(.int fN.toInt32), (.ref aM), (.long xv)]))
    refine own_aald S25 H.tab rfl (own_n4 (Nat.lt_trans hf (by decide))).2.1 (own_at4 hf) d6_51 ?_
    show own_F p e below s Z _ _ _ _ _ (T25.setTop (mkF m 52 #[.val (.ref a1), .val (.int fN.toInt32), .val (.int tN.toInt32), .val (.long xv), .second, .val (.long (Dm tN fN)), .second, .unset, .unset, .unset, .unset, .unset, .unset, .unset, .unset, .unset, .unset, .unset, .unset, .unset, .unset] [(.ref (Rw fN)), (.long xv)]))
    refine own_F.of (fun _ => XS.iloadN S25.here S25.hx rfl (S25.dec d6_52) rfl) ?_
    show own_F p e below s Z _ _ _ _ _ (T25.setTop (mkF m 53 #[.val (.ref a1), .val (.int fN.toInt32), .val (.int tN.toInt32), .val (.long xv), .second, .val (.long (Dm tN fN)), .second, .unset, .unset, .unset, .unset, .unset, .unset, .unset, .unset, .unset, .unset, .unset, .unset, .unset, .unset] [(.int tN.toInt32), (.ref (Rw fN)), (.long xv)]))
    refine own_lald S25 (H.rw hf) (own_n4 (Nat.lt_trans ht (by decide))).2.1 (by rw [(own_n4 (Nat.lt_trans ht (by decide))).1]; exact own_row_at ht) d6_53 ?_
    show own_F p e below s Z _ _ _ _ _ (T25.setTop (mkF m 54 #[.val (.ref a1), .val (.int fN.toInt32), .val (.int tN.toInt32), .val (.long xv), .second, .val (.long (Dm tN fN)), .second, .unset, .unset, .unset, .unset, .unset, .unset, .unset, .unset, .unset, .unset, .unset, .unset, .unset, .unset] [(.long (Dm fN tN)), (.long xv)]))
    refine own_F.of (fun _ => XS.lcmp S25.here S25.hx rfl (S25.dec d6_54) rfl) ?_
    show own_F p e below s Z _ _ _ _ _ (T25.setTop (mkF m 55 #[.val (.ref a1), .val (.int fN.toInt32), .val (.int tN.toInt32), .val (.long xv), .second, .val (.long (Dm tN fN)), .second, .unset, .unset, .unset, .unset, .unset, .unset, .unset, .unset, .unset, .unset, .unset, .unset, .unset, .unset] [(.int (lcmpW xv (Dm fN tN)))]))
    refine own_if S25 59 d6_55 (by decide) (by decide) (fun (hc55_26 : (lcmpW xv (Dm fN tN)) < (0 : Int32)) => ?_) (fun (hc55_26 : ¬ ((lcmpW xv (Dm fN tN)) < (0 : Int32))) => ?_)
    · show own_F p e below s Z _ _ _ _ _ (T25.setTop (mkF m 59 #[.val (.ref a1), .val (.int fN.toInt32), .val (.int tN.toInt32), .val (.long xv), .second, .val (.long (Dm tN fN)), .second, .unset, .unset, .unset, .unset, .unset, .unset, .unset, .unset, .unset, .unset, .unset, .unset, .unset, .unset] []))
      have hlt := (lw_lt _ _).mp hc55_26
      refine own_F.of (fun _ => XS.aloadN S25.here S25.hx rfl (S25.dec d6_59) rfl rfl) ?_
      show own_F p e below s Z _ _ _ _ _ (T25.setTop (mkF m 60 #[.val (.ref a1), .val (.int fN.toInt32), .val (.int tN.toInt32), .val (.long xv), .second, .val (.long (Dm tN fN)), .second, .unset, .unset, .unset, .unset, .unset, .unset, .unset, .unset, .unset, .unset, .unset, .unset, .unset, .unset] [(.ref a1)]))
      refine own_getF S25 (host := "") (Or.inl (own_w hw 13 rfl)) Via.refl H.fld d6_60 (fun T27 S27 => ?_)
      show own_F p e below s Z _ _ _ _ _ (T27.setTop (mkF m 63 #[.val (.ref a1), .val (.int fN.toInt32), .val (.int tN.toInt32), .val (.long xv), .second, .val (.long (Dm tN fN)), .second, .unset, .unset, .unset, .unset, .unset, .unset, .unset, .unset, .unset, .unset, .unset, .unset, .unset, .unset] [(.ref aM)]))
      refine own_len S27 H.tab d6_63 ?_
      show own_F p e below s Z _ _ _ _ _ (T27.setTop (mkF m 64 #[.val (.ref a1), .val (.int fN.toInt32), .val (.int tN.toInt32), .val (.long xv), .second, .val (.long (Dm tN fN)), .second, .unset, .unset, .unset, .unset, .unset, .unset, .unset, .unset, .unset, .unset, .unset, .unset, .unset, .unset] [(.int 4)]))
      refine own_F.of (fun _ => XS.istore S27.here S27.hx rfl (S27.dec d6_64) rfl (l' := #[.val (.ref a1), .val (.int fN.toInt32), .val (.int tN.toInt32), .val (.long xv), .second, .val (.long (Dm tN fN)), .second, .val (.int 4), .unset, .unset, .unset, .unset, .unset, .unset, .unset, .unset, .unset, .unset, .unset, .unset, .unset]) rfl) ?_
      refine own_F.of (fun _ => XS.iload S27.here S27.hx rfl (S27.dec d6_66) rfl) ?_
      show own_F p e below s Z _ _ _ _ _ (T27.setTop (mkF m 68 #[.val (.ref a1), .val (.int fN.toInt32), .val (.int tN.toInt32), .val (.long xv), .second, .val (.long (Dm tN fN)), .second, .val (.int 4), .unset, .unset, .unset, .unset, .unset, .unset, .unset, .unset, .unset, .unset, .unset, .unset, .unset] [(.int 4)]))
      refine own_newP S27 (own_w hw 43 rfl) d6_68 (by decide) (cap := 4) (by decide) (by decide) (by decide) (by decide) (fun T28 h28 b28 g28 S28 E28 A28 => ?_)
      have V29 : own_A Z h28 b28 .int [(.int (0 : Int32)), (.int (0 : Int32)), (.int (0 : Int32)), (.int (0 : Int32))] := A28
      show own_F p e below s Z _ _ _ _ _ (T28.setTop (mkF m 70 #[.val (.ref a1), .val (.int fN.toInt32), .val (.int tN.toInt32), .val (.long xv), .second, .val (.long (Dm tN fN)), .second, .val (.int 4), .unset, .unset, .unset, .unset, .unset, .unset, .unset, .unset, .unset, .unset, .unset, .unset, .unset] [(.ref b28)]))
      have HA := H.ext E28
      have ASa : own_A Z h28 b28 .int (own_pad (own_Sl Dm fN tN xv 0)) := V29
      refine own_F.of (fun _ => XS.astore S28.here S28.hx rfl (S28.dec d6_70) rfl rfl (l' := #[.val (.ref a1), .val (.int fN.toInt32), .val (.int tN.toInt32), .val (.long xv), .second, .val (.long (Dm tN fN)), .second, .val (.int 4), .val (.ref b28), .unset, .unset, .unset, .unset, .unset, .unset, .unset, .unset, .unset, .unset, .unset, .unset]) rfl) ?_
      refine own_F.of (fun _ => XS.iconst S28.here S28.hx rfl (S28.dec d6_72)) ?_
      show own_F p e below s Z _ _ _ _ _ (T28.setTop (mkF m 73 #[.val (.ref a1), .val (.int fN.toInt32), .val (.int tN.toInt32), .val (.long xv), .second, .val (.long (Dm tN fN)), .second, .val (.int 4), .val (.ref b28), .unset, .unset, .unset, .unset, .unset, .unset, .unset, .unset, .unset, .unset, .unset, .unset] [(.int 0)]))
      refine own_F.of (fun _ => XS.istore S28.here S28.hx rfl (S28.dec d6_73) rfl (l' := #[.val (.ref a1), .val (.int fN.toInt32), .val (.int tN.toInt32), .val (.long xv), .second, .val (.long (Dm tN fN)), .second, .val (.int 4), .val (.ref b28), .val (.int 0), .unset, .unset, .unset, .unset, .unset, .unset, .unset, .unset, .unset, .unset, .unset]) rfl) ?_
      refine own_F.of (fun _ => XS.iload S28.here S28.hx rfl (S28.dec d6_75) rfl) ?_
      show own_F p e below s Z _ _ _ _ _ (T28.setTop (mkF m 77 #[.val (.ref a1), .val (.int fN.toInt32), .val (.int tN.toInt32), .val (.long xv), .second, .val (.long (Dm tN fN)), .second, .val (.int 4), .val (.ref b28), .val (.int 0), .unset, .unset, .unset, .unset, .unset, .unset, .unset, .unset, .unset, .unset, .unset] [(.int 4)]))
      refine own_newP S28 (own_w hw 43 rfl) d6_77 (by decide) (cap := 4) (by decide) (by decide) (by decide) (by decide) (fun T30 h30 b30 g30 S30 E30 A30 => ?_)
      have V31 : own_A Z h30 b30 .int [(.int (0 : Int32)), (.int (0 : Int32)), (.int (0 : Int32)), (.int (0 : Int32))] := A30
      show own_F p e below s Z _ _ _ _ _ (T30.setTop (mkF m 79 #[.val (.ref a1), .val (.int fN.toInt32), .val (.int tN.toInt32), .val (.long xv), .second, .val (.long (Dm tN fN)), .second, .val (.int 4), .val (.ref b28), .val (.int 0), .unset, .unset, .unset, .unset, .unset, .unset, .unset, .unset, .unset, .unset, .unset] [(.ref b30)]))
      have HB := HA.ext E30
      have ASb := ASa.ext E30
      have ATb : own_A Z h30 b30 .int (own_pad (own_Tl Dm fN tN xv 0)) := V31
      have nST : b28 ≠ b30 := Nat.ne_of_lt (by rw [g30]; exact ASa.lt)
      refine own_F.of (fun _ => XS.astore S30.here S30.hx rfl (S30.dec d6_79) rfl rfl (l' := #[.val (.ref a1), .val (.int fN.toInt32), .val (.int tN.toInt32), .val (.long xv), .second, .val (.long (Dm tN fN)), .second, .val (.int 4), .val (.ref b28), .val (.int 0), .val (.ref b30), .unset, .unset, .unset, .unset, .unset, .unset, .unset, .unset, .unset, .unset]) rfl) ?_
      refine own_F.of (fun _ => XS.iconst S30.here S30.hx rfl (S30.dec d6_81)) ?_
      show own_F p e below s Z _ _ _ _ _ (T30.setTop (mkF m 82 #[.val (.ref a1), .val (.int fN.toInt32), .val (.int tN.toInt32), .val (.long xv), .second, .val (.long (Dm tN fN)), .second, .val (.int 4), .val (.ref b28), .val (.int 0), .val (.ref b30), .unset, .unset, .unset, .unset, .unset, .unset, .unset, .unset, .unset, .unset] [(.int 0)]))
      refine own_F.of (fun _ => XS.istore S30.here S30.hx rfl (S30.dec d6_82) rfl (l' := #[.val (.ref a1), .val (.int fN.toInt32), .val (.int tN.toInt32), .val (.long xv), .second, .val (.long (Dm tN fN)), .second, .val (.int 4), .val (.ref b28), .val (.int 0), .val (.ref b30), .val (.int 0), .unset, .unset, .unset, .unset, .unset, .unset, .unset, .unset, .unset]) rfl) ?_
      refine own_F.of (fun _ => XS.iconst S30.here S30.hx rfl (S30.dec d6_84)) ?_
      show own_F p e below s Z _ _ _ _ _ (T30.setTop (mkF m 85 #[.val (.ref a1), .val (.int fN.toInt32), .val (.int tN.toInt32), .val (.long xv), .second, .val (.long (Dm tN fN)), .second, .val (.int 4), .val (.ref b28), .val (.int 0), .val (.ref b30), .val (.int 0), .unset, .unset, .unset, .unset, .unset, .unset, .unset, .unset, .unset] [(.int 0)]))
      refine own_F.of (fun _ => XS.istore S30.here S30.hx rfl (S30.dec d6_85) rfl (l' := #[.val (.ref a1), .val (.int fN.toInt32), .val (.int tN.toInt32), .val (.long xv), .second, .val (.long (Dm tN fN)), .second, .val (.int 4), .val (.ref b28), .val (.int 0), .val (.ref b30), .val (.int 0), .val (.int 0), .unset, .unset, .unset, .unset, .unset, .unset, .unset, .unset]) rfl) ?_
      exact J87 hlt 4 0 h30 T30 S30 b28 b30 (own_mayN S30 (Or.inr (by rw [g28]; exact S27.size))) (own_mayN S30 (Or.inr (by rw [g30]; exact S28.size))) nST HB ASb ATb _ _ _ _ (Or.inl ⟨rfl, rfl, rfl, rfl, rfl⟩) (by decide) (by decide)
    · show own_F p e below s Z _ _ _ _ _ (T25.setTop (mkF m 58 #[.val (.ref a1), .val (.int fN.toInt32), .val (.int tN.toInt32), .val (.long xv), .second, .val (.long (Dm tN fN)), .second, .unset, .unset, .unset, .unset, .unset, .unset, .unset, .unset, .unset, .unset, .unset, .unset, .unset, .unset] []))
      refine own_retV S25 d6_58 (by decide) (by decide) ?_
      exact ⟨rfl, by unfold own_add; rw [if_neg (fun q => hc55_26 ((lw_lt _ _).mpr q))]; exact H⟩
  show own_F p e below s Z _ _ _ _ _ (T0.setTop (mkF m 0 #[.val (.ref a1), .val (.int fN.toInt32), .val (.int tN.toInt32), .val (.long xv), .second, .unset, .unset, .unset, .unset, .unset, .unset, .unset, .unset, .unset, .unset, .unset, .unset, .unset, .unset, .unset, .unset] []))
  refine own_F.of (fun _ => XS.aloadN S0.here S0.hx rfl (S0.dec d6_0) rfl rfl) ?_
  show own_F p e below s Z _ _ _ _ _ (T0.setTop (mkF m 1 #[.val (.ref a1), .val (.int fN.toInt32), .val (.int tN.toInt32), .val (.long xv), .second, .unset, .unset, .unset, .unset, .unset, .unset, .unset, .unset, .unset, .unset, .unset, .unset, .unset, .unset, .unset, .unset] [(.ref a1)]))
  refine own_getF S0 (host := "") (Or.inl (own_w hw 13 rfl)) Via.refl H.fld d6_1 (fun T32 S32 => ?_)
  show own_F p e below s Z _ _ _ _ _ (T32.setTop (mkF m 4 #[.val (.ref a1), .val (.int fN.toInt32), .val (.int tN.toInt32), .val (.long xv), .second, .unset, .unset, .unset, .unset, .unset, .unset, .unset, .unset, .unset, .unset, .unset, .unset, .unset, .unset, .unset, .unset] [(.ref aM)]))
  refine own_F.of (fun _ => XS.iloadN S32.here S32.hx rfl (S32.dec d6_4) rfl) ?_
  show own_F p e below s Z _ _ _ _ _ (T32.setTop (mkF m 5 #[.val (.ref a1), .val (.int fN.toInt32), .val (.int tN.toInt32), .val (.long xv), .second, .unset, .unset, .unset, .unset, .unset, .unset, .unset, .unset, .unset, .unset, .unset, .unset, .unset, .unset, .unset, .unset] [(.int tN.toInt32), (.ref aM)]))
  refine own_aald S32 H.tab rfl (own_n4 (Nat.lt_trans ht (by decide))).2.1 (own_at4 ht) d6_5 ?_
  show own_F p e below s Z _ _ _ _ _ (T32.setTop (mkF m 6 #[.val (.ref a1), .val (.int fN.toInt32), .val (.int tN.toInt32), .val (.long xv), .second, .unset, .unset, .unset, .unset, .unset, .unset, .unset, .unset, .unset, .unset, .unset, .unset, .unset, .unset, .unset, .unset] [(.ref (Rw tN))]))
  refine own_F.of (fun _ => XS.iloadN S32.here S32.hx rfl (S32.dec d6_6) rfl) ?_
  show own_F p e below s Z _ _ _ _ _ (T32.setTop (mkF m 7 #[.val (.ref a1), .val (.int fN.toInt32), .val (.int tN.toInt32), .val (.long xv), .second, .unset, .unset, .unset, .unset, .unset, .unset, .unset, .unset, .unset, .unset, .unset, .unset, .unset, .unset, .unset, .unset] [(.int fN.toInt32), (.ref (Rw tN))]))
  refine own_lald S32 (H.rw ht) (own_n4 (Nat.lt_trans hf (by decide))).2.1 (by rw [(own_n4 (Nat.lt_trans hf (by decide))).1]; exact own_row_at hf) d6_7 ?_
  show own_F p e below s Z _ _ _ _ _ (T32.setTop (mkF m 8 #[.val (.ref a1), .val (.int fN.toInt32), .val (.int tN.toInt32), .val (.long xv), .second, .unset, .unset, .unset, .unset, .unset, .unset, .unset, .unset, .unset, .unset, .unset, .unset, .unset, .unset, .unset, .unset] [(.long (Dm tN fN))]))
  refine own_F.of (fun _ => XS.lstore S32.here S32.hx rfl (S32.dec d6_8) rfl (l' := #[.val (.ref a1), .val (.int fN.toInt32), .val (.int tN.toInt32), .val (.long xv), .second, .val (.long (Dm tN fN)), .second, .unset, .unset, .unset, .unset, .unset, .unset, .unset, .unset, .unset, .unset, .unset, .unset, .unset, .unset]) rfl) ?_
  refine own_F.of (fun _ => XS.lload S32.here S32.hx rfl (S32.dec d6_10) rfl) ?_
  show own_F p e below s Z _ _ _ _ _ (T32.setTop (mkF m 12 #[.val (.ref a1), .val (.int fN.toInt32), .val (.int tN.toInt32), .val (.long xv), .second, .val (.long (Dm tN fN)), .second, .unset, .unset, .unset, .unset, .unset, .unset, .unset, .unset, .unset, .unset, .unset, .unset, .unset, .unset] [(.long (Dm tN fN))]))
  refine own_ldcJ S32 (own_w hw 15 rfl) d6_12 ?_
  show own_F p e below s Z _ _ _ _ _ (T32.setTop (mkF m 15 #[.val (.ref a1), .val (.int fN.toInt32), .val (.int tN.toInt32), .val (.long xv), .second, .val (.long (Dm tN fN)), .second, .unset, .unset, .unset, .unset, .unset, .unset, .unset, .unset, .unset, .unset, .unset, .unset, .unset, .unset] [(.long (9223372036854775807 : Int64)), (.long (Dm tN fN))]))
  refine own_F.of (fun _ => XS.lcmp S32.here S32.hx rfl (S32.dec d6_15) rfl) ?_
  show own_F p e below s Z _ _ _ _ _ (T32.setTop (mkF m 16 #[.val (.ref a1), .val (.int fN.toInt32), .val (.int tN.toInt32), .val (.long xv), .second, .val (.long (Dm tN fN)), .second, .unset, .unset, .unset, .unset, .unset, .unset, .unset, .unset, .unset, .unset, .unset, .unset, .unset, .unset] [(.int (lcmpW (Dm tN fN) (9223372036854775807 : Int64)))]))
  refine own_if S32 45 d6_16 (by decide) (by decide) (fun (hc16_33 : (lcmpW (Dm tN fN) (9223372036854775807 : Int64)) = (0 : Int32)) => ?_) (fun (hc16_33 : ¬ ((lcmpW (Dm tN fN) (9223372036854775807 : Int64)) = (0 : Int32))) => ?_)
  · show own_F p e below s Z _ _ _ _ _ (T32.setTop (mkF m 45 #[.val (.ref a1), .val (.int fN.toInt32), .val (.int tN.toInt32), .val (.long xv), .second, .val (.long (Dm tN fN)), .second, .unset, .unset, .unset, .unset, .unset, .unset, .unset, .unset, .unset, .unset, .unset, .unset, .unset, .unset] []))
    exact J45 T32 S32
  · show own_F p e below s Z _ _ _ _ _ (T32.setTop (mkF m 19 #[.val (.ref a1), .val (.int fN.toInt32), .val (.int tN.toInt32), .val (.long xv), .second, .val (.long (Dm tN fN)), .second, .unset, .unset, .unset, .unset, .unset, .unset, .unset, .unset, .unset, .unset, .unset, .unset, .unset, .unset] []))
    refine own_F.of (fun _ => XS.lloadN S32.here S32.hx rfl (S32.dec d6_19) rfl) ?_
    refine own_F.of (fun _ => XS.lload S32.here S32.hx rfl (S32.dec d6_20) rfl) ?_
    show own_F p e below s Z _ _ _ _ _ (T32.setTop (mkF m 22 #[.val (.ref a1), .val (.int fN.toInt32), .val (.int tN.toInt32), .val (.long xv), .second, .val (.long (Dm tN fN)), .second, .unset, .unset, .unset, .unset, .unset, .unset, .unset, .unset, .unset, .unset, .unset, .unset, .unset, .unset] [(.long (Dm tN fN)), (.long xv)]))
    refine own_F.of (fun _ => XS.ladd S32.here S32.hx rfl (S32.dec d6_22) rfl) ?_
    show own_F p e below s Z _ _ _ _ _ (T32.setTop (mkF m 23 #[.val (.ref a1), .val (.int fN.toInt32), .val (.int tN.toInt32), .val (.long xv), .second, .val (.long (Dm tN fN)), .second, .unset, .unset, .unset, .unset, .unset, .unset, .unset, .unset, .unset, .unset, .unset, .unset, .unset, .unset] [(.long (xv + (Dm tN fN)))]))
    refine own_F.of (fun _ => XS.lconst S32.here S32.hx rfl (S32.dec d6_23)) ?_
    show own_F p e below s Z _ _ _ _ _ (T32.setTop (mkF m 24 #[.val (.ref a1), .val (.int fN.toInt32), .val (.int tN.toInt32), .val (.long xv), .second, .val (.long (Dm tN fN)), .second, .unset, .unset, .unset, .unset, .unset, .unset, .unset, .unset, .unset, .unset, .unset, .unset, .unset, .unset] [(.long (0 : Int64)), (.long (xv + (Dm tN fN)))]))
    refine own_F.of (fun _ => XS.lcmp S32.here S32.hx rfl (S32.dec d6_24) rfl) ?_
    show own_F p e below s Z _ _ _ _ _ (T32.setTop (mkF m 25 #[.val (.ref a1), .val (.int fN.toInt32), .val (.int tN.toInt32), .val (.long xv), .second, .val (.long (Dm tN fN)), .second, .unset, .unset, .unset, .unset, .unset, .unset, .unset, .unset, .unset, .unset, .unset, .unset, .unset, .unset] [(.int (lcmpW (xv + (Dm tN fN)) (0 : Int64)))]))
    refine own_if S32 45 d6_25 (by decide) (by decide) (fun (hc25_34 : ¬ ((lcmpW (xv + (Dm tN fN)) (0 : Int64)) < (0 : Int32))) => ?_) (fun (hc25_34 : (lcmpW (xv + (Dm tN fN)) (0 : Int64)) < (0 : Int32)) => False.elim (own_nothrow hp hc16_33 hc25_34))
    show own_F p e below s Z _ _ _ _ _ (T32.setTop (mkF m 45 #[.val (.ref a1), .val (.int fN.toInt32), .val (.int tN.toInt32), .val (.long xv), .second, .val (.long (Dm tN fN)), .second, .unset, .unset, .unset, .unset, .unset, .unset, .unset, .unset, .unset, .unset, .unset, .unset, .unset, .unset] []))
    exact J45 T32 S32
theorem d1_0 : decode prog_7_method_1_code 0 = .ok (.aload_n 0, 1) := by decide +kernel
theorem d1_1 : decode prog_7_method_1_code 1 = .ok (.invokespecial 3, 3) := by decide +kernel
theorem d1_4 : decode prog_7_method_1_code 4 = .ok (.aload_n 0, 1) := by decide +kernel
theorem d1_5 : decode prog_7_method_1_code 5 = .ok (.iload_n 1, 1) := by decide +kernel
theorem d1_6 : decode prog_7_method_1_code 6 = .ok (.iload_n 1, 1) := by decide +kernel
theorem d1_7 : decode prog_7_method_1_code 7 = .ok (.multianewarray 9 2, 4) := by decide +kernel
theorem d1_11 : decode prog_7_method_1_code 11 = .ok (.putfield 11, 3) := by decide +kernel
theorem d1_14 : decode prog_7_method_1_code 14 = .ok (.iconst 0, 1) := by decide +kernel
theorem d1_15 : decode prog_7_method_1_code 15 = .ok (.istore_n 2, 1) := by decide +kernel
theorem d1_16 : decode prog_7_method_1_code 16 = .ok (.iload_n 2, 1) := by decide +kernel
theorem d1_17 : decode prog_7_method_1_code 17 = .ok (.iload_n 1, 1) := by decide +kernel
theorem d1_18 : decode prog_7_method_1_code 18 = .ok (.if_icmp .ge 30, 3) := by decide +kernel
theorem d1_21 : decode prog_7_method_1_code 21 = .ok (.aload_n 0, 1) := by decide +kernel
theorem d1_22 : decode prog_7_method_1_code 22 = .ok (.getfield 11, 3) := by decide +kernel
theorem d1_25 : decode prog_7_method_1_code 25 = .ok (.iload_n 2, 1) := by decide +kernel
theorem d1_26 : decode prog_7_method_1_code 26 = .ok (.aaload, 1) := by decide +kernel
theorem d1_27 : decode prog_7_method_1_code 27 = .ok (.ldc2_w 16, 3) := by decide +kernel
theorem d1_30 : decode prog_7_method_1_code 30 = .ok (.invokestatic 18, 3) := by decide +kernel
theorem d1_33 : decode prog_7_method_1_code 33 = .ok (.aload_n 0, 1) := by decide +kernel
theorem d1_34 : decode prog_7_method_1_code 34 = .ok (.getfield 11, 3) := by decide +kernel
theorem d1_37 : decode prog_7_method_1_code 37 = .ok (.iload_n 2, 1) := by decide +kernel
theorem d1_38 : decode prog_7_method_1_code 38 = .ok (.aaload, 1) := by decide +kernel
theorem d1_39 : decode prog_7_method_1_code 39 = .ok (.iload_n 2, 1) := by decide +kernel
theorem d1_40 : decode prog_7_method_1_code 40 = .ok (.lconst 0, 1) := by decide +kernel
theorem d1_41 : decode prog_7_method_1_code 41 = .ok (.lastore, 1) := by decide +kernel
theorem d1_42 : decode prog_7_method_1_code 42 = .ok (.iinc 2 1, 3) := by decide +kernel
theorem d1_45 : decode prog_7_method_1_code 45 = .ok (.goto (-29), 3) := by decide +kernel
theorem d1_48 : decode prog_7_method_1_code 48 = .ok (.return_, 1) := by decide +kernel
theorem pn1 : plainFor (⟨"com/example/slackweave/slackweave/generate/TightestBounds", "<init>", "(I)V"⟩ : MethodName) = true := plainFor_of_name (by first | (simp [plainName, overriddenIn]; done) | decide +kernel)
def own_R4 (a b c d : Addr) : Nat → Addr
  | 0 => a
  | 1 => b
  | 2 => c
  | _ => d
theorem own_all4 {P : Nat → Prop} (h0 : P 0) (h1 : P 1) (h2 : P 2) (h3 : P 3) : ∀ i, i < 4 → P i := fun i hi => by
  match i, hi with
  | 0, _ => exact h0
  | 1, _ => exact h1
  | 2, _ => exact h2
  | 3, _ => exact h3
theorem own_inj4 {a b c d : Addr} (h1 : a ≠ b) (h2 : a ≠ c) (h3 : a ≠ d) (h4 : b ≠ c) (h5 : b ≠ d) (h6 : c ≠ d) : ∀ i j, i < 4 → j < 4 → i ≠ j → own_R4 a b c d i ≠ own_R4 a b c d j := fun i j hi hj q => by
  match i, hi, j, hj with
  | 0, _, 0, _ => exact absurd rfl q
  | 0, _, 1, _ => exact h1
  | 0, _, 2, _ => exact h2
  | 0, _, 3, _ => exact h3
  | 1, _, 0, _ => exact Ne.symm h1
  | 1, _, 1, _ => exact absurd rfl q
  | 1, _, 2, _ => exact h4
  | 1, _, 3, _ => exact h5
  | 2, _, 0, _ => exact Ne.symm h2
  | 2, _, 1, _ => exact Ne.symm h4
  | 2, _, 2, _ => exact absurd rfl q
  | 2, _, 3, _ => exact h6
  | 3, _, 0, _ => exact Ne.symm h3
  | 3, _, 1, _ => exact Ne.symm h5
  | 3, _, 2, _ => exact Ne.symm h6
  | 3, _, 3, _ => exact absurd rfl q

set_option maxRecDepth 65536 in
set_option maxHeartbeats 40000000 in
theorem own_initC (l : Launch) (Z : State) (a0 : Array Value) (hw : ∀ d ∈ tables_1, d.before a0 Z = true) (a1 : Addr) (h0 : Heap) (hO : Ext Z.heap h0) (ga : Z.heap.size ≤ a1) (E_a1 : Exa Z h0 a1 "com/example/slackweave/slackweave/generate/TightestBounds") (F_bound : Fld Z h0 a1 "com/example/slackweave/slackweave/generate/TightestBounds" "bound" "[[J" .null) :
    own_C l Z (⟨"com/example/slackweave/slackweave/generate/TightestBounds", "<init>", "(I)V"⟩ : MethodName) prog_7_method_1_code 3 none [] ({ frames := 1, cells := 5, slots := 20, locals := 16 } : Room) [a1] #[(.ref a1), (.int (4 : Int32))] h0 (fun v h => v = none ∧ ∃ (aM : Addr) (Rw : Nat → Addr), (∀ i, i < 4 → h0.size ≤ Rw i) ∧ (∀ i j, i < 4 → j < 4 → i ≠ j → Rw i ≠ Rw j) ∧ Fld Z h a1 "com/example/slackweave/slackweave/generate/TightestBounds" "bound" "[[J" (.ref aM) ∧ own_A Z h aM (.array .long) [.ref (Rw 0), .ref (Rw 1), .ref (Rw 2), .ref (Rw 3)] ∧ ∀ i, i < 4 → own_A Z h (Rw i) .long (own_row own_D0 i)) := by
  refine own_C.of pn1 hO (allS ga all0) ?_
  intro p e s m below meth c T0 S0
  refine own_F.cast (by first | (simp [entryFrame, mkF, argsToLocals, Value.category]; done) | rfl : entryFrame m #[(.ref a1), (.int (4 : Int32))] 3 = mkF m 0 #[.val (.ref a1), .val (.int (4 : Int32)), .unset] []) ?_
  show own_F p e below s Z _ _ _ _ _ (T0.setTop (mkF m 0 #[.val (.ref a1), .val (.int 4), .unset] []))
  refine own_F.of (fun _ => XS.aloadN S0.here S0.hx rfl (S0.dec d1_0) rfl rfl) ?_
  show own_F p e below s Z _ _ _ _ _ (T0.setTop (mkF m 1 #[.val (.ref a1), .val (.int 4), .unset] [(.ref a1)]))
  refine own_initO S0 (own_w hw 8 rfl) (own_w hw 9 rfl) (own_w hw 10 rfl) rfl d1_1 (by decide) (Nat.le_of_ble_eq_true rfl) (fun T1 S1 => ?_)
  show own_F p e below s Z _ _ _ _ _ (T1.setTop (mkF m 4 #[.val (.ref a1), .val (.int 4), .unset] []))
  refine own_F.of (fun _ => XS.aloadN S1.here S1.hx rfl (S1.dec d1_4) rfl rfl) ?_
  refine own_F.of (fun _ => XS.iloadN S1.here S1.hx rfl (S1.dec d1_5) rfl) ?_
  refine own_F.of (fun _ => XS.iloadN S1.here S1.hx rfl (S1.dec d1_6) rfl) ?_
  show own_F p e below s Z _ _ _ _ _ (T1.setTop (mkF m 7 #[.val (.ref a1), .val (.int 4), .unset] [(.int 4), (.int 4), (.ref a1)]))
  refine own_grid S1 (own_w hw 11 rfl) (own_w hw 12 rfl) (own_w hw 1 rfl) d1_7 (by decide) (by decide) (fun T2 h2 b2 ra2 rb2 rc2 rd2 g2 ga2 gb2 gc2 gd2 S2 E2 A2 Ba2 Bb2 Bc2 Bd2 => ?_)
  have nb2ra2 : b2 ≠ ra2 := own_neN (s := Array.size h0) (i := 0) (j := 1) g2 ga2 (by decide)
  have nb2rb2 : b2 ≠ rb2 := own_neN (s := Array.size h0) (i := 0) (j := 2) g2 gb2 (by decide)
  have nb2rc2 : b2 ≠ rc2 := own_neN (s := Array.size h0) (i := 0) (j := 3) g2 gc2 (by decide)
  have nb2rd2 : b2 ≠ rd2 := own_neN (s := Array.size h0) (i := 0) (j := 4) g2 gd2 (by decide)
  have nra2rb2 : ra2 ≠ rb2 := own_neN (s := Array.size h0) (i := 1) (j := 2) ga2 gb2 (by decide)
  have nra2rc2 : ra2 ≠ rc2 := own_neN (s := Array.size h0) (i := 1) (j := 3) ga2 gc2 (by decide)
  have nra2rd2 : ra2 ≠ rd2 := own_neN (s := Array.size h0) (i := 1) (j := 4) ga2 gd2 (by decide)
  have nrb2rc2 : rb2 ≠ rc2 := own_neN (s := Array.size h0) (i := 2) (j := 3) gb2 gc2 (by decide)
  have nrb2rd2 : rb2 ≠ rd2 := own_neN (s := Array.size h0) (i := 2) (j := 4) gb2 gd2 (by decide)
  have nrc2rd2 : rc2 ≠ rd2 := own_neN (s := Array.size h0) (i := 3) (j := 4) gc2 gd2 (by decide)
  have zs2 := S1.size
  have neb2 : a1 ≠ b2 := own_ltN (s := Array.size h0) (i := 0) (E_a1).lt g2
  have nera2 : a1 ≠ ra2 := own_ltN (s := Array.size h0) (i := 1) (E_a1).lt ga2
  have nerb2 : a1 ≠ rb2 := own_ltN (s := Array.size h0) (i := 2) (E_a1).lt gb2
  have nerc2 : a1 ≠ rc2 := own_ltN (s := Array.size h0) (i := 3) (E_a1).lt gc2
  have nerd2 : a1 ≠ rd2 := own_ltN (s := Array.size h0) (i := 4) (E_a1).lt gd2
  have V3 : own_A Z h2 b2 (.array .long) [(.ref ra2), (.ref rb2), (.ref rc2), (.ref rd2)] := A2
  have V4 : own_A Z h2 ra2 .long [(.long (0 : Int64)), (.long (0 : Int64)), (.long (0 : Int64)), (.long (0 : Int64))] := Ba2
  have V5 : own_A Z h2 rb2 .long [(.long (0 : Int64)), (.long (0 : Int64)), (.long (0 : Int64)), (.long (0 : Int64))] := Bb2
  have V6 : own_A Z h2 rc2 .long [(.long (0 : Int64)), (.long (0 : Int64)), (.long (0 : Int64)), (.long (0 : Int64))] := Bc2
  have V7 : own_A Z h2 rd2 .long [(.long (0 : Int64)), (.long (0 : Int64)), (.long (0 : Int64)), (.long (0 : Int64))] := Bd2
  show own_F p e below s Z _ _ _ _ _ (T2.setTop (mkF m 11 #[.val (.ref a1), .val (.int 4), .unset] [(.ref b2), (.ref a1)]))
  have fq8 := (F_bound.ext E2)
  have fq9 := (E_a1.ext E2)
  refine own_putF S2 (host := "") (Or.inl (own_w hw 13 rfl)) Via.refl fq8 fq9 (Or.inr ⟨(own_w hw 14 rfl), rfl, rfl⟩) (own_w hw 3 rfl) (ty := (.array (.array .long))) (by decide) rfl rfl d1_11 (Or.inl (List.mem_of_getElem? (i := 0) rfl)) (fun T10 h10 S10 W10 => ?_)
  have Fw10 := fq8.same W10
  show own_F p e below s Z _ _ _ _ _ (T10.setTop (mkF m 14 #[.val (.ref a1), .val (.int 4), .unset] []))
  refine own_F.of (fun _ => XS.iconst S10.here S10.hx rfl (S10.dec d1_14)) ?_
  show own_F p e below s Z _ _ _ _ _ (T10.setTop (mkF m 15 #[.val (.ref a1), .val (.int 4), .unset] [(.int 0)]))
  refine own_F.of (fun _ => XS.istoreN S10.here S10.hx rfl (S10.dec d1_15) rfl (l' := #[.val (.ref a1), .val (.int 4), .val (.int 0)]) rfl) ?_
  refine own_F.of (fun _ => XS.iloadN S10.here S10.hx rfl (S10.dec d1_16) rfl) ?_
  refine own_F.of (fun _ => XS.iloadN S10.here S10.hx rfl (S10.dec d1_17) rfl) ?_
  show own_F p e below s Z _ _ _ _ _ (T10.setTop (mkF m 18 #[.val (.ref a1), .val (.int 4), .val (.int 0)] [(.int 4), (.int 0)]))
  refine own_icmp S10 48 d1_18 (by decide) (by decide) (fun (hc18_11 : ¬ ((0 : Int32) < (4 : Int32))) => False.elim (absurd hc18_11 (by decide))) (fun (hc18_11 : (0 : Int32) < (4 : Int32)) => ?_)
  show own_F p e below s Z _ _ _ _ _ (T10.setTop (mkF m 21 #[.val (.ref a1), .val (.int 4), .val (.int 0)] []))
  refine own_F.of (fun _ => XS.aloadN S10.here S10.hx rfl (S10.dec d1_21) rfl rfl) ?_
  show own_F p e below s Z _ _ _ _ _ (T10.setTop (mkF m 22 #[.val (.ref a1), .val (.int 4), .val (.int 0)] [(.ref a1)]))
  refine own_getF S10 (host := "") (Or.inl (own_w hw 13 rfl)) Via.refl Fw10 d1_22 (fun T12 S12 => ?_)
  show own_F p e below s Z _ _ _ _ _ (T12.setTop (mkF m 25 #[.val (.ref a1), .val (.int 4), .val (.int 0)] [(.ref b2)]))
  refine own_F.of (fun _ => XS.iloadN S12.here S12.hx rfl (S12.dec d1_25) rfl) ?_
  show own_F p e below s Z _ _ _ _ _ (T12.setTop (mkF m 26 #[.val (.ref a1), .val (.int 4), .val (.int 0)] [(.int 0), (.ref b2)]))
  have fq13 := (V3.other W10 (Ne.symm neb2))
  refine own_aald S12 fq13 rfl (by decide) rfl d1_26 ?_
  show own_F p e below s Z _ _ _ _ _ (T12.setTop (mkF m 27 #[.val (.ref a1), .val (.int 4), .val (.int 0)] [(.ref ra2)]))
  refine own_ldcJ S12 (own_w hw 15 rfl) d1_27 ?_
  show own_F p e below s Z _ _ _ _ _ (T12.setTop (mkF m 30 #[.val (.ref a1), .val (.int 4), .val (.int 0)] [(.long (9223372036854775807 : Int64)), (.ref ra2)]))
  have fq14 := (V4.other W10 (Ne.symm nera2))
  refine own_callS S12 (y := (⟨"java/util/Arrays", "fill", "([JJ)V"⟩ : MethodName)) (own_w hw 16 rfl) (own_w hw 17 rfl) (own_w hw 18 rfl) (own_w hw 19 rfl) (by decide) (argsL := [(.ref ra2), (.long (9223372036854775807 : Int64))]) (rest := []) (own_fill l Z a0 hw ra2 h10 S12.old (own_mayN S12 (Or.inr (by rw [ga2]; exact Nat.le_trans S1.size (Nat.le_add_right _ _)))) fq14) (allS (Or.inr (by rw [ga2]; exact Nat.le_trans S1.size (Nat.le_add_right _ _))) all0) (by decide +kernel : parseMethodDescriptor "([JJ)V" = some ⟨[(.array .long), .long], none⟩) rfl rfl rfl d1_30 (by decide) (Nat.le_of_ble_eq_true rfl) (by decide) (by decide) (fun T15 h15 v15 S15 K15 q15 => ?_)
  obtain ⟨rfl, F15⟩ := q15
  have V16 : own_A Z h15 ra2 .long [(.long (9223372036854775807 : Int64)), (.long (9223372036854775807 : Int64)), (.long (9223372036854775807 : Int64)), (.long (9223372036854775807 : Int64))] := F15
  show own_F p e below s Z _ _ _ _ _ (T15.setTop (mkF m 33 #[.val (.ref a1), .val (.int 4), .val (.int 0)] []))
  refine own_F.of (fun _ => XS.aloadN S15.here S15.hx rfl (S15.dec d1_33) rfl rfl) ?_
  show own_F p e below s Z _ _ _ _ _ (T15.setTop (mkF m 34 #[.val (.ref a1), .val (.int 4), .val (.int 0)] [(.ref a1)]))
  have fq17 := (Fw10.keep K15 (ninS nera2 nin0))
  refine own_getF S15 (host := "") (Or.inl (own_w hw 13 rfl)) Via.refl fq17 d1_34 (fun T18 S18 => ?_)
  show own_F p e below s Z _ _ _ _ _ (T18.setTop (mkF m 37 #[.val (.ref a1), .val (.int 4), .val (.int 0)] [(.ref b2)]))
  refine own_F.of (fun _ => XS.iloadN S18.here S18.hx rfl (S18.dec d1_37) rfl) ?_
  show own_F p e below s Z _ _ _ _ _ (T18.setTop (mkF m 38 #[.val (.ref a1), .val (.int 4), .val (.int 0)] [(.int 0), (.ref b2)]))
  have fq19 := (fq13.keep K15 (ninS nb2ra2 nin0))
  refine own_aald S18 fq19 rfl (by decide) rfl d1_38 ?_
  show own_F p e below s Z _ _ _ _ _ (T18.setTop (mkF m 39 #[.val (.ref a1), .val (.int 4), .val (.int 0)] [(.ref ra2)]))
  refine own_F.of (fun _ => XS.iloadN S18.here S18.hx rfl (S18.dec d1_39) rfl) ?_
  refine own_F.of (fun _ => XS.lconst S18.here S18.hx rfl (S18.dec d1_40)) ?_
  show own_F p e below s Z _ _ _ _ _ (T18.setTop (mkF m 41 #[.val (.ref a1), .val (.int 4), .val (.int 0)] [(.long (0 : Int64)), (.int 0), (.ref ra2)]))
  refine own_jst S18 V16 (by decide) (Nat.le_of_ble_eq_true rfl) d1_41 (Or.inr (by rw [ga2]; exact Nat.le_trans S1.size (Nat.le_add_right _ _))) (fun T20 h20 S20 W20 A20 => ?_)
  have V21 : own_A Z h20 ra2 .long [(.long (0 : Int64)), (.long (9223372036854775807 : Int64)), (.long (9223372036854775807 : Int64)), (.long (9223372036854775807 : Int64))] := A20
  show own_F p e below s Z _ _ _ _ _ (T20.setTop (mkF m 42 #[.val (.ref a1), .val (.int 4), .val (.int 0)] []))
  refine own_F.of (fun _ => XS.iinc S20.here S20.hx rfl (S20.dec d1_42) rfl (l' := #[.val (.ref a1), .val (.int 4), .val (.int 1)]) rfl) ?_
  show own_F p e below s Z _ _ _ _ _ (T20.setTop (mkF m 45 #[.val (.ref a1), .val (.int 4), .val (.int 1)] []))
  refine own_F.of (fun _ => XS.goto S20.here S20.hx rfl (pc0 := 45) (pc' := 16) rfl (S20.dec d1_45) (by decide) (by decide)) ?_
  show own_F p e below s Z _ _ _ _ _ (T20.setTop (mkF m 16 #[.val (.ref a1), .val (.int 4), .val (.int 1)] []))
  refine own_F.of (fun _ => XS.iloadN S20.here S20.hx rfl (S20.dec d1_16) rfl) ?_
  refine own_F.of (fun _ => XS.iloadN S20.here S20.hx rfl (S20.dec d1_17) rfl) ?_
  show own_F p e below s Z _ _ _ _ _ (T20.setTop (mkF m 18 #[.val (.ref a1), .val (.int 4), .val (.int 1)] [(.int 4), (.int 1)]))
  refine own_icmp S20 48 d1_18 (by decide) (by decide) (fun (hc18_22 : ¬ ((1 : Int32) < (4 : Int32))) => False.elim (absurd hc18_22 (by decide))) (fun (hc18_22 : (1 : Int32) < (4 : Int32)) => ?_)
  show own_F p e below s Z _ _ _ _ _ (T20.setTop (mkF m 21 #[.val (.ref a1), .val (.int 4), .val (.int 1)] []))
  refine own_F.of (fun _ => XS.aloadN S20.here S20.hx rfl (S20.dec d1_21) rfl rfl) ?_
  show own_F p e below s Z _ _ _ _ _ (T20.setTop (mkF m 22 #[.val (.ref a1), .val (.int 4), .val (.int 1)] [(.ref a1)]))
  have fq23 := (fq17.other W20 (Or.inl nera2))
  refine own_getF S20 (host := "") (Or.inl (own_w hw 13 rfl)) Via.refl fq23 d1_22 (fun T24 S24 => ?_)
  show own_F p e below s Z _ _ _ _ _ (T24.setTop (mkF m 25 #[.val (.ref a1), .val (.int 4), .val (.int 1)] [(.ref b2)]))
  refine own_F.of (fun _ => XS.iloadN S24.here S24.hx rfl (S24.dec d1_25) rfl) ?_
  show own_F p e below s Z _ _ _ _ _ (T24.setTop (mkF m 26 #[.val (.ref a1), .val (.int 4), .val (.int 1)] [(.int 1), (.ref b2)]))
  have fq25 := (fq19.other W20 nb2ra2)
  refine own_aald S24 fq25 rfl (by decide) rfl d1_26 ?_
  show own_F p e below s Z _ _ _ _ _ (T24.setTop (mkF m 27 #[.val (.ref a1), .val (.int 4), .val (.int 1)] [(.ref rb2)]))
  refine own_ldcJ S24 (own_w hw 15 rfl) d1_27 ?_
  show own_F p e below s Z _ _ _ _ _ (T24.setTop (mkF m 30 #[.val (.ref a1), .val (.int 4), .val (.int 1)] [(.long (9223372036854775807 : Int64)), (.ref rb2)]))
  have fq26 := (((V5.other W10 (Ne.symm nerb2)).keep K15 (ninS (Ne.symm nra2rb2) nin0)).other W20 (Ne.symm nra2rb2))
  refine own_callS S24 (y := (⟨"java/util/Arrays", "fill", "([JJ)V"⟩ : MethodName)) (own_w hw 16 rfl) (own_w hw 17 rfl) (own_w hw 18 rfl) (own_w hw 19 rfl) (by decide) (argsL := [(.ref rb2), (.long (9223372036854775807 : Int64))]) (rest := []) (own_fill l Z a0 hw rb2 h20 S24.old (own_mayN S24 (Or.inr (by rw [gb2]; exact Nat.le_trans S1.size (Nat.le_add_right _ _)))) fq26) (allS (Or.inr (by rw [gb2]; exact Nat.le_trans S1.size (Nat.le_add_right _ _))) all0) (by decide +kernel : parseMethodDescriptor "([JJ)V" = some ⟨[(.array .long), .long], none⟩) rfl rfl rfl d1_30 (by decide) (Nat.le_of_ble_eq_true rfl) (by decide) (by decide) (fun T27 h27 v27 S27 K27 q27 => ?_)
  obtain ⟨rfl, F27⟩ := q27
  have V28 : own_A Z h27 rb2 .long [(.long (9223372036854775807 : Int64)), (.long (9223372036854775807 : Int64)), (.long (9223372036854775807 : Int64)), (.long (9223372036854775807 : Int64))] := F27
  show own_F p e below s Z _ _ _ _ _ (T27.setTop (mkF m 33 #[.val (.ref a1), .val (.int 4), .val (.int 1)] []))
  refine own_F.of (fun _ => XS.aloadN S27.here S27.hx rfl (S27.dec d1_33) rfl rfl) ?_
  show own_F p e below s Z _ _ _ _ _ (T27.setTop (mkF m 34 #[.val (.ref a1), .val (.int 4), .val (.int 1)] [(.ref a1)]))
  have fq29 := (fq23.keep K27 (ninS nerb2 nin0))
  refine own_getF S27 (host := "") (Or.inl (own_w hw 13 rfl)) Via.refl fq29 d1_34 (fun T30 S30 => ?_)
  show own_F p e below s Z _ _ _ _ _ (T30.setTop (mkF m 37 #[.val (.ref a1), .val (.int 4), .val (.int 1)] [(.ref b2)]))
  refine own_F.of (fun _ => XS.iloadN S30.here S30.hx rfl (S30.dec d1_37) rfl) ?_
  show own_F p e below s Z _ _ _ _ _ (T30.setTop (mkF m 38 #[.val (.ref a1), .val (.int 4), .val (.int 1)] [(.int 1), (.ref b2)]))
  have fq31 := (fq25.keep K27 (ninS nb2rb2 nin0))
  refine own_aald S30 fq31 rfl (by decide) rfl d1_38 ?_
  show own_F p e below s Z _ _ _ _ _ (T30.setTop (mkF m 39 #[.val (.ref a1), .val (.int 4), .val (.int 1)] [(.ref rb2)]))
  refine own_F.of (fun _ => XS.iloadN S30.here S30.hx rfl (S30.dec d1_39) rfl) ?_
  refine own_F.of (fun _ => XS.lconst S30.here S30.hx rfl (S30.dec d1_40)) ?_
  show own_F p e below s Z _ _ _ _ _ (T30.setTop (mkF m 41 #[.val (.ref a1), .val (.int 4), .val (.int 1)] [(.long (0 : Int64)), (.int 1), (.ref rb2)]))
  refine own_jst S30 V28 (by decide) (Nat.le_of_ble_eq_true rfl) d1_41 (Or.inr (by rw [gb2]; exact Nat.le_trans S1.size (Nat.le_add_right _ _))) (fun T32 h32 S32 W32 A32 => ?_)
  have V33 : own_A Z h32 rb2 .long [(.long (9223372036854775807 : Int64)), (.long (0 : Int64)), (.long (9223372036854775807 : Int64)), (.long (9223372036854775807 : Int64))] := A32
  show own_F p e below s Z _ _ _ _ _ (T32.setTop (mkF m 42 #[.val (.ref a1), .val (.int 4), .val (.int 1)] []))
  refine own_F.of (fun _ => XS.iinc S32.here S32.hx rfl (S32.dec d1_42) rfl (l' := #[.val (.ref a1), .val (.int 4), .val (.int 2)]) rfl) ?_
  show own_F p e below s Z _ _ _ _ _ (T32.setTop (mkF m 45 #[.val (.ref a1), .val (.int 4), .val (.int 2)] []))
  refine own_F.of (fun _ => XS.goto S32.here S32.hx rfl (pc0 := 45) (pc' := 16) rfl (S32.dec d1_45) (by decide) (by decide)) ?_
  show own_F p e below s Z _ _ _ _ _ (T32.setTop (mkF m 16 #[.val (.ref a1), .val (.int 4), .val (.int 2)] []))
  refine own_F.of (fun _ => XS.iloadN S32.here S32.hx rfl (S32.dec d1_16) rfl) ?_
  refine own_F.of (fun _ => XS.iloadN S32.here S32.hx rfl (S32.dec d1_17) rfl) ?_
  show own_F p e below s Z _ _ _ _ _ (T32.setTop (mkF m 18 #[.val (.ref a1), .val (.int 4), .val (.int 2)] [(.int 4), (.int 2)]))
  refine own_icmp S32 48 d1_18 (by decide) (by decide) (fun (hc18_34 : ¬ ((2 : Int32) < (4 : Int32))) => False.elim (absurd hc18_34 (by decide))) (fun (hc18_34 : (2 : Int32) < (4 : Int32)) => ?_)
  show own_F p e below s Z _ _ _ _ _ (T32.setTop (mkF m 21 #[.val (.ref a1), .val (.int 4), .val (.int 2)] []))
  refine own_F.of (fun _ => XS.aloadN S32.here S32.hx rfl (S32.dec d1_21) rfl rfl) ?_
  show own_F p e below s Z _ _ _ _ _ (T32.setTop (mkF m 22 #[.val (.ref a1), .val (.int 4), .val (.int 2)] [(.ref a1)]))
  have fq35 := (fq29.other W32 (Or.inl nerb2))
  refine own_getF S32 (host := "") (Or.inl (own_w hw 13 rfl)) Via.refl fq35 d1_22 (fun T36 S36 => ?_)
  show own_F p e below s Z _ _ _ _ _ (T36.setTop (mkF m 25 #[.val (.ref a1), .val (.int 4), .val (.int 2)] [(.ref b2)]))
  refine own_F.of (fun _ => XS.iloadN S36.here S36.hx rfl (S36.dec d1_25) rfl) ?_
  show own_F p e below s Z _ _ _ _ _ (T36.setTop (mkF m 26 #[.val (.ref a1), .val (.int 4), .val (.int 2)] [(.int 2), (.ref b2)]))
  have fq37 := (fq31.other W32 nb2rb2)
  refine own_aald S36 fq37 rfl (by decide) rfl d1_26 ?_
  show own_F p e below s Z _ _ _ _ _ (T36.setTop (mkF m 27 #[.val (.ref a1), .val (.int 4), .val (.int 2)] [(.ref rc2)]))
  refine own_ldcJ S36 (own_w hw 15 rfl) d1_27 ?_
  show own_F p e below s Z _ _ _ _ _ (T36.setTop (mkF m 30 #[.val (.ref a1), .val (.int 4), .val (.int 2)] [(.long (9223372036854775807 : Int64)), (.ref rc2)]))
  have fq38 := (((((V6.other W10 (Ne.symm nerc2)).keep K15 (ninS (Ne.symm nra2rc2) nin0)).other W20 (Ne.symm nra2rc2)).keep K27 (ninS (Ne.symm nrb2rc2) nin0)).other W32 (Ne.symm nrb2rc2))
  refine own_callS S36 (y := (⟨"java/util/Arrays", "fill", "([JJ)V"⟩ : MethodName)) (own_w hw 16 rfl) (own_w hw 17 rfl) (own_w hw 18 rfl) (own_w hw 19 rfl) (by decide) (argsL := [(.ref rc2), (.long (9223372036854775807 : Int64))]) (rest := []) (own_fill l Z a0 hw rc2 h32 S36.old (own_mayN S36 (Or.inr (by rw [gc2]; exact Nat.le_trans S1.size (Nat.le_add_right _ _)))) fq38) (allS (Or.inr (by rw [gc2]; exact Nat.le_trans S1.size (Nat.le_add_right _ _))) all0) (by decide +kernel : parseMethodDescriptor "([JJ)V" = some ⟨[(.array .long), .long], none⟩) rfl rfl rfl d1_30 (by decide) (Nat.le_of_ble_eq_true rfl) (by decide) (by decide) (fun T39 h39 v39 S39 K39 q39 => ?_)
  obtain ⟨rfl, F39⟩ := q39
  have V40 : own_A Z h39 rc2 .long [(.long (9223372036854775807 : Int64)), (.long (9223372036854775807 : Int64)), (.long (9223372036854775807 : Int64)), (.long (9223372036854775807 : Int64))] := F39
  show own_F p e below s Z _ _ _ _ _ (T39.setTop (mkF m 33 #[.val (.ref a1), .val (.int 4), .val (.int 2)] []))
  refine own_F.of (fun _ => XS.aloadN S39.here S39.hx rfl (S39.dec d1_33) rfl rfl) ?_
  show own_F p e below s Z _ _ _ _ _ (T39.setTop (mkF m 34 #[.val (.ref a1), .val (.int 4), .val (.int 2)] [(.ref a1)]))
  have fq41 := (fq35.keep K39 (ninS nerc2 nin0))
  refine own_getF S39 (host := "") (Or.inl (own_w hw 13 rfl)) Via.refl fq41 d1_34 (fun T42 S42 => ?_)
  show own_F p e below s Z _ _ _ _ _ (T42.setTop (mkF m 37 #[.val (.ref a1), .val (.int 4), .val (.int 2)] [(.ref b2)]))
  refine own_F.of (fun _ => XS.iloadN S42.here S42.hx rfl (S42.dec d1_37) rfl) ?_
  show own_F p e below s Z _ _ _ _ _ (T42.setTop (mkF m 38 #[.val (.ref a1), .val (.int 4), .val (.int 2)] [(.int 2), (.ref b2)]))
  have fq43 := (fq37.keep K39 (ninS nb2rc2 nin0))
  refine own_aald S42 fq43 rfl (by decide) rfl d1_38 ?_
  show own_F p e below s Z _ _ _ _ _ (T42.setTop (mkF m 39 #[.val (.ref a1), .val (.int 4), .val (.int 2)] [(.ref rc2)]))
  refine own_F.of (fun _ => XS.iloadN S42.here S42.hx rfl (S42.dec d1_39) rfl) ?_
  refine own_F.of (fun _ => XS.lconst S42.here S42.hx rfl (S42.dec d1_40)) ?_
  show own_F p e below s Z _ _ _ _ _ (T42.setTop (mkF m 41 #[.val (.ref a1), .val (.int 4), .val (.int 2)] [(.long (0 : Int64)), (.int 2), (.ref rc2)]))
  refine own_jst S42 V40 (by decide) (Nat.le_of_ble_eq_true rfl) d1_41 (Or.inr (by rw [gc2]; exact Nat.le_trans S1.size (Nat.le_add_right _ _))) (fun T44 h44 S44 W44 A44 => ?_)
  have V45 : own_A Z h44 rc2 .long [(.long (9223372036854775807 : Int64)), (.long (9223372036854775807 : Int64)), (.long (0 : Int64)), (.long (9223372036854775807 : Int64))] := A44
  show own_F p e below s Z _ _ _ _ _ (T44.setTop (mkF m 42 #[.val (.ref a1), .val (.int 4), .val (.int 2)] []))
  refine own_F.of (fun _ => XS.iinc S44.here S44.hx rfl (S44.dec d1_42) rfl (l' := #[.val (.ref a1), .val (.int 4), .val (.int 3)]) rfl) ?_
  show own_F p e below s Z _ _ _ _ _ (T44.setTop (mkF m 45 #[.val (.ref a1), .val (.int 4), .val (.int 3)] []))
  refine own_F.of (fun _ => XS.goto S44.here S44.hx rfl (pc0 := 45) (pc' := 16) rfl (S44.dec d1_45) (by decide) (by decide)) ?_
  show own_F p e below s Z _ _ _ _ _ (T44.setTop (mkF m 16 #[.val (.ref a1), .val (.int 4), .val (.int 3)] []))
  refine own_F.of (fun _ => XS.iloadN S44.here S44.hx rfl (S44.dec d1_16) rfl) ?_
  refine own_F.of (fun _ => XS.iloadN S44.here S44.hx rfl (S44.dec d1_17) rfl) ?_
  show own_F p e below s Z _ _ _ _ _ (T44.setTop (mkF m 18 #[.val (.ref a1), .val (.int 4), .val (.int 3)] [(.int 4), (.int 3)]))
  refine own_icmp S44 48 d1_18 (by decide) (by decide) (fun (hc18_46 : ¬ ((3 : Int32) < (4 : Int32))) => False.elim (absurd hc18_46 (by decide))) (fun (hc18_46 : (3 : Int32) < (4 : Int32)) => ?_)
  show own_F p e below s Z _ _ _ _ _ (T44.setTop (mkF m 21 #[.val (.ref a1), .val (.int 4), .val (.int 3)] []))
  refine own_F.of (fun _ => XS.aloadN S44.here S44.hx rfl (S44.dec d1_21) rfl rfl) ?_
  show own_F p e below s Z _ _ _ _ _ (T44.setTop (mkF m 22 #[.val (.ref a1), .val (.int 4), .val (.int 3)] [(.ref a1)]))
  have fq47 := (fq41.other W44 (Or.inl nerc2))
  refine own_getF S44 (host := "") (Or.inl (own_w hw 13 rfl)) Via.refl fq47 d1_22 (fun T48 S48 => ?_)
  show own_F p e below s Z _ _ _ _ _ (T48.setTop (mkF m 25 #[.val (.ref a1), .val (.int 4), .val (.int 3)] [(.ref b2)]))
  refine own_F.of (fun _ => XS.iloadN S48.here S48.hx rfl (S48.dec d1_25) rfl) ?_
  show own_F p e below s Z _ _ _ _ _ (T48.setTop (mkF m 26 #[.val (.ref a1), .val (.int 4), .val (.int 3)] [(.int 3), (.ref b2)]))
  have fq49 := (fq43.other W44 nb2rc2)
  refine own_aald S48 fq49 rfl (by decide) rfl d1_26 ?_
  show own_F p e below s Z _ _ _ _ _ (T48.setTop (mkF m 27 #[.val (.ref a1), .val (.int 4), .val (.int 3)] [(.ref rd2)]))
  refine own_ldcJ S48 (own_w hw 15 rfl) d1_27 ?_
  show own_F p e below s Z _ _ _ _ _ (T48.setTop (mkF m 30 #[.val (.ref a1), .val (.int 4), .val (.int 3)] [(.long (9223372036854775807 : Int64)), (.ref rd2)]))
  have fq50 := (((((((V7.other W10 (Ne.symm nerd2)).keep K15 (ninS (Ne.symm nra2rd2) nin0)).other W20 (Ne.symm nra2rd2)).keep K27 (ninS (Ne.symm nrb2rd2) nin0)).other W32 (Ne.symm nrb2rd2)).keep K39 (ninS (Ne.symm nrc2rd2) nin0)).other W44 (Ne.symm nrc2rd2))
  refine own_callS S48 (y := (⟨"java/util/Arrays", "fill", "([JJ)V"⟩ : MethodName)) (own_w hw 16 rfl) (own_w hw 17 rfl) (own_w hw 18 rfl) (own_w hw 19 rfl) (by decide) (argsL := [(.ref rd2), (.long (9223372036854775807 : Int64))]) (rest := []) (own_fill l Z a0 hw rd2 h44 S48.old (own_mayN S48 (Or.inr (by rw [gd2]; exact Nat.le_trans S1.size (Nat.le_add_right _ _)))) fq50) (allS (Or.inr (by rw [gd2]; exact Nat.le_trans S1.size (Nat.le_add_right _ _))) all0) (by decide +kernel : parseMethodDescriptor "([JJ)V" = some ⟨[(.array .long), .long], none⟩) rfl rfl rfl d1_30 (by decide) (Nat.le_of_ble_eq_true rfl) (by decide) (by decide) (fun T51 h51 v51 S51 K51 q51 => ?_)
  obtain ⟨rfl, F51⟩ := q51
  have V52 : own_A Z h51 rd2 .long [(.long (9223372036854775807 : Int64)), (.long (9223372036854775807 : Int64)), (.long (9223372036854775807 : Int64)), (.long (9223372036854775807 : Int64))] := F51
  show own_F p e below s Z _ _ _ _ _ (T51.setTop (mkF m 33 #[.val (.ref a1), .val (.int 4), .val (.int 3)] []))
  refine own_F.of (fun _ => XS.aloadN S51.here S51.hx rfl (S51.dec d1_33) rfl rfl) ?_
  show own_F p e below s Z _ _ _ _ _ (T51.setTop (mkF m 34 #[.val (.ref a1), .val (.int 4), .val (.int 3)] [(.ref a1)]))
  have fq53 := (fq47.keep K51 (ninS nerd2 nin0))
  refine own_getF S51 (host := "") (Or.inl (own_w hw 13 rfl)) Via.refl fq53 d1_34 (fun T54 S54 => ?_)
  show own_F p e below s Z _ _ _ _ _ (T54.setTop (mkF m 37 #[.val (.ref a1), .val (.int 4), .val (.int 3)] [(.ref b2)]))
  refine own_F.of (fun _ => XS.iloadN S54.here S54.hx rfl (S54.dec d1_37) rfl) ?_
  show own_F p e below s Z _ _ _ _ _ (T54.setTop (mkF m 38 #[.val (.ref a1), .val (.int 4), .val (.int 3)] [(.int 3), (.ref b2)]))
  have fq55 := (fq49.keep K51 (ninS nb2rd2 nin0))
  refine own_aald S54 fq55 rfl (by decide) rfl d1_38 ?_
  show own_F p e below s Z _ _ _ _ _ (T54.setTop (mkF m 39 #[.val (.ref a1), .val (.int 4), .val (.int 3)] [(.ref rd2)]))
  refine own_F.of (fun _ => XS.iloadN S54.here S54.hx rfl (S54.dec d1_39) rfl) ?_
  refine own_F.of (fun _ => XS.lconst S54.here S54.hx rfl (S54.dec d1_40)) ?_
  show own_F p e below s Z _ _ _ _ _ (T54.setTop (mkF m 41 #[.val (.ref a1), .val (.int 4), .val (.int 3)] [(.long (0 : Int64)), (.int 3), (.ref rd2)]))
  refine own_jst S54 V52 (by decide) (Nat.le_of_ble_eq_true rfl) d1_41 (Or.inr (by rw [gd2]; exact Nat.le_trans S1.size (Nat.le_add_right _ _))) (fun T56 h56 S56 W56 A56 => ?_)
  have V57 : own_A Z h56 rd2 .long [(.long (9223372036854775807 : Int64)), (.long (9223372036854775807 : Int64)), (.long (9223372036854775807 : Int64)), (.long (0 : Int64))] := A56
  show own_F p e below s Z _ _ _ _ _ (T56.setTop (mkF m 42 #[.val (.ref a1), .val (.int 4), .val (.int 3)] []))
  refine own_F.of (fun _ => XS.iinc S56.here S56.hx rfl (S56.dec d1_42) rfl (l' := #[.val (.ref a1), .val (.int 4), .val (.int 4)]) rfl) ?_
  show own_F p e below s Z _ _ _ _ _ (T56.setTop (mkF m 45 #[.val (.ref a1), .val (.int 4), .val (.int 4)] []))
  refine own_F.of (fun _ => XS.goto S56.here S56.hx rfl (pc0 := 45) (pc' := 16) rfl (S56.dec d1_45) (by decide) (by decide)) ?_
  show own_F p e below s Z _ _ _ _ _ (T56.setTop (mkF m 16 #[.val (.ref a1), .val (.int 4), .val (.int 4)] []))
  refine own_F.of (fun _ => XS.iloadN S56.here S56.hx rfl (S56.dec d1_16) rfl) ?_
  refine own_F.of (fun _ => XS.iloadN S56.here S56.hx rfl (S56.dec d1_17) rfl) ?_
  show own_F p e below s Z _ _ _ _ _ (T56.setTop (mkF m 18 #[.val (.ref a1), .val (.int 4), .val (.int 4)] [(.int 4), (.int 4)]))
  refine own_icmp S56 48 d1_18 (by decide) (by decide) (fun (hc18_58 : ¬ ((4 : Int32) < (4 : Int32))) => ?_) (fun (hc18_58 : (4 : Int32) < (4 : Int32)) => False.elim (absurd hc18_58 (by decide)))
  show own_F p e below s Z _ _ _ _ _ (T56.setTop (mkF m 48 #[.val (.ref a1), .val (.int 4), .val (.int 4)] []))
  have fq59 := ((((((V21.keep K27 (ninS nra2rb2 nin0)).other W32 nra2rb2).keep K39 (ninS nra2rc2 nin0)).other W44 nra2rc2).keep K51 (ninS nra2rd2 nin0)).other W56 nra2rd2)
  have R0_ : own_A Z h56 ra2 .long (own_row own_D0 0) := fq59
  have fq60 := ((((V33.keep K39 (ninS nrb2rc2 nin0)).other W44 nrb2rc2).keep K51 (ninS nrb2rd2 nin0)).other W56 nrb2rd2)
  have R1_ : own_A Z h56 rb2 .long (own_row own_D0 1) := fq60
  have fq61 := ((V45.keep K51 (ninS nrc2rd2 nin0)).other W56 nrc2rd2)
  have R2_ : own_A Z h56 rc2 .long (own_row own_D0 2) := fq61
  have R3_ : own_A Z h56 rd2 .long (own_row own_D0 3) := V57
  have lra2 : h0.size ≤ ra2 := own_leN (s := Array.size h0) (i := 1) zs2 ga2
  have lrb2 : h0.size ≤ rb2 := own_leN (s := Array.size h0) (i := 2) zs2 gb2
  have lrc2 : h0.size ≤ rc2 := own_leN (s := Array.size h0) (i := 3) zs2 gc2
  have lrd2 : h0.size ≤ rd2 := own_leN (s := Array.size h0) (i := 4) zs2 gd2
  have fq62 := (fq53.other W56 (Or.inl nerd2))
  have fq63 := (fq55.other W56 nb2rd2)
  refine own_retV S56 d1_48 (by decide) (by decide) ?_
  exact ⟨rfl, b2, (own_R4 ra2 rb2 rc2 rd2), own_all4 lra2 lrb2 lrc2 lrd2, own_inj4 nra2rb2 nra2rc2 nra2rd2 nrb2rc2 nrb2rd2 nrc2rd2, fq62, fq63, own_all4 R0_ R1_ R2_ R3_⟩
theorem pn0 : plainFor x = true := plainFor_of_name (by first | (simp [plainName, overriddenIn]; done) | decide +kernel)
set_option maxRecDepth 65536 in
set_option maxHeartbeats 40000000 in
theorem own_law (l : Launch) (Z : State) (a0 : Array Value) (hw : ∀ d ∈ tables_1, d.before a0 Z = true) (e1 : Int32) (m1 : Int64) (e2 : Int32) (m2 : Int64) (e3 : Int32) (m3 : Int64) (h0 : Heap) (hO : Ext Z.heap h0) :
    own_C l Z x code maxLocals ret tables_1 room_1 (own_news Z h0) #[(.int e1), (.long m1), (.int e2), (.long m2), (.int e3), (.long m3)] h0 (fun v _ => v = some (.int 1)) := by
  refine own_C.of pn0 hO own_news_le ?_
  intro p e s m below meth c T0 S0
  refine own_F.cast (by first | (simp [entryFrame, mkF, argsToLocals, Value.category, maxLocals]; done) | rfl : entryFrame m #[(.int e1), (.long m1), (.int e2), (.long m2), (.int e3), (.long m3)] maxLocals = mkF m 0 #[.val (.int e1), .val (.long m1), .second, .val (.int e2), .val (.long m2), .second, .val (.int e3), .val (.long m3), .second, .unset, .unset, .unset, .unset, .unset, .unset, .unset, .unset, .unset, .unset, .unset, .unset, .unset, .unset, .unset, .unset, .unset, .unset, .unset] []) ?_
  show own_F p e below s Z _ _ _ _ _ (T0.setTop (mkF m 0 #[.val (.int e1), .val (.long m1), .second, .val (.int e2), .val (.long m2), .second, .val (.int e3), .val (.long m3), .second, .unset, .unset, .unset, .unset, .unset, .unset, .unset, .unset, .unset, .unset, .unset, .unset, .unset, .unset, .unset, .unset, .unset, .unset, .unset] []))
  refine own_ldcJ S0 (own_w hw 0 rfl) at_0 ?_
  show own_F p e below s Z _ _ _ _ _ (T0.setTop (mkF m 3 #[.val (.int e1), .val (.long m1), .second, .val (.int e2), .val (.long m2), .second, .val (.int e3), .val (.long m3), .second, .unset, .unset, .unset, .unset, .unset, .unset, .unset, .unset, .unset, .unset, .unset, .unset, .unset, .unset, .unset, .unset, .unset, .unset, .unset] [(.long (9223372036854775807 : Int64))]))
  refine own_F.of (fun _ => XS.lstore S0.here S0.hx rfl (S0.dec at_3) rfl (l' := #[.val (.int e1), .val (.long m1), .second, .val (.int e2), .val (.long m2), .second, .val (.int e3), .val (.long m3), .second, .val (.long (9223372036854775807 : Int64)), .second, .unset, .unset, .unset, .unset, .unset, .unset, .unset, .unset, .unset, .unset, .unset, .unset, .unset, .unset, .unset, .unset, .unset]) rfl) ?_
  refine own_F.of (fun _ => XS.bipush S0.here S0.hx rfl (S0.dec at_5)) ?_
  show own_F p e below s Z _ _ _ _ _ (T0.setTop (mkF m 7 #[.val (.int e1), .val (.long m1), .second, .val (.int e2), .val (.long m2), .second, .val (.int e3), .val (.long m3), .second, .val (.long (9223372036854775807 : Int64)), .second, .unset, .unset, .unset, .unset, .unset, .unset, .unset, .unset, .unset, .unset, .unset, .unset, .unset, .unset, .unset, .unset, .unset] [(.int 16)]))
  refine own_newP S0 (own_w hw 1 rfl) at_7 (by decide) (cap := 16) (by decide) (by decide) (by decide) (by decide) (fun T1 h1 b1 g1 S1 E1 A1 => ?_)
  have V2 : own_A Z h1 b1 .long [(.long (0 : Int64)), (.long (0 : Int64)), (.long (0 : Int64)), (.long (0 : Int64)), (.long (0 : Int64)), (.long (0 : Int64)), (.long (0 : Int64)), (.long (0 : Int64)), (.long (0 : Int64)), (.long (0 : Int64)), (.long (0 : Int64)), (.long (0 : Int64)), (.long (0 : Int64)), (.long (0 : Int64)), (.long (0 : Int64)), (.long (0 : Int64))] := A1
  show own_F p e below s Z _ _ _ _ _ (T1.setTop (mkF m 9 #[.val (.int e1), .val (.long m1), .second, .val (.int e2), .val (.long m2), .second, .val (.int e3), .val (.long m3), .second, .val (.long (9223372036854775807 : Int64)), .second, .unset, .unset, .unset, .unset, .unset, .unset, .unset, .unset, .unset, .unset, .unset, .unset, .unset, .unset, .unset, .unset, .unset] [(.ref b1)]))
  refine own_F.of (fun _ => XS.dup S1.here S1.hx rfl (S1.dec at_9) rfl rfl) ?_
  refine own_F.of (fun _ => XS.iconst S1.here S1.hx rfl (S1.dec at_10)) ?_
  refine own_F.of (fun _ => XS.lload S1.here S1.hx rfl (S1.dec at_11) rfl) ?_
  show own_F p e below s Z _ _ _ _ _ (T1.setTop (mkF m 13 #[.val (.int e1), .val (.long m1), .second, .val (.int e2), .val (.long m2), .second, .val (.int e3), .val (.long m3), .second, .val (.long (9223372036854775807 : Int64)), .second, .unset, .unset, .unset, .unset, .unset, .unset, .unset, .unset, .unset, .unset, .unset, .unset, .unset, .unset, .unset, .unset, .unset] [(.long (9223372036854775807 : Int64)), (.int 0), (.ref b1), (.ref b1)]))
  refine own_jst S1 V2 (by decide) (Nat.le_of_ble_eq_true rfl) at_13 (Or.inr (by rw [g1]; exact S0.size)) (fun T3 h3 S3 W3 A3 => ?_)
  have V4 : own_A Z h3 b1 .long [(.long (9223372036854775807 : Int64)), (.long (0 : Int64)), (.long (0 : Int64)), (.long (0 : Int64)), (.long (0 : Int64)), (.long (0 : Int64)), (.long (0 : Int64)), (.long (0 : Int64)), (.long (0 : Int64)), (.long (0 : Int64)), (.long (0 : Int64)), (.long (0 : Int64)), (.long (0 : Int64)), (.long (0 : Int64)), (.long (0 : Int64)), (.long (0 : Int64))] := A3
  show own_F p e below s Z _ _ _ _ _ (T3.setTop (mkF m 14 #[.val (.int e1), .val (.long m1), .second, .val (.int e2), .val (.long m2), .second, .val (.int e3), .val (.long m3), .second, .val (.long (9223372036854775807 : Int64)), .second, .unset, .unset, .unset, .unset, .unset, .unset, .unset, .unset, .unset, .unset, .unset, .unset, .unset, .unset, .unset, .unset, .unset] [(.ref b1)]))
  refine own_F.of (fun _ => XS.dup S3.here S3.hx rfl (S3.dec at_14) rfl rfl) ?_
  refine own_F.of (fun _ => XS.iconst S3.here S3.hx rfl (S3.dec at_15)) ?_
  refine own_F.of (fun _ => XS.lload S3.here S3.hx rfl (S3.dec at_16) rfl) ?_
  show own_F p e below s Z _ _ _ _ _ (T3.setTop (mkF m 18 #[.val (.int e1), .val (.long m1), .second, .val (.int e2), .val (.long m2), .second, .val (.int e3), .val (.long m3), .second, .val (.long (9223372036854775807 : Int64)), .second, .unset, .unset, .unset, .unset, .unset, .unset, .unset, .unset, .unset, .unset, .unset, .unset, .unset, .unset, .unset, .unset, .unset] [(.long (9223372036854775807 : Int64)), (.int 1), (.ref b1), (.ref b1)]))
  refine own_jst S3 V4 (by decide) (Nat.le_of_ble_eq_true rfl) at_18 (Or.inr (by rw [g1]; exact S0.size)) (fun T5 h5 S5 W5 A5 => ?_)
  have V6 : own_A Z h5 b1 .long [(.long (9223372036854775807 : Int64)), (.long (9223372036854775807 : Int64)), (.long (0 : Int64)), (.long (0 : Int64)), (.long (0 : Int64)), (.long (0 : Int64)), (.long (0 : Int64)), (.long (0 : Int64)), (.long (0 : Int64)), (.long (0 : Int64)), (.long (0 : Int64)), (.long (0 : Int64)), (.long (0 : Int64)), (.long (0 : Int64)), (.long (0 : Int64)), (.long (0 : Int64))] := A5
  show own_F p e below s Z _ _ _ _ _ (T5.setTop (mkF m 19 #[.val (.int e1), .val (.long m1), .second, .val (.int e2), .val (.long m2), .second, .val (.int e3), .val (.long m3), .second, .val (.long (9223372036854775807 : Int64)), .second, .unset, .unset, .unset, .unset, .unset, .unset, .unset, .unset, .unset, .unset, .unset, .unset, .unset, .unset, .unset, .unset, .unset] [(.ref b1)]))
  refine own_F.of (fun _ => XS.dup S5.here S5.hx rfl (S5.dec at_19) rfl rfl) ?_
  refine own_F.of (fun _ => XS.iconst S5.here S5.hx rfl (S5.dec at_20)) ?_
  refine own_F.of (fun _ => XS.lload S5.here S5.hx rfl (S5.dec at_21) rfl) ?_
  show own_F p e below s Z _ _ _ _ _ (T5.setTop (mkF m 23 #[.val (.int e1), .val (.long m1), .second, .val (.int e2), .val (.long m2), .second, .val (.int e3), .val (.long m3), .second, .val (.long (9223372036854775807 : Int64)), .second, .unset, .unset, .unset, .unset, .unset, .unset, .unset, .unset, .unset, .unset, .unset, .unset, .unset, .unset, .unset, .unset, .unset] [(.long (9223372036854775807 : Int64)), (.int 2), (.ref b1), (.ref b1)]))
  refine own_jst S5 V6 (by decide) (Nat.le_of_ble_eq_true rfl) at_23 (Or.inr (by rw [g1]; exact S0.size)) (fun T7 h7 S7 W7 A7 => ?_)
  have V8 : own_A Z h7 b1 .long [(.long (9223372036854775807 : Int64)), (.long (9223372036854775807 : Int64)), (.long (9223372036854775807 : Int64)), (.long (0 : Int64)), (.long (0 : Int64)), (.long (0 : Int64)), (.long (0 : Int64)), (.long (0 : Int64)), (.long (0 : Int64)), (.long (0 : Int64)), (.long (0 : Int64)), (.long (0 : Int64)), (.long (0 : Int64)), (.long (0 : Int64)), (.long (0 : Int64)), (.long (0 : Int64))] := A7
  show own_F p e below s Z _ _ _ _ _ (T7.setTop (mkF m 24 #[.val (.int e1), .val (.long m1), .second, .val (.int e2), .val (.long m2), .second, .val (.int e3), .val (.long m3), .second, .val (.long (9223372036854775807 : Int64)), .second, .unset, .unset, .unset, .unset, .unset, .unset, .unset, .unset, .unset, .unset, .unset, .unset, .unset, .unset, .unset, .unset, .unset] [(.ref b1)]))
  refine own_F.of (fun _ => XS.dup S7.here S7.hx rfl (S7.dec at_24) rfl rfl) ?_
  refine own_F.of (fun _ => XS.iconst S7.here S7.hx rfl (S7.dec at_25)) ?_
  refine own_F.of (fun _ => XS.lload S7.here S7.hx rfl (S7.dec at_26) rfl) ?_
  show own_F p e below s Z _ _ _ _ _ (T7.setTop (mkF m 28 #[.val (.int e1), .val (.long m1), .second, .val (.int e2), .val (.long m2), .second, .val (.int e3), .val (.long m3), .second, .val (.long (9223372036854775807 : Int64)), .second, .unset, .unset, .unset, .unset, .unset, .unset, .unset, .unset, .unset, .unset, .unset, .unset, .unset, .unset, .unset, .unset, .unset] [(.long (9223372036854775807 : Int64)), (.int 3), (.ref b1), (.ref b1)]))
  refine own_jst S7 V8 (by decide) (Nat.le_of_ble_eq_true rfl) at_28 (Or.inr (by rw [g1]; exact S0.size)) (fun T9 h9 S9 W9 A9 => ?_)
  have V10 : own_A Z h9 b1 .long [(.long (9223372036854775807 : Int64)), (.long (9223372036854775807 : Int64)), (.long (9223372036854775807 : Int64)), (.long (9223372036854775807 : Int64)), (.long (0 : Int64)), (.long (0 : Int64)), (.long (0 : Int64)), (.long (0 : Int64)), (.long (0 : Int64)), (.long (0 : Int64)), (.long (0 : Int64)), (.long (0 : Int64)), (.long (0 : Int64)), (.long (0 : Int64)), (.long (0 : Int64)), (.long (0 : Int64))] := A9
  show own_F p e below s Z _ _ _ _ _ (T9.setTop (mkF m 29 #[.val (.int e1), .val (.long m1), .second, .val (.int e2), .val (.long m2), .second, .val (.int e3), .val (.long m3), .second, .val (.long (9223372036854775807 : Int64)), .second, .unset, .unset, .unset, .unset, .unset, .unset, .unset, .unset, .unset, .unset, .unset, .unset, .unset, .unset, .unset, .unset, .unset] [(.ref b1)]))
  refine own_F.of (fun _ => XS.dup S9.here S9.hx rfl (S9.dec at_29) rfl rfl) ?_
  refine own_F.of (fun _ => XS.iconst S9.here S9.hx rfl (S9.dec at_30)) ?_
  refine own_F.of (fun _ => XS.lload S9.here S9.hx rfl (S9.dec at_31) rfl) ?_
  show own_F p e below s Z _ _ _ _ _ (T9.setTop (mkF m 33 #[.val (.int e1), .val (.long m1), .second, .val (.int e2), .val (.long m2), .second, .val (.int e3), .val (.long m3), .second, .val (.long (9223372036854775807 : Int64)), .second, .unset, .unset, .unset, .unset, .unset, .unset, .unset, .unset, .unset, .unset, .unset, .unset, .unset, .unset, .unset, .unset, .unset] [(.long (9223372036854775807 : Int64)), (.int 4), (.ref b1), (.ref b1)]))
  refine own_jst S9 V10 (by decide) (Nat.le_of_ble_eq_true rfl) at_33 (Or.inr (by rw [g1]; exact S0.size)) (fun T11 h11 S11 W11 A11 => ?_)
  have V12 : own_A Z h11 b1 .long [(.long (9223372036854775807 : Int64)), (.long (9223372036854775807 : Int64)), (.long (9223372036854775807 : Int64)), (.long (9223372036854775807 : Int64)), (.long (9223372036854775807 : Int64)), (.long (0 : Int64)), (.long (0 : Int64)), (.long (0 : Int64)), (.long (0 : Int64)), (.long (0 : Int64)), (.long (0 : Int64)), (.long (0 : Int64)), (.long (0 : Int64)), (.long (0 : Int64)), (.long (0 : Int64)), (.long (0 : Int64))] := A11
  show own_F p e below s Z _ _ _ _ _ (T11.setTop (mkF m 34 #[.val (.int e1), .val (.long m1), .second, .val (.int e2), .val (.long m2), .second, .val (.int e3), .val (.long m3), .second, .val (.long (9223372036854775807 : Int64)), .second, .unset, .unset, .unset, .unset, .unset, .unset, .unset, .unset, .unset, .unset, .unset, .unset, .unset, .unset, .unset, .unset, .unset] [(.ref b1)]))
  refine own_F.of (fun _ => XS.dup S11.here S11.hx rfl (S11.dec at_34) rfl rfl) ?_
  refine own_F.of (fun _ => XS.iconst S11.here S11.hx rfl (S11.dec at_35)) ?_
  refine own_F.of (fun _ => XS.lload S11.here S11.hx rfl (S11.dec at_36) rfl) ?_
  show own_F p e below s Z _ _ _ _ _ (T11.setTop (mkF m 38 #[.val (.int e1), .val (.long m1), .second, .val (.int e2), .val (.long m2), .second, .val (.int e3), .val (.long m3), .second, .val (.long (9223372036854775807 : Int64)), .second, .unset, .unset, .unset, .unset, .unset, .unset, .unset, .unset, .unset, .unset, .unset, .unset, .unset, .unset, .unset, .unset, .unset] [(.long (9223372036854775807 : Int64)), (.int 5), (.ref b1), (.ref b1)]))
  refine own_jst S11 V12 (by decide) (Nat.le_of_ble_eq_true rfl) at_38 (Or.inr (by rw [g1]; exact S0.size)) (fun T13 h13 S13 W13 A13 => ?_)
  have V14 : own_A Z h13 b1 .long [(.long (9223372036854775807 : Int64)), (.long (9223372036854775807 : Int64)), (.long (9223372036854775807 : Int64)), (.long (9223372036854775807 : Int64)), (.long (9223372036854775807 : Int64)), (.long (9223372036854775807 : Int64)), (.long (0 : Int64)), (.long (0 : Int64)), (.long (0 : Int64)), (.long (0 : Int64)), (.long (0 : Int64)), (.long (0 : Int64)), (.long (0 : Int64)), (.long (0 : Int64)), (.long (0 : Int64)), (.long (0 : Int64))] := A13
  show own_F p e below s Z _ _ _ _ _ (T13.setTop (mkF m 39 #[.val (.int e1), .val (.long m1), .second, .val (.int e2), .val (.long m2), .second, .val (.int e3), .val (.long m3), .second, .val (.long (9223372036854775807 : Int64)), .second, .unset, .unset, .unset, .unset, .unset, .unset, .unset, .unset, .unset, .unset, .unset, .unset, .unset, .unset, .unset, .unset, .unset] [(.ref b1)]))
  refine own_F.of (fun _ => XS.dup S13.here S13.hx rfl (S13.dec at_39) rfl rfl) ?_
  refine own_F.of (fun _ => XS.bipush S13.here S13.hx rfl (S13.dec at_40)) ?_
  refine own_F.of (fun _ => XS.lload S13.here S13.hx rfl (S13.dec at_42) rfl) ?_
  show own_F p e below s Z _ _ _ _ _ (T13.setTop (mkF m 44 #[.val (.int e1), .val (.long m1), .second, .val (.int e2), .val (.long m2), .second, .val (.int e3), .val (.long m3), .second, .val (.long (9223372036854775807 : Int64)), .second, .unset, .unset, .unset, .unset, .unset, .unset, .unset, .unset, .unset, .unset, .unset, .unset, .unset, .unset, .unset, .unset, .unset] [(.long (9223372036854775807 : Int64)), (.int 6), (.ref b1), (.ref b1)]))
  refine own_jst S13 V14 (by decide) (Nat.le_of_ble_eq_true rfl) at_44 (Or.inr (by rw [g1]; exact S0.size)) (fun T15 h15 S15 W15 A15 => ?_)
  have V16 : own_A Z h15 b1 .long [(.long (9223372036854775807 : Int64)), (.long (9223372036854775807 : Int64)), (.long (9223372036854775807 : Int64)), (.long (9223372036854775807 : Int64)), (.long (9223372036854775807 : Int64)), (.long (9223372036854775807 : Int64)), (.long (9223372036854775807 : Int64)), (.long (0 : Int64)), (.long (0 : Int64)), (.long (0 : Int64)), (.long (0 : Int64)), (.long (0 : Int64)), (.long (0 : Int64)), (.long (0 : Int64)), (.long (0 : Int64)), (.long (0 : Int64))] := A15
  show own_F p e below s Z _ _ _ _ _ (T15.setTop (mkF m 45 #[.val (.int e1), .val (.long m1), .second, .val (.int e2), .val (.long m2), .second, .val (.int e3), .val (.long m3), .second, .val (.long (9223372036854775807 : Int64)), .second, .unset, .unset, .unset, .unset, .unset, .unset, .unset, .unset, .unset, .unset, .unset, .unset, .unset, .unset, .unset, .unset, .unset] [(.ref b1)]))
  refine own_F.of (fun _ => XS.dup S15.here S15.hx rfl (S15.dec at_45) rfl rfl) ?_
  refine own_F.of (fun _ => XS.bipush S15.here S15.hx rfl (S15.dec at_46)) ?_
  refine own_F.of (fun _ => XS.lload S15.here S15.hx rfl (S15.dec at_48) rfl) ?_
  show own_F p e below s Z _ _ _ _ _ (T15.setTop (mkF m 50 #[.val (.int e1), .val (.long m1), .second, .val (.int e2), .val (.long m2), .second, .val (.int e3), .val (.long m3), .second, .val (.long (9223372036854775807 : Int64)), .second, .unset, .unset, .unset, .unset, .unset, .unset, .unset, .unset, .unset, .unset, .unset, .unset, .unset, .unset, .unset, .unset, .unset] [(.long (9223372036854775807 : Int64)), (.int 7), (.ref b1), (.ref b1)]))
  refine own_jst S15 V16 (by decide) (Nat.le_of_ble_eq_true rfl) at_50 (Or.inr (by rw [g1]; exact S0.size)) (fun T17 h17 S17 W17 A17 => ?_)
  have V18 : own_A Z h17 b1 .long [(.long (9223372036854775807 : Int64)), (.long (9223372036854775807 : Int64)), (.long (9223372036854775807 : Int64)), (.long (9223372036854775807 : Int64)), (.long (9223372036854775807 : Int64)), (.long (9223372036854775807 : Int64)), (.long (9223372036854775807 : Int64)), (.long (9223372036854775807 : Int64)), (.long (0 : Int64)), (.long (0 : Int64)), (.long (0 : Int64)), (.long (0 : Int64)), (.long (0 : Int64)), (.long (0 : Int64)), (.long (0 : Int64)), (.long (0 : Int64))] := A17
  show own_F p e below s Z _ _ _ _ _ (T17.setTop (mkF m 51 #[.val (.int e1), .val (.long m1), .second, .val (.int e2), .val (.long m2), .second, .val (.int e3), .val (.long m3), .second, .val (.long (9223372036854775807 : Int64)), .second, .unset, .unset, .unset, .unset, .unset, .unset, .unset, .unset, .unset, .unset, .unset, .unset, .unset, .unset, .unset, .unset, .unset] [(.ref b1)]))
  refine own_F.of (fun _ => XS.dup S17.here S17.hx rfl (S17.dec at_51) rfl rfl) ?_
  refine own_F.of (fun _ => XS.bipush S17.here S17.hx rfl (S17.dec at_52)) ?_
  refine own_F.of (fun _ => XS.lload S17.here S17.hx rfl (S17.dec at_54) rfl) ?_
  show own_F p e below s Z _ _ _ _ _ (T17.setTop (mkF m 56 #[.val (.int e1), .val (.long m1), .second, .val (.int e2), .val (.long m2), .second, .val (.int e3), .val (.long m3), .second, .val (.long (9223372036854775807 : Int64)), .second, .unset, .unset, .unset, .unset, .unset, .unset, .unset, .unset, .unset, .unset, .unset, .unset, .unset, .unset, .unset, .unset, .unset] [(.long (9223372036854775807 : Int64)), (.int 8), (.ref b1), (.ref b1)]))
  refine own_jst S17 V18 (by decide) (Nat.le_of_ble_eq_true rfl) at_56 (Or.inr (by rw [g1]; exact S0.size)) (fun T19 h19 S19 W19 A19 => ?_)
  have V20 : own_A Z h19 b1 .long [(.long (9223372036854775807 : Int64)), (.long (9223372036854775807 : Int64)), (.long (9223372036854775807 : Int64)), (.long (9223372036854775807 : Int64)), (.long (9223372036854775807 : Int64)), (.long (9223372036854775807 : Int64)), (.long (9223372036854775807 : Int64)), (.long (9223372036854775807 : Int64)), (.long (9223372036854775807 : Int64)), (.long (0 : Int64)), (.long (0 : Int64)), (.long (0 : Int64)), (.long (0 : Int64)), (.long (0 : Int64)), (.long (0 : Int64)), (.long (0 : Int64))] := A19
  show own_F p e below s Z _ _ _ _ _ (T19.setTop (mkF m 57 #[.val (.int e1), .val (.long m1), .second, .val (.int e2), .val (.long m2), .second, .val (.int e3), .val (.long m3), .second, .val (.long (9223372036854775807 : Int64)), .second, .unset, .unset, .unset, .unset, .unset, .unset, .unset, .unset, .unset, .unset, .unset, .unset, .unset, .unset, .unset, .unset, .unset] [(.ref b1)]))
  refine own_F.of (fun _ => XS.dup S19.here S19.hx rfl (S19.dec at_57) rfl rfl) ?_
  refine own_F.of (fun _ => XS.bipush S19.here S19.hx rfl (S19.dec at_58)) ?_
  refine own_F.of (fun _ => XS.lload S19.here S19.hx rfl (S19.dec at_60) rfl) ?_
  show own_F p e below s Z _ _ _ _ _ (T19.setTop (mkF m 62 #[.val (.int e1), .val (.long m1), .second, .val (.int e2), .val (.long m2), .second, .val (.int e3), .val (.long m3), .second, .val (.long (9223372036854775807 : Int64)), .second, .unset, .unset, .unset, .unset, .unset, .unset, .unset, .unset, .unset, .unset, .unset, .unset, .unset, .unset, .unset, .unset, .unset] [(.long (9223372036854775807 : Int64)), (.int 9), (.ref b1), (.ref b1)]))
  refine own_jst S19 V20 (by decide) (Nat.le_of_ble_eq_true rfl) at_62 (Or.inr (by rw [g1]; exact S0.size)) (fun T21 h21 S21 W21 A21 => ?_)
  have V22 : own_A Z h21 b1 .long [(.long (9223372036854775807 : Int64)), (.long (9223372036854775807 : Int64)), (.long (9223372036854775807 : Int64)), (.long (9223372036854775807 : Int64)), (.long (9223372036854775807 : Int64)), (.long (9223372036854775807 : Int64)), (.long (9223372036854775807 : Int64)), (.long (9223372036854775807 : Int64)), (.long (9223372036854775807 : Int64)), (.long (9223372036854775807 : Int64)), (.long (0 : Int64)), (.long (0 : Int64)), (.long (0 : Int64)), (.long (0 : Int64)), (.long (0 : Int64)), (.long (0 : Int64))] := A21
  show own_F p e below s Z _ _ _ _ _ (T21.setTop (mkF m 63 #[.val (.int e1), .val (.long m1), .second, .val (.int e2), .val (.long m2), .second, .val (.int e3), .val (.long m3), .second, .val (.long (9223372036854775807 : Int64)), .second, .unset, .unset, .unset, .unset, .unset, .unset, .unset, .unset, .unset, .unset, .unset, .unset, .unset, .unset, .unset, .unset, .unset] [(.ref b1)]))
  refine own_F.of (fun _ => XS.dup S21.here S21.hx rfl (S21.dec at_63) rfl rfl) ?_
  refine own_F.of (fun _ => XS.bipush S21.here S21.hx rfl (S21.dec at_64)) ?_
  refine own_F.of (fun _ => XS.lload S21.here S21.hx rfl (S21.dec at_66) rfl) ?_
  show own_F p e below s Z _ _ _ _ _ (T21.setTop (mkF m 68 #[.val (.int e1), .val (.long m1), .second, .val (.int e2), .val (.long m2), .second, .val (.int e3), .val (.long m3), .second, .val (.long (9223372036854775807 : Int64)), .second, .unset, .unset, .unset, .unset, .unset, .unset, .unset, .unset, .unset, .unset, .unset, .unset, .unset, .unset, .unset, .unset, .unset] [(.long (9223372036854775807 : Int64)), (.int 10), (.ref b1), (.ref b1)]))
  refine own_jst S21 V22 (by decide) (Nat.le_of_ble_eq_true rfl) at_68 (Or.inr (by rw [g1]; exact S0.size)) (fun T23 h23 S23 W23 A23 => ?_)
  have V24 : own_A Z h23 b1 .long [(.long (9223372036854775807 : Int64)), (.long (9223372036854775807 : Int64)), (.long (9223372036854775807 : Int64)), (.long (9223372036854775807 : Int64)), (.long (9223372036854775807 : Int64)), (.long (9223372036854775807 : Int64)), (.long (9223372036854775807 : Int64)), (.long (9223372036854775807 : Int64)), (.long (9223372036854775807 : Int64)), (.long (9223372036854775807 : Int64)), (.long (9223372036854775807 : Int64)), (.long (0 : Int64)), (.long (0 : Int64)), (.long (0 : Int64)), (.long (0 : Int64)), (.long (0 : Int64))] := A23
  show own_F p e below s Z _ _ _ _ _ (T23.setTop (mkF m 69 #[.val (.int e1), .val (.long m1), .second, .val (.int e2), .val (.long m2), .second, .val (.int e3), .val (.long m3), .second, .val (.long (9223372036854775807 : Int64)), .second, .unset, .unset, .unset, .unset, .unset, .unset, .unset, .unset, .unset, .unset, .unset, .unset, .unset, .unset, .unset, .unset, .unset] [(.ref b1)]))
  refine own_F.of (fun _ => XS.dup S23.here S23.hx rfl (S23.dec at_69) rfl rfl) ?_
  refine own_F.of (fun _ => XS.bipush S23.here S23.hx rfl (S23.dec at_70)) ?_
  refine own_F.of (fun _ => XS.lload S23.here S23.hx rfl (S23.dec at_72) rfl) ?_
  show own_F p e below s Z _ _ _ _ _ (T23.setTop (mkF m 74 #[.val (.int e1), .val (.long m1), .second, .val (.int e2), .val (.long m2), .second, .val (.int e3), .val (.long m3), .second, .val (.long (9223372036854775807 : Int64)), .second, .unset, .unset, .unset, .unset, .unset, .unset, .unset, .unset, .unset, .unset, .unset, .unset, .unset, .unset, .unset, .unset, .unset] [(.long (9223372036854775807 : Int64)), (.int 11), (.ref b1), (.ref b1)]))
  refine own_jst S23 V24 (by decide) (Nat.le_of_ble_eq_true rfl) at_74 (Or.inr (by rw [g1]; exact S0.size)) (fun T25 h25 S25 W25 A25 => ?_)
  have V26 : own_A Z h25 b1 .long [(.long (9223372036854775807 : Int64)), (.long (9223372036854775807 : Int64)), (.long (9223372036854775807 : Int64)), (.long (9223372036854775807 : Int64)), (.long (9223372036854775807 : Int64)), (.long (9223372036854775807 : Int64)), (.long (9223372036854775807 : Int64)), (.long (9223372036854775807 : Int64)), (.long (9223372036854775807 : Int64)), (.long (9223372036854775807 : Int64)), (.long (9223372036854775807 : Int64)), (.long (9223372036854775807 : Int64)), (.long (0 : Int64)), (.long (0 : Int64)), (.long (0 : Int64)), (.long (0 : Int64))] := A25
  show own_F p e below s Z _ _ _ _ _ (T25.setTop (mkF m 75 #[.val (.int e1), .val (.long m1), .second, .val (.int e2), .val (.long m2), .second, .val (.int e3), .val (.long m3), .second, .val (.long (9223372036854775807 : Int64)), .second, .unset, .unset, .unset, .unset, .unset, .unset, .unset, .unset, .unset, .unset, .unset, .unset, .unset, .unset, .unset, .unset, .unset] [(.ref b1)]))
  refine own_F.of (fun _ => XS.dup S25.here S25.hx rfl (S25.dec at_75) rfl rfl) ?_
  refine own_F.of (fun _ => XS.bipush S25.here S25.hx rfl (S25.dec at_76)) ?_
  refine own_F.of (fun _ => XS.lload S25.here S25.hx rfl (S25.dec at_78) rfl) ?_
  show own_F p e below s Z _ _ _ _ _ (T25.setTop (mkF m 80 #[.val (.int e1), .val (.long m1), .second, .val (.int e2), .val (.long m2), .second, .val (.int e3), .val (.long m3), .second, .val (.long (9223372036854775807 : Int64)), .second, .unset, .unset, .unset, .unset, .unset, .unset, .unset, .unset, .unset, .unset, .unset, .unset, .unset, .unset, .unset, .unset, .unset] [(.long (9223372036854775807 : Int64)), (.int 12), (.ref b1), (.ref b1)]))
  refine own_jst S25 V26 (by decide) (Nat.le_of_ble_eq_true rfl) at_80 (Or.inr (by rw [g1]; exact S0.size)) (fun T27 h27 S27 W27 A27 => ?_)
  have V28 : own_A Z h27 b1 .long [(.long (9223372036854775807 : Int64)), (.long (9223372036854775807 : Int64)), (.long (9223372036854775807 : Int64)), (.long (9223372036854775807 : Int64)), (.long (9223372036854775807 : Int64)), (.long (9223372036854775807 : Int64)), (.long (9223372036854775807 : Int64)), (.long (9223372036854775807 : Int64)), (.long (9223372036854775807 : Int64)), (.long (9223372036854775807 : Int64)), (.long (9223372036854775807 : Int64)), (.long (9223372036854775807 : Int64)), (.long (9223372036854775807 : Int64)), (.long (0 : Int64)), (.long (0 : Int64)), (.long (0 : Int64))] := A27
  show own_F p e below s Z _ _ _ _ _ (T27.setTop (mkF m 81 #[.val (.int e1), .val (.long m1), .second, .val (.int e2), .val (.long m2), .second, .val (.int e3), .val (.long m3), .second, .val (.long (9223372036854775807 : Int64)), .second, .unset, .unset, .unset, .unset, .unset, .unset, .unset, .unset, .unset, .unset, .unset, .unset, .unset, .unset, .unset, .unset, .unset] [(.ref b1)]))
  refine own_F.of (fun _ => XS.dup S27.here S27.hx rfl (S27.dec at_81) rfl rfl) ?_
  refine own_F.of (fun _ => XS.bipush S27.here S27.hx rfl (S27.dec at_82)) ?_
  refine own_F.of (fun _ => XS.lload S27.here S27.hx rfl (S27.dec at_84) rfl) ?_
  show own_F p e below s Z _ _ _ _ _ (T27.setTop (mkF m 86 #[.val (.int e1), .val (.long m1), .second, .val (.int e2), .val (.long m2), .second, .val (.int e3), .val (.long m3), .second, .val (.long (9223372036854775807 : Int64)), .second, .unset, .unset, .unset, .unset, .unset, .unset, .unset, .unset, .unset, .unset, .unset, .unset, .unset, .unset, .unset, .unset, .unset] [(.long (9223372036854775807 : Int64)), (.int 13), (.ref b1), (.ref b1)]))
  refine own_jst S27 V28 (by decide) (Nat.le_of_ble_eq_true rfl) at_86 (Or.inr (by rw [g1]; exact S0.size)) (fun T29 h29 S29 W29 A29 => ?_)
  have V30 : own_A Z h29 b1 .long [(.long (9223372036854775807 : Int64)), (.long (9223372036854775807 : Int64)), (.long (9223372036854775807 : Int64)), (.long (9223372036854775807 : Int64)), (.long (9223372036854775807 : Int64)), (.long (9223372036854775807 : Int64)), (.long (9223372036854775807 : Int64)), (.long (9223372036854775807 : Int64)), (.long (9223372036854775807 : Int64)), (.long (9223372036854775807 : Int64)), (.long (9223372036854775807 : Int64)), (.long (9223372036854775807 : Int64)), (.long (9223372036854775807 : Int64)), (.long (9223372036854775807 : Int64)), (.long (0 : Int64)), (.long (0 : Int64))] := A29
  show own_F p e below s Z _ _ _ _ _ (T29.setTop (mkF m 87 #[.val (.int e1), .val (.long m1), .second, .val (.int e2), .val (.long m2), .second, .val (.int e3), .val (.long m3), .second, .val (.long (9223372036854775807 : Int64)), .second, .unset, .unset, .unset, .unset, .unset, .unset, .unset, .unset, .unset, .unset, .unset, .unset, .unset, .unset, .unset, .unset, .unset] [(.ref b1)]))
  refine own_F.of (fun _ => XS.dup S29.here S29.hx rfl (S29.dec at_87) rfl rfl) ?_
  refine own_F.of (fun _ => XS.bipush S29.here S29.hx rfl (S29.dec at_88)) ?_
  refine own_F.of (fun _ => XS.lload S29.here S29.hx rfl (S29.dec at_90) rfl) ?_
  show own_F p e below s Z _ _ _ _ _ (T29.setTop (mkF m 92 #[.val (.int e1), .val (.long m1), .second, .val (.int e2), .val (.long m2), .second, .val (.int e3), .val (.long m3), .second, .val (.long (9223372036854775807 : Int64)), .second, .unset, .unset, .unset, .unset, .unset, .unset, .unset, .unset, .unset, .unset, .unset, .unset, .unset, .unset, .unset, .unset, .unset] [(.long (9223372036854775807 : Int64)), (.int 14), (.ref b1), (.ref b1)]))
  refine own_jst S29 V30 (by decide) (Nat.le_of_ble_eq_true rfl) at_92 (Or.inr (by rw [g1]; exact S0.size)) (fun T31 h31 S31 W31 A31 => ?_)
  have V32 : own_A Z h31 b1 .long [(.long (9223372036854775807 : Int64)), (.long (9223372036854775807 : Int64)), (.long (9223372036854775807 : Int64)), (.long (9223372036854775807 : Int64)), (.long (9223372036854775807 : Int64)), (.long (9223372036854775807 : Int64)), (.long (9223372036854775807 : Int64)), (.long (9223372036854775807 : Int64)), (.long (9223372036854775807 : Int64)), (.long (9223372036854775807 : Int64)), (.long (9223372036854775807 : Int64)), (.long (9223372036854775807 : Int64)), (.long (9223372036854775807 : Int64)), (.long (9223372036854775807 : Int64)), (.long (9223372036854775807 : Int64)), (.long (0 : Int64))] := A31
  show own_F p e below s Z _ _ _ _ _ (T31.setTop (mkF m 93 #[.val (.int e1), .val (.long m1), .second, .val (.int e2), .val (.long m2), .second, .val (.int e3), .val (.long m3), .second, .val (.long (9223372036854775807 : Int64)), .second, .unset, .unset, .unset, .unset, .unset, .unset, .unset, .unset, .unset, .unset, .unset, .unset, .unset, .unset, .unset, .unset, .unset] [(.ref b1)]))
  refine own_F.of (fun _ => XS.dup S31.here S31.hx rfl (S31.dec at_93) rfl rfl) ?_
  refine own_F.of (fun _ => XS.bipush S31.here S31.hx rfl (S31.dec at_94)) ?_
  refine own_F.of (fun _ => XS.lload S31.here S31.hx rfl (S31.dec at_96) rfl) ?_
  show own_F p e below s Z _ _ _ _ _ (T31.setTop (mkF m 98 #[.val (.int e1), .val (.long m1), .second, .val (.int e2), .val (.long m2), .second, .val (.int e3), .val (.long m3), .second, .val (.long (9223372036854775807 : Int64)), .second, .unset, .unset, .unset, .unset, .unset, .unset, .unset, .unset, .unset, .unset, .unset, .unset, .unset, .unset, .unset, .unset, .unset] [(.long (9223372036854775807 : Int64)), (.int 15), (.ref b1), (.ref b1)]))
  refine own_jst S31 V32 (by decide) (Nat.le_of_ble_eq_true rfl) at_98 (Or.inr (by rw [g1]; exact S0.size)) (fun T33 h33 S33 W33 A33 => ?_)
  have V34 : own_A Z h33 b1 .long [(.long (9223372036854775807 : Int64)), (.long (9223372036854775807 : Int64)), (.long (9223372036854775807 : Int64)), (.long (9223372036854775807 : Int64)), (.long (9223372036854775807 : Int64)), (.long (9223372036854775807 : Int64)), (.long (9223372036854775807 : Int64)), (.long (9223372036854775807 : Int64)), (.long (9223372036854775807 : Int64)), (.long (9223372036854775807 : Int64)), (.long (9223372036854775807 : Int64)), (.long (9223372036854775807 : Int64)), (.long (9223372036854775807 : Int64)), (.long (9223372036854775807 : Int64)), (.long (9223372036854775807 : Int64)), (.long (9223372036854775807 : Int64))] := A33
  show own_F p e below s Z _ _ _ _ _ (T33.setTop (mkF m 99 #[.val (.int e1), .val (.long m1), .second, .val (.int e2), .val (.long m2), .second, .val (.int e3), .val (.long m3), .second, .val (.long (9223372036854775807 : Int64)), .second, .unset, .unset, .unset, .unset, .unset, .unset, .unset, .unset, .unset, .unset, .unset, .unset, .unset, .unset, .unset, .unset, .unset] [(.ref b1)]))
  refine own_F.of (fun _ => XS.astore S33.here S33.hx rfl (S33.dec at_99) rfl rfl (l' := #[.val (.int e1), .val (.long m1), .second, .val (.int e2), .val (.long m2), .second, .val (.int e3), .val (.long m3), .second, .val (.long (9223372036854775807 : Int64)), .second, .val (.ref b1), .unset, .unset, .unset, .unset, .unset, .unset, .unset, .unset, .unset, .unset, .unset, .unset, .unset, .unset, .unset, .unset]) rfl) ?_
  show own_F p e below s Z _ _ _ _ _ (T33.setTop (mkF m 101 #[.val (.int e1), .val (.long m1), .second, .val (.int e2), .val (.long m2), .second, .val (.int e3), .val (.long m3), .second, .val (.long (9223372036854775807 : Int64)), .second, .val (.ref b1), .unset, .unset, .unset, .unset, .unset, .unset, .unset, .unset, .unset, .unset, .unset, .unset, .unset, .unset, .unset, .unset] []))
  refine own_new S33 (own_w hw 2 rfl) (own_w hw 3 rfl) (own_w hw 4 rfl) at_101 (by decide) (by decide) (fun T35 h35 b35 g35 S35 E35 A35 D35 => ?_)
  have F35_bound : Fld Z h35 b35 "com/example/slackweave/slackweave/generate/TightestBounds" "bound" "[[J" .null := (D35 (Or.inr (own_w hw 14 rfl)) (ty := (.array (.array .long))) (by decide))
  show own_F p e below s Z _ _ _ _ _ (T35.setTop (mkF m 104 #[.val (.int e1), .val (.long m1), .second, .val (.int e2), .val (.long m2), .second, .val (.int e3), .val (.long m3), .second, .val (.long (9223372036854775807 : Int64)), .second, .val (.ref b1), .unset, .unset, .unset, .unset, .unset, .unset, .unset, .unset, .unset, .unset, .unset, .unset, .unset, .unset, .unset, .unset] [(.ref b35)]))
  refine own_F.of (fun _ => XS.dup S35.here S35.hx rfl (S35.dec at_104) rfl rfl) ?_
  refine own_F.of (fun _ => XS.iconst S35.here S35.hx rfl (S35.dec at_105)) ?_
  show own_F p e below s Z _ _ _ _ _ (T35.setTop (mkF m 106 #[.val (.int e1), .val (.long m1), .second, .val (.int e2), .val (.long m2), .second, .val (.int e3), .val (.long m3), .second, .val (.long (9223372036854775807 : Int64)), .second, .val (.ref b1), .unset, .unset, .unset, .unset, .unset, .unset, .unset, .unset, .unset, .unset, .unset, .unset, .unset, .unset, .unset, .unset] [(.int 4), (.ref b35), (.ref b35)]))
  have fq36 := (V34.ext E35)
  have n_W := own_neA A35 (own_w hw 3 rfl) fq36
  have ltW := (fq36).lt
  refine own_callI S35 (y := (⟨"com/example/slackweave/slackweave/generate/TightestBounds", "<init>", "(I)V"⟩ : MethodName)) rfl (own_w hw 5 rfl) (own_w hw 6 rfl) (own_w hw 4 rfl) (own_w hw 7 rfl) (by decide) (argsL := [(.int (4 : Int32))]) (rest := [(.ref b35)]) (own_initC l Z a0 hw b35 h35 S35.old (own_mayN S35 (Or.inr (by rw [g35]; exact S33.size))) A35 F35_bound) (allS (Or.inr (by rw [g35]; exact S33.size)) all0) (by decide +kernel : parseMethodDescriptor "(I)V" = some ⟨[.int], none⟩) rfl rfl rfl at_106 (by decide) (Nat.le_of_ble_eq_true rfl) (by decide) (by decide) (fun T37 h37 v37 S37 K37 q37 => ?_)
  obtain ⟨rfl, aM, Rw, leR, injR, FB37, TAB37, ROW37⟩ := q37
  show own_F p e below s Z _ _ _ _ _ (T37.setTop (mkF m 109 #[.val (.int e1), .val (.long m1), .second, .val (.int e2), .val (.long m2), .second, .val (.int e3), .val (.long m3), .second, .val (.long (9223372036854775807 : Int64)), .second, .val (.ref b1), .unset, .unset, .unset, .unset, .unset, .unset, .unset, .unset, .unset, .unset, .unset, .unset, .unset, .unset, .unset, .unset] [(.ref b35)]))
  refine own_F.of (fun _ => XS.astore S37.here S37.hx rfl (S37.dec at_109) rfl rfl (l' := #[.val (.int e1), .val (.long m1), .second, .val (.int e2), .val (.long m2), .second, .val (.int e3), .val (.long m3), .second, .val (.long (9223372036854775807 : Int64)), .second, .val (.ref b1), .val (.ref b35), .unset, .unset, .unset, .unset, .unset, .unset, .unset, .unset, .unset, .unset, .unset, .unset, .unset, .unset, .unset]) rfl) ?_
  have fq38 := (fq36.keep K37 (ninS (Ne.symm n_W) nin0))
  have WT : own_A Z h37 b1 .long (own_w16 own_W0) := fq38
  have fq39 := (A35.keep K37)
  have HM : own_M Z h37 b35 aM b1 Rw own_D0 own_W0 := ⟨⟨(own_mayN S37 (Or.inr (by rw [g35]; exact S33.size))), (own_mayN S37 (Or.inr (by rw [g1]; exact S0.size)))⟩, fq39, FB37, TAB37, ROW37, fun i hi => ⟨Nat.le_trans S35.old.1 (leR i hi), fun z => Nat.lt_irrefl _ (Nat.lt_of_lt_of_le ltW (z ▸ leR i hi))⟩, injR, WT⟩
  obtain ⟨I0, oW0, oD0⟩ := own_start
  refine own_F.of (fun _ => XS.iloadN S37.here S37.hx rfl (S37.dec at_111) rfl) ?_
  show own_F p e below s Z _ _ _ _ _ (T37.setTop (mkF m 112 #[.val (.int e1), .val (.long m1), .second, .val (.int e2), .val (.long m2), .second, .val (.int e3), .val (.long m3), .second, .val (.long (9223372036854775807 : Int64)), .second, .val (.ref b1), .val (.ref b35), .unset, .unset, .unset, .unset, .unset, .unset, .unset, .unset, .unset, .unset, .unset, .unset, .unset, .unset, .unset] [(.int e1)]))
  refine own_ldcI S37 (own_w hw 20 rfl) at_112 ?_
  show own_F p e below s Z _ _ _ _ _ (T37.setTop (mkF m 114 #[.val (.int e1), .val (.long m1), .second, .val (.int e2), .val (.long m2), .second, .val (.int e3), .val (.long m3), .second, .val (.long (9223372036854775807 : Int64)), .second, .val (.ref b1), .val (.ref b35), .unset, .unset, .unset, .unset, .unset, .unset, .unset, .unset, .unset, .unset, .unset, .unset, .unset, .unset, .unset] [(.int 2147483647), (.int e1)]))
  refine own_F.of (fun _ => XS.iand S37.here S37.hx rfl (S37.dec at_114) rfl) ?_
  show own_F p e below s Z _ _ _ _ _ (T37.setTop (mkF m 115 #[.val (.int e1), .val (.long m1), .second, .val (.int e2), .val (.long m2), .second, .val (.int e3), .val (.long m3), .second, .val (.long (9223372036854775807 : Int64)), .second, .val (.ref b1), .val (.ref b35), .unset, .unset, .unset, .unset, .unset, .unset, .unset, .unset, .unset, .unset, .unset, .unset, .unset, .unset, .unset] [(.int (e1 &&& (2147483647 : Int32)))]))
  refine own_F.of (fun _ => XS.bipush S37.here S37.hx rfl (S37.dec at_115)) ?_
  show own_F p e below s Z _ _ _ _ _ (T37.setTop (mkF m 117 #[.val (.int e1), .val (.long m1), .second, .val (.int e2), .val (.long m2), .second, .val (.int e3), .val (.long m3), .second, .val (.long (9223372036854775807 : Int64)), .second, .val (.ref b1), .val (.ref b35), .unset, .unset, .unset, .unset, .unset, .unset, .unset, .unset, .unset, .unset, .unset, .unset, .unset, .unset, .unset] [(.int 16), (.int (e1 &&& (2147483647 : Int32)))]))
  refine own_F.of (fun _ => own_irem S37 at_117 (by decide)) ?_
  show own_F p e below s Z _ _ _ _ _ (T37.setTop (mkF m 118 #[.val (.int e1), .val (.long m1), .second, .val (.int e2), .val (.long m2), .second, .val (.int e3), .val (.long m3), .second, .val (.long (9223372036854775807 : Int64)), .second, .val (.ref b1), .val (.ref b35), .unset, .unset, .unset, .unset, .unset, .unset, .unset, .unset, .unset, .unset, .unset, .unset, .unset, .unset, .unset] [(.int ((e1 &&& (2147483647 : Int32)) % (16 : Int32)))]))
  obtain ⟨fx0, tx0, hfx0, htx0, efx0, etx0⟩ := own_p16 e1
  refine own_F.of (fun _ => XS.istore S37.here S37.hx rfl (S37.dec at_118) rfl (l' := #[.val (.int e1), .val (.long m1), .second, .val (.int e2), .val (.long m2), .second, .val (.int e3), .val (.long m3), .second, .val (.long (9223372036854775807 : Int64)), .second, .val (.ref b1), .val (.ref b35), .val (.int ((e1 &&& (2147483647 : Int32)) % (16 : Int32))), .unset, .unset, .unset, .unset, .unset, .unset, .unset, .unset, .unset, .unset, .unset, .unset, .unset, .unset]) rfl) ?_
  refine own_F.of (fun _ => XS.iload S37.here S37.hx rfl (S37.dec at_120) rfl) ?_
  refine own_F.of (fun _ => XS.iconst S37.here S37.hx rfl (S37.dec at_122)) ?_
  show own_F p e below s Z _ _ _ _ _ (T37.setTop (mkF m 123 #[.val (.int e1), .val (.long m1), .second, .val (.int e2), .val (.long m2), .second, .val (.int e3), .val (.long m3), .second, .val (.long (9223372036854775807 : Int64)), .second, .val (.ref b1), .val (.ref b35), .val (.int ((e1 &&& (2147483647 : Int32)) % (16 : Int32))), .unset, .unset, .unset, .unset, .unset, .unset, .unset, .unset, .unset, .unset, .unset, .unset, .unset, .unset] [(.int 4), (.int ((e1 &&& (2147483647 : Int32)) % (16 : Int32)))]))
  refine own_F.of (fun _ => XS.idiv S37.here S37.hx rfl (S37.dec at_123) rfl (by decide)) ?_
  show own_F p e below s Z _ _ _ _ _ (T37.setTop (mkF m 124 #[.val (.int e1), .val (.long m1), .second, .val (.int e2), .val (.long m2), .second, .val (.int e3), .val (.long m3), .second, .val (.long (9223372036854775807 : Int64)), .second, .val (.ref b1), .val (.ref b35), .val (.int ((e1 &&& (2147483647 : Int32)) % (16 : Int32))), .unset, .unset, .unset, .unset, .unset, .unset, .unset, .unset, .unset, .unset, .unset, .unset, .unset, .unset] [(.int (((e1 &&& (2147483647 : Int32)) % (16 : Int32)) / (4 : Int32)))]))
  rw [efx0]
  show own_F p e below s Z _ _ _ _ _ (T37.setTop (mkF m 124 #[.val (.int e1), .val (.long m1), .second, .val (.int e2), .val (.long m2), .second, .val (.int e3), .val (.long m3), .second, .val (.long (9223372036854775807 : Int64)), .second, .val (.ref b1), .val (.ref b35), .val (.int ((e1 &&& (2147483647 : Int32)) % (16 : Int32))), .unset, .unset, .unset, .unset, .unset, .unset, .unset, .unset, .unset, .unset, .unset, .unset, .unset, .unset] [(.int fx0.toInt32)]))
  refine own_F.of (fun _ => XS.istore S37.here S37.hx rfl (S37.dec at_124) rfl (l' := #[.val (.int e1), .val (.long m1), .second, .val (.int e2), .val (.long m2), .second, .val (.int e3), .val (.long m3), .second, .val (.long (9223372036854775807 : Int64)), .second, .val (.ref b1), .val (.ref b35), .val (.int ((e1 &&& (2147483647 : Int32)) % (16 : Int32))), .val (.int fx0.toInt32), .unset, .unset, .unset, .unset, .unset, .unset, .unset, .unset, .unset, .unset, .unset, .unset, .unset]) rfl) ?_
  refine own_F.of (fun _ => XS.iload S37.here S37.hx rfl (S37.dec at_126) rfl) ?_
  refine own_F.of (fun _ => XS.iconst S37.here S37.hx rfl (S37.dec at_128)) ?_
  show own_F p e below s Z _ _ _ _ _ (T37.setTop (mkF m 129 #[.val (.int e1), .val (.long m1), .second, .val (.int e2), .val (.long m2), .second, .val (.int e3), .val (.long m3), .second, .val (.long (9223372036854775807 : Int64)), .second, .val (.ref b1), .val (.ref b35), .val (.int ((e1 &&& (2147483647 : Int32)) % (16 : Int32))), .val (.int fx0.toInt32), .unset, .unset, .unset, .unset, .unset, .unset, .unset, .unset, .unset, .unset, .unset, .unset, .unset] [(.int 4), (.int ((e1 &&& (2147483647 : Int32)) % (16 : Int32)))]))
  refine own_F.of (fun _ => own_irem S37 at_129 (by decide)) ?_
  show own_F p e below s Z _ _ _ _ _ (T37.setTop (mkF m 130 #[.val (.int e1), .val (.long m1), .second, .val (.int e2), .val (.long m2), .second, .val (.int e3), .val (.long m3), .second, .val (.long (9223372036854775807 : Int64)), .second, .val (.ref b1), .val (.ref b35), .val (.int ((e1 &&& (2147483647 : Int32)) % (16 : Int32))), .val (.int fx0.toInt32), .unset, .unset, .unset, .unset, .unset, .unset, .unset, .unset, .unset, .unset, .unset, .unset, .unset] [(.int (((e1 &&& (2147483647 : Int32)) % (16 : Int32)) % (4 : Int32)))]))
  rw [etx0]
  show own_F p e below s Z _ _ _ _ _ (T37.setTop (mkF m 130 #[.val (.int e1), .val (.long m1), .second, .val (.int e2), .val (.long m2), .second, .val (.int e3), .val (.long m3), .second, .val (.long (9223372036854775807 : Int64)), .second, .val (.ref b1), .val (.ref b35), .val (.int ((e1 &&& (2147483647 : Int32)) % (16 : Int32))), .val (.int fx0.toInt32), .unset, .unset, .unset, .unset, .unset, .unset, .unset, .unset, .unset, .unset, .unset, .unset, .unset] [(.int tx0.toInt32)]))
  refine own_F.of (fun _ => XS.istore S37.here S37.hx rfl (S37.dec at_130) rfl (l' := #[.val (.int e1), .val (.long m1), .second, .val (.int e2), .val (.long m2), .second, .val (.int e3), .val (.long m3), .second, .val (.long (9223372036854775807 : Int64)), .second, .val (.ref b1), .val (.ref b35), .val (.int ((e1 &&& (2147483647 : Int32)) % (16 : Int32))), .val (.int fx0.toInt32), .val (.int tx0.toInt32), .unset, .unset, .unset, .unset, .unset, .unset, .unset, .unset, .unset, .unset, .unset, .unset]) rfl) ?_
  refine own_F.of (fun _ => XS.aload S37.here S37.hx rfl (S37.dec at_132) rfl rfl) ?_
  refine own_F.of (fun _ => XS.iload S37.here S37.hx rfl (S37.dec at_134) rfl) ?_
  refine own_F.of (fun _ => XS.iload S37.here S37.hx rfl (S37.dec at_136) rfl) ?_
  refine own_F.of (fun _ => XS.lloadN S37.here S37.hx rfl (S37.dec at_138) rfl) ?_
  show own_F p e below s Z _ _ _ _ _ (T37.setTop (mkF m 139 #[.val (.int e1), .val (.long m1), .second, .val (.int e2), .val (.long m2), .second, .val (.int e3), .val (.long m3), .second, .val (.long (9223372036854775807 : Int64)), .second, .val (.ref b1), .val (.ref b35), .val (.int ((e1 &&& (2147483647 : Int32)) % (16 : Int32))), .val (.int fx0.toInt32), .val (.int tx0.toInt32), .unset, .unset, .unset, .unset, .unset, .unset, .unset, .unset, .unset, .unset, .unset, .unset] [(.long m1), (.int tx0.toInt32), (.int fx0.toInt32), (.ref b1)]))
  refine own_F.of (fun _ => XS.bipush S37.here S37.hx rfl (S37.dec at_139)) ?_
  show own_F p e below s Z _ _ _ _ _ (T37.setTop (mkF m 141 #[.val (.int e1), .val (.long m1), .second, .val (.int e2), .val (.long m2), .second, .val (.int e3), .val (.long m3), .second, .val (.long (9223372036854775807 : Int64)), .second, .val (.ref b1), .val (.ref b35), .val (.int ((e1 &&& (2147483647 : Int32)) % (16 : Int32))), .val (.int fx0.toInt32), .val (.int tx0.toInt32), .unset, .unset, .unset, .unset, .unset, .unset, .unset, .unset, .unset, .unset, .unset, .unset] [(.int 8), (.long m1), (.int tx0.toInt32), (.int fx0.toInt32), (.ref b1)]))
  refine own_F.of (fun _ => XS.lshr S37.here S37.hx rfl (S37.dec at_141) rfl) ?_
  show own_F p e below s Z _ _ _ _ _ (T37.setTop (mkF m 142 #[.val (.int e1), .val (.long m1), .second, .val (.int e2), .val (.long m2), .second, .val (.int e3), .val (.long m3), .second, .val (.long (9223372036854775807 : Int64)), .second, .val (.ref b1), .val (.ref b35), .val (.int ((e1 &&& (2147483647 : Int32)) % (16 : Int32))), .val (.int fx0.toInt32), .val (.int tx0.toInt32), .unset, .unset, .unset, .unset, .unset, .unset, .unset, .unset, .unset, .unset, .unset, .unset] [(.long (m1 >>> ((8 : Int32) &&& 0x3f).toInt64)), (.int tx0.toInt32), (.int fx0.toInt32), (.ref b1)]))
  refine own_callS S37 (y := (⟨"com/example/slackweave/slackweave/generate/TightestBoundsAddPinLaw", "clampMax", "([JIIJ)J"⟩ : MethodName)) (own_w hw 21 rfl) (own_w hw 22 rfl) (own_w hw 23 rfl) (own_w hw 24 rfl) (by decide) (argsL := [(.ref b1), (.int fx0.toInt32), (.int tx0.toInt32), (.long (m1 >>> ((8 : Int32) &&& 0x3f).toInt64))]) (rest := []) (own_clamp l Z a0 hw b1 own_W0 fx0 tx0 hfx0 htx0 (m1 >>> ((8 : Int32) &&& 0x3f).toInt64) h37 S37.old HM.wt) all0 (by decide +kernel : parseMethodDescriptor "([JIIJ)J" = some ⟨[(.array .long), .int, .int, .long], some .long⟩) rfl rfl rfl at_142 (by decide) (Nat.le_of_ble_eq_true rfl) (by decide) (by decide) (fun T40 h40 v40 S40 K40 q40 => ?_)
  obtain ⟨x40, rfl, ex40, rfl⟩ := q40
  show own_F p e below s Z _ _ _ _ _ (T40.setTop (mkF m 145 #[.val (.int e1), .val (.long m1), .second, .val (.int e2), .val (.long m2), .second, .val (.int e3), .val (.long m3), .second, .val (.long (9223372036854775807 : Int64)), .second, .val (.ref b1), .val (.ref b35), .val (.int ((e1 &&& (2147483647 : Int32)) % (16 : Int32))), .val (.int fx0.toInt32), .val (.int tx0.toInt32), .unset, .unset, .unset, .unset, .unset, .unset, .unset, .unset, .unset, .unset, .unset, .unset] [(.long x40)]))
  refine own_F.of (fun _ => XS.lstore S40.here S40.hx rfl (S40.dec at_145) rfl (l' := #[.val (.int e1), .val (.long m1), .second, .val (.int e2), .val (.long m2), .second, .val (.int e3), .val (.long m3), .second, .val (.long (9223372036854775807 : Int64)), .second, .val (.ref b1), .val (.ref b35), .val (.int ((e1 &&& (2147483647 : Int32)) % (16 : Int32))), .val (.int fx0.toInt32), .val (.int tx0.toInt32), .val (.long x40), .second, .unset, .unset, .unset, .unset, .unset, .unset, .unset, .unset, .unset, .unset]) rfl) ?_
  refine own_F.of (fun _ => XS.aload S40.here S40.hx rfl (S40.dec at_147) rfl rfl) ?_
  refine own_F.of (fun _ => XS.iload S40.here S40.hx rfl (S40.dec at_149) rfl) ?_
  refine own_F.of (fun _ => XS.iload S40.here S40.hx rfl (S40.dec at_151) rfl) ?_
  refine own_F.of (fun _ => XS.lload S40.here S40.hx rfl (S40.dec at_153) rfl) ?_
  show own_F p e below s Z _ _ _ _ _ (T40.setTop (mkF m 155 #[.val (.int e1), .val (.long m1), .second, .val (.int e2), .val (.long m2), .second, .val (.int e3), .val (.long m3), .second, .val (.long (9223372036854775807 : Int64)), .second, .val (.ref b1), .val (.ref b35), .val (.int ((e1 &&& (2147483647 : Int32)) % (16 : Int32))), .val (.int fx0.toInt32), .val (.int tx0.toInt32), .val (.long x40), .second, .unset, .unset, .unset, .unset, .unset, .unset, .unset, .unset, .unset, .unset] [(.long x40), (.int tx0.toInt32), (.int fx0.toInt32), (.ref b35)]))
  obtain ⟨hp_0, I_0, oW_0, oD_0⟩ := own_step4 (w' := 36028797018963968) I0 oW0 oD0 hfx0 htx0 (by decide) (by decide) (by decide) (by decide) (own_m55 m1) ex40
  refine own_callV S40 (y := (⟨"com/example/slackweave/slackweave/generate/TightestBounds", "add", "(IIJ)V"⟩ : MethodName)) (y' := (⟨"com/example/slackweave/slackweave/generate/TightestBounds", "add", "(IIJ)V"⟩ : MethodName)) (own_w hw 28 rfl) (own_w hw 29 rfl) (own_nf S40 (own_w hw 31 rfl)) (own_w hw 31 rfl) (own_w hw 30 rfl) (own_w hw 32 rfl) (own_w hw 4 rfl) (by decide) HM.exa (argsL := [(.int fx0.toInt32), (.int tx0.toInt32), (.long x40)]) (rest := []) (own_addC l Z a0 hw b35 aM b1 Rw own_D0 own_W0 fx0 tx0 hfx0 htx0 x40 h37 S40.old HM hp_0) own_news_sub (by decide +kernel : parseMethodDescriptor "(IIJ)V" = some ⟨[.int, .int, .long], none⟩) rfl rfl rfl at_155 (by decide) (Nat.le_of_ble_eq_true rfl) (by decide) (by decide) (fun T41 h41 v41 S41 K41 q41 => ?_)
  obtain ⟨rfl, H41⟩ := q41
  show own_F p e below s Z _ _ _ _ _ (T41.setTop (mkF m 158 #[.val (.int e1), .val (.long m1), .second, .val (.int e2), .val (.long m2), .second, .val (.int e3), .val (.long m3), .second, .val (.long (9223372036854775807 : Int64)), .second, .val (.ref b1), .val (.ref b35), .val (.int ((e1 &&& (2147483647 : Int32)) % (16 : Int32))), .val (.int fx0.toInt32), .val (.int tx0.toInt32), .val (.long x40), .second, .unset, .unset, .unset, .unset, .unset, .unset, .unset, .unset, .unset, .unset] []))
  refine own_F.of (fun _ => XS.aload S41.here S41.hx rfl (S41.dec at_158) rfl rfl) ?_
  refine own_F.of (fun _ => XS.iload S41.here S41.hx rfl (S41.dec at_160) rfl) ?_
  refine own_F.of (fun _ => XS.iload S41.here S41.hx rfl (S41.dec at_162) rfl) ?_
  refine own_F.of (fun _ => XS.lload S41.here S41.hx rfl (S41.dec at_164) rfl) ?_
  show own_F p e below s Z _ _ _ _ _ (T41.setTop (mkF m 166 #[.val (.int e1), .val (.long m1), .second, .val (.int e2), .val (.long m2), .second, .val (.int e3), .val (.long m3), .second, .val (.long (9223372036854775807 : Int64)), .second, .val (.ref b1), .val (.ref b35), .val (.int ((e1 &&& (2147483647 : Int32)) % (16 : Int32))), .val (.int fx0.toInt32), .val (.int tx0.toInt32), .val (.long x40), .second, .unset, .unset, .unset, .unset, .unset, .unset, .unset, .unset, .unset, .unset] [(.long x40), (.int tx0.toInt32), (.int fx0.toInt32), (.ref b1)]))
  refine own_callS S41 (y := (⟨"com/example/slackweave/slackweave/generate/TightestBoundsAddPinLaw", "edge", "([JIIJ)V"⟩ : MethodName)) (own_w hw 33 rfl) (own_w hw 34 rfl) (own_w hw 23 rfl) (own_w hw 35 rfl) (by decide) (argsL := [(.ref b1), (.int fx0.toInt32), (.int tx0.toInt32), (.long x40)]) (rest := []) (own_edgeC l Z a0 hw b35 aM b1 Rw (own_add own_D0 fx0 tx0 x40) own_W0 fx0 tx0 hfx0 htx0 x40 h41 S41.old H41) own_news_sub (by decide +kernel : parseMethodDescriptor "([JIIJ)V" = some ⟨[(.array .long), .int, .int, .long], none⟩) rfl rfl rfl at_166 (by decide) (Nat.le_of_ble_eq_true rfl) (by decide) (by decide) (fun T42 h42 v42 S42 K42 q42 => ?_)
  obtain ⟨rfl, H42⟩ := q42
  show own_F p e below s Z _ _ _ _ _ (T42.setTop (mkF m 169 #[.val (.int e1), .val (.long m1), .second, .val (.int e2), .val (.long m2), .second, .val (.int e3), .val (.long m3), .second, .val (.long (9223372036854775807 : Int64)), .second, .val (.ref b1), .val (.ref b35), .val (.int ((e1 &&& (2147483647 : Int32)) % (16 : Int32))), .val (.int fx0.toInt32), .val (.int tx0.toInt32), .val (.long x40), .second, .unset, .unset, .unset, .unset, .unset, .unset, .unset, .unset, .unset, .unset] []))
  refine own_F.of (fun _ => XS.iloadN S42.here S42.hx rfl (S42.dec at_169) rfl) ?_
  show own_F p e below s Z _ _ _ _ _ (T42.setTop (mkF m 170 #[.val (.int e1), .val (.long m1), .second, .val (.int e2), .val (.long m2), .second, .val (.int e3), .val (.long m3), .second, .val (.long (9223372036854775807 : Int64)), .second, .val (.ref b1), .val (.ref b35), .val (.int ((e1 &&& (2147483647 : Int32)) % (16 : Int32))), .val (.int fx0.toInt32), .val (.int tx0.toInt32), .val (.long x40), .second, .unset, .unset, .unset, .unset, .unset, .unset, .unset, .unset, .unset, .unset] [(.int e2)]))
  refine own_ldcI S42 (own_w hw 20 rfl) at_170 ?_
  show own_F p e below s Z _ _ _ _ _ (T42.setTop (mkF m 172 #[.val (.int e1), .val (.long m1), .second, .val (.int e2), .val (.long m2), .second, .val (.int e3), .val (.long m3), .second, .val (.long (9223372036854775807 : Int64)), .second, .val (.ref b1), .val (.ref b35), .val (.int ((e1 &&& (2147483647 : Int32)) % (16 : Int32))), .val (.int fx0.toInt32), .val (.int tx0.toInt32), .val (.long x40), .second, .unset, .unset, .unset, .unset, .unset, .unset, .unset, .unset, .unset, .unset] [(.int 2147483647), (.int e2)]))
  refine own_F.of (fun _ => XS.iand S42.here S42.hx rfl (S42.dec at_172) rfl) ?_
  show own_F p e below s Z _ _ _ _ _ (T42.setTop (mkF m 173 #[.val (.int e1), .val (.long m1), .second, .val (.int e2), .val (.long m2), .second, .val (.int e3), .val (.long m3), .second, .val (.long (9223372036854775807 : Int64)), .second, .val (.ref b1), .val (.ref b35), .val (.int ((e1 &&& (2147483647 : Int32)) % (16 : Int32))), .val (.int fx0.toInt32), .val (.int tx0.toInt32), .val (.long x40), .second, .unset, .unset, .unset, .unset, .unset, .unset, .unset, .unset, .unset, .unset] [(.int (e2 &&& (2147483647 : Int32)))]))
  refine own_F.of (fun _ => XS.bipush S42.here S42.hx rfl (S42.dec at_173)) ?_
  show own_F p e below s Z _ _ _ _ _ (T42.setTop (mkF m 175 #[.val (.int e1), .val (.long m1), .second, .val (.int e2), .val (.long m2), .second, .val (.int e3), .val (.long m3), .second, .val (.long (9223372036854775807 : Int64)), .second, .val (.ref b1), .val (.ref b35), .val (.int ((e1 &&& (2147483647 : Int32)) % (16 : Int32))), .val (.int fx0.toInt32), .val (.int tx0.toInt32), .val (.long x40), .second, .unset, .unset, .unset, .unset, .unset, .unset, .unset, .unset, .unset, .unset] [(.int 16), (.int (e2 &&& (2147483647 : Int32)))]))
  refine own_F.of (fun _ => own_irem S42 at_175 (by decide)) ?_
  show own_F p e below s Z _ _ _ _ _ (T42.setTop (mkF m 176 #[.val (.int e1), .val (.long m1), .second, .val (.int e2), .val (.long m2), .second, .val (.int e3), .val (.long m3), .second, .val (.long (9223372036854775807 : Int64)), .second, .val (.ref b1), .val (.ref b35), .val (.int ((e1 &&& (2147483647 : Int32)) % (16 : Int32))), .val (.int fx0.toInt32), .val (.int tx0.toInt32), .val (.long x40), .second, .unset, .unset, .unset, .unset, .unset, .unset, .unset, .unset, .unset, .unset] [(.int ((e2 &&& (2147483647 : Int32)) % (16 : Int32)))]))
  obtain ⟨fx1, tx1, hfx1, htx1, efx1, etx1⟩ := own_p16 e2
  refine own_F.of (fun _ => XS.istore S42.here S42.hx rfl (S42.dec at_176) rfl (l' := #[.val (.int e1), .val (.long m1), .second, .val (.int e2), .val (.long m2), .second, .val (.int e3), .val (.long m3), .second, .val (.long (9223372036854775807 : Int64)), .second, .val (.ref b1), .val (.ref b35), .val (.int ((e1 &&& (2147483647 : Int32)) % (16 : Int32))), .val (.int fx0.toInt32), .val (.int tx0.toInt32), .val (.long x40), .second, .val (.int ((e2 &&& (2147483647 : Int32)) % (16 : Int32))), .unset, .unset, .unset, .unset, .unset, .unset, .unset, .unset, .unset]) rfl) ?_
  refine own_F.of (fun _ => XS.iload S42.here S42.hx rfl (S42.dec at_178) rfl) ?_
  refine own_F.of (fun _ => XS.iconst S42.here S42.hx rfl (S42.dec at_180)) ?_
  show own_F p e below s Z _ _ _ _ _ (T42.setTop (mkF m 181 #[.val (.int e1), .val (.long m1), .second, .val (.int e2), .val (.long m2), .second, .val (.int e3), .val (.long m3), .second, .val (.long (9223372036854775807 : Int64)), .second, .val (.ref b1), .val (.ref b35), .val (.int ((e1 &&& (2147483647 : Int32)) % (16 : Int32))), .val (.int fx0.toInt32), .val (.int tx0.toInt32), .val (.long x40), .second, .val (.int ((e2 &&& (2147483647 : Int32)) % (16 : Int32))), .unset, .unset, .unset, .unset, .unset, .unset, .unset, .unset, .unset] [(.int 4), (.int ((e2 &&& (2147483647 : Int32)) % (16 : Int32)))]))
  refine own_F.of (fun _ => XS.idiv S42.here S42.hx rfl (S42.dec at_181) rfl (by decide)) ?_
  show own_F p e below s Z _ _ _ _ _ (T42.setTop (mkF m 182 #[.val (.int e1), .val (.long m1), .second, .val (.int e2), .val (.long m2), .second, .val (.int e3), .val (.long m3), .second, .val (.long (9223372036854775807 : Int64)), .second, .val (.ref b1), .val (.ref b35), .val (.int ((e1 &&& (2147483647 : Int32)) % (16 : Int32))), .val (.int fx0.toInt32), .val (.int tx0.toInt32), .val (.long x40), .second, .val (.int ((e2 &&& (2147483647 : Int32)) % (16 : Int32))), .unset, .unset, .unset, .unset, .unset, .unset, .unset, .unset, .unset] [(.int (((e2 &&& (2147483647 : Int32)) % (16 : Int32)) / (4 : Int32)))]))
  rw [efx1]
  show own_F p e below s Z _ _ _ _ _ (T42.setTop (mkF m 182 #[.val (.int e1), .val (.long m1), .second, .val (.int e2), .val (.long m2), .second, .val (.int e3), .val (.long m3), .second, .val (.long (9223372036854775807 : Int64)), .second, .val (.ref b1), .val (.ref b35), .val (.int ((e1 &&& (2147483647 : Int32)) % (16 : Int32))), .val (.int fx0.toInt32), .val (.int tx0.toInt32), .val (.long x40), .second, .val (.int ((e2 &&& (2147483647 : Int32)) % (16 : Int32))), .unset, .unset, .unset, .unset, .unset, .unset, .unset, .unset, .unset] [(.int fx1.toInt32)]))
  refine own_F.of (fun _ => XS.istore S42.here S42.hx rfl (S42.dec at_182) rfl (l' := #[.val (.int e1), .val (.long m1), .second, .val (.int e2), .val (.long m2), .second, .val (.int e3), .val (.long m3), .second, .val (.long (9223372036854775807 : Int64)), .second, .val (.ref b1), .val (.ref b35), .val (.int ((e1 &&& (2147483647 : Int32)) % (16 : Int32))), .val (.int fx0.toInt32), .val (.int tx0.toInt32), .val (.long x40), .second, .val (.int ((e2 &&& (2147483647 : Int32)) % (16 : Int32))), .val (.int fx1.toInt32), .unset, .unset, .unset, .unset, .unset, .unset, .unset, .unset]) rfl) ?_
  refine own_F.of (fun _ => XS.iload S42.here S42.hx rfl (S42.dec at_184) rfl) ?_
  refine own_F.of (fun _ => XS.iconst S42.here S42.hx rfl (S42.dec at_186)) ?_
  show own_F p e below s Z _ _ _ _ _ (T42.setTop (mkF m 187 #[.val (.int e1), .val (.long m1), .second, .val (.int e2), .val (.long m2), .second, .val (.int e3), .val (.long m3), .second, .val (.long (9223372036854775807 : Int64)), .second, .val (.ref b1), .val (.ref b35), .val (.int ((e1 &&& (2147483647 : Int32)) % (16 : Int32))), .val (.int fx0.toInt32), .val (.int tx0.toInt32), .val (.long x40), .second, .val (.int ((e2 &&& (2147483647 : Int32)) % (16 : Int32))), .val (.int fx1.toInt32), .unset, .unset, .unset, .unset, .unset, .unset, .unset, .unset] [(.int 4), (.int ((e2 &&& (2147483647 : Int32)) % (16 : Int32)))]))
  refine own_F.of (fun _ => own_irem S42 at_187 (by decide)) ?_
  show own_F p e below s Z _ _ _ _ _ (T42.setTop (mkF m 188 #[.val (.int e1), .val (.long m1), .second, .val (.int e2), .val (.long m2), .second, .val (.int e3), .val (.long m3), .second, .val (.long (9223372036854775807 : Int64)), .second, .val (.ref b1), .val (.ref b35), .val (.int ((e1 &&& (2147483647 : Int32)) % (16 : Int32))), .val (.int fx0.toInt32), .val (.int tx0.toInt32), .val (.long x40), .second, .val (.int ((e2 &&& (2147483647 : Int32)) % (16 : Int32))), .val (.int fx1.toInt32), .unset, .unset, .unset, .unset, .unset, .unset, .unset, .unset] [(.int (((e2 &&& (2147483647 : Int32)) % (16 : Int32)) % (4 : Int32)))]))
  rw [etx1]
  show own_F p e below s Z _ _ _ _ _ (T42.setTop (mkF m 188 #[.val (.int e1), .val (.long m1), .second, .val (.int e2), .val (.long m2), .second, .val (.int e3), .val (.long m3), .second, .val (.long (9223372036854775807 : Int64)), .second, .val (.ref b1), .val (.ref b35), .val (.int ((e1 &&& (2147483647 : Int32)) % (16 : Int32))), .val (.int fx0.toInt32), .val (.int tx0.toInt32), .val (.long x40), .second, .val (.int ((e2 &&& (2147483647 : Int32)) % (16 : Int32))), .val (.int fx1.toInt32), .unset, .unset, .unset, .unset, .unset, .unset, .unset, .unset] [(.int tx1.toInt32)]))
  refine own_F.of (fun _ => XS.istore S42.here S42.hx rfl (S42.dec at_188) rfl (l' := #[.val (.int e1), .val (.long m1), .second, .val (.int e2), .val (.long m2), .second, .val (.int e3), .val (.long m3), .second, .val (.long (9223372036854775807 : Int64)), .second, .val (.ref b1), .val (.ref b35), .val (.int ((e1 &&& (2147483647 : Int32)) % (16 : Int32))), .val (.int fx0.toInt32), .val (.int tx0.toInt32), .val (.long x40), .second, .val (.int ((e2 &&& (2147483647 : Int32)) % (16 : Int32))), .val (.int fx1.toInt32), .val (.int tx1.toInt32), .unset, .unset, .unset, .unset, .unset, .unset, .unset]) rfl) ?_
  refine own_F.of (fun _ => XS.aload S42.here S42.hx rfl (S42.dec at_190) rfl rfl) ?_
  refine own_F.of (fun _ => XS.iload S42.here S42.hx rfl (S42.dec at_192) rfl) ?_
  refine own_F.of (fun _ => XS.iload S42.here S42.hx rfl (S42.dec at_194) rfl) ?_
  refine own_F.of (fun _ => XS.lload S42.here S42.hx rfl (S42.dec at_196) rfl) ?_
  show own_F p e below s Z _ _ _ _ _ (T42.setTop (mkF m 198 #[.val (.int e1), .val (.long m1), .second, .val (.int e2), .val (.long m2), .second, .val (.int e3), .val (.long m3), .second, .val (.long (9223372036854775807 : Int64)), .second, .val (.ref b1), .val (.ref b35), .val (.int ((e1 &&& (2147483647 : Int32)) % (16 : Int32))), .val (.int fx0.toInt32), .val (.int tx0.toInt32), .val (.long x40), .second, .val (.int ((e2 &&& (2147483647 : Int32)) % (16 : Int32))), .val (.int fx1.toInt32), .val (.int tx1.toInt32), .unset, .unset, .unset, .unset, .unset, .unset, .unset] [(.long m2), (.int tx1.toInt32), (.int fx1.toInt32), (.ref b1)]))
  refine own_F.of (fun _ => XS.bipush S42.here S42.hx rfl (S42.dec at_198)) ?_
  show own_F p e below s Z _ _ _ _ _ (T42.setTop (mkF m 200 #[.val (.int e1), .val (.long m1), .second, .val (.int e2), .val (.long m2), .second, .val (.int e3), .val (.long m3), .second, .val (.long (9223372036854775807 : Int64)), .second, .val (.ref b1), .val (.ref b35), .val (.int ((e1 &&& (2147483647 : Int32)) % (16 : Int32))), .val (.int fx0.toInt32), .val (.int tx0.toInt32), .val (.long x40), .second, .val (.int ((e2 &&& (2147483647 : Int32)) % (16 : Int32))), .val (.int fx1.toInt32), .val (.int tx1.toInt32), .unset, .unset, .unset, .unset, .unset, .unset, .unset] [(.int 8), (.long m2), (.int tx1.toInt32), (.int fx1.toInt32), (.ref b1)]))
  refine own_F.of (fun _ => XS.lshr S42.here S42.hx rfl (S42.dec at_200) rfl) ?_
  show own_F p e below s Z _ _ _ _ _ (T42.setTop (mkF m 201 #[.val (.int e1), .val (.long m1), .second, .val (.int e2), .val (.long m2), .second, .val (.int e3), .val (.long m3), .second, .val (.long (9223372036854775807 : Int64)), .second, .val (.ref b1), .val (.ref b35), .val (.int ((e1 &&& (2147483647 : Int32)) % (16 : Int32))), .val (.int fx0.toInt32), .val (.int tx0.toInt32), .val (.long x40), .second, .val (.int ((e2 &&& (2147483647 : Int32)) % (16 : Int32))), .val (.int fx1.toInt32), .val (.int tx1.toInt32), .unset, .unset, .unset, .unset, .unset, .unset, .unset] [(.long (m2 >>> ((8 : Int32) &&& 0x3f).toInt64)), (.int tx1.toInt32), (.int fx1.toInt32), (.ref b1)]))
  refine own_callS S42 (y := (⟨"com/example/slackweave/slackweave/generate/TightestBoundsAddPinLaw", "clampMax", "([JIIJ)J"⟩ : MethodName)) (own_w hw 21 rfl) (own_w hw 22 rfl) (own_w hw 23 rfl) (own_w hw 24 rfl) (by decide) (argsL := [(.ref b1), (.int fx1.toInt32), (.int tx1.toInt32), (.long (m2 >>> ((8 : Int32) &&& 0x3f).toInt64))]) (rest := []) (own_clamp l Z a0 hw b1 (own_edge own_W0 fx0 tx0 x40) fx1 tx1 hfx1 htx1 (m2 >>> ((8 : Int32) &&& 0x3f).toInt64) h42 S42.old H42.wt) all0 (by decide +kernel : parseMethodDescriptor "([JIIJ)J" = some ⟨[(.array .long), .int, .int, .long], some .long⟩) rfl rfl rfl at_201 (by decide) (Nat.le_of_ble_eq_true rfl) (by decide) (by decide) (fun T43 h43 v43 S43 K43 q43 => ?_)
  obtain ⟨x43, rfl, ex43, rfl⟩ := q43
  show own_F p e below s Z _ _ _ _ _ (T43.setTop (mkF m 204 #[.val (.int e1), .val (.long m1), .second, .val (.int e2), .val (.long m2), .second, .val (.int e3), .val (.long m3), .second, .val (.long (9223372036854775807 : Int64)), .second, .val (.ref b1), .val (.ref b35), .val (.int ((e1 &&& (2147483647 : Int32)) % (16 : Int32))), .val (.int fx0.toInt32), .val (.int tx0.toInt32), .val (.long x40), .second, .val (.int ((e2 &&& (2147483647 : Int32)) % (16 : Int32))), .val (.int fx1.toInt32), .val (.int tx1.toInt32), .unset, .unset, .unset, .unset, .unset, .unset, .unset] [(.long x43)]))
  refine own_F.of (fun _ => XS.lstore S43.here S43.hx rfl (S43.dec at_204) rfl (l' := #[.val (.int e1), .val (.long m1), .second, .val (.int e2), .val (.long m2), .second, .val (.int e3), .val (.long m3), .second, .val (.long (9223372036854775807 : Int64)), .second, .val (.ref b1), .val (.ref b35), .val (.int ((e1 &&& (2147483647 : Int32)) % (16 : Int32))), .val (.int fx0.toInt32), .val (.int tx0.toInt32), .val (.long x40), .second, .val (.int ((e2 &&& (2147483647 : Int32)) % (16 : Int32))), .val (.int fx1.toInt32), .val (.int tx1.toInt32), .val (.long x43), .second, .unset, .unset, .unset, .unset, .unset]) rfl) ?_
  refine own_F.of (fun _ => XS.aload S43.here S43.hx rfl (S43.dec at_206) rfl rfl) ?_
  refine own_F.of (fun _ => XS.iload S43.here S43.hx rfl (S43.dec at_208) rfl) ?_
  refine own_F.of (fun _ => XS.iload S43.here S43.hx rfl (S43.dec at_210) rfl) ?_
  refine own_F.of (fun _ => XS.lload S43.here S43.hx rfl (S43.dec at_212) rfl) ?_
  show own_F p e below s Z _ _ _ _ _ (T43.setTop (mkF m 214 #[.val (.int e1), .val (.long m1), .second, .val (.int e2), .val (.long m2), .second, .val (.int e3), .val (.long m3), .second, .val (.long (9223372036854775807 : Int64)), .second, .val (.ref b1), .val (.ref b35), .val (.int ((e1 &&& (2147483647 : Int32)) % (16 : Int32))), .val (.int fx0.toInt32), .val (.int tx0.toInt32), .val (.long x40), .second, .val (.int ((e2 &&& (2147483647 : Int32)) % (16 : Int32))), .val (.int fx1.toInt32), .val (.int tx1.toInt32), .val (.long x43), .second, .unset, .unset, .unset, .unset, .unset] [(.long x43), (.int tx1.toInt32), (.int fx1.toInt32), (.ref b35)]))
  obtain ⟨hp_1, I_1, oW_1, oD_1⟩ := own_step4 (w' := 108086391056891904) I_0 oW_0 oD_0 hfx1 htx1 (by decide) (by decide) (by decide) (by decide) (own_m55 m2) ex43
  refine own_callV S43 (y := (⟨"com/example/slackweave/slackweave/generate/TightestBounds", "add", "(IIJ)V"⟩ : MethodName)) (y' := (⟨"com/example/slackweave/slackweave/generate/TightestBounds", "add", "(IIJ)V"⟩ : MethodName)) (own_w hw 28 rfl) (own_w hw 29 rfl) (own_nf S43 (own_w hw 31 rfl)) (own_w hw 31 rfl) (own_w hw 30 rfl) (own_w hw 32 rfl) (own_w hw 4 rfl) (by decide) H42.exa (argsL := [(.int fx1.toInt32), (.int tx1.toInt32), (.long x43)]) (rest := []) (own_addC l Z a0 hw b35 aM b1 Rw (own_add own_D0 fx0 tx0 x40) (own_edge own_W0 fx0 tx0 x40) fx1 tx1 hfx1 htx1 x43 h42 S43.old H42 hp_1) own_news_sub (by decide +kernel : parseMethodDescriptor "(IIJ)V" = some ⟨[.int, .int, .long], none⟩) rfl rfl rfl at_214 (by decide) (Nat.le_of_ble_eq_true rfl) (by decide) (by decide) (fun T44 h44 v44 S44 K44 q44 => ?_)
  obtain ⟨rfl, H44⟩ := q44
  show own_F p e below s Z _ _ _ _ _ (T44.setTop (mkF m 217 #[.val (.int e1), .val (.long m1), .second, .val (.int e2), .val (.long m2), .second, .val (.int e3), .val (.long m3), .second, .val (.long (9223372036854775807 : Int64)), .second, .val (.ref b1), .val (.ref b35), .val (.int ((e1 &&& (2147483647 : Int32)) % (16 : Int32))), .val (.int fx0.toInt32), .val (.int tx0.toInt32), .val (.long x40), .second, .val (.int ((e2 &&& (2147483647 : Int32)) % (16 : Int32))), .val (.int fx1.toInt32), .val (.int tx1.toInt32), .val (.long x43), .second, .unset, .unset, .unset, .unset, .unset] []))
  refine own_F.of (fun _ => XS.aload S44.here S44.hx rfl (S44.dec at_217) rfl rfl) ?_
  refine own_F.of (fun _ => XS.iload S44.here S44.hx rfl (S44.dec at_219) rfl) ?_
  refine own_F.of (fun _ => XS.iload S44.here S44.hx rfl (S44.dec at_221) rfl) ?_
  refine own_F.of (fun _ => XS.lload S44.here S44.hx rfl (S44.dec at_223) rfl) ?_
  show own_F p e below s Z _ _ _ _ _ (T44.setTop (mkF m 225 #[.val (.int e1), .val (.long m1), .second, .val (.int e2), .val (.long m2), .second, .val (.int e3), .val (.long m3), .second, .val (.long (9223372036854775807 : Int64)), .second, .val (.ref b1), .val (.ref b35), .val (.int ((e1 &&& (2147483647 : Int32)) % (16 : Int32))), .val (.int fx0.toInt32), .val (.int tx0.toInt32), .val (.long x40), .second, .val (.int ((e2 &&& (2147483647 : Int32)) % (16 : Int32))), .val (.int fx1.toInt32), .val (.int tx1.toInt32), .val (.long x43), .second, .unset, .unset, .unset, .unset, .unset] [(.long x43), (.int tx1.toInt32), (.int fx1.toInt32), (.ref b1)]))
  refine own_callS S44 (y := (⟨"com/example/slackweave/slackweave/generate/TightestBoundsAddPinLaw", "edge", "([JIIJ)V"⟩ : MethodName)) (own_w hw 33 rfl) (own_w hw 34 rfl) (own_w hw 23 rfl) (own_w hw 35 rfl) (by decide) (argsL := [(.ref b1), (.int fx1.toInt32), (.int tx1.toInt32), (.long x43)]) (rest := []) (own_edgeC l Z a0 hw b35 aM b1 Rw (own_add (own_add own_D0 fx0 tx0 x40) fx1 tx1 x43) (own_edge own_W0 fx0 tx0 x40) fx1 tx1 hfx1 htx1 x43 h44 S44.old H44) own_news_sub (by decide +kernel : parseMethodDescriptor "([JIIJ)V" = some ⟨[(.array .long), .int, .int, .long], none⟩) rfl rfl rfl at_225 (by decide) (Nat.le_of_ble_eq_true rfl) (by decide) (by decide) (fun T45 h45 v45 S45 K45 q45 => ?_)
  obtain ⟨rfl, H45⟩ := q45
  show own_F p e below s Z _ _ _ _ _ (T45.setTop (mkF m 228 #[.val (.int e1), .val (.long m1), .second, .val (.int e2), .val (.long m2), .second, .val (.int e3), .val (.long m3), .second, .val (.long (9223372036854775807 : Int64)), .second, .val (.ref b1), .val (.ref b35), .val (.int ((e1 &&& (2147483647 : Int32)) % (16 : Int32))), .val (.int fx0.toInt32), .val (.int tx0.toInt32), .val (.long x40), .second, .val (.int ((e2 &&& (2147483647 : Int32)) % (16 : Int32))), .val (.int fx1.toInt32), .val (.int tx1.toInt32), .val (.long x43), .second, .unset, .unset, .unset, .unset, .unset] []))
  refine own_F.of (fun _ => XS.iload S45.here S45.hx rfl (S45.dec at_228) rfl) ?_
  show own_F p e below s Z _ _ _ _ _ (T45.setTop (mkF m 230 #[.val (.int e1), .val (.long m1), .second, .val (.int e2), .val (.long m2), .second, .val (.int e3), .val (.long m3), .second, .val (.long (9223372036854775807 : Int64)), .second, .val (.ref b1), .val (.ref b35), .val (.int ((e1 &&& (2147483647 : Int32)) % (16 : Int32))), .val (.int fx0.toInt32), .val (.int tx0.toInt32), .val (.long x40), .second, .val (.int ((e2 &&& (2147483647 : Int32)) % (16 : Int32))), .val (.int fx1.toInt32), .val (.int tx1.toInt32), .val (.long x43), .second, .unset, .unset, .unset, .unset, .unset] [(.int e3)]))
  refine own_ldcI S45 (own_w hw 20 rfl) at_230 ?_
  show own_F p e below s Z _ _ _ _ _ (T45.setTop (mkF m 232 #[.val (.int e1), .val (.long m1), .second, .val (.int e2), .val (.long m2), .second, .val (.int e3), .val (.long m3), .second, .val (.long (9223372036854775807 : Int64)), .second, .val (.ref b1), .val (.ref b35), .val (.int ((e1 &&& (2147483647 : Int32)) % (16 : Int32))), .val (.int fx0.toInt32), .val (.int tx0.toInt32), .val (.long x40), .second, .val (.int ((e2 &&& (2147483647 : Int32)) % (16 : Int32))), .val (.int fx1.toInt32), .val (.int tx1.toInt32), .val (.long x43), .second, .unset, .unset, .unset, .unset, .unset] [(.int 2147483647), (.int e3)]))
  refine own_F.of (fun _ => XS.iand S45.here S45.hx rfl (S45.dec at_232) rfl) ?_
  show own_F p e below s Z _ _ _ _ _ (T45.setTop (mkF m 233 #[.val (.int e1), .val (.long m1), .second, .val (.int e2), .val (.long m2), .second, .val (.int e3), .val (.long m3), .second, .val (.long (9223372036854775807 : Int64)), .second, .val (.ref b1), .val (.ref b35), .val (.int ((e1 &&& (2147483647 : Int32)) % (16 : Int32))), .val (.int fx0.toInt32), .val (.int tx0.toInt32), .val (.long x40), .second, .val (.int ((e2 &&& (2147483647 : Int32)) % (16 : Int32))), .val (.int fx1.toInt32), .val (.int tx1.toInt32), .val (.long x43), .second, .unset, .unset, .unset, .unset, .unset] [(.int (e3 &&& (2147483647 : Int32)))]))
  refine own_F.of (fun _ => XS.bipush S45.here S45.hx rfl (S45.dec at_233)) ?_
  show own_F p e below s Z _ _ _ _ _ (T45.setTop (mkF m 235 #[.val (.int e1), .val (.long m1), .second, .val (.int e2), .val (.long m2), .second, .val (.int e3), .val (.long m3), .second, .val (.long (9223372036854775807 : Int64)), .second, .val (.ref b1), .val (.ref b35), .val (.int ((e1 &&& (2147483647 : Int32)) % (16 : Int32))), .val (.int fx0.toInt32), .val (.int tx0.toInt32), .val (.long x40), .second, .val (.int ((e2 &&& (2147483647 : Int32)) % (16 : Int32))), .val (.int fx1.toInt32), .val (.int tx1.toInt32), .val (.long x43), .second, .unset, .unset, .unset, .unset, .unset] [(.int 16), (.int (e3 &&& (2147483647 : Int32)))]))
  refine own_F.of (fun _ => own_irem S45 at_235 (by decide)) ?_
  show own_F p e below s Z _ _ _ _ _ (T45.setTop (mkF m 236 #[.val (.int e1), .val (.long m1), .second, .val (.int e2), .val (.long m2), .second, .val (.int e3), .val (.long m3), .second, .val (.long (9223372036854775807 : Int64)), .second, .val (.ref b1), .val (.ref b35), .val (.int ((e1 &&& (2147483647 : Int32)) % (16 : Int32))), .val (.int fx0.toInt32), .val (.int tx0.toInt32), .val (.long x40), .second, .val (.int ((e2 &&& (2147483647 : Int32)) % (16 : Int32))), .val (.int fx1.toInt32), .val (.int tx1.toInt32), .val (.long x43), .second, .unset, .unset, .unset, .unset, .unset] [(.int ((e3 &&& (2147483647 : Int32)) % (16 : Int32)))]))
  obtain ⟨fx2, tx2, hfx2, htx2, efx2, etx2⟩ := own_p16 e3
  refine own_F.of (fun _ => XS.istore S45.here S45.hx rfl (S45.dec at_236) rfl (l' := #[.val (.int e1), .val (.long m1), .second, .val (.int e2), .val (.long m2), .second, .val (.int e3), .val (.long m3), .second, .val (.long (9223372036854775807 : Int64)), .second, .val (.ref b1), .val (.ref b35), .val (.int ((e1 &&& (2147483647 : Int32)) % (16 : Int32))), .val (.int fx0.toInt32), .val (.int tx0.toInt32), .val (.long x40), .second, .val (.int ((e2 &&& (2147483647 : Int32)) % (16 : Int32))), .val (.int fx1.toInt32), .val (.int tx1.toInt32), .val (.long x43), .second, .val (.int ((e3 &&& (2147483647 : Int32)) % (16 : Int32))), .unset, .unset, .unset, .unset]) rfl) ?_
  refine own_F.of (fun _ => XS.iload S45.here S45.hx rfl (S45.dec at_238) rfl) ?_
  refine own_F.of (fun _ => XS.iconst S45.here S45.hx rfl (S45.dec at_240)) ?_
  show own_F p e below s Z _ _ _ _ _ (T45.setTop (mkF m 241 #[.val (.int e1), .val (.long m1), .second, .val (.int e2), .val (.long m2), .second, .val (.int e3), .val (.long m3), .second, .val (.long (9223372036854775807 : Int64)), .second, .val (.ref b1), .val (.ref b35), .val (.int ((e1 &&& (2147483647 : Int32)) % (16 : Int32))), .val (.int fx0.toInt32), .val (.int tx0.toInt32), .val (.long x40), .second, .val (.int ((e2 &&& (2147483647 : Int32)) % (16 : Int32))), .val (.int fx1.toInt32), .val (.int tx1.toInt32), .val (.long x43), .second, .val (.int ((e3 &&& (2147483647 : Int32)) % (16 : Int32))), .unset, .unset, .unset, .unset] [(.int 4), (.int ((e3 &&& (2147483647 : Int32)) % (16 : Int32)))]))
  refine own_F.of (fun _ => XS.idiv S45.here S45.hx rfl (S45.dec at_241) rfl (by decide)) ?_
  show own_F p e below s Z _ _ _ _ _ (T45.setTop (mkF m 242 #[.val (.int e1), .val (.long m1), .second, .val (.int e2), .val (.long m2), .second, .val (.int e3), .val (.long m3), .second, .val (.long (9223372036854775807 : Int64)), .second, .val (.ref b1), .val (.ref b35), .val (.int ((e1 &&& (2147483647 : Int32)) % (16 : Int32))), .val (.int fx0.toInt32), .val (.int tx0.toInt32), .val (.long x40), .second, .val (.int ((e2 &&& (2147483647 : Int32)) % (16 : Int32))), .val (.int fx1.toInt32), .val (.int tx1.toInt32), .val (.long x43), .second, .val (.int ((e3 &&& (2147483647 : Int32)) % (16 : Int32))), .unset, .unset, .unset, .unset] [(.int (((e3 &&& (2147483647 : Int32)) % (16 : Int32)) / (4 : Int32)))]))
  rw [efx2]
  show own_F p e below s Z _ _ _ _ _ (T45.setTop (mkF m 242 #[.val (.int e1), .val (.long m1), .second, .val (.int e2), .val (.long m2), .second, .val (.int e3), .val (.long m3), .second, .val (.long (9223372036854775807 : Int64)), .second, .val (.ref b1), .val (.ref b35), .val (.int ((e1 &&& (2147483647 : Int32)) % (16 : Int32))), .val (.int fx0.toInt32), .val (.int tx0.toInt32), .val (.long x40), .second, .val (.int ((e2 &&& (2147483647 : Int32)) % (16 : Int32))), .val (.int fx1.toInt32), .val (.int tx1.toInt32), .val (.long x43), .second, .val (.int ((e3 &&& (2147483647 : Int32)) % (16 : Int32))), .unset, .unset, .unset, .unset] [(.int fx2.toInt32)]))
  refine own_F.of (fun _ => XS.istore S45.here S45.hx rfl (S45.dec at_242) rfl (l' := #[.val (.int e1), .val (.long m1), .second, .val (.int e2), .val (.long m2), .second, .val (.int e3), .val (.long m3), .second, .val (.long (9223372036854775807 : Int64)), .second, .val (.ref b1), .val (.ref b35), .val (.int ((e1 &&& (2147483647 : Int32)) % (16 : Int32))), .val (.int fx0.toInt32), .val (.int tx0.toInt32), .val (.long x40), .second, .val (.int ((e2 &&& (2147483647 : Int32)) % (16 : Int32))), .val (.int fx1.toInt32), .val (.int tx1.toInt32), .val (.long x43), .second, .val (.int ((e3 &&& (2147483647 : Int32)) % (16 : Int32))), .val (.int fx2.toInt32), .unset, .unset, .unset]) rfl) ?_
  refine own_F.of (fun _ => XS.iload S45.here S45.hx rfl (S45.dec at_244) rfl) ?_
  refine own_F.of (fun _ => XS.iconst S45.here S45.hx rfl (S45.dec at_246)) ?_
  show own_F p e below s Z _ _ _ _ _ (T45.setTop (mkF m 247 #[.val (.int e1), .val (.long m1), .second, .val (.int e2), .val (.long m2), .second, .val (.int e3), .val (.long m3), .second, .val (.long (9223372036854775807 : Int64)), .second, .val (.ref b1), .val (.ref b35), .val (.int ((e1 &&& (2147483647 : Int32)) % (16 : Int32))), .val (.int fx0.toInt32), .val (.int tx0.toInt32), .val (.long x40), .second, .val (.int ((e2 &&& (2147483647 : Int32)) % (16 : Int32))), .val (.int fx1.toInt32), .val (.int tx1.toInt32), .val (.long x43), .second, .val (.int ((e3 &&& (2147483647 : Int32)) % (16 : Int32))), .val (.int fx2.toInt32), .unset, .unset, .unset] [(.int 4), (.int ((e3 &&& (2147483647 : Int32)) % (16 : Int32)))]))
  refine own_F.of (fun _ => own_irem S45 at_247 (by decide)) ?_
  show own_F p e below s Z _ _ _ _ _ (T45.setTop (mkF m 248 #[.val (.int e1), .val (.long m1), .second, .val (.int e2), .val (.long m2), .second, .val (.int e3), .val (.long m3), .second, .val (.long (9223372036854775807 : Int64)), .second, .val (.ref b1), .val (.ref b35), .val (.int ((e1 &&& (2147483647 : Int32)) % (16 : Int32))), .val (.int fx0.toInt32), .val (.int tx0.toInt32), .val (.long x40), .second, .val (.int ((e2 &&& (2147483647 : Int32)) % (16 : Int32))), .val (.int fx1.toInt32), .val (.int tx1.toInt32), .val (.long x43), .second, .val (.int ((e3 &&& (2147483647 : Int32)) % (16 : Int32))), .val (.int fx2.toInt32), .unset, .unset, .unset] [(.int (((e3 &&& (2147483647 : Int32)) % (16 : Int32)) % (4 : Int32)))]))
  rw [etx2]
  show own_F p e below s Z _ _ _ _ _ (T45.setTop (mkF m 248 #[.val (.int e1), .val (.long m1), .second, .val (.int e2), .val (.long m2), .second, .val (.int e3), .val (.long m3), .second, .val (.long (9223372036854775807 : Int64)), .second, .val (.ref b1), .val (.ref b35), .val (.int ((e1 &&& (2147483647 : Int32)) % (16 : Int32))), .val (.int fx0.toInt32), .val (.int tx0.toInt32), .val (.long x40), .second, .val (.int ((e2 &&& (2147483647 : Int32)) % (16 : Int32))), .val (.int fx1.toInt32), .val (.int tx1.toInt32), .val (.long x43), .second, .val (.int ((e3 &&& (2147483647 : Int32)) % (16 : Int32))), .val (.int fx2.toInt32), .unset, .unset, .unset] [(.int tx2.toInt32)]))
  refine own_F.of (fun _ => XS.istore S45.here S45.hx rfl (S45.dec at_248) rfl (l' := #[.val (.int e1), .val (.long m1), .second, .val (.int e2), .val (.long m2), .second, .val (.int e3), .val (.long m3), .second, .val (.long (9223372036854775807 : Int64)), .second, .val (.ref b1), .val (.ref b35), .val (.int ((e1 &&& (2147483647 : Int32)) % (16 : Int32))), .val (.int fx0.toInt32), .val (.int tx0.toInt32), .val (.long x40), .second, .val (.int ((e2 &&& (2147483647 : Int32)) % (16 : Int32))), .val (.int fx1.toInt32), .val (.int tx1.toInt32), .val (.long x43), .second, .val (.int ((e3 &&& (2147483647 : Int32)) % (16 : Int32))), .val (.int fx2.toInt32), .val (.int tx2.toInt32), .unset, .unset]) rfl) ?_
  refine own_F.of (fun _ => XS.aload S45.here S45.hx rfl (S45.dec at_250) rfl rfl) ?_
  refine own_F.of (fun _ => XS.iload S45.here S45.hx rfl (S45.dec at_252) rfl) ?_
  refine own_F.of (fun _ => XS.iload S45.here S45.hx rfl (S45.dec at_254) rfl) ?_
  refine own_F.of (fun _ => XS.lload S45.here S45.hx rfl (S45.dec at_256) rfl) ?_
  show own_F p e below s Z _ _ _ _ _ (T45.setTop (mkF m 258 #[.val (.int e1), .val (.long m1), .second, .val (.int e2), .val (.long m2), .second, .val (.int e3), .val (.long m3), .second, .val (.long (9223372036854775807 : Int64)), .second, .val (.ref b1), .val (.ref b35), .val (.int ((e1 &&& (2147483647 : Int32)) % (16 : Int32))), .val (.int fx0.toInt32), .val (.int tx0.toInt32), .val (.long x40), .second, .val (.int ((e2 &&& (2147483647 : Int32)) % (16 : Int32))), .val (.int fx1.toInt32), .val (.int tx1.toInt32), .val (.long x43), .second, .val (.int ((e3 &&& (2147483647 : Int32)) % (16 : Int32))), .val (.int fx2.toInt32), .val (.int tx2.toInt32), .unset, .unset] [(.long m3), (.int tx2.toInt32), (.int fx2.toInt32), (.ref b1)]))
  refine own_F.of (fun _ => XS.bipush S45.here S45.hx rfl (S45.dec at_258)) ?_
  show own_F p e below s Z _ _ _ _ _ (T45.setTop (mkF m 260 #[.val (.int e1), .val (.long m1), .second, .val (.int e2), .val (.long m2), .second, .val (.int e3), .val (.long m3), .second, .val (.long (9223372036854775807 : Int64)), .second, .val (.ref b1), .val (.ref b35), .val (.int ((e1 &&& (2147483647 : Int32)) % (16 : Int32))), .val (.int fx0.toInt32), .val (.int tx0.toInt32), .val (.long x40), .second, .val (.int ((e2 &&& (2147483647 : Int32)) % (16 : Int32))), .val (.int fx1.toInt32), .val (.int tx1.toInt32), .val (.long x43), .second, .val (.int ((e3 &&& (2147483647 : Int32)) % (16 : Int32))), .val (.int fx2.toInt32), .val (.int tx2.toInt32), .unset, .unset] [(.int 8), (.long m3), (.int tx2.toInt32), (.int fx2.toInt32), (.ref b1)]))
  refine own_F.of (fun _ => XS.lshr S45.here S45.hx rfl (S45.dec at_260) rfl) ?_
  show own_F p e below s Z _ _ _ _ _ (T45.setTop (mkF m 261 #[.val (.int e1), .val (.long m1), .second, .val (.int e2), .val (.long m2), .second, .val (.int e3), .val (.long m3), .second, .val (.long (9223372036854775807 : Int64)), .second, .val (.ref b1), .val (.ref b35), .val (.int ((e1 &&& (2147483647 : Int32)) % (16 : Int32))), .val (.int fx0.toInt32), .val (.int tx0.toInt32), .val (.long x40), .second, .val (.int ((e2 &&& (2147483647 : Int32)) % (16 : Int32))), .val (.int fx1.toInt32), .val (.int tx1.toInt32), .val (.long x43), .second, .val (.int ((e3 &&& (2147483647 : Int32)) % (16 : Int32))), .val (.int fx2.toInt32), .val (.int tx2.toInt32), .unset, .unset] [(.long (m3 >>> ((8 : Int32) &&& 0x3f).toInt64)), (.int tx2.toInt32), (.int fx2.toInt32), (.ref b1)]))
  refine own_callS S45 (y := (⟨"com/example/slackweave/slackweave/generate/TightestBoundsAddPinLaw", "clampMax", "([JIIJ)J"⟩ : MethodName)) (own_w hw 21 rfl) (own_w hw 22 rfl) (own_w hw 23 rfl) (own_w hw 24 rfl) (by decide) (argsL := [(.ref b1), (.int fx2.toInt32), (.int tx2.toInt32), (.long (m3 >>> ((8 : Int32) &&& 0x3f).toInt64))]) (rest := []) (own_clamp l Z a0 hw b1 (own_edge (own_edge own_W0 fx0 tx0 x40) fx1 tx1 x43) fx2 tx2 hfx2 htx2 (m3 >>> ((8 : Int32) &&& 0x3f).toInt64) h45 S45.old H45.wt) all0 (by decide +kernel : parseMethodDescriptor "([JIIJ)J" = some ⟨[(.array .long), .int, .int, .long], some .long⟩) rfl rfl rfl at_261 (by decide) (Nat.le_of_ble_eq_true rfl) (by decide) (by decide) (fun T46 h46 v46 S46 K46 q46 => ?_)
  obtain ⟨x46, rfl, ex46, rfl⟩ := q46
  show own_F p e below s Z _ _ _ _ _ (T46.setTop (mkF m 264 #[.val (.int e1), .val (.long m1), .second, .val (.int e2), .val (.long m2), .second, .val (.int e3), .val (.long m3), .second, .val (.long (9223372036854775807 : Int64)), .second, .val (.ref b1), .val (.ref b35), .val (.int ((e1 &&& (2147483647 : Int32)) % (16 : Int32))), .val (.int fx0.toInt32), .val (.int tx0.toInt32), .val (.long x40), .second, .val (.int ((e2 &&& (2147483647 : Int32)) % (16 : Int32))), .val (.int fx1.toInt32), .val (.int tx1.toInt32), .val (.long x43), .second, .val (.int ((e3 &&& (2147483647 : Int32)) % (16 : Int32))), .val (.int fx2.toInt32), .val (.int tx2.toInt32), .unset, .unset] [(.long x46)]))
  refine own_F.of (fun _ => XS.lstore S46.here S46.hx rfl (S46.dec at_264) rfl (l' := #[.val (.int e1), .val (.long m1), .second, .val (.int e2), .val (.long m2), .second, .val (.int e3), .val (.long m3), .second, .val (.long (9223372036854775807 : Int64)), .second, .val (.ref b1), .val (.ref b35), .val (.int ((e1 &&& (2147483647 : Int32)) % (16 : Int32))), .val (.int fx0.toInt32), .val (.int tx0.toInt32), .val (.long x40), .second, .val (.int ((e2 &&& (2147483647 : Int32)) % (16 : Int32))), .val (.int fx1.toInt32), .val (.int tx1.toInt32), .val (.long x43), .second, .val (.int ((e3 &&& (2147483647 : Int32)) % (16 : Int32))), .val (.int fx2.toInt32), .val (.int tx2.toInt32), .val (.long x46), .second]) rfl) ?_
  refine own_F.of (fun _ => XS.aload S46.here S46.hx rfl (S46.dec at_266) rfl rfl) ?_
  refine own_F.of (fun _ => XS.iload S46.here S46.hx rfl (S46.dec at_268) rfl) ?_
  refine own_F.of (fun _ => XS.iload S46.here S46.hx rfl (S46.dec at_270) rfl) ?_
  refine own_F.of (fun _ => XS.lload S46.here S46.hx rfl (S46.dec at_272) rfl) ?_
  show own_F p e below s Z _ _ _ _ _ (T46.setTop (mkF m 274 #[.val (.int e1), .val (.long m1), .second, .val (.int e2), .val (.long m2), .second, .val (.int e3), .val (.long m3), .second, .val (.long (9223372036854775807 : Int64)), .second, .val (.ref b1), .val (.ref b35), .val (.int ((e1 &&& (2147483647 : Int32)) % (16 : Int32))), .val (.int fx0.toInt32), .val (.int tx0.toInt32), .val (.long x40), .second, .val (.int ((e2 &&& (2147483647 : Int32)) % (16 : Int32))), .val (.int fx1.toInt32), .val (.int tx1.toInt32), .val (.long x43), .second, .val (.int ((e3 &&& (2147483647 : Int32)) % (16 : Int32))), .val (.int fx2.toInt32), .val (.int tx2.toInt32), .val (.long x46), .second] [(.long x46), (.int tx2.toInt32), (.int fx2.toInt32), (.ref b35)]))
  obtain ⟨hp_2, I_2, oW_2, oD_2⟩ := own_step4 (w' := 324259173170675712) I_1 oW_1 oD_1 hfx2 htx2 (by decide) (by decide) (by decide) (by decide) (own_m55 m3) ex46
  refine own_callV S46 (y := (⟨"com/example/slackweave/slackweave/generate/TightestBounds", "add", "(IIJ)V"⟩ : MethodName)) (y' := (⟨"com/example/slackweave/slackweave/generate/TightestBounds", "add", "(IIJ)V"⟩ : MethodName)) (own_w hw 28 rfl) (own_w hw 29 rfl) (own_nf S46 (own_w hw 31 rfl)) (own_w hw 31 rfl) (own_w hw 30 rfl) (own_w hw 32 rfl) (own_w hw 4 rfl) (by decide) H45.exa (argsL := [(.int fx2.toInt32), (.int tx2.toInt32), (.long x46)]) (rest := []) (own_addC l Z a0 hw b35 aM b1 Rw (own_add (own_add own_D0 fx0 tx0 x40) fx1 tx1 x43) (own_edge (own_edge own_W0 fx0 tx0 x40) fx1 tx1 x43) fx2 tx2 hfx2 htx2 x46 h45 S46.old H45 hp_2) own_news_sub (by decide +kernel : parseMethodDescriptor "(IIJ)V" = some ⟨[.int, .int, .long], none⟩) rfl rfl rfl at_274 (by decide) (Nat.le_of_ble_eq_true rfl) (by decide) (by decide) (fun T47 h47 v47 S47 K47 q47 => ?_)
  obtain ⟨rfl, H47⟩ := q47
  show own_F p e below s Z _ _ _ _ _ (T47.setTop (mkF m 277 #[.val (.int e1), .val (.long m1), .second, .val (.int e2), .val (.long m2), .second, .val (.int e3), .val (.long m3), .second, .val (.long (9223372036854775807 : Int64)), .second, .val (.ref b1), .val (.ref b35), .val (.int ((e1 &&& (2147483647 : Int32)) % (16 : Int32))), .val (.int fx0.toInt32), .val (.int tx0.toInt32), .val (.long x40), .second, .val (.int ((e2 &&& (2147483647 : Int32)) % (16 : Int32))), .val (.int fx1.toInt32), .val (.int tx1.toInt32), .val (.long x43), .second, .val (.int ((e3 &&& (2147483647 : Int32)) % (16 : Int32))), .val (.int fx2.toInt32), .val (.int tx2.toInt32), .val (.long x46), .second] []))
  refine own_F.of (fun _ => XS.aload S47.here S47.hx rfl (S47.dec at_277) rfl rfl) ?_
  refine own_F.of (fun _ => XS.iload S47.here S47.hx rfl (S47.dec at_279) rfl) ?_
  refine own_F.of (fun _ => XS.iload S47.here S47.hx rfl (S47.dec at_281) rfl) ?_
  refine own_F.of (fun _ => XS.lload S47.here S47.hx rfl (S47.dec at_283) rfl) ?_
  show own_F p e below s Z _ _ _ _ _ (T47.setTop (mkF m 285 #[.val (.int e1), .val (.long m1), .second, .val (.int e2), .val (.long m2), .second, .val (.int e3), .val (.long m3), .second, .val (.long (9223372036854775807 : Int64)), .second, .val (.ref b1), .val (.ref b35), .val (.int ((e1 &&& (2147483647 : Int32)) % (16 : Int32))), .val (.int fx0.toInt32), .val (.int tx0.toInt32), .val (.long x40), .second, .val (.int ((e2 &&& (2147483647 : Int32)) % (16 : Int32))), .val (.int fx1.toInt32), .val (.int tx1.toInt32), .val (.long x43), .second, .val (.int ((e3 &&& (2147483647 : Int32)) % (16 : Int32))), .val (.int fx2.toInt32), .val (.int tx2.toInt32), .val (.long x46), .second] [(.long x46), (.int tx2.toInt32), (.int fx2.toInt32), (.ref b1)]))
  refine own_callS S47 (y := (⟨"com/example/slackweave/slackweave/generate/TightestBoundsAddPinLaw", "edge", "([JIIJ)V"⟩ : MethodName)) (own_w hw 33 rfl) (own_w hw 34 rfl) (own_w hw 23 rfl) (own_w hw 35 rfl) (by decide) (argsL := [(.ref b1), (.int fx2.toInt32), (.int tx2.toInt32), (.long x46)]) (rest := []) (own_edgeC l Z a0 hw b35 aM b1 Rw (own_add (own_add (own_add own_D0 fx0 tx0 x40) fx1 tx1 x43) fx2 tx2 x46) (own_edge (own_edge own_W0 fx0 tx0 x40) fx1 tx1 x43) fx2 tx2 hfx2 htx2 x46 h47 S47.old H47) own_news_sub (by decide +kernel : parseMethodDescriptor "([JIIJ)V" = some ⟨[(.array .long), .int, .int, .long], none⟩) rfl rfl rfl at_285 (by decide) (Nat.le_of_ble_eq_true rfl) (by decide) (by decide) (fun T48 h48 v48 S48 K48 q48 => ?_)
  obtain ⟨rfl, H48⟩ := q48
  show own_F p e below s Z _ _ _ _ _ (T48.setTop (mkF m 288 #[.val (.int e1), .val (.long m1), .second, .val (.int e2), .val (.long m2), .second, .val (.int e3), .val (.long m3), .second, .val (.long (9223372036854775807 : Int64)), .second, .val (.ref b1), .val (.ref b35), .val (.int ((e1 &&& (2147483647 : Int32)) % (16 : Int32))), .val (.int fx0.toInt32), .val (.int tx0.toInt32), .val (.long x40), .second, .val (.int ((e2 &&& (2147483647 : Int32)) % (16 : Int32))), .val (.int fx1.toInt32), .val (.int tx1.toInt32), .val (.long x43), .second, .val (.int ((e3 &&& (2147483647 : Int32)) % (16 : Int32))), .val (.int fx2.toInt32), .val (.int tx2.toInt32), .val (.long x46), .second] []))
  refine own_F.of (fun _ => XS.aload S48.here S48.hx rfl (S48.dec at_288) rfl rfl) ?_
  refine own_F.of (fun _ => XS.aload S48.here S48.hx rfl (S48.dec at_290) rfl rfl) ?_
  refine own_F.of (fun _ => XS.iconst S48.here S48.hx rfl (S48.dec at_292)) ?_
  show own_F p e below s Z _ _ _ _ _ (T48.setTop (mkF m 293 #[.val (.int e1), .val (.long m1), .second, .val (.int e2), .val (.long m2), .second, .val (.int e3), .val (.long m3), .second, .val (.long (9223372036854775807 : Int64)), .second, .val (.ref b1), .val (.ref b35), .val (.int ((e1 &&& (2147483647 : Int32)) % (16 : Int32))), .val (.int fx0.toInt32), .val (.int tx0.toInt32), .val (.long x40), .second, .val (.int ((e2 &&& (2147483647 : Int32)) % (16 : Int32))), .val (.int fx1.toInt32), .val (.int tx1.toInt32), .val (.long x43), .second, .val (.int ((e3 &&& (2147483647 : Int32)) % (16 : Int32))), .val (.int fx2.toInt32), .val (.int tx2.toInt32), .val (.long x46), .second] [(.int 0), (.ref b1), (.ref b35)]))
  refine own_callS S48 (y := (⟨"com/example/slackweave/slackweave/generate/TightestBoundsAddPinLaw", "row", "(Lcom/example/slackweave/slackweave/generate/TightestBounds;[JI)Z"⟩ : MethodName)) (own_w hw 44 rfl) (own_w hw 45 rfl) (own_w hw 23 rfl) (own_w hw 46 rfl) (by decide) (argsL := [(.ref b35), (.ref b1), (.int (0 : Int32))]) (rest := []) (own_rowC l Z a0 hw b35 aM b1 Rw (own_add (own_add (own_add own_D0 fx0 tx0 x40) fx1 tx1 x43) fx2 tx2 x46) (own_edge (own_edge (own_edge own_W0 fx0 tx0 x40) fx1 tx1 x43) fx2 tx2 x46) 0 (by decide) h48 S48.old H48 (fun j hj => (own_dst_eq I_2 oW_2 oD_2 (by decide) hj).symm)) all0 (by decide +kernel : parseMethodDescriptor "(Lcom/example/slackweave/slackweave/generate/TightestBounds;[JI)Z" = some ⟨[(.object "com/example/slackweave/slackweave/generate/TightestBounds"), (.array .long), .int], some .boolean⟩) rfl rfl rfl at_293 (by decide) (Nat.le_of_ble_eq_true rfl) (by decide) (by decide) (fun T49 h49 v49 S49 K49 q49 => ?_)
  obtain ⟨rfl, rfl⟩ := q49
  show own_F p e below s Z _ _ _ _ _ (T49.setTop (mkF m 296 #[.val (.int e1), .val (.long m1), .second, .val (.int e2), .val (.long m2), .second, .val (.int e3), .val (.long m3), .second, .val (.long (9223372036854775807 : Int64)), .second, .val (.ref b1), .val (.ref b35), .val (.int ((e1 &&& (2147483647 : Int32)) % (16 : Int32))), .val (.int fx0.toInt32), .val (.int tx0.toInt32), .val (.long x40), .second, .val (.int ((e2 &&& (2147483647 : Int32)) % (16 : Int32))), .val (.int fx1.toInt32), .val (.int tx1.toInt32), .val (.long x43), .second, .val (.int ((e3 &&& (2147483647 : Int32)) % (16 : Int32))), .val (.int fx2.toInt32), .val (.int tx2.toInt32), .val (.long x46), .second] [(.int 1)]))
  refine own_if S49 336 at_296 (by decide) (by decide) (fun (hc296_50 : (1 : Int32) = (0 : Int32)) => False.elim (absurd hc296_50 (by decide))) (fun (hc296_50 : ¬ ((1 : Int32) = (0 : Int32))) => ?_)
  show own_F p e below s Z _ _ _ _ _ (T49.setTop (mkF m 299 #[.val (.int e1), .val (.long m1), .second, .val (.int e2), .val (.long m2), .second, .val (.int e3), .val (.long m3), .second, .val (.long (9223372036854775807 : Int64)), .second, .val (.ref b1), .val (.ref b35), .val (.int ((e1 &&& (2147483647 : Int32)) % (16 : Int32))), .val (.int fx0.toInt32), .val (.int tx0.toInt32), .val (.long x40), .second, .val (.int ((e2 &&& (2147483647 : Int32)) % (16 : Int32))), .val (.int fx1.toInt32), .val (.int tx1.toInt32), .val (.long x43), .second, .val (.int ((e3 &&& (2147483647 : Int32)) % (16 : Int32))), .val (.int fx2.toInt32), .val (.int tx2.toInt32), .val (.long x46), .second] []))
  refine own_F.of (fun _ => XS.aload S49.here S49.hx rfl (S49.dec at_299) rfl rfl) ?_
  refine own_F.of (fun _ => XS.aload S49.here S49.hx rfl (S49.dec at_301) rfl rfl) ?_
  refine own_F.of (fun _ => XS.iconst S49.here S49.hx rfl (S49.dec at_303)) ?_
  show own_F p e below s Z _ _ _ _ _ (T49.setTop (mkF m 304 #[.val (.int e1), .val (.long m1), .second, .val (.int e2), .val (.long m2), .second, .val (.int e3), .val (.long m3), .second, .val (.long (9223372036854775807 : Int64)), .second, .val (.ref b1), .val (.ref b35), .val (.int ((e1 &&& (2147483647 : Int32)) % (16 : Int32))), .val (.int fx0.toInt32), .val (.int tx0.toInt32), .val (.long x40), .second, .val (.int ((e2 &&& (2147483647 : Int32)) % (16 : Int32))), .val (.int fx1.toInt32), .val (.int tx1.toInt32), .val (.long x43), .second, .val (.int ((e3 &&& (2147483647 : Int32)) % (16 : Int32))), .val (.int fx2.toInt32), .val (.int tx2.toInt32), .val (.long x46), .second] [(.int 1), (.ref b1), (.ref b35)]))
  refine own_callS S49 (y := (⟨"com/example/slackweave/slackweave/generate/TightestBoundsAddPinLaw", "row", "(Lcom/example/slackweave/slackweave/generate/TightestBounds;[JI)Z"⟩ : MethodName)) (own_w hw 44 rfl) (own_w hw 45 rfl) (own_w hw 23 rfl) (own_w hw 46 rfl) (by decide) (argsL := [(.ref b35), (.ref b1), (.int (1 : Int32))]) (rest := []) (own_rowC l Z a0 hw b35 aM b1 Rw (own_add (own_add (own_add own_D0 fx0 tx0 x40) fx1 tx1 x43) fx2 tx2 x46) (own_edge (own_edge (own_edge own_W0 fx0 tx0 x40) fx1 tx1 x43) fx2 tx2 x46) 1 (by decide) h48 S49.old H48 (fun j hj => (own_dst_eq I_2 oW_2 oD_2 (by decide) hj).symm)) all0 (by decide +kernel : parseMethodDescriptor "(Lcom/example/slackweave/slackweave/generate/TightestBounds;[JI)Z" = some ⟨[(.object "com/example/slackweave/slackweave/generate/TightestBounds"), (.array .long), .int], some .boolean⟩) rfl rfl rfl at_304 (by decide) (Nat.le_of_ble_eq_true rfl) (by decide) (by decide) (fun T51 h51 v51 S51 K51 q51 => ?_)
  obtain ⟨rfl, rfl⟩ := q51
  show own_F p e below s Z _ _ _ _ _ (T51.setTop (mkF m 307 #[.val (.int e1), .val (.long m1), .second, .val (.int e2), .val (.long m2), .second, .val (.int e3), .val (.long m3), .second, .val (.long (9223372036854775807 : Int64)), .second, .val (.ref b1), .val (.ref b35), .val (.int ((e1 &&& (2147483647 : Int32)) % (16 : Int32))), .val (.int fx0.toInt32), .val (.int tx0.toInt32), .val (.long x40), .second, .val (.int ((e2 &&& (2147483647 : Int32)) % (16 : Int32))), .val (.int fx1.toInt32), .val (.int tx1.toInt32), .val (.long x43), .second, .val (.int ((e3 &&& (2147483647 : Int32)) % (16 : Int32))), .val (.int fx2.toInt32), .val (.int tx2.toInt32), .val (.long x46), .second] [(.int 1)]))
  refine own_if S51 336 at_307 (by decide) (by decide) (fun (hc307_52 : (1 : Int32) = (0 : Int32)) => False.elim (absurd hc307_52 (by decide))) (fun (hc307_52 : ¬ ((1 : Int32) = (0 : Int32))) => ?_)
  show own_F p e below s Z _ _ _ _ _ (T51.setTop (mkF m 310 #[.val (.int e1), .val (.long m1), .second, .val (.int e2), .val (.long m2), .second, .val (.int e3), .val (.long m3), .second, .val (.long (9223372036854775807 : Int64)), .second, .val (.ref b1), .val (.ref b35), .val (.int ((e1 &&& (2147483647 : Int32)) % (16 : Int32))), .val (.int fx0.toInt32), .val (.int tx0.toInt32), .val (.long x40), .second, .val (.int ((e2 &&& (2147483647 : Int32)) % (16 : Int32))), .val (.int fx1.toInt32), .val (.int tx1.toInt32), .val (.long x43), .second, .val (.int ((e3 &&& (2147483647 : Int32)) % (16 : Int32))), .val (.int fx2.toInt32), .val (.int tx2.toInt32), .val (.long x46), .second] []))
  refine own_F.of (fun _ => XS.aload S51.here S51.hx rfl (S51.dec at_310) rfl rfl) ?_
  refine own_F.of (fun _ => XS.aload S51.here S51.hx rfl (S51.dec at_312) rfl rfl) ?_
  refine own_F.of (fun _ => XS.iconst S51.here S51.hx rfl (S51.dec at_314)) ?_
  show own_F p e below s Z _ _ _ _ _ (T51.setTop (mkF m 315 #[.val (.int e1), .val (.long m1), .second, .val (.int e2), .val (.long m2), .second, .val (.int e3), .val (.long m3), .second, .val (.long (9223372036854775807 : Int64)), .second, .val (.ref b1), .val (.ref b35), .val (.int ((e1 &&& (2147483647 : Int32)) % (16 : Int32))), .val (.int fx0.toInt32), .val (.int tx0.toInt32), .val (.long x40), .second, .val (.int ((e2 &&& (2147483647 : Int32)) % (16 : Int32))), .val (.int fx1.toInt32), .val (.int tx1.toInt32), .val (.long x43), .second, .val (.int ((e3 &&& (2147483647 : Int32)) % (16 : Int32))), .val (.int fx2.toInt32), .val (.int tx2.toInt32), .val (.long x46), .second] [(.int 2), (.ref b1), (.ref b35)]))
  refine own_callS S51 (y := (⟨"com/example/slackweave/slackweave/generate/TightestBoundsAddPinLaw", "row", "(Lcom/example/slackweave/slackweave/generate/TightestBounds;[JI)Z"⟩ : MethodName)) (own_w hw 44 rfl) (own_w hw 45 rfl) (own_w hw 23 rfl) (own_w hw 46 rfl) (by decide) (argsL := [(.ref b35), (.ref b1), (.int (2 : Int32))]) (rest := []) (own_rowC l Z a0 hw b35 aM b1 Rw (own_add (own_add (own_add own_D0 fx0 tx0 x40) fx1 tx1 x43) fx2 tx2 x46) (own_edge (own_edge (own_edge own_W0 fx0 tx0 x40) fx1 tx1 x43) fx2 tx2 x46) 2 (by decide) h48 S51.old H48 (fun j hj => (own_dst_eq I_2 oW_2 oD_2 (by decide) hj).symm)) all0 (by decide +kernel : parseMethodDescriptor "(Lcom/example/slackweave/slackweave/generate/TightestBounds;[JI)Z" = some ⟨[(.object "com/example/slackweave/slackweave/generate/TightestBounds"), (.array .long), .int], some .boolean⟩) rfl rfl rfl at_315 (by decide) (Nat.le_of_ble_eq_true rfl) (by decide) (by decide) (fun T53 h53 v53 S53 K53 q53 => ?_)
  obtain ⟨rfl, rfl⟩ := q53
  show own_F p e below s Z _ _ _ _ _ (T53.setTop (mkF m 318 #[.val (.int e1), .val (.long m1), .second, .val (.int e2), .val (.long m2), .second, .val (.int e3), .val (.long m3), .second, .val (.long (9223372036854775807 : Int64)), .second, .val (.ref b1), .val (.ref b35), .val (.int ((e1 &&& (2147483647 : Int32)) % (16 : Int32))), .val (.int fx0.toInt32), .val (.int tx0.toInt32), .val (.long x40), .second, .val (.int ((e2 &&& (2147483647 : Int32)) % (16 : Int32))), .val (.int fx1.toInt32), .val (.int tx1.toInt32), .val (.long x43), .second, .val (.int ((e3 &&& (2147483647 : Int32)) % (16 : Int32))), .val (.int fx2.toInt32), .val (.int tx2.toInt32), .val (.long x46), .second] [(.int 1)]))
  refine own_if S53 336 at_318 (by decide) (by decide) (fun (hc318_54 : (1 : Int32) = (0 : Int32)) => False.elim (absurd hc318_54 (by decide))) (fun (hc318_54 : ¬ ((1 : Int32) = (0 : Int32))) => ?_)
  show own_F p e below s Z _ _ _ _ _ (T53.setTop (mkF m 321 #[.val (.int e1), .val (.long m1), .second, .val (.int e2), .val (.long m2), .second, .val (.int e3), .val (.long m3), .second, .val (.long (9223372036854775807 : Int64)), .second, .val (.ref b1), .val (.ref b35), .val (.int ((e1 &&& (2147483647 : Int32)) % (16 : Int32))), .val (.int fx0.toInt32), .val (.int tx0.toInt32), .val (.long x40), .second, .val (.int ((e2 &&& (2147483647 : Int32)) % (16 : Int32))), .val (.int fx1.toInt32), .val (.int tx1.toInt32), .val (.long x43), .second, .val (.int ((e3 &&& (2147483647 : Int32)) % (16 : Int32))), .val (.int fx2.toInt32), .val (.int tx2.toInt32), .val (.long x46), .second] []))
  refine own_F.of (fun _ => XS.aload S53.here S53.hx rfl (S53.dec at_321) rfl rfl) ?_
  refine own_F.of (fun _ => XS.aload S53.here S53.hx rfl (S53.dec at_323) rfl rfl) ?_
  refine own_F.of (fun _ => XS.iconst S53.here S53.hx rfl (S53.dec at_325)) ?_
  show own_F p e below s Z _ _ _ _ _ (T53.setTop (mkF m 326 #[.val (.int e1), .val (.long m1), .second, .val (.int e2), .val (.long m2), .second, .val (.int e3), .val (.long m3), .second, .val (.long (9223372036854775807 : Int64)), .second, .val (.ref b1), .val (.ref b35), .val (.int ((e1 &&& (2147483647 : Int32)) % (16 : Int32))), .val (.int fx0.toInt32), .val (.int tx0.toInt32), .val (.long x40), .second, .val (.int ((e2 &&& (2147483647 : Int32)) % (16 : Int32))), .val (.int fx1.toInt32), .val (.int tx1.toInt32), .val (.long x43), .second, .val (.int ((e3 &&& (2147483647 : Int32)) % (16 : Int32))), .val (.int fx2.toInt32), .val (.int tx2.toInt32), .val (.long x46), .second] [(.int 3), (.ref b1), (.ref b35)]))
  refine own_callS S53 (y := (⟨"com/example/slackweave/slackweave/generate/TightestBoundsAddPinLaw", "row", "(Lcom/example/slackweave/slackweave/generate/TightestBounds;[JI)Z"⟩ : MethodName)) (own_w hw 44 rfl) (own_w hw 45 rfl) (own_w hw 23 rfl) (own_w hw 46 rfl) (by decide) (argsL := [(.ref b35), (.ref b1), (.int (3 : Int32))]) (rest := []) (own_rowC l Z a0 hw b35 aM b1 Rw (own_add (own_add (own_add own_D0 fx0 tx0 x40) fx1 tx1 x43) fx2 tx2 x46) (own_edge (own_edge (own_edge own_W0 fx0 tx0 x40) fx1 tx1 x43) fx2 tx2 x46) 3 (by decide) h48 S53.old H48 (fun j hj => (own_dst_eq I_2 oW_2 oD_2 (by decide) hj).symm)) all0 (by decide +kernel : parseMethodDescriptor "(Lcom/example/slackweave/slackweave/generate/TightestBounds;[JI)Z" = some ⟨[(.object "com/example/slackweave/slackweave/generate/TightestBounds"), (.array .long), .int], some .boolean⟩) rfl rfl rfl at_326 (by decide) (Nat.le_of_ble_eq_true rfl) (by decide) (by decide) (fun T55 h55 v55 S55 K55 q55 => ?_)
  obtain ⟨rfl, rfl⟩ := q55
  show own_F p e below s Z _ _ _ _ _ (T55.setTop (mkF m 329 #[.val (.int e1), .val (.long m1), .second, .val (.int e2), .val (.long m2), .second, .val (.int e3), .val (.long m3), .second, .val (.long (9223372036854775807 : Int64)), .second, .val (.ref b1), .val (.ref b35), .val (.int ((e1 &&& (2147483647 : Int32)) % (16 : Int32))), .val (.int fx0.toInt32), .val (.int tx0.toInt32), .val (.long x40), .second, .val (.int ((e2 &&& (2147483647 : Int32)) % (16 : Int32))), .val (.int fx1.toInt32), .val (.int tx1.toInt32), .val (.long x43), .second, .val (.int ((e3 &&& (2147483647 : Int32)) % (16 : Int32))), .val (.int fx2.toInt32), .val (.int tx2.toInt32), .val (.long x46), .second] [(.int 1)]))
  refine own_if S55 336 at_329 (by decide) (by decide) (fun (hc329_56 : (1 : Int32) = (0 : Int32)) => False.elim (absurd hc329_56 (by decide))) (fun (hc329_56 : ¬ ((1 : Int32) = (0 : Int32))) => ?_)
  show own_F p e below s Z _ _ _ _ _ (T55.setTop (mkF m 332 #[.val (.int e1), .val (.long m1), .second, .val (.int e2), .val (.long m2), .second, .val (.int e3), .val (.long m3), .second, .val (.long (9223372036854775807 : Int64)), .second, .val (.ref b1), .val (.ref b35), .val (.int ((e1 &&& (2147483647 : Int32)) % (16 : Int32))), .val (.int fx0.toInt32), .val (.int tx0.toInt32), .val (.long x40), .second, .val (.int ((e2 &&& (2147483647 : Int32)) % (16 : Int32))), .val (.int fx1.toInt32), .val (.int tx1.toInt32), .val (.long x43), .second, .val (.int ((e3 &&& (2147483647 : Int32)) % (16 : Int32))), .val (.int fx2.toInt32), .val (.int tx2.toInt32), .val (.long x46), .second] []))
  refine own_F.of (fun _ => XS.iconst S55.here S55.hx rfl (S55.dec at_332)) ?_
  show own_F p e below s Z _ _ _ _ _ (T55.setTop (mkF m 333 #[.val (.int e1), .val (.long m1), .second, .val (.int e2), .val (.long m2), .second, .val (.int e3), .val (.long m3), .second, .val (.long (9223372036854775807 : Int64)), .second, .val (.ref b1), .val (.ref b35), .val (.int ((e1 &&& (2147483647 : Int32)) % (16 : Int32))), .val (.int fx0.toInt32), .val (.int tx0.toInt32), .val (.long x40), .second, .val (.int ((e2 &&& (2147483647 : Int32)) % (16 : Int32))), .val (.int fx1.toInt32), .val (.int tx1.toInt32), .val (.long x43), .second, .val (.int ((e3 &&& (2147483647 : Int32)) % (16 : Int32))), .val (.int fx2.toInt32), .val (.int tx2.toInt32), .val (.long x46), .second] [(.int 1)]))
  refine own_F.of (fun _ => XS.goto S55.here S55.hx rfl (pc0 := 333) (pc' := 337) rfl (S55.dec at_333) (by decide) (by decide)) ?_
  show own_F p e below s Z _ _ _ _ _ (T55.setTop (mkF m 337 #[.val (.int e1), .val (.long m1), .second, .val (.int e2), .val (.long m2), .second, .val (.int e3), .val (.long m3), .second, .val (.long (9223372036854775807 : Int64)), .second, .val (.ref b1), .val (.ref b35), .val (.int ((e1 &&& (2147483647 : Int32)) % (16 : Int32))), .val (.int fx0.toInt32), .val (.int tx0.toInt32), .val (.long x40), .second, .val (.int ((e2 &&& (2147483647 : Int32)) % (16 : Int32))), .val (.int fx1.toInt32), .val (.int tx1.toInt32), .val (.long x43), .second, .val (.int ((e3 &&& (2147483647 : Int32)) % (16 : Int32))), .val (.int fx2.toInt32), .val (.int tx2.toInt32), .val (.long x46), .second] [(.int 1)]))
  refine own_retZ S55 (by simp) at_337 (by decide) (by decide) ?_
  rfl
set_option maxRecDepth 65536 in
set_option maxHeartbeats 40000000 in
theorem comes_1 {Post : Tables → Env → Array Value → State → Outcome → State → Prop} (hpost : ∀ tb e args s v u, (limb_1_1.after args s (.returned v) u = true ∧ limb_1_2.after args s (.returned v) u = true ∧ True) → FrameEnd s (.returned v) u (Jvm.fieldLocs frame_1_writes args s ++ Jvm.arrayLocs frame_1_arrays args s ++ Jvm.staticLocs frame_1_statics s) 40 192 → Post tb e args s (.returned v) u) :
    ArmFor flags0 classFile x code maxLocals ret World_1 tables_1 room_1 Calls_1 rest_1 Pre_1 Post := by
  intro l hfl _ _ p e ha hc hk s m args below hf hA hF happ hP
  obtain ⟨hcalls, hrest, hpre⟩ := hP
  obtain ⟨-, -, -, hnamed, -, -, -, hat⟩ := (Spec.applies_iff hf).mp happ
  obtain ⟨hg, hn⟩ := and_e (Cond.before_iff.mp (show (Jvm.Cond.and given_1 narrow_1).before args s = true from hpre))
  obtain ⟨g1, g2⟩ := and_e hg
  obtain ⟨g3, g4⟩ := and_e g2
  obtain ⟨g5, g6⟩ := and_e g4
  obtain ⟨g7, g8⟩ := and_e g6
  obtain ⟨g9, g10⟩ := and_e g8
  obtain ⟨g11, g12⟩ := and_e g10
  obtain ⟨w0, w1, w2, w3, w4, w5, rfl⟩ : ∃ w0 w1 w2 w3 w4 w5 : Value, args = #[w0, w1, w2, w3, w4, w5] := by
    have hs : args.size = 6 := by simpa [Cond.value, given_1] using g1
    obtain ⟨L⟩ := args
    match L, hs with
    | [w0, w1, w2, w3, w4, w5], _ => exact ⟨w0, w1, w2, w3, w4, w5, rfl⟩
  have hw := fun d (hd : d ∈ tables_1) => atoms_spec (ws := Jvm.Cond.code x code maxLocals ret :: tables_1) hat d (List.mem_cons_of_mem _ hd)
  have hfit : Fit s := fun {y c} hc i hi => by
    obtain ⟨ha, rfl⟩ := Array.getElem?_eq_some_iff.mp hc
    have q := List.all_eq_true.mp ((Array.all_eq_true_iff_forall_mem.mp hF) _ (Array.getElem_mem ha)) i (List.mem_range.mpr hi)
    simpa [Array.getElem?_eq_getElem hi] using q
  obtain ⟨i0, ei0⟩ := is_v g3
  obtain rfl : w0 = (.int i0) := Option.some.inj ei0
  obtain ⟨i1, ei1⟩ := isL_v g5
  obtain rfl : w1 = (.long i1) := Option.some.inj ei1
  obtain ⟨i2, ei2⟩ := is_v g7
  obtain rfl : w2 = (.int i2) := Option.some.inj ei2
  obtain ⟨i3, ei3⟩ := isL_v g9
  obtain rfl : w3 = (.long i3) := Option.some.inj ei3
  obtain ⟨i4, ei4⟩ := is_v g11
  obtain rfl : w4 = (.int i4) := Option.some.inj ei4
  obtain ⟨i5, ei5⟩ := isL_v g12
  obtain rfl : w5 = (.long i5) := Option.some.inj ei5
  obtain ⟨n, o, h1, h2, h3, _, L, rfl, ⟨N, K, rfl⟩, hq⟩ := own_law l s _ hw i0 i1 i2 i3 i4 i5 s.heap (own_extRefl _) p e ha hc hk s m _ below hf ((Spec.applies_iff_loose hf).mp happ).1 ⟨rfl, State.Warmed39.refl s, rfl⟩ trivial
  refine ⟨n, _, h1, h2, h3, hpost _ _ _ _ _ _ ⟨Cond.after_iff.mpr rfl, Cond.after_iff.mpr (eq_i res_at (Term.int_eval (1)) rfl), trivial⟩ ⟨hq.1, hq.2.1, (hq.2.2.sift fun y hy => Or.inr (N y hy)).mono (by decide) (by decide)⟩⟩
theorem main_1_1 : Claimed_1_1 := comes_1 fun _ _ _ _ _ _ h hF => ⟨h.1, hF⟩
theorem main_1_2 : Claimed_1_2 := comes_1 fun _ _ _ _ _ _ h hF => ⟨h.2.1, hF⟩
end Jvm.Pilot.@@N@@
namespace Jvm.Pilot.@@N@@
open Jvm Jvm.ClassFile Sem Op Lib Jvm.Free Jvm.Stand Jvm.Pilot.@@N@@.Jvm.D
/-! MADE BY PROGRAM (witnessworld.py) out of the Statement's table words and the real class files: 13 classes; the members and pool entries that the words name. The judged class is class 1, her method 6. -/
namespace start1
open Jvm.ClassFile
def u (s : String) : CpInfo := .utf8 (stringToUtf16 s)
/-- a pool by its gaps: so many unusable entries, then the entry; so many at the end -/
def gap : Nat → List CpInfo → List CpInfo
  | 0, r => r
  | n + 1, r => .unusable :: gap n r
def poolList (es : List (Nat × CpInfo)) (last : Nat) : List CpInfo := es.foldr (fun e r => gap e.1 (e.2 :: r)) (gap last [])
def pool (es : List (Nat × CpInfo)) (last : Nat) : Array CpInfo := ⟨poolList es last⟩
def fileOf (pool : Array CpInfo) (this : Nat) (attrs : Array Attribute := #[]) (ms : Array MethodInfo := #[]) (fl : Nat := 33) (sup : Nat := 0) (ifs : Array Nat := #[]) (fds : Array FieldInfo := #[]) : ClassFile where
  minorVersion := 0
  majorVersion := 65
  constantPool := pool
  accessFlags := fl
  thisClass := this
  superClass := sup
  interfaces := ifs
  fields := fds
  methods := ms
  attributes := attrs
def plain (name : String) (sup : Option ClassId) : Class where
  name := name
  kind := .ordinary
  loader := none
  accessFlags := 33
  super := sup
  interfaces := #[]
  cf := none
  fields := #[]
  methods := #[]
  instanceTypes := #[]
  staticTypes := #[]
  resolved := #[]
  callSites := []
  init := .initialized
  statics := none
  mirror := none

def pool0 : Array CpInfo := pool [(5, u "<init>"), (0, u "()V"), (1, .class_ 10), (1, u "java/lang/Object")] 113

def k0c0 : Code := { maxStack := 0, maxLocals := 1, code := object_method_1_code, exceptionTable := #[], attributes := #[] }
def k0m0 : Method := { name := "<init>", desc := "()V", sig := { parameters := [], returnType := none }, accessFlags := 1, code := some k0c0 }
/-- java/lang/Object -/
def k0 : Class := { plain "java/lang/Object" none with
  accessFlags := 33
  interfaces := #[]
  cf := some (fileOf pool0 8 #[] #[{ accessFlags := 1, nameIndex := 5, descriptorIndex := 6, attributes := #[] }] 33 0 #[] #[])
  fields := #[]
  methods := #[k0m0]
  instanceTypes := #[]
  staticTypes := #[]
  resolved := Array.replicate 124 none
  statics := none }

def pool1 : Array CpInfo := pool [(2, .class_ 4), (1, u "java/lang/Object"), (0, u "<init>"), (0, u "()V"), (2, .long 9223372036854775807), (1, .methodref 12 13), (0, .class_ 14), (0, .nameAndType 15 16), (0, u "com/example/slackweave/slackweave/generate/TightestBoundsAddPinLaw"), (0, u "sum"), (0, u "(JJ)J"), (0, .methodref 18 19), (0, .class_ 20), (0, .nameAndType 21 16), (0, u "java/lang/Math"), (0, u "min"), (0, .methodref 12 23), (0, .nameAndType 24 25), (0, u "dist"), (0, u "([JII)J"), (0, .methodref 27 28), (0, .class_ 29), (0, .nameAndType 30 31), (0, u "com/example/slackweave/slackweave/generate/TightestBounds"), (0, u "of"), (0, u "(II)J"), (0, .methodref 27 33), (0, .nameAndType 5 34), (0, u "(I)V"), (0, .integer 2147483647), (0, .methodref 12 37), (0, .nameAndType 38 39), (0, u "clampMax"), (0, u "([JIIJ)J"), (0, .methodref 27 41), (0, .nameAndType 42 43), (0, u "add"), (0, u "(IIJ)V"), (0, .methodref 12 45), (0, .nameAndType 46 47), (0, u "edge"), (0, u "([JIIJ)V"), (0, .methodref 12 49), (0, .nameAndType 50 51), (0, u "row"), (0, u "(Lcom/example/slackweave/slackweave/generate/TightestBounds;[JI)Z"), (3, u "law"), (0, u "(IJIJIJ)Z")] 4

def k1m0 : Method := { name := "<init>", desc := "()V", sig := { parameters := [], returnType := none }, accessFlags := 1, code := none }
def k1c1 : Code := { maxStack := 4, maxLocals := 4, code := method_2_code, exceptionTable := #[], attributes := #[] }
def k1m1 : Method := { name := "sum", desc := "(JJ)J", sig := { parameters := [.long, .long], returnType := some .long }, accessFlags := 10, code := some k1c1 }
def k1c2 : Code := { maxStack := 7, maxLocals := 7, code := method_3_code, exceptionTable := #[], attributes := #[] }
def k1m2 : Method := { name := "dist", desc := "([JII)J", sig := { parameters := [(.array .long), .int, .int], returnType := some .long }, accessFlags := 10, code := some k1c2 }
def k1c3 : Code := { maxStack := 4, maxLocals := 7, code := method_4_code, exceptionTable := #[], attributes := #[] }
def k1m3 : Method := { name := "clampMax", desc := "([JIIJ)J", sig := { parameters := [(.array .long), .int, .int, .long], returnType := some .long }, accessFlags := 10, code := some k1c3 }
def k1c4 : Code := { maxStack := 5, maxLocals := 5, code := method_5_code, exceptionTable := #[], attributes := #[] }
def k1m4 : Method := { name := "edge", desc := "([JIIJ)V", sig := { parameters := [(.array .long), .int, .int, .long], returnType := none }, accessFlags := 10, code := some k1c4 }
def k1c5 : Code := { maxStack := 5, maxLocals := 3, code := method_6_code, exceptionTable := #[], attributes := #[] }
def k1m5 : Method := { name := "row", desc := "(Lcom/example/slackweave/slackweave/generate/TightestBounds;[JI)Z", sig := { parameters := [(.object "com/example/slackweave/slackweave/generate/TightestBounds"), (.array .long), .int], returnType := some .boolean }, accessFlags := 10, code := some k1c5 }
def k1c6 : Code := { maxStack := 6, maxLocals := 28, code := code, exceptionTable := #[], attributes := #[] }
def k1m6 : Method := { name := "law", desc := "(IJIJIJ)Z", sig := { parameters := [.int, .long, .int, .long, .int, .long], returnType := some .boolean }, accessFlags := 9, code := some k1c6 }
/-- com/example/slackweave/slackweave/generate/TightestBoundsAddPinLaw -/
def k1 : Class := { plain "com/example/slackweave/slackweave/generate/TightestBoundsAddPinLaw" (some 0) with
  accessFlags := 49
  interfaces := #[]
  cf := some (fileOf pool1 12 #[] #[{ accessFlags := 1, nameIndex := 5, descriptorIndex := 6, attributes := #[] }, { accessFlags := 10, nameIndex := 15, descriptorIndex := 16, attributes := #[] }, { accessFlags := 10, nameIndex := 24, descriptorIndex := 25, attributes := #[] }, { accessFlags := 10, nameIndex := 38, descriptorIndex := 39, attributes := #[] }, { accessFlags := 10, nameIndex := 46, descriptorIndex := 47, attributes := #[] }, { accessFlags := 10, nameIndex := 50, descriptorIndex := 51, attributes := #[] }, { accessFlags := 9, nameIndex := 55, descriptorIndex := 56, attributes := #[] }] 49 2 #[] #[])
  fields := #[]
  methods := #[k1m0, k1m1, k1m2, k1m3, k1m4, k1m5, k1m6]
  instanceTypes := #[]
  staticTypes := #[]
  resolved := Array.replicate 61 none
  statics := none }

def pool2 : Array CpInfo := pool [(3, .methodref 4 5), (0, .class_ 6), (0, .nameAndType 7 8), (0, u "java/lang/Object"), (0, u "<init>"), (0, u "()V"), (0, .class_ 10), (0, u "[[J"), (0, .fieldref 12 13), (0, .class_ 14), (0, .nameAndType 15 10), (0, u "com/example/slackweave/slackweave/generate/TightestBounds"), (0, u "bound"), (0, .long 9223372036854775807), (1, .methodref 19 20), (0, .class_ 21), (0, .nameAndType 22 23), (0, u "java/util/Arrays"), (0, u "fill"), (0, u "([JJ)V"), (9, u "NONE"), (0, u "J"), (1, u "(I)V"), (3, u "of"), (0, u "(II)J"), (0, u "add"), (0, u "(IIJ)V")] 21

def k2c0 : Code := { maxStack := 4, maxLocals := 3, code := prog_7_method_1_code, exceptionTable := #[], attributes := #[] }
def k2m0 : Method := { name := "<init>", desc := "(I)V", sig := { parameters := [.int], returnType := none }, accessFlags := 0, code := some k2c0 }
def k2c1 : Code := { maxStack := 2, maxLocals := 3, code := prog_7_method_2_code, exceptionTable := #[], attributes := #[] }
def k2m1 : Method := { name := "of", desc := "(II)J", sig := { parameters := [.int, .int], returnType := some .long }, accessFlags := 0, code := some k2c1 }
def k2c2 : Code := { maxStack := 6, maxLocals := 21, code := prog_7_method_3_code, exceptionTable := #[], attributes := #[] }
def k2m2 : Method := { name := "add", desc := "(IIJ)V", sig := { parameters := [.int, .int, .long], returnType := none }, accessFlags := 0, code := some k2c2 }
/-- com/example/slackweave/slackweave/generate/TightestBounds -/
def k2 : Class := { plain "com/example/slackweave/slackweave/generate/TightestBounds" (some 0) with
  accessFlags := 48
  interfaces := #[]
  cf := some (fileOf pool2 12 #[] #[{ accessFlags := 0, nameIndex := 7, descriptorIndex := 36, attributes := #[] }, { accessFlags := 0, nameIndex := 40, descriptorIndex := 41, attributes := #[] }, { accessFlags := 0, nameIndex := 42, descriptorIndex := 43, attributes := #[] }] 48 4 #[] #[{ accessFlags := 24, nameIndex := 33, descriptorIndex := 34, attributes := #[] }, { accessFlags := 18, nameIndex := 15, descriptorIndex := 10, attributes := #[] }])
  fields := #[{ name := "NONE", type := .long, accessFlags := 24, slot := 0, constantValue := 0 }, { name := "bound", type := (.array (.array .long)), accessFlags := 18, slot := 0, constantValue := 0 }]
  methods := #[k2m0, k2m1, k2m2]
  instanceTypes := #[(.array (.array .long))]
  staticTypes := #[.long]
  resolved := Array.replicate 65 none
  statics := none }

def pool3 : Array CpInfo := pool [(2, .class_ 4), (1, u "java/lang/Object"), (0, u "<init>"), (0, u "()V"), (7, .class_ 16), (1, u "java/util/Arrays"), (57, .class_ 76), (1, u "java/util/Arrays$NaturalOrder"), (36, .class_ 115), (1, u "java/util/Arrays$LegacyMergeSort"), (1, u "Z"), (257, .class_ 376), (0, u "java/util/Arrays$ArrayList"), (68, u "$assertionsDisabled"), (269, u "MIN_ARRAY_SORT_GRAN"), (0, u "I"), (2, u "INSERTIONSORT_THRESHOLD"), (120, u "fill"), (0, u "([JJ)V"), (133, .class_ 976), (0, u "java/util/Arrays$ArrayItr")] 52

def k3m0 : Method := { name := "<init>", desc := "()V", sig := { parameters := [], returnType := none }, accessFlags := 2, code := none }
def k3c1 : Code := { maxStack := 4, maxLocals := 5, code := jdk_65_method_101_code, exceptionTable := #[], attributes := #[] }
def k3m1 : Method := { name := "fill", desc := "([JJ)V", sig := { parameters := [(.array .long), .long], returnType := none }, accessFlags := 9, code := some k3c1 }
/-- java/util/Arrays -/
def k3 : Class := { plain "java/util/Arrays" (some 0) with
  accessFlags := 49
  interfaces := #[]
  cf := some (fileOf pool3 14 #[.nestMembers #[975, 375, 113, 74]] #[{ accessFlags := 2, nameIndex := 5, descriptorIndex := 6, attributes := #[] }, { accessFlags := 9, nameIndex := 840, descriptorIndex := 841, attributes := #[] }] 49 2 #[] #[{ accessFlags := 26, nameIndex := 715, descriptorIndex := 716, attributes := #[] }, { accessFlags := 26, nameIndex := 719, descriptorIndex := 716, attributes := #[] }, { accessFlags := 4120, nameIndex := 445, descriptorIndex := 117, attributes := #[] }])
  fields := #[{ name := "MIN_ARRAY_SORT_GRAN", type := .int, accessFlags := 26, slot := 0, constantValue := 0 }, { name := "INSERTIONSORT_THRESHOLD", type := .int, accessFlags := 26, slot := 1, constantValue := 0 }, { name := "$assertionsDisabled", type := .boolean, accessFlags := 4120, slot := 2, constantValue := 0 }]
  methods := #[k3m0, k3m1]
  instanceTypes := #[]
  staticTypes := #[.int, .int, .boolean]
  resolved := Array.replicate 1029 none
  statics := none }

def pool4 : Array CpInfo := pool [(1, .class_ 2), (0, u "java/lang/Math"), (1, .class_ 6), (1, u "java/lang/Object"), (0, u "<init>"), (0, u "()V"), (89, .class_ 100), (1, u "java/lang/Math$RandomNumberGeneratorHolder"), (20, u "(JJ)J"), (50, u "negativeZeroFloatBits"), (0, u "J"), (2, u "negativeZeroDoubleBits"), (24, u "min"), (43, u "$assertionsDisabled"), (0, u "Z"), (91, u "twoToTheDoubleScaleDown"), (0, u "D"), (4, u "twoToTheDoubleScaleUp"), (9, u "E"), (3, u "PI"), (2, u "TAU"), (2, u "DEGREES_TO_RADIANS"), (0, u "RADIANS_TO_DEGREES")] 94

def k4m0 : Method := { name := "<init>", desc := "()V", sig := { parameters := [], returnType := none }, accessFlags := 2, code := none }
def k4c1 : Code := { maxStack := 4, maxLocals := 4, code := jdk_29_method_70_code, exceptionTable := #[], attributes := #[] }
def k4m1 : Method := { name := "min", desc := "(JJ)J", sig := { parameters := [.long, .long], returnType := some .long }, accessFlags := 9, code := some k4c1 }
/-- java/lang/Math -/
def k4 : Class := { plain "java/lang/Math" (some 0) with
  accessFlags := 49
  interfaces := #[]
  cf := some (fileOf pool4 1 #[.nestMembers #[98]] #[{ accessFlags := 2, nameIndex := 7, descriptorIndex := 8, attributes := #[] }, { accessFlags := 9, nameIndex := 201, descriptorIndex := 121, attributes := #[] }] 49 4 #[] #[{ accessFlags := 25, nameIndex := 354, descriptorIndex := 339, attributes := #[] }, { accessFlags := 25, nameIndex := 358, descriptorIndex := 339, attributes := #[] }, { accessFlags := 25, nameIndex := 361, descriptorIndex := 339, attributes := #[] }, { accessFlags := 26, nameIndex := 364, descriptorIndex := 339, attributes := #[] }, { accessFlags := 26, nameIndex := 365, descriptorIndex := 339, attributes := #[] }, { accessFlags := 26, nameIndex := 172, descriptorIndex := 173, attributes := #[] }, { accessFlags := 26, nameIndex := 176, descriptorIndex := 173, attributes := #[] }, { accessFlags := 8, nameIndex := 344, descriptorIndex := 339, attributes := #[] }, { accessFlags := 8, nameIndex := 338, descriptorIndex := 339, attributes := #[] }, { accessFlags := 4120, nameIndex := 245, descriptorIndex := 246, attributes := #[] }])
  fields := #[{ name := "E", type := .double, accessFlags := 25, slot := 0, constantValue := 0 }, { name := "PI", type := .double, accessFlags := 25, slot := 1, constantValue := 0 }, { name := "TAU", type := .double, accessFlags := 25, slot := 2, constantValue := 0 }, { name := "DEGREES_TO_RADIANS", type := .double, accessFlags := 26, slot := 3, constantValue := 0 }, { name := "RADIANS_TO_DEGREES", type := .double, accessFlags := 26, slot := 4, constantValue := 0 }, { name := "negativeZeroFloatBits", type := .long, accessFlags := 26, slot := 5, constantValue := 0 }, { name := "negativeZeroDoubleBits", type := .long, accessFlags := 26, slot := 6, constantValue := 0 }, { name := "twoToTheDoubleScaleUp", type := .double, accessFlags := 8, slot := 7, constantValue := 0 }, { name := "twoToTheDoubleScaleDown", type := .double, accessFlags := 8, slot := 8, constantValue := 0 }, { name := "$assertionsDisabled", type := .boolean, accessFlags := 4120, slot := 9, constantValue := 0 }]
  methods := #[k4m0, k4m1]
  instanceTypes := #[]
  staticTypes := #[.double, .double, .double, .double, .double, .long, .long, .double, .double, .boolean]
  resolved := Array.replicate 460 none
  statics := none }

def pool5 : Array CpInfo := pool [(1, u "java/lang/Cloneable"), (0, .class_ 1), (0, u "java/lang/Object"), (0, .class_ 3)] 3

/-- java/lang/Cloneable -/
def k5 : Class := { plain "java/lang/Cloneable" (some 0) with
  accessFlags := 1537
  interfaces := #[]
  cf := some (fileOf pool5 2 #[] #[] 1537 4 #[] #[])
  fields := #[]
  methods := #[]
  instanceTypes := #[]
  staticTypes := #[]
  resolved := Array.replicate 8 none
  statics := none }

def pool6 : Array CpInfo := pool [(1, u "java/io/Serializable"), (0, .class_ 1), (0, u "java/lang/Object"), (0, .class_ 3)] 3

/-- java/io/Serializable -/
def k6 : Class := { plain "java/io/Serializable" (some 0) with
  accessFlags := 1537
  interfaces := #[]
  cf := some (fileOf pool6 2 #[] #[] 1537 4 #[] #[])
  fields := #[]
  methods := #[]
  instanceTypes := #[]
  staticTypes := #[]
  resolved := Array.replicate 8 none
  statics := none }

/-- the primitive byte -/
def k7 : Class := { plain "byte" none with kind := .primitive 'B', accessFlags := 0x411 }
/-- [B -/
def k8 : Class := { plain "[B" (some 0) with kind := .array 7 .byte, interfaces := #[5, 6], accessFlags := 1041 }

/-- the primitive int -/
def k9 : Class := { plain "int" none with kind := .primitive 'I', accessFlags := 0x411 }
/-- [I -/
def k10 : Class := { plain "[I" (some 0) with kind := .array 9 .int, interfaces := #[5, 6], accessFlags := 1041 }

/-- the primitive long -/
def k11 : Class := { plain "long" none with kind := .primitive 'J', accessFlags := 0x411 }
/-- [J -/
def k12 : Class := { plain "[J" (some 0) with kind := .array 11 .long, interfaces := #[5, 6], accessFlags := 1041 }

/-- [[J -/
def k13 : Class := { plain "[[J" (some 0) with kind := .array 12 (.array .long), interfaces := #[5, 6], accessFlags := 1041 }

def heap : Heap := #[]
def classes : Array Class := #[k0, k1, k2, k3, k4, k5, k6, k7, k8, k9, k10, k11, k12, k13]
def interned : List (Array UInt16 × Addr) := []
def slotsUsed : Nat := 0
def theMethod : MethodId := ⟨1, 6⟩
def args0 : Array Value := #[.int 1, .long 512, .int 6, .long 768, .int 2, .long 2560]
def aboutOver (below : List Frame) : State where
  vm := { classes := classes, interned := interned.toArray }
  heap := heap
  slotsUsed := slotsUsed
  threads := #[{ frames := .invoking theMethod args0 :: below }]
def below0 : List Frame := [.native { method := ⟨0, 0⟩, args := #[] }]
def about1 : State := aboutOver below0
def p0 : Program := .bare "" "" ""
def e0 : Env := launch0.env 0 0 0
theorem w_frames : about1.frames = Frame.invoking theMethod args0 :: below0 := rfl
set_option maxRecDepth 65536 in
theorem w_args : argsFit about1.vm theMethod args0 = true := by decide +kernel
set_option maxRecDepth 65536 in
theorem w_heap : heapFits about1 = true := by decide +kernel
set_option maxRecDepth 65536 in
theorem w_runnable : about1.curStatus? = some .runnable := by decide +kernel
set_option maxRecDepth 65536 in
theorem w_alone : about1.alone = true := by decide +kernel
set_option maxRecDepth 65536 in
theorem w_named : about1.methodNamed? x = some theMethod := by decide +kernel
set_option maxRecDepth 65536 in
theorem w_hears : about1.hears theMethod below0 = true := by decide +kernel
set_option maxRecDepth 65536 in
theorem w_ripe : about1.ripe theMethod args0 below0 = true := by decide +kernel
theorem w_running : about1.status = .running := rfl
set_option maxRecDepth 65536 in
theorem w_room : about1.hasRoom e0.platform room_1 = true :=
  launch0.hasRoom_least _ room_1 (by decide +kernel) (by decide +kernel) (by decide +kernel) (by decide +kernel) (by decide +kernel) (by decide +kernel)
theorem allAtoms_all (ts : List Jvm.Cond) (a : Array Jvm.Value) (st : Jvm.State) : (allAtoms ts).before a st = ts.all (fun c => c.before a st) := by
  induction ts with
  | nil => rfl
  | cons c t ih =>
    show (Jvm.Cond.and c (allAtoms t)).before a st = _
    rw [Jvm.Cond.before_and, ih, List.all_cons]
def words1 : List Jvm.Cond := Jvm.Cond.code x code maxLocals ret :: tables_1
/-- a 'code' word, met by the world's own term for the bytes: nothing is compared byte by byte -/
theorem code_word {y : MethodName} {bytes : ByteArray} {mx : Nat} {rt : Option FieldType} {a : Array Value} {s : State} {m : MethodId} {meth : Method} {c : Code} (h1 : s.methodNamed? y = some m) (h2 : s.vm.method? m = some meth) (h3 : meth.code = some c) (h4 : c.code = bytes)
    (h5 : (c.maxLocals == mx && c.exceptionTable.isEmpty && decide (c.maxStack ≤ mostOperands) && decide (meth.sig.returnType = rt) && !meth.locks && decide (parseMethodDescriptor y.desc = some meth.sig)) = true) : (Jvm.Cond.code y bytes mx rt).before a s = true := by
  simp only [Bool.and_eq_true, beq_iff_eq, Bool.not_eq_true', decide_eq_true_eq] at h5
  obtain ⟨⟨⟨⟨⟨g1, g2⟩, g3⟩, g4⟩, g5⟩, g6⟩ := h5
  simp [Cond.before, Cond.holds, Cond.value, h1, h2, h3, h4, g1, g2, g3, g4, g5, g6]
def isCode : Jvm.Cond → Bool
  | .code _ _ _ _ => true
  | _ => false
theorem all_split {L : List Jvm.Cond} {P : Jvm.Cond → Bool} (h1 : L.all (fun c => isCode c || P c) = true) (h2 : ∀ c ∈ L.filter isCode, P c = true) : L.all P = true := by
  refine List.all_eq_true.mpr fun c hc => ?_
  have h := List.all_eq_true.mp h1 c hc
  rcases Bool.eq_false_or_eq_true (isCode c) with hi | hi
  · exact h2 c (List.mem_filter.mpr ⟨hc, hi⟩)
  · simpa [hi] using h
set_option maxRecDepth 65536 in
theorem w_c0 : (Jvm.Cond.code x code maxLocals ret).before args0 about1 = true := code_word (m := ⟨1, 6⟩) (meth := k1m6) (c := k1c6) (by decide +kernel) rfl rfl rfl (by decide +kernel)
set_option maxRecDepth 65536 in
theorem w_c1 : (Jvm.Cond.code ({ cls := "com/example/slackweave/slackweave/generate/TightestBounds", name := "<init>", desc := "(I)V" } : Jvm.MethodName) prog_7_method_1_code (3 : Nat) (Option.none : Option Jvm.ClassFile.FieldType)).before args0 about1 = true := code_word (m := ⟨2, 0⟩) (meth := k2m0) (c := k2c0) (by decide +kernel) rfl rfl rfl (by decide +kernel)
set_option maxRecDepth 65536 in
theorem w_c2 : (Jvm.Cond.code ({ cls := "java/lang/Object", name := "<init>", desc := "()V" } : Jvm.MethodName) object_method_1_code (1 : Nat) (Option.none : Option Jvm.ClassFile.FieldType)).before args0 about1 = true := code_word (m := ⟨0, 0⟩) (meth := k0m0) (c := k0c0) (by decide +kernel) rfl rfl rfl (by decide +kernel)
set_option maxRecDepth 65536 in
theorem w_c3 : (Jvm.Cond.code ({ cls := "java/util/Arrays", name := "fill", desc := "([JJ)V" } : Jvm.MethodName) jdk_65_method_101_code (5 : Nat) (Option.none : Option Jvm.ClassFile.FieldType)).before args0 about1 = true := code_word (m := ⟨3, 1⟩) (meth := k3m1) (c := k3c1) (by decide +kernel) rfl rfl rfl (by decide +kernel)
set_option maxRecDepth 65536 in
theorem w_c4 : (Jvm.Cond.code ({ cls := "com/example/slackweave/slackweave/generate/TightestBoundsAddPinLaw", name := "clampMax", desc := "([JIIJ)J" } : Jvm.MethodName) method_4_code (7 : Nat) (Option.some Jvm.ClassFile.FieldType.long)).before args0 about1 = true := code_word (m := ⟨1, 3⟩) (meth := k1m3) (c := k1c3) (by decide +kernel) rfl rfl rfl (by decide +kernel)
set_option maxRecDepth 65536 in
theorem w_c5 : (Jvm.Cond.code ({ cls := "com/example/slackweave/slackweave/generate/TightestBoundsAddPinLaw", name := "dist", desc := "([JII)J" } : Jvm.MethodName) method_3_code (7 : Nat) (Option.some Jvm.ClassFile.FieldType.long)).before args0 about1 = true := code_word (m := ⟨1, 2⟩) (meth := k1m2) (c := k1c2) (by decide +kernel) rfl rfl rfl (by decide +kernel)
set_option maxRecDepth 65536 in
theorem w_c6 : (Jvm.Cond.code ({ cls := "com/example/slackweave/slackweave/generate/TightestBounds", name := "add", desc := "(IIJ)V" } : Jvm.MethodName) prog_7_method_3_code (21 : Nat) (Option.none : Option Jvm.ClassFile.FieldType)).before args0 about1 = true := code_word (m := ⟨2, 2⟩) (meth := k2m2) (c := k2c2) (by decide +kernel) rfl rfl rfl (by decide +kernel)
set_option maxRecDepth 65536 in
theorem w_c7 : (Jvm.Cond.code ({ cls := "com/example/slackweave/slackweave/generate/TightestBoundsAddPinLaw", name := "edge", desc := "([JIIJ)V" } : Jvm.MethodName) method_5_code (5 : Nat) (Option.none : Option Jvm.ClassFile.FieldType)).before args0 about1 = true := code_word (m := ⟨1, 4⟩) (meth := k1m4) (c := k1c4) (by decide +kernel) rfl rfl rfl (by decide +kernel)
set_option maxRecDepth 65536 in
theorem w_c8 : (Jvm.Cond.code ({ cls := "com/example/slackweave/slackweave/generate/TightestBoundsAddPinLaw", name := "sum", desc := "(JJ)J" } : Jvm.MethodName) method_2_code (4 : Nat) (Option.some Jvm.ClassFile.FieldType.long)).before args0 about1 = true := code_word (m := ⟨1, 1⟩) (meth := k1m1) (c := k1c1) (by decide +kernel) rfl rfl rfl (by decide +kernel)
set_option maxRecDepth 65536 in
theorem w_c9 : (Jvm.Cond.code ({ cls := "java/lang/Math", name := "min", desc := "(JJ)J" } : Jvm.MethodName) jdk_29_method_70_code (4 : Nat) (Option.some Jvm.ClassFile.FieldType.long)).before args0 about1 = true := code_word (m := ⟨4, 1⟩) (meth := k4m1) (c := k4c1) (by decide +kernel) rfl rfl rfl (by decide +kernel)
set_option maxRecDepth 65536 in
theorem w_c10 : (Jvm.Cond.code ({ cls := "com/example/slackweave/slackweave/generate/TightestBoundsAddPinLaw", name := "row", desc := "(Lcom/example/slackweave/slackweave/generate/TightestBounds;[JI)Z" } : Jvm.MethodName) method_6_code (3 : Nat) (Option.some Jvm.ClassFile.FieldType.boolean)).before args0 about1 = true := code_word (m := ⟨1, 5⟩) (meth := k1m5) (c := k1c5) (by decide +kernel) rfl rfl rfl (by decide +kernel)
set_option maxRecDepth 65536 in
theorem w_c11 : (Jvm.Cond.code ({ cls := "com/example/slackweave/slackweave/generate/TightestBounds", name := "of", desc := "(II)J" } : Jvm.MethodName) prog_7_method_2_code (3 : Nat) (Option.some Jvm.ClassFile.FieldType.long)).before args0 about1 = true := code_word (m := ⟨2, 1⟩) (meth := k2m1) (c := k2c1) (by decide +kernel) rfl rfl rfl (by decide +kernel)
def codes1 : List Jvm.Cond := [Jvm.Cond.code x code maxLocals ret, Jvm.Cond.code ({ cls := "com/example/slackweave/slackweave/generate/TightestBounds", name := "<init>", desc := "(I)V" } : Jvm.MethodName) prog_7_method_1_code (3 : Nat) (Option.none : Option Jvm.ClassFile.FieldType), Jvm.Cond.code ({ cls := "java/lang/Object", name := "<init>", desc := "()V" } : Jvm.MethodName) object_method_1_code (1 : Nat) (Option.none : Option Jvm.ClassFile.FieldType), Jvm.Cond.code ({ cls := "java/util/Arrays", name := "fill", desc := "([JJ)V" } : Jvm.MethodName) jdk_65_method_101_code (5 : Nat) (Option.none : Option Jvm.ClassFile.FieldType), Jvm.Cond.code ({ cls := "com/example/slackweave/slackweave/generate/TightestBoundsAddPinLaw", name := "clampMax", desc := "([JIIJ)J" } : Jvm.MethodName) method_4_code (7 : Nat) (Option.some Jvm.ClassFile.FieldType.long), Jvm.Cond.code ({ cls := "com/example/slackweave/slackweave/generate/TightestBoundsAddPinLaw", name := "dist", desc := "([JII)J" } : Jvm.MethodName) method_3_code (7 : Nat) (Option.some Jvm.ClassFile.FieldType.long), Jvm.Cond.code ({ cls := "com/example/slackweave/slackweave/generate/TightestBounds", name := "add", desc := "(IIJ)V" } : Jvm.MethodName) prog_7_method_3_code (21 : Nat) (Option.none : Option Jvm.ClassFile.FieldType), Jvm.Cond.code ({ cls := "com/example/slackweave/slackweave/generate/TightestBoundsAddPinLaw", name := "edge", desc := "([JIIJ)V" } : Jvm.MethodName) method_5_code (5 : Nat) (Option.none : Option Jvm.ClassFile.FieldType), Jvm.Cond.code ({ cls := "com/example/slackweave/slackweave/generate/TightestBoundsAddPinLaw", name := "sum", desc := "(JJ)J" } : Jvm.MethodName) method_2_code (4 : Nat) (Option.some Jvm.ClassFile.FieldType.long), Jvm.Cond.code ({ cls := "java/lang/Math", name := "min", desc := "(JJ)J" } : Jvm.MethodName) jdk_29_method_70_code (4 : Nat) (Option.some Jvm.ClassFile.FieldType.long), Jvm.Cond.code ({ cls := "com/example/slackweave/slackweave/generate/TightestBoundsAddPinLaw", name := "row", desc := "(Lcom/example/slackweave/slackweave/generate/TightestBounds;[JI)Z" } : Jvm.MethodName) method_6_code (3 : Nat) (Option.some Jvm.ClassFile.FieldType.boolean), Jvm.Cond.code ({ cls := "com/example/slackweave/slackweave/generate/TightestBounds", name := "of", desc := "(II)J" } : Jvm.MethodName) prog_7_method_2_code (3 : Nat) (Option.some Jvm.ClassFile.FieldType.long)]
set_option maxRecDepth 65536 in
theorem codes_eq : words1.filter isCode = codes1 := rfl
theorem w_codes : ∀ c ∈ words1.filter isCode, c.before args0 about1 = true := by
  rw [codes_eq]
  intro c hc
  simp only [codes1, List.mem_cons, List.not_mem_nil, or_false] at hc
  rcases hc with rfl | rfl | rfl | rfl | rfl | rfl | rfl | rfl | rfl | rfl | rfl | rfl
  · exact w_c0
  · exact w_c1
  · exact w_c2
  · exact w_c3
  · exact w_c4
  · exact w_c5
  · exact w_c6
  · exact w_c7
  · exact w_c8
  · exact w_c9
  · exact w_c10
  · exact w_c11
set_option maxRecDepth 65536 in
theorem w_t1 : (words1.take 24).all (fun c => isCode c || c.before args0 about1) = true := by decide +kernel
set_option maxRecDepth 65536 in
theorem w_t2 : ((words1.drop 24).take 24).all (fun c => isCode c || c.before args0 about1) = true := by decide +kernel
set_option maxRecDepth 65536 in
theorem w_t3 : ((words1.drop 24).drop 24).all (fun c => isCode c || c.before args0 about1) = true := by decide +kernel
theorem w_tables : (allAtoms (Jvm.Cond.code x code maxLocals ret :: tables_1)).before args0 about1 = true := by
  rw [allAtoms_all]
  show words1.all (fun c => c.before args0 about1) = true
  refine all_split ?_ w_codes
  rw [← List.take_append_drop 24 words1, List.all_append, w_t1, ← List.take_append_drop 24 (words1.drop 24), List.all_append, w_t2, w_t3]
  rfl
set_option maxRecDepth 65536 in
theorem w_case : (Jvm.Cond.and given_1 narrow_1).before args0 about1 = true := by decide +kernel
theorem w_applies : (headSpec (Jvm.Cond.code x code maxLocals ret :: tables_1) room_1).applies x e0.platform about1 = true :=
  (Spec.applies_iff w_frames).mpr ⟨w_running, w_runnable, w_alone, w_named, w_hears, w_ripe, w_room, w_tables⟩
theorem atStart : AtStart classFile x code maxLocals ret World_1 tables_1 room_1 Calls_1 rest_1 Pre_1 launch0 p0 e0 about1 theMethod args0 below0 :=
  ⟨lists_1, trivial, launch0.admits_env _ _ _, launch0.least_env, fairChoices_fair.cas, fairChoices_fair.clock, w_frames, w_args, w_heap, w_applies, trivial, trivial, w_case⟩
end start1
theorem witness_1 : WitnessClaimed_1 := ⟨start1.p0, start1.e0, start1.about1, start1.theMethod, start1.args0, start1.below0, start1.atStart⟩
end Jvm.Pilot.@@N@@
