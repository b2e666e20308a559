import JvmDerived
import JvmDerived.Pilot.@@N@@Statement
import JvmDerived.Pilot.@@N@@Code
set_option linter.unusedVariables false
set_option linter.unusedSimpArgs false
namespace Jvm.Pilot.@@N@@
open Jvm Jvm.ClassFile Sem Op Lib Jvm.Free Jvm.Stand Jvm.LawKit Jvm.RoadKit Bundle Jvm.Pilot.@@N@@.Jvm.D
/-! OWN PRELUDE (the same text in every proof of this seat): the walk as a goal that goes forward -/
section OwnPrelude
variable {Z : State} {hs : Heap} {W : List Addr} {own : String} {bytes : ByteArray} {maxL : Nat} {ret : Option FieldType} {nm : String}
  {p : Program} {l : Launch} {e : Env} {R : Room} {s : State} {m : MethodId} {args : Array Value} {below : List Frame} {meth : Method} {c : Code}
  {T : State} {h : Heap} {cells slots : Nat} {k n : Nat} {Q : Option Value → Heap → Prop} {a0 : Array Value} {pc : Nat} {Ls : Array Slot} {st rest : List Value}

/-- what stays the same while one body is walked -/
def own_G (Z : State) (hs : Heap) (W : List Addr) (own : String) (bytes : ByteArray) (maxL : Nat) (ret : Option FieldType) (nm : String) (p : Program) (s : State) (m : MethodId) (meth : Method) (c : Code) : Prop :=
  p.tables.exec = Jvm.exec ∧ Z.Warmed39 s.vm ∧ s.vm.findClass own = some m.cls ∧ c.code = bytes ∧ c.maxLocals = maxL ∧ meth.sig.returnType = ret ∧ meth.locks = false ∧ meth.name = nm ∧ Ext Z.heap hs ∧ ∀ a ∈ W, Z.heap.size ≤ a
/-- where the walk stands: state T, heap h, so many cells and slots made; nothing old but W was written -/
def own_S (Z : State) (hs : Heap) (W : List Addr) (own : String) (bytes : ByteArray) (maxL : Nat) (ret : Option FieldType) (nm : String) (p : Program) (l : Launch) (e : Env) (R : Room) (s : State) (m : MethodId) (args : Array Value) (below : List Frame) (meth : Method) (c : Code)
    (T : State) (h : Heap) (cells slots : Nat) : Prop :=
  own_G Z hs W own bytes maxL ret nm p s m meth c ∧ ∃ locs, Stand p l e R s m args below meth c T locs cells slots ∧ Fr Z.heap.size locs ∧ T.heap = h ∧ Keep hs h W
/-- from A the call comes to its end, and there Q holds -/
def own_F (p : Program) (e : Env) (below : List Frame) (s : State) (Z : State) (hs : Heap) (W : List Addr) (k n : Nat) (Q : Option Value → Heap → Prop) (A : State) : Prop :=
  ∃ s₂ o, Steps p.tables e below A s₂ ∧ s₂.status = .running ∧ Ended s₂ below o ∧ ∃ v L, o = .returned v ∧ (Fr Z.heap.size L ∧ Keep hs s₂.heap W ∧ Q v s₂.heap) ∧ FrameEnd s o s₂ L k n
/-- a body's contract -/
def own_C (l : Launch) (Z : State) (y : MethodName) (bytes : ByteArray) (maxL : Nat) (ret : Option FieldType) (ws : List Jvm.Cond) (rm : Room) (W : List Addr) (as' : Array Value) (h0 : Heap) (Q : Option Value → Heap → Prop) : Prop :=
  MetFree l y (head1 (Jvm.Cond.code y bytes maxL ret :: ws) rm) (fun a U => a = as' ∧ Z.Warmed39 U.vm ∧ U.heap = h0) (fun _ _ _ _ _ => True)
    (fun _ U o U' => ∃ v L, o = .returned v ∧ (Fr Z.heap.size L ∧ Keep h0 U'.heap W ∧ Q v U'.heap) ∧ FrameEnd U o U' L rm.cells rm.slots)

theorem own_C.of {y : MethodName} {ws : List Jvm.Cond} {rm : Room} {as' : Array Value} {h0 : Heap} (hpl : plainFor y = true) (hO : Ext Z.heap h0) (hW : ∀ a ∈ W, Z.heap.size ≤ a)
    (body : ∀ p e s m below meth c T, own_S Z h0 W y.cls bytes maxL ret y.name p l e rm s m as' below meth c T h0 0 0 → own_F p e below s Z h0 W rm.cells rm.slots Q (T.setTop (entryFrame m as' maxL))) :
    own_C l Z y bytes maxL ret ws rm W as' h0 Q := by
  refine MetFree.of_bodySF hpl hisR ?_
  intro p e s m args below meth c s₁ Bd hml hP hK
  obtain ⟨rfl, hZ, hh⟩ := hP
  exact body p e s m below meth c s₁ ⟨⟨Bd.exec, hZ, findClass_of_methodNamed Bd.named, Bd.bytes, hml, Bd.returns, Bd.notSynchronized, (name_of_methodNamed Bd.named Bd.method).1, hO, hW⟩, [], Stand.of_body Bd, Fr.nil _, (by rw [← hh, Bd.state]; rfl), Keep.refl _ _⟩

theorem own_F.of {A B : State} (h : ∀ t, Steps p.tables e below B t → Steps p.tables e below A t) (f : own_F p e below s Z hs W k n Q B) : own_F p e below s Z hs W k n Q A := by
  obtain ⟨s₂, o, h1, r⟩ := f
  exact ⟨s₂, o, h _ h1, r⟩
theorem own_F.to {A B : State} (h : Steps p.tables e below A B) (f : own_F p e below s Z hs W k n Q B) : own_F p e below s Z hs W k n Q A := own_F.of (fun _ => h.trans) f
theorem own_F.cast {g g' : JFrame} (q : g = g') (f : own_F p e below s Z hs W k n Q (T.setTop g')) : own_F p e below s Z hs W k n Q (T.setTop g) := q ▸ f
theorem own_F.mono {A : State} {Q' : Option Value → Heap → Prop} (f : own_F p e below s Z hs W k n Q A) (q : ∀ v h, Q v h → Q' v h) : own_F p e below s Z hs W k n Q' A := by
  obtain ⟨s₂, o, h1, h2, h3, v, L, h4, ⟨h5, h6, h7⟩, h8⟩ := f
  exact ⟨s₂, o, h1, h2, h3, v, L, h4, ⟨h5, h6, q _ _ h7⟩, h8⟩
theorem own_C.mono {y : MethodName} {ws : List Jvm.Cond} {rm : Room} {as' : Array Value} {h0 : Heap} {Q' : Option Value → Heap → Prop} (f : own_C l Z y bytes maxL ret ws rm W as' h0 Q) (q : ∀ v h, Q v h → Q' v h) : own_C l Z y bytes maxL ret ws rm W as' h0 Q' := by
  intro p e ha hc hk s m args below hf happ hP hK
  obtain ⟨n, o, h1, h2, h3, v, L, h4, ⟨h5, h6, h7⟩, h8⟩ := f p e ha hc hk s m args below hf happ hP hK
  exact ⟨n, o, h1, h2, h3, v, L, h4, ⟨h5, h6, q _ _ h7⟩, h8⟩

theorem own_S.hx (S : own_S Z hs W own bytes maxL ret nm p l e R s m args below meth c T h cells slots) : p.tables.exec = Jvm.exec := S.1.1
theorem own_S.hZ (S : own_S Z hs W own bytes maxL ret nm p l e R s m args below meth c T h cells slots) : Z.Warmed39 s.vm := S.1.2.1
theorem own_S.hown (S : own_S Z hs W own bytes maxL ret nm p l e R s m args below meth c T h cells slots) : s.vm.findClass own = some m.cls := S.1.2.2.1
theorem own_S.hby (S : own_S Z hs W own bytes maxL ret nm p l e R s m args below meth c T h cells slots) : c.code = bytes := S.1.2.2.2.1
theorem own_S.hml (S : own_S Z hs W own bytes maxL ret nm p l e R s m args below meth c T h cells slots) : c.maxLocals = maxL := S.1.2.2.2.2.1
theorem own_S.hret (S : own_S Z hs W own bytes maxL ret nm p l e R s m args below meth c T h cells slots) : meth.sig.returnType = ret := S.1.2.2.2.2.2.1
theorem own_S.hlk (S : own_S Z hs W own bytes maxL ret nm p l e R s m args below meth c T h cells slots) : meth.locks = false := S.1.2.2.2.2.2.2.1
theorem own_S.hnm (S : own_S Z hs W own bytes maxL ret nm p l e R s m args below meth c T h cells slots) : meth.name = nm := S.1.2.2.2.2.2.2.2.1
theorem own_S.hO (S : own_S Z hs W own bytes maxL ret nm p l e R s m args below meth c T h cells slots) : Ext Z.heap hs := S.1.2.2.2.2.2.2.2.2.1
theorem own_S.hW (S : own_S Z hs W own bytes maxL ret nm p l e R s m args below meth c T h cells slots) : ∀ a ∈ W, Z.heap.size ≤ a := S.1.2.2.2.2.2.2.2.2.2
theorem own_S.keep (S : own_S Z hs W own bytes maxL ret nm p l e R s m args below meth c T h cells slots) : Keep hs h W := by obtain ⟨-, _, -, -, -, K⟩ := S; exact K
theorem own_S.size (S : own_S Z hs W own bytes maxL ret nm p l e R s m args below meth c T h cells slots) : hs.size ≤ h.size := S.keep.1
theorem own_S.old (S : own_S Z hs W own bytes maxL ret nm p l e R s m args below meth c T h cells slots) : Ext Z.heap h :=
  ⟨Nat.le_trans S.hO.1 S.size, fun x cc q => S.keep.2.1 x cc (S.hO.2 x cc q) fun r => absurd (Array.getElem?_eq_some_iff.mp q).1 (Nat.not_lt.mpr (S.hW x r))⟩
theorem own_S.here (S : own_S Z hs W own bytes maxL ret nm p l e R s m args below meth c T h cells slots) : At T m c below := by obtain ⟨-, _, X, -⟩ := S; exact X.here
theorem own_S.dec (S : own_S Z hs W own bytes maxL ret nm p l e R s m args below meth c T h cells slots) {r : Except ClassFile.DecodeError (ClassFile.Instr × Nat)} (h2 : decode bytes pc = r) : decode c.code pc = r := hb S.hby h2
theorem own_S.may (S : own_S Z hs W own bytes maxL ret nm p l e R s m args below meth c T h cells slots) {a : Addr} (q : a ∈ W ∨ hs.size ≤ a) : Z.heap.size ≤ a := q.elim (S.hW a) (Nat.le_trans S.hO.1)
theorem own_S.more (S : own_S Z hs W own bytes maxL ret nm p l e R s m args below meth c T h cells slots) {k' n' : Nat} (hk : cells ≤ k') (hn : slots ≤ n') : own_S Z hs W own bytes maxL ret nm p l e R s m args below meth c T h k' n' := by
  obtain ⟨G, locs, X, r⟩ := S
  exact ⟨G, locs, X.more hk hn, r⟩

/-! the ends -/
theorem own_S.leave (S : own_S Z hs W own bytes maxL ret nm p l e R s m args below meth c T h cells slots) {A : State} {v : Option Value} (hk : cells ≤ k) (hn : slots ≤ n) (hv : ret = none → v = none) (hq : Q v h)
    (go : ∀ (locs : List Loc) (_ : Stand p l e R s m args below meth c T locs cells slots) (fs : List Frame), (∀ (f : JFrame) (acts : List Action), f.method = m → f.locked = none → f.entered = [] → (doReturn e (T.setTop f) acts v).1 = T.setFrames fs) → Steps p.tables e below A (T.setFrames fs)) : own_F p e below s Z hs W k n Q A := by
  obtain ⟨G, locs, X, N, e0, K⟩ := S
  have hlk : meth.locks = false := own_S.hlk (⟨G, locs, X, N, e0, K⟩ : own_S Z hs W own bytes maxL ret nm p l e R s m args below meth c T h cells slots)
  have hret : meth.sig.returnType = ret := own_S.hret (⟨G, locs, X, N, e0, K⟩ : own_S Z hs W own bytes maxL ret nm p l e R s m args below meth c T h cells slots)
  obtain ⟨fs, hr, hrun, hended, hW, hsame⟩ := X.leave (v := v) (fun q => hv (hret ▸ q)) hlk
  subst e0
  exact ⟨_, _, go locs X fs hr, hrun, hended, _, _, rfl, ⟨N, K, hq⟩, ⟨_, rfl⟩, hW, hsame.mono hk hn⟩
theorem own_retV (S : own_S Z hs W own bytes maxL none nm p l e R s m args below meth c T h cells slots) (hd : decode bytes pc = .ok (.return_, 1)) (hk : cells ≤ k) (hn : slots ≤ n) (hq : Q none h) : own_F p e below s Z hs W k n Q (T.setTop (mkF m pc Ls [])) :=
  S.leave hk hn (fun _ => rfl) hq fun locs X fs hr => X.returnOut S.hx S.hret (S.dec hd) hr
theorem own_retZ {t : FieldType} (S : own_S Z hs W own bytes maxL (some t) nm p l e R s m args below meth c T h cells slots) {z : Int32} (ht : t = .boolean ∨ t = .byte ∨ t = .char ∨ t = .short) (hd : decode bytes pc = .ok (.ireturn, 1)) (hk : cells ≤ k) (hn : slots ≤ n) (hq : Q (some (.int (nar t z))) h) : own_F p e below s Z hs W k n Q (T.setTop (mkF m pc Ls (.int z :: rest))) :=
  S.leave hk hn (fun q => by cases q) hq fun locs X fs hr => retN X S.hx S.hret ht (S.dec hd) hr
theorem own_retI (S : own_S Z hs W own bytes maxL (some .int) nm p l e R s m args below meth c T h cells slots) {z : Int32} (hd : decode bytes pc = .ok (.ireturn, 1)) (hk : cells ≤ k) (hn : slots ≤ n) (hq : Q (some (.int z)) h) : own_F p e below s Z hs W k n Q (T.setTop (mkF m pc Ls (.int z :: rest))) :=
  S.leave hk hn (fun q => by cases q) hq fun locs X fs hr => retOut X S.hx S.hret rfl (Or.inl ⟨rfl, Or.inl rfl, _, rfl⟩) (S.dec hd) hr
theorem own_retJ (S : own_S Z hs W own bytes maxL (some .long) nm p l e R s m args below meth c T h cells slots) {z : Int64} (hd : decode bytes pc = .ok (.lreturn, 1)) (hk : cells ≤ k) (hn : slots ≤ n) (hq : Q (some (.long z)) h) : own_F p e below s Z hs W k n Q (T.setTop (mkF m pc Ls (.long z :: rest))) :=
  S.leave hk hn (fun q => by cases q) hq fun locs X fs hr => retOut X S.hx S.hret rfl (Or.inr (Or.inl ⟨rfl, rfl, _, rfl⟩)) (S.dec hd) hr
theorem own_retD (S : own_S Z hs W own bytes maxL (some .double) nm p l e R s m args below meth c T h cells slots) {z : UInt64} (hd : decode bytes pc = .ok (.dreturn, 1)) (hk : cells ≤ k) (hn : slots ≤ n) (hq : Q (some (.double z)) h) : own_F p e below s Z hs W k n Q (T.setTop (mkF m pc Ls (.double z :: rest))) :=
  S.leave hk hn (fun q => by cases q) hq fun locs X fs hr => retOut X S.hx S.hret rfl (Or.inr (Or.inr (Or.inl ⟨rfl, rfl, _, rfl⟩))) (S.dec hd) hr
theorem own_retA {t : FieldType} (S : own_S Z hs W own bytes maxL (some t) nm p l e R s m args below meth c T h cells slots) {w : Value} (ht : t.isReference = true) (hw : w.isRef = true) (hd : decode bytes pc = .ok (.areturn, 1)) (hk : cells ≤ k) (hn : slots ≤ n) (hq : Q (some w) h) : own_F p e below s Z hs W k n Q (T.setTop (mkF m pc Ls (w :: rest))) :=
  S.leave hk hn (fun q => by cases q) hq fun locs X fs hr => retOut X S.hx S.hret (by cases w <;> simp [Value.isRef] at hw <;> cases t <;> simp [FieldType.isReference] at ht <;> rfl) (Or.inr (Or.inr (Or.inr (Or.inr ⟨rfl, ht, hw⟩)))) (S.dec hd) hr

/-! branches -/
def own_cd : ClassFile.Cond → Int32 → Int32 → Prop
  | .eq, x, y => x = y
  | .ne, x, y => ¬ x = y
  | .lt, x, y => x < y
  | .ge, x, y => ¬ x < y
  | .gt, x, y => y < x
  | .le, x, y => ¬ y < x
theorem own_cd_t {cd : ClassFile.Cond} {x y : Int32} (q : own_cd cd x y) : if_icmp.holds cd x y = true := by
  cases cd
  · exact (teq q).1
  · exact (feq q).2
  · exact (tlt q).1
  · exact (flt q).2.1
  · exact (tlt q).2.2.1
  · exact (flt q).2.2.2
def own_cn : ClassFile.Cond → Int32 → Int32 → Prop
  | .eq, x, y => ¬ x = y
  | .ne, x, y => x = y
  | .lt, x, y => ¬ x < y
  | .ge, x, y => x < y
  | .gt, x, y => ¬ y < x
  | .le, x, y => y < x
theorem own_cd_f {cd : ClassFile.Cond} {x y : Int32} (q : own_cn cd x y) : if_icmp.holds cd x y = false := by
  cases cd
  · exact (feq q).1
  · exact (teq q).2
  · exact (flt q).1
  · exact (tlt q).2.1
  · exact (flt q).2.2.1
  · exact (tlt q).2.2.2
theorem own_cd_em (cd : ClassFile.Cond) (x y : Int32) : own_cd cd x y ∨ own_cn cd x y := by
  cases cd
  · exact Classical.em (x = y)
  · exact (Classical.em (x = y)).symm
  · exact Classical.em (x < y)
  · exact (Classical.em (x < y)).symm
  · exact Classical.em (y < x)
  · exact (Classical.em (y < x)).symm
theorem own_icmp (S : own_S Z hs W own bytes maxL ret nm p l e R s m args below meth c T h cells slots) {cd : ClassFile.Cond} {o : Int} {x y : Int32} (pc' : Nat) (hd : decode bytes pc = .ok (.if_icmp cd o, 3)) (ho : 0 ≤ (pc : Int) + o) (hp : ((pc : Int) + o).toNat = pc')
    (ft : own_cd cd x y → own_F p e below s Z hs W k n Q (T.setTop (mkF m pc' Ls rest))) (ff : own_cn cd x y → own_F p e below s Z hs W k n Q (T.setTop (mkF m (pc + 3) Ls rest))) : own_F p e below s Z hs W k n Q (T.setTop (mkF m pc Ls (.int y :: .int x :: rest))) := by
  rcases own_cd_em cd x y with q | q
  · exact own_F.of (fun _ => XS.icmpYes S.here S.hx rfl (pc0 := pc) rfl (S.dec hd) rfl (own_cd_t q) ho hp) (ft q)
  · exact own_F.of (fun _ => XS.icmpNo S.here S.hx rfl (S.dec hd) rfl (own_cd_f q)) (ff q)
theorem own_if (S : own_S Z hs W own bytes maxL ret nm p l e R s m args below meth c T h cells slots) {cd : ClassFile.Cond} {o : Int} {x : Int32} (pc' : Nat) (hd : decode bytes pc = .ok (.ifCond cd o, 3)) (ho : 0 ≤ (pc : Int) + o) (hp : ((pc : Int) + o).toNat = pc')
    (ft : own_cd cd x 0 → own_F p e below s Z hs W k n Q (T.setTop (mkF m pc' Ls rest))) (ff : own_cn cd x 0 → own_F p e below s Z hs W k n Q (T.setTop (mkF m (pc + 3) Ls rest))) : own_F p e below s Z hs W k n Q (T.setTop (mkF m pc Ls (.int x :: rest))) := by
  rcases own_cd_em cd x 0 with q | q
  · exact own_F.of (fun _ => XS.ifYes S.here S.hx rfl (pc0 := pc) rfl (S.dec hd) rfl ((if0 _ _).trans (own_cd_t q)) ho hp) (ft q)
  · exact own_F.of (fun _ => XS.ifNo S.here S.hx rfl (S.dec hd) rfl ((if0 _ _).trans (own_cd_f q))) (ff q)
def own_ac : ACond → Value → Value → Prop
  | .eq, x, y => x = y
  | .ne, x, y => ¬ x = y
def own_an : ACond → Value → Value → Prop
  | .eq, x, y => ¬ x = y
  | .ne, x, y => x = y
theorem own_acmp (S : own_S Z hs W own bytes maxL ret nm p l e R s m args below meth c T h cells slots) {cd : ACond} {o : Int} {x y : Value} (h1 : x.isRef = true) (h2 : y.isRef = true) (pc' : Nat) (hd : decode bytes pc = .ok (.if_acmp cd o, 3)) (ho : 0 ≤ (pc : Int) + o) (hp : ((pc : Int) + o).toNat = pc')
    (ft : own_ac cd x y → own_F p e below s Z hs W k n Q (T.setTop (mkF m pc' Ls rest))) (ff : own_an cd x y → own_F p e below s Z hs W k n Q (T.setTop (mkF m (pc + 3) Ls rest))) : own_F p e below s Z hs W k n Q (T.setTop (mkF m pc Ls (y :: x :: rest))) := by
  obtain ⟨locs, X, -⟩ := S.2
  cases cd <;> rcases Classical.em (x = y) with q | q
  · exact own_F.of (fun _ => Jvm.RoadKit.acmp (g := mkF m pc Ls (y :: x :: rest)) X S.hx rfl h1 h2 (pc0 := pc) (pc' := pc') (same := true) rfl (S.dec hd) rfl (decide_eq_true q) ho (by simp [acV, ← hp])) (ft q)
  · exact own_F.of (fun _ => Jvm.RoadKit.acmp (g := mkF m pc Ls (y :: x :: rest)) X S.hx rfl h1 h2 (pc0 := pc) (pc' := pc + 3) (same := false) rfl (S.dec hd) rfl (decide_eq_false q) ho (by simp [acV])) (ff q)
  · exact own_F.of (fun _ => Jvm.RoadKit.acmp (g := mkF m pc Ls (y :: x :: rest)) X S.hx rfl h1 h2 (pc0 := pc) (pc' := pc + 3) (same := true) rfl (S.dec hd) rfl (decide_eq_true q) ho (by simp [acV])) (ff q)
  · exact own_F.of (fun _ => Jvm.RoadKit.acmp (g := mkF m pc Ls (y :: x :: rest)) X S.hx rfl h1 h2 (pc0 := pc) (pc' := pc') (same := false) rfl (S.dec hd) rfl (decide_eq_false q) ho (by simp [acV, ← hp])) (ft q)

/-! the heap -/
theorem own_getF (S : own_S Z hs W own bytes maxL ret nm p l e R s m args below meth c T h cells slots) {R0 O fn d host : String} {index : Nat} (w : (Jvm.Cond.fieldLink own index R0 fn d).before a0 Z = true ∨ (Jvm.Cond.fieldLinkNest own index R0 fn d host).before a0 Z = true) (via : Via Z R0 O fn d)
    {a : Addr} {v : Value} (F : Fld Z h a O fn d v) (hd : decode bytes pc = .ok (.getfield index, 3))
    (f : ∀ T', own_S Z hs W own bytes maxL ret nm p l e R s m args below meth c T' h cells slots → own_F p e below s Z hs W k n Q (T'.setTop (mkF m (pc + 3) Ls (v :: rest)))) : own_F p e below s Z hs W k n Q (T.setTop (mkF m pc Ls (.ref a :: rest))) := by
  have S' := S
  obtain ⟨G, locs, X, N, e0, K⟩ := S
  obtain ⟨T', X', e', st⟩ := getF X S'.hx S'.hZ S'.hown w via e0 F (g := mkF m pc Ls (.ref a :: rest)) rfl rfl (S'.dec hd)
  exact own_F.of st (f T' ⟨G, locs, X', N, e', K⟩)
theorem own_getS (S : own_S Z hs W own bytes maxL ret nm p l e R s m args below meth c T h cells slots) {R0 O fn d host : String} {index : Nat} (w : (Jvm.Cond.fieldLink own index R0 fn d).before a0 Z = true ∨ (Jvm.Cond.fieldLinkNest own index R0 fn d host).before a0 Z = true) (via : Via Z R0 O fn d)
    {v : Value} (F : Sta Z h O fn d v) (hd : decode bytes pc = .ok (.getstatic index, 3))
    (f : ∀ T', own_S Z hs W own bytes maxL ret nm p l e R s m args below meth c T' h cells slots → own_F p e below s Z hs W k n Q (T'.setTop (mkF m (pc + 3) Ls (v :: st)))) : own_F p e below s Z hs W k n Q (T.setTop (mkF m pc Ls st)) := by
  have S' := S
  obtain ⟨G, locs, X, N, e0, K⟩ := S
  obtain ⟨T', X', e', st⟩ := getS2 X S'.hx S'.hZ S'.hown w via e0 F (g := mkF m pc Ls st) rfl (S'.dec hd)
  exact own_F.of st (f T' ⟨G, locs, X', N, e', K⟩)
theorem own_putF (S : own_S Z hs W own bytes maxL ret nm p l e R s m args below meth c T h cells slots) {R0 O fn d host C : String} {index kk : Nat} {ty : FieldType} (w : (Jvm.Cond.fieldLink own index R0 fn d).before a0 Z = true ∨ (Jvm.Cond.fieldLinkNest own index R0 fn d host).before a0 Z = true) (via : Via Z R0 O fn d)
    {a : Addr} {v old : Value} (F : Fld Z h a O fn d old) (E : Exa Z h a C) (L : (Jvm.Cond.lays C O fn d).before a0 Z = true ∨ ((Jvm.Cond.laysFinal C O fn d).before a0 Z = true ∧ own = O ∧ nm = "<init>")) (wi : (Jvm.Cond.instantiable C kk).before a0 Z = true)
    (hty : parseFieldDescriptor d = some ty) (hn : narrow ty v = v) (hf : fits ty v = true) (hd : decode bytes pc = .ok (.putfield index, 3)) (ok : a ∈ W ∨ hs.size ≤ a)
    (f : ∀ T' h', own_S Z hs W own bytes maxL ret nm p l e R s m args below meth c T' h' cells slots → Wr h h' a (Jvm.RoadKit.slotOf Z O fn d) v → own_F p e below s Z hs W k n Q (T'.setTop (mkF m (pc + 3) Ls rest))) : own_F p e below s Z hs W k n Q (T.setTop (mkF m pc Ls (v :: .ref a :: rest))) := by
  have S' := S
  obtain ⟨G, locs, X, N, e0, K⟩ := S
  obtain ⟨T', h', X', e', Wt, st⟩ := putF X S'.hx S'.hZ S'.hown w via e0 F E (L.imp id fun q => ⟨q.1, q.2.1, S'.hnm.trans q.2.2⟩) wi hty hn hf (g := mkF m pc Ls (v :: .ref a :: rest)) rfl rfl (S'.dec hd)
  exact own_F.of st (f T' h' ⟨G, _, X', Fr.snoc X' N (S'.may ok), e', K.wr Wt ok⟩ Wt)
theorem own_new (S : own_S Z hs W own bytes maxL ret nm p l e R s m args below meth c T h cells slots) {C : String} {index sl : Nat} (w : (Jvm.Cond.classLink own index C).before a0 Z = true) (wi : (Jvm.Cond.instantiable C sl).before a0 Z = true) (wz : (Jvm.Cond.initialized C).before a0 Z = true)
    (hd : decode bytes pc = .ok (.new index, 3)) (hc : cells + 1 ≤ R.cells) (hl : slots + sl ≤ R.slots)
    (f : ∀ T' h' a, a = h.size → own_S Z hs W own bytes maxL ret nm p l e R s m args below meth c T' h' (cells + 1) (slots + sl) → Ext h h' → Exa Z h' a C → (∀ {O fn d : String} {ty : FieldType}, Laid Z a0 C O fn d → parseFieldDescriptor d = some ty → Fld Z h' a O fn d (defaultValue ty)) →
      own_F p e below s Z hs W k n Q (T'.setTop (mkF m (pc + 3) Ls (.ref a :: st)))) : own_F p e below s Z hs W k n Q (T.setTop (mkF m pc Ls st)) := by
  have S' := S
  obtain ⟨G, locs, X, N, e0, K⟩ := S
  obtain ⟨T', h', X', e', E, A, D, -, st⟩ := newO X S'.hx S'.hZ S'.hown w wi wz e0 (g := mkF m pc Ls st) rfl (S'.dec hd) hc hl
  exact own_F.of st (f T' h' _ rfl ⟨G, _, X', N, e', K.ext E⟩ E A D)
theorem own_initO (S : own_S Z hs W own bytes maxL ret nm p l e R s m args below meth c T h cells slots) {index : Nat} (w1 : (Jvm.Cond.methodLink own index Lib.objectInit).before a0 Z = true) (w2 : (Jvm.Cond.instanceMethod Lib.objectInit).before a0 Z = true)
    (w3 : (Jvm.Cond.code Lib.objectInit ⟨#[0xb1]⟩ 1 none).before a0 Z = true) {a : Addr} (hsz : Ls.size = maxL) (hd : decode bytes pc = .ok (.invokespecial index, 3)) (hf : 1 ≤ R.frames) (hl : (rest.map fun v => v.category).sum + 12 ≤ R.locals)
    (f : ∀ T', own_S Z hs W own bytes maxL ret nm p l e R s m args below meth c T' h cells slots → own_F p e below s Z hs W k n Q (T'.setTop (mkF m (pc + 3) Ls rest))) : own_F p e below s Z hs W k n Q (T.setTop (mkF m pc Ls (.ref a :: rest))) := by
  have S' := S
  obtain ⟨G, locs, X, N, e0, K⟩ := S
  obtain ⟨T', X', e', st⟩ := initO X S'.hx S'.hZ S'.hown w1 w2 w3 e0 (g := mkF m pc Ls (.ref a :: rest)) rfl (hsz.trans S'.hml.symm) rfl (S'.dec hd) hf (W := (rest.map fun v => v.category).sum) (by show 2 * 0 + _ ≤ _; omega) hl
  exact own_F.of st (f T' ⟨G, locs, X', N, e', K⟩)

/-! calls -/
variable {index : Nat} {y y' : MethodName} {bytes' : ByteArray} {maxL' : Nat} {ret' : Option FieldType} {rm : Room} {W' : List Addr} {Q' : Option Value → Heap → Prop} {argsL : List Value} {ps : List FieldType} {rt : Option FieldType}
theorem own_callS (S : own_S Z hs W own bytes maxL ret nm p l e R s m args below meth c T h cells slots)
    (w1 : (Jvm.Cond.methodLink own index y).before a0 Z = true) (w2 : (Jvm.Cond.static y).before a0 Z = true) (w3 : (Jvm.Cond.initialized y.cls).before a0 Z = true) (w4 : (Jvm.Cond.code y bytes' maxL' ret').before a0 Z = true) (hy : y.cls ≠ "java/lang/invoke/MethodHandle" ∧ y.cls ≠ "java/lang/invoke/VarHandle")
    (C : own_C l Z y bytes' maxL' ret' [] rm W' argsL.toArray h Q') (hWW : ∀ a ∈ W', a ∈ W ∨ hs.size ≤ a) (pd : parseMethodDescriptor y.desc = some ⟨ps, rt⟩) (hlen : argsL.length = ps.length) (hsz : Ls.size = maxL) (hst : st = argsL.reverse ++ rest)
    (hd : decode bytes pc = .ok (.invokestatic index, 3)) (hfr : rm.frames + 1 ≤ R.frames) (hlo : (rest.map fun v => v.category).sum + (maxL' + 11) + rm.locals ≤ R.locals) (hc : cells + rm.cells ≤ R.cells) (hsl : slots + rm.slots ≤ R.slots)
    (f : ∀ T' h' v, own_S Z hs W own bytes maxL ret nm p l e R s m args below meth c T' h' (cells + rm.cells) (slots + rm.slots) → Keep h h' W' → Q' v h' → own_F p e below s Z hs W k n Q (T'.setTop (mkF m (pc + 3) Ls (v.toList ++ rest)))) : own_F p e below s Z hs W k n Q (T.setTop (mkF m pc Ls st)) := by
  have S' := S
  obtain ⟨G, locs, X, N, e0, K⟩ := S
  obtain ⟨v, _, ⟨T', L', k', n'⟩, -, X', ⟨Lc, hQ, h1, h2, h3⟩, st⟩ := Jvm.LawKit.callS X S'.hx (y := y) S'.hown (mvT S'.hZ w1) (mvT S'.hZ w2) (mvT S'.hZ w3) (mvT S'.hZ w4) hy (backOf (W := (rest.map fun v => v.category).sum) (Q := fun v hh L => Fr Z.heap.size L ∧ Keep h hh W' ∧ Q' v hh) C S'.hZ w4 w3 hfr hlo) (g := mkF m pc Ls st) rfl (hsz.trans S'.hml.symm) (argsL := argsL) (rest := rest) (lenOf pd hlen) hst (by show 2 * 0 + _ ≤ _; omega) (S'.dec hd) (fun _ _ => ⟨rfl, e0, hc, hsl⟩)
  dsimp only [Pt.U, Pt.locs, Pt.cells, Pt.slots] at X' h1 h2 h3 st hQ
  subst h1 h2 h3
  obtain ⟨N', K', q⟩ := hQ
  exact own_F.of st (f T' T'.heap v ⟨G, _, X', Fr.app N N', rfl, K.trans K' hWW⟩ K' q)
theorem own_callI (S : own_S Z hs W own bytes maxL ret nm p l e R s m args below meth c T h cells slots) (hy1 : y.name = "<init>")
    (w1 : (Jvm.Cond.methodLink own index y).before a0 Z = true) (w2 : (Jvm.Cond.instanceMethod y).before a0 Z = true) (w3 : (Jvm.Cond.initialized y.cls).before a0 Z = true) (w4 : (Jvm.Cond.code y bytes' maxL' none).before a0 Z = true) (hy : y.cls ≠ "java/lang/invoke/MethodHandle" ∧ y.cls ≠ "java/lang/invoke/VarHandle")
    {a : Addr} (C : own_C l Z y bytes' maxL' none [] rm W' (.ref a :: argsL).toArray h Q') (hWW : ∀ a ∈ W', a ∈ W ∨ hs.size ≤ a) (pd : parseMethodDescriptor y.desc = some ⟨ps, rt⟩) (hlen : argsL.length = ps.length) (hsz : Ls.size = maxL) (hst : st = argsL.reverse ++ .ref a :: rest)
    (hd : decode bytes pc = .ok (.invokespecial index, 3)) (hfr : rm.frames + 1 ≤ R.frames) (hlo : (rest.map fun v => v.category).sum + (maxL' + 11) + rm.locals ≤ R.locals) (hc : cells + rm.cells ≤ R.cells) (hsl : slots + rm.slots ≤ R.slots)
    (f : ∀ T' h' v, own_S Z hs W own bytes maxL ret nm p l e R s m args below meth c T' h' (cells + rm.cells) (slots + rm.slots) → Keep h h' W' → Q' v h' → own_F p e below s Z hs W k n Q (T'.setTop (mkF m (pc + 3) Ls (v.toList ++ rest)))) : own_F p e below s Z hs W k n Q (T.setTop (mkF m pc Ls st)) := by
  have S' := S
  obtain ⟨G, locs, X, N, e0, K⟩ := S
  obtain ⟨v, _, ⟨T', L', k', n'⟩, -, X', ⟨Lc, hQ, h1, h2, h3⟩, st⟩ := X.specialBack S'.hx (y := y) hy1 S'.hown (mvT S'.hZ w1) (mvT S'.hZ w2) (mvT S'.hZ w4) hy (backOf (W := (rest.map fun v => v.category).sum) (Q := fun v hh L => Fr Z.heap.size L ∧ Keep h hh W' ∧ Q' v hh) C S'.hZ w4 w3 hfr hlo) (g := mkF m pc Ls st) rfl (hsz.trans S'.hml.symm) (Steps.refl _) (a := a) (argsL := argsL) (rest := rest) (lenOf pd hlen) hst (by show 2 * 0 + _ ≤ _; omega) (S'.dec hd) (fun _ _ => ⟨rfl, e0, hc, hsl⟩)
  dsimp only [Pt.U, Pt.locs, Pt.cells, Pt.slots] at X' h1 h2 h3 st hQ
  subst h1 h2 h3
  obtain ⟨N', K', q⟩ := hQ
  exact own_F.to st (f T' T'.heap v ⟨G, _, X', Fr.app N N', rfl, K.trans K' hWW⟩ K' q)
theorem own_callV (S : own_S Z hs W own bytes maxL ret nm p l e R s m args below meth c T h cells slots) {Cn : String}
    (w1 : (Jvm.Cond.methodLink own index y).before a0 Z = true) (w2 : (Jvm.Cond.declares y).before a0 Z = true) (nf : NotFace s y) (w3 : (Jvm.Cond.selects Cn y y').before a0 Z = true) (w4 : (Jvm.Cond.instanceMethod y').before a0 Z = true) (w5 : (Jvm.Cond.code y' bytes' maxL' ret').before a0 Z = true) (w6 : (Jvm.Cond.initialized y'.cls).before a0 Z = true) (hy : y.cls ≠ "java/lang/invoke/MethodHandle" ∧ y.cls ≠ "java/lang/invoke/VarHandle")
    {a : Addr} (E : Exa Z h a Cn) (C : own_C l Z y' bytes' maxL' ret' [] rm W' (.ref a :: argsL).toArray h Q') (hWW : ∀ a ∈ W', a ∈ W ∨ hs.size ≤ a) (pd : parseMethodDescriptor y.desc = some ⟨ps, rt⟩) (hlen : argsL.length = ps.length) (hsz : Ls.size = maxL) (hst : st = argsL.reverse ++ .ref a :: rest)
    (hd : decode bytes pc = .ok (.invokevirtual index, 3)) (hfr : rm.frames + 1 ≤ R.frames) (hlo : (rest.map fun v => v.category).sum + (maxL' + 11) + rm.locals ≤ R.locals) (hc : cells + rm.cells ≤ R.cells) (hsl : slots + rm.slots ≤ R.slots)
    (f : ∀ T' h' v, own_S Z hs W own bytes maxL ret nm p l e R s m args below meth c T' h' (cells + rm.cells) (slots + rm.slots) → Keep h h' W' → Q' v h' → own_F p e below s Z hs W k n Q (T'.setTop (mkF m (pc + 3) Ls (v.toList ++ rest)))) : own_F p e below s Z hs W k n Q (T.setTop (mkF m pc Ls st)) := by
  have S' := S
  obtain ⟨G, locs, X, N, e0, K⟩ := S
  obtain ⟨cq, kq, qa, qb, qc⟩ := isOf S'.hZ e0 E
  obtain ⟨v, _, ⟨T', L', k', n'⟩, -, X', ⟨Lc, hQ, h1, h2, h3⟩, st⟩ := X.virtualBack S'.hx (y := y) (z := y') S'.hown (mvT S'.hZ w1) (mvT S'.hZ w2) nf (mvT S'.hZ w3) (mvT S'.hZ w4) hy (backOf (W := (rest.map fun v => v.category).sum) (Q := fun v hh L => Fr Z.heap.size L ∧ Keep h hh W' ∧ Q' v hh) C S'.hZ w5 w6 hfr hlo) qa qc (g := mkF m pc Ls st) rfl (hsz.trans S'.hml.symm) (Steps.refl _) (argsL := argsL) (rest := rest) (lenOf pd hlen) hst (by show 2 * 0 + _ ≤ _; omega) (S'.dec hd) (fun _ _ => ⟨rfl, e0, hc, hsl⟩)
  dsimp only [Pt.U, Pt.locs, Pt.cells, Pt.slots] at X' h1 h2 h3 st hQ
  subst h1 h2 h3
  obtain ⟨N', K', q⟩ := hQ
  exact own_F.to st (f T' T'.heap v ⟨G, _, X', Fr.app N N', rfl, K.trans K' hWW⟩ K' q)
theorem own_nf (S : own_S Z hs W own bytes maxL ret nm p l e R s m args below meth c T h cells slots) {Cn : String} (w : (Jvm.Cond.selects Cn y y).before a0 Z = true) : NotFace s y := notFace_of_selects (args := #[]) (mvT S.hZ w)
theorem own_callX (S : own_S Z hs W own bytes maxL ret nm p l e R s m args below meth c T h cells slots) {Cn : String} {cnt : Nat}
    (w1 : (Jvm.Cond.methodLink own index y).before a0 Z = true) (w2 : (Jvm.Cond.declares y).before a0 Z = true) (w7 : (Jvm.Cond.interfaceMethod y.cls y.cls y.name y.desc).before a0 Z = true) (w3 : (Jvm.Cond.selects Cn y y').before a0 Z = true) (w4 : (Jvm.Cond.instanceMethod y').before a0 Z = true) (w8 : (Jvm.Cond.publicMethod y').before a0 Z = true) (w9 : (Jvm.Cond.unhidden Cn y.name y.desc).before a0 Z = true) (w10 : (Jvm.Cond.castable Cn y.cls).before a0 Z = true)
    (w5 : (Jvm.Cond.code y' bytes' maxL' ret').before a0 Z = true) (w6 : (Jvm.Cond.initialized y'.cls).before a0 Z = true) (hy : y.cls ≠ "java/lang/invoke/MethodHandle" ∧ y.cls ≠ "java/lang/invoke/VarHandle")
    {a : Addr} (E : Exa Z h a Cn) (C : own_C l Z y' bytes' maxL' ret' [] rm W' (.ref a :: argsL).toArray h Q') (hWW : ∀ a ∈ W', a ∈ W ∨ hs.size ≤ a) (pd : parseMethodDescriptor y.desc = some ⟨ps, rt⟩) (hlen : argsL.length = ps.length) (hsz : Ls.size = maxL) (hst : st = argsL.reverse ++ .ref a :: rest)
    (hd : decode bytes pc = .ok (.invokeinterface index cnt, 5)) (hfr : rm.frames + 1 ≤ R.frames) (hlo : (rest.map fun v => v.category).sum + (maxL' + 11) + rm.locals ≤ R.locals) (hc : cells + rm.cells ≤ R.cells) (hsl : slots + rm.slots ≤ R.slots)
    (f : ∀ T' h' v, own_S Z hs W own bytes maxL ret nm p l e R s m args below meth c T' h' (cells + rm.cells) (slots + rm.slots) → Keep h h' W' → Q' v h' → own_F p e below s Z hs W k n Q (T'.setTop (mkF m (pc + 5) Ls (v.toList ++ rest)))) : own_F p e below s Z hs W k n Q (T.setTop (mkF m pc Ls st)) := by
  have S' := S
  obtain ⟨G, locs, X, N, e0, K⟩ := S
  obtain ⟨cq, kq, qa, qb, qc⟩ := isOf S'.hZ e0 E
  obtain ⟨v, _, ⟨T', L', k', n'⟩, -, X', ⟨Lc, hQ, h1, h2, h3⟩, st⟩ := X.interfaceBack S'.hx (xi := y) (y := y') S'.hown (mvT S'.hZ w1) (mvT S'.hZ w2) (mvT S'.hZ w7 (by simp [Cond.onTables, Cond.keepsFace, Cond.keeps, Cond.steady, Cond.faceAtom, hy])) (mvT S'.hZ w3) (mvT S'.hZ w4) (mvT S'.hZ w8) (mvT S'.hZ w9) (mvT S'.hZ w10) hy (backOf (W := (rest.map fun v => v.category).sum) (Q := fun v hh L => Fr Z.heap.size L ∧ Keep h hh W' ∧ Q' v hh) C S'.hZ w5 w6 hfr hlo) qa qb qc (g := mkF m pc Ls st) rfl (hsz.trans S'.hml.symm) (Steps.refl _) (argsL := argsL) (rest := rest) (lenOf pd hlen) hst (by show 2 * 0 + _ ≤ _; omega) (S'.dec hd) (fun _ _ => ⟨rfl, e0, hc, hsl⟩)
  dsimp only [Pt.U, Pt.locs, Pt.cells, Pt.slots] at X' h1 h2 h3 st hQ
  subst h1 h2 h3
  obtain ⟨N', K', q⟩ := hQ
  exact own_F.to st (f T' T'.heap v ⟨G, _, X', Fr.app N N', rfl, K.trans K' hWW⟩ K' q)
theorem own_callP (S : own_S Z hs W own bytes maxL ret nm p l e R s m args below meth c T h cells slots)
    (w1 : (Jvm.Cond.methodLink own index y).before a0 Z = true) (w2 : (Jvm.Cond.instanceMethod y).before a0 Z = true) (w3 : (Jvm.Cond.selects y.cls y y).before a0 Z = true) (wp : (Jvm.Cond.privateMethod y).before a0 Z = true) (w5 : (Jvm.Cond.code y bytes' maxL' ret').before a0 Z = true) (w6 : (Jvm.Cond.initialized y.cls).before a0 Z = true) (hy : y.cls ≠ "java/lang/invoke/MethodHandle" ∧ y.cls ≠ "java/lang/invoke/VarHandle")
    {a : Addr} {Cn : String} (E : Exa Z h a Cn) (C : own_C l Z y bytes' maxL' ret' [] rm W' (.ref a :: argsL).toArray h Q') (hWW : ∀ a ∈ W', a ∈ W ∨ hs.size ≤ a) (pd : parseMethodDescriptor y.desc = some ⟨ps, rt⟩) (hlen : argsL.length = ps.length) (hsz : Ls.size = maxL) (hst : st = argsL.reverse ++ .ref a :: rest)
    (hd : decode bytes pc = .ok (.invokevirtual index, 3)) (hfr : rm.frames + 1 ≤ R.frames) (hlo : (rest.map fun v => v.category).sum + (maxL' + 11) + rm.locals ≤ R.locals) (hc : cells + rm.cells ≤ R.cells) (hsl : slots + rm.slots ≤ R.slots)
    (f : ∀ T' h' v, own_S Z hs W own bytes maxL ret nm p l e R s m args below meth c T' h' (cells + rm.cells) (slots + rm.slots) → Keep h h' W' → Q' v h' → own_F p e below s Z hs W k n Q (T'.setTop (mkF m (pc + 3) Ls (v.toList ++ rest)))) : own_F p e below s Z hs W k n Q (T.setTop (mkF m pc Ls st)) := by
  have S' := S
  obtain ⟨G, locs, X, N, e0, K⟩ := S
  obtain ⟨cq, qq, qq'⟩ := E.cell
  obtain ⟨v, _, ⟨T', L', k', n'⟩, -, X', ⟨Lc, hQ, h1, h2, h3⟩, st⟩ := X.privateBack S'.hx (y := y) S'.hown (mvT S'.hZ w1) (mvT S'.hZ w2) (mvT S'.hZ w3) (Cond.privateMethod_at (mvP S'.hZ wp (args := #[]))) (mvT S'.hZ w5) hy (backOf (W := (rest.map fun v => v.category).sum) (Q := fun v hh L => Fr Z.heap.size L ∧ Keep h hh W' ∧ Q' v hh) C S'.hZ w5 w6 hfr hlo) (g := mkF m pc Ls st) rfl (hsz.trans S'.hml.symm) (Steps.refl _) (a := a) (by rw [e0]; exact qq) qq' (argsL := argsL) (rest := rest) (lenOf pd hlen) hst (by show 2 * 0 + _ ≤ _; omega) (S'.dec hd) (fun _ _ => ⟨rfl, e0, hc, hsl⟩)
  dsimp only [Pt.U, Pt.locs, Pt.cells, Pt.slots] at X' h1 h2 h3 st hQ
  subst h1 h2 h3
  obtain ⟨N', K', q⟩ := hQ
  exact own_F.to st (f T' T'.heap v ⟨G, _, X', Fr.app N N', rfl, K.trans K' hWW⟩ K' q)
theorem own_callU (S : own_S Z hs W own bytes maxL ret nm p l e R s m args below meth c T h cells slots) {Cn owner : String}
    (w1 : (Jvm.Cond.methodLink own index y).before a0 Z = true) (w2 : (Jvm.Cond.sameMethod y.cls owner y.name y.desc).before a0 Z = true) (w7 : (Jvm.Cond.declares ⟨owner, y.name, y.desc⟩).before a0 Z = true) (hy : owner ≠ "java/lang/invoke/MethodHandle" ∧ owner ≠ "java/lang/invoke/VarHandle") (w3 : (Jvm.Cond.selects Cn y y').before a0 Z = true) (w4 : (Jvm.Cond.instanceMethod y').before a0 Z = true) (w5 : (Jvm.Cond.code y' bytes' maxL' ret').before a0 Z = true) (w6 : (Jvm.Cond.initialized y'.cls).before a0 Z = true)
    {a : Addr} (E : Exa Z h a Cn) (C : own_C l Z y' bytes' maxL' ret' [] rm W' (.ref a :: argsL).toArray h Q') (hWW : ∀ a ∈ W', a ∈ W ∨ hs.size ≤ a) (pd : parseMethodDescriptor y.desc = some ⟨ps, rt⟩) (hlen : argsL.length = ps.length) (hsz : Ls.size = maxL) (hst : st = argsL.reverse ++ .ref a :: rest)
    (hd : decode bytes pc = .ok (.invokevirtual index, 3)) (hfr : rm.frames + 1 ≤ R.frames) (hlo : (rest.map fun v => v.category).sum + (maxL' + 11) + rm.locals ≤ R.locals) (hc : cells + rm.cells ≤ R.cells) (hsl : slots + rm.slots ≤ R.slots)
    (f : ∀ T' h' v, own_S Z hs W own bytes maxL ret nm p l e R s m args below meth c T' h' (cells + rm.cells) (slots + rm.slots) → Keep h h' W' → Q' v h' → own_F p e below s Z hs W k n Q (T'.setTop (mkF m (pc + 3) Ls (v.toList ++ rest)))) : own_F p e below s Z hs W k n Q (T.setTop (mkF m pc Ls st)) := by
  have S' := S
  obtain ⟨G, locs, X, N, e0, K⟩ := S
  obtain ⟨cq, kq, qa, qb, qc⟩ := isOf S'.hZ e0 E
  obtain ⟨v, _, ⟨T', L', k', n'⟩, -, X', ⟨Lc, hQ, h1, h2, h3⟩, st⟩ := X.virtualBackUp S'.hx (x := y) (y := y') S'.hown (mvT S'.hZ w1) (mvT S'.hZ w2) (mvT S'.hZ w7) hy (mvT S'.hZ w3) (mvT S'.hZ w4) (backOf (W := (rest.map fun v => v.category).sum) (Q := fun v hh L => Fr Z.heap.size L ∧ Keep h hh W' ∧ Q' v hh) C S'.hZ w5 w6 hfr hlo) qa qc (g := mkF m pc Ls st) rfl (hsz.trans S'.hml.symm) (Steps.refl _) (argsL := argsL) (rest := rest) (lenOf pd hlen) hst (by show 2 * 0 + _ ≤ _; omega) (S'.dec hd) (fun _ _ => ⟨rfl, e0, hc, hsl⟩)
  dsimp only [Pt.U, Pt.locs, Pt.cells, Pt.slots] at X' h1 h2 h3 st hQ
  subst h1 h2 h3
  obtain ⟨N', K', q⟩ := hQ
  exact own_F.to st (f T' T'.heap v ⟨G, _, X', Fr.app N N', rfl, K.trans K' hWW⟩ K' q)
/-! casts and tests of classes -/
theorem own_cast (S : own_S Z hs W own bytes maxL ret nm p l e R s m args below meth c T h cells slots) {Kn : String} {a : Addr} (w : (Jvm.Cond.classLink own index Kn).before a0 Z = true) (F : Ins Z h a Kn true) (hd : decode bytes pc = .ok (.checkcast index, 3))
    (f : ∀ T', own_S Z hs W own bytes maxL ret nm p l e R s m args below meth c T' h cells slots → own_F p e below s Z hs W k n Q (T'.setTop (mkF m (pc + 3) Ls (.ref a :: rest)))) : own_F p e below s Z hs W k n Q (T.setTop (mkF m pc Ls (.ref a :: rest))) := by
  have S' := S
  obtain ⟨G, locs, X, N, e0, K⟩ := S
  obtain ⟨T', X', e', st⟩ := castY X S'.hx S'.hZ S'.hown w e0 F (g := mkF m pc Ls (.ref a :: rest)) rfl rfl (S'.dec hd)
  exact own_F.of st (f T' ⟨G, locs, X', N, e', K⟩)
theorem own_inst (S : own_S Z hs W own bytes maxL ret nm p l e R s m args below meth c T h cells slots) {Kn : String} {a : Addr} (w : (Jvm.Cond.classLink own index Kn).before a0 Z = true) (F : Ins Z h a Kn true) (hd : decode bytes pc = .ok (.instanceof index, 3))
    (f : ∀ T', own_S Z hs W own bytes maxL ret nm p l e R s m args below meth c T' h cells slots → own_F p e below s Z hs W k n Q (T'.setTop (mkF m (pc + 3) Ls (.int (1 : Int32) :: rest)))) : own_F p e below s Z hs W k n Q (T.setTop (mkF m pc Ls (.ref a :: rest))) := by
  have S' := S
  obtain ⟨G, locs, X, N, e0, K⟩ := S
  obtain ⟨T', X', e', st⟩ := instY X S'.hx S'.hZ S'.hown w e0 F (g := mkF m pc Ls (.ref a :: rest)) rfl rfl (S'.dec hd)
  exact own_F.of st (f T' ⟨G, locs, X', N, e', K⟩)

/-! more single steps -/
theorem own_irem (S : own_S Z hs W own bytes maxL ret nm p l e R s m args below meth c T h cells slots) {x y : Int32} {t : State} (hd : decode bytes pc = .ok (.irem, 1)) (hy : y ≠ 0) (k : Steps p.tables e below (T.setTop (mkF m (pc + 1) Ls (.int (x % y) :: rest))) t) : Steps p.tables e below (T.setTop (mkF m pc Ls (.int y :: .int x :: rest))) t := by
  obtain ⟨locs, X, -⟩ := S.2
  exact iremM X S.hx (g := mkF m pc Ls (.int y :: .int x :: rest)) rfl (S.dec hd) rfl hy k
theorem own_lrem (S : own_S Z hs W own bytes maxL ret nm p l e R s m args below meth c T h cells slots) {x y : Int64} {t : State} (hd : decode bytes pc = .ok (.lrem, 1)) (hy : y ≠ 0) (k : Steps p.tables e below (T.setTop (mkF m (pc + 1) Ls (.long (x % y) :: rest))) t) : Steps p.tables e below (T.setTop (mkF m pc Ls (.long y :: .long x :: rest))) t := by
  have q : x - x / y * y = x % y := lrem_mod x y
  exact XS.lrem S.here S.hx (g := mkF m pc Ls (.long y :: .long x :: rest)) rfl (S.dec hd) rfl hy (by rw [q]; exact k)
theorem own_ldcI (S : own_S Z hs W own bytes maxL ret nm p l e R s m args below meth c T h cells slots) {i : Nat} {v : Int32} (w : (Jvm.Cond.constant own i v).before a0 Z = true) (hd : decode bytes pc = .ok (.ldc i, 2)) (f : own_F p e below s Z hs W k n Q (T.setTop (mkF m (pc + 2) Ls (.int v :: st)))) : own_F p e below s Z hs W k n Q (T.setTop (mkF m pc Ls st)) := by
  obtain ⟨locs, X, -⟩ := S.2
  exact own_F.of (X.ldcInt S.hx S.hown (mvT S.hZ w) (g := mkF m pc Ls st) rfl (S.dec hd)) f
theorem own_ldcIw (S : own_S Z hs W own bytes maxL ret nm p l e R s m args below meth c T h cells slots) {i : Nat} {v : Int32} (w : (Jvm.Cond.constant own i v).before a0 Z = true) (hd : decode bytes pc = .ok (.ldc_w i, 3)) (f : own_F p e below s Z hs W k n Q (T.setTop (mkF m (pc + 3) Ls (.int v :: st)))) : own_F p e below s Z hs W k n Q (T.setTop (mkF m pc Ls st)) := by
  obtain ⟨locs, X, -⟩ := S.2
  exact own_F.of (X.ldcwInt S.hx S.hown (mvT S.hZ w) (g := mkF m pc Ls st) rfl (S.dec hd)) f
theorem own_ldcJ (S : own_S Z hs W own bytes maxL ret nm p l e R s m args below meth c T h cells slots) {i : Nat} {v : Int64} (w : (Jvm.Cond.constantLong own i v).before a0 Z = true) (hd : decode bytes pc = .ok (.ldc2_w i, 3)) (f : own_F p e below s Z hs W k n Q (T.setTop (mkF m (pc + 3) Ls (.long v :: st)))) : own_F p e below s Z hs W k n Q (T.setTop (mkF m pc Ls st)) := by
  obtain ⟨locs, X, -⟩ := S.2
  exact own_F.of (X.ldc2Long S.hx S.hown (mvT S.hZ w) (g := mkF m pc Ls st) rfl (S.dec hd)) f
theorem own_narR {ty : FieldType} {v : Value} (ht : ty.isReference = true) (hv : v.isRef = true) : narrow ty v = v := by cases v <;> simp [Value.isRef] at hv <;> cases ty <;> simp [FieldType.isReference] at ht <;> rfl
theorem own_fitR {ty : FieldType} {v : Value} (ht : ty.isReference = true) (hv : v.isRef = true) : fits ty v = true := by cases v <;> simp [Value.isRef] at hv <;> cases ty <;> simp [FieldType.isReference] at ht <;> rfl

/-! from the case's words to facts of the start -/
theorem own_extRefl (h : Heap) : Ext h h := ⟨Nat.le_refl _, fun _ _ q => q⟩
theorem own_sta {C fn d K : String} (hx : (Jvm.Cond.exactly (.static C fn d) K).value a0 Z none Z [] = some true) (w1 : (Jvm.Cond.initialized C).before a0 Z = true) (w2 : (Jvm.Cond.laysStatic C fn d).before a0 Z = true) :
    ∃ a, (Term.static C fn d).eval a0 Z none [] Z = some (.ref a) ∧ Sta Z Z.heap C fn d (.ref a) ∧ Exa Z Z.heap a K := by
  obtain ⟨a, ev⟩ := exa_v hx
  exact ⟨a, ev, Sta.start ev (Or.inr ⟨w1, w2⟩), Exa.start ev hx⟩
theorem own_fldI {t : Term} {C fn d : String} {a : Addr} {v : Int32} (ev : t.eval a0 Z none [] Z = some (.ref a)) (hx : (Jvm.Cond.eq (.field t C fn d) (.int v)).value a0 Z none Z [] = some true) : Fld Z Z.heap a C fn d (.int v) := by
  obtain ⟨x, y, h1, h2, -⟩ := cmp_v (Or.inl hx)
  have h2' : y = .int v := by simpa [Term.eval] using h2.symm
  subst h2'
  have h3 : x = .int v := by
    simp only [Jvm.Cond.value, h1, h2] at hx
    cases x <;> simp at hx
    rw [hx]
  subst h3
  refine Fld.start ?_
  simpa [Term.eval, ev] using h1
end OwnPrelude

theorem own_w {a0 : Array Value} {Z : State} (hw : ∀ d ∈ tables_1, d.before a0 Z = true) {d : Jvm.Cond} (i : Nat) (q : tables_1[i]? = some d) : d.before a0 Z = true := hw _ (List.mem_of_getElem? q)

def own_kp (a b : Addr) (x : Int32) : Int32 := if a = b then (if x < 200 then 0 else if x < 300 then 1 else 0) else if x < 500 then 1 else 0
theorem own_all0 {a b : Addr} (n : a ≠ b) {x : Int32} (q : (499 : Int32) < x) : own_kp a b x = 0 := by
  have : ¬ x < 500 := by rw [Int32.lt_iff_toInt_lt] at q ⊢; have e1 : (499 : Int32).toInt = 499 := rfl; have e2 : (500 : Int32).toInt = 500 := rfl; omega
  simp [own_kp, n, this]
theorem own_all1 {a b : Addr} (n : a ≠ b) {x : Int32} (q : ¬ (499 : Int32) < x) : own_kp a b x = 1 := by
  have : x < 500 := by rw [Int32.lt_iff_toInt_lt] at q ⊢; have e1 : (499 : Int32).toInt = 499 := rfl; have e2 : (500 : Int32).toInt = 500 := rfl; omega
  simp [own_kp, n, this]
theorem own_div {x : Int32} : x / 100 = 2 ↔ (¬ x < 200 ∧ x < 300) := by
  have h := c_idiv x 100 100 rfl (by decide)
  rw [← Int32.toInt_inj, Int32.lt_iff_toInt_lt, Int32.lt_iff_toInt_lt]
  have e1 : (200 : Int32).toInt = 200 := rfl
  have e2 : (300 : Int32).toInt = 300 := rfl
  have e3 : (2 : Int32).toInt = 2 := rfl
  rw [e1, e2, e3]
  omega
theorem own_suc1 {a : Addr} {x : Int32} (q : x / 100 = 2) : own_kp a a x = 1 := by
  obtain ⟨h1, h2⟩ := own_div.mp q
  simp [own_kp, h1, h2]
theorem own_suc0 {a : Addr} {x : Int32} (q : ¬ x / 100 = 2) : own_kp a a x = 0 := by
  have h := fun r => q (own_div.mpr r)
  by_cases h1 : x < 200
  · simp [own_kp, h1]
  · have h2 : ¬ x < 300 := fun r => h ⟨h1, r⟩
    simp [own_kp, h1, h2]
theorem own_cant {x : Int32} (q : (499 : Int32) < x) (r : x / 100 = 2) : False := by
  obtain ⟨h1, h2⟩ := own_div.mp r
  rw [Int32.lt_iff_toInt_lt] at q h2
  have e1 : (499 : Int32).toInt = 499 := rfl
  have e2 : (300 : Int32).toInt = 300 := rfl
  omega

theorem d1_0 : decode method_2_code 0 = .ok (.iload_n 1, 1) := by decide +kernel
theorem d1_1 : decode method_2_code 1 = .ok (.iconst 1, 1) := by decide +kernel
theorem d1_2 : decode method_2_code 2 = .ok (.iand, 1) := by decide +kernel
theorem d1_3 : decode method_2_code 3 = .ok (.ifCond .ne 5, 3) := by decide +kernel
theorem d1_6 : decode method_2_code 6 = .ok (.iload_n 0, 1) := by decide +kernel
theorem d1_7 : decode method_2_code 7 = .ok (.ireturn, 1) := by decide +kernel
theorem d1_8 : decode method_2_code 8 = .ok (.iload_n 1, 1) := by decide +kernel
theorem d1_9 : decode method_2_code 9 = .ok (.iconst 1, 1) := by decide +kernel
theorem d1_10 : decode method_2_code 10 = .ok (.iushr, 1) := by decide +kernel
theorem d1_11 : decode method_2_code 11 = .ok (.iconst 3, 1) := by decide +kernel
theorem d1_12 : decode method_2_code 12 = .ok (.iand, 1) := by decide +kernel
theorem d1_13 : decode method_2_code 13 = .ok (.istore_n 2, 1) := by decide +kernel
theorem d1_14 : decode method_2_code 14 = .ok (.iload_n 2, 1) := by decide +kernel
theorem d1_15 : decode method_2_code 15 = .ok (.ifCond .ne 9, 3) := by decide +kernel
theorem d1_18 : decode method_2_code 18 = .ok (.sipush 200, 3) := by decide +kernel
theorem d1_21 : decode method_2_code 21 = .ok (.goto 17, 3) := by decide +kernel
theorem d1_24 : decode method_2_code 24 = .ok (.iload_n 2, 1) := by decide +kernel
theorem d1_25 : decode method_2_code 25 = .ok (.iconst 1, 1) := by decide +kernel
theorem d1_26 : decode method_2_code 26 = .ok (.if_icmp .ne 9, 3) := by decide +kernel
theorem d1_29 : decode method_2_code 29 = .ok (.sipush 300, 3) := by decide +kernel
theorem d1_32 : decode method_2_code 32 = .ok (.goto 6, 3) := by decide +kernel
theorem d1_35 : decode method_2_code 35 = .ok (.sipush 500, 3) := by decide +kernel
theorem d1_38 : decode method_2_code 38 = .ok (.istore_n 3, 1) := by decide +kernel
theorem d1_39 : decode method_2_code 39 = .ok (.iload_n 3, 1) := by decide +kernel
theorem d1_40 : decode method_2_code 40 = .ok (.iload_n 0, 1) := by decide +kernel
theorem d1_41 : decode method_2_code 41 = .ok (.iconst 4, 1) := by decide +kernel
theorem d1_42 : decode method_2_code 42 = .ok (.irem, 1) := by decide +kernel
theorem d1_43 : decode method_2_code 43 = .ok (.iadd, 1) := by decide +kernel
theorem d1_44 : decode method_2_code 44 = .ok (.ireturn, 1) := by decide +kernel
theorem pn1 : plainFor (⟨"com/example/libidem/libidem/engine/ReplayedResponsesKeepsPinLaw", "pickStatus", "(II)I"⟩ : MethodName) = true := plainFor_of_name (by first | (simp [plainName, overriddenIn]; done) | decide +kernel)
set_option maxRecDepth 65536 in
set_option maxHeartbeats 40000000 in
theorem own_status (l : Launch) (Z : State) (a0 : Array Value) (hw : ∀ d ∈ tables_1, d.before a0 Z = true) (p1 p2 : Int32) (h0 : Heap) (hO : Ext Z.heap h0) :
    own_C l Z (⟨"com/example/libidem/libidem/engine/ReplayedResponsesKeepsPinLaw", "pickStatus", "(II)I"⟩ : MethodName) method_2_code 4 (some .int) [] ({ frames := 0, cells := 0, slots := 0, locals := 0 } : Room) [] #[(.int p1), (.int p2)] h0 (fun v h => ∃ z, v = some (.int z) ∧ h0 = h) := by
  refine own_C.of pn1 hO all0 ?_
  intro p e s m below meth c T0 S0
  refine own_F.cast (by first | (simp [entryFrame, mkF, argsToLocals, Value.category]; done) | rfl : entryFrame m #[(.int p1), (.int p2)] 4 = mkF m 0 #[.val (.int p1), .val (.int p2), .unset, .unset] []) ?_
  show own_F p e below s Z _ _ _ _ _ (T0.setTop (mkF m 0 #[.val (.int p1), .val (.int p2), .unset, .unset] []))
  refine own_F.of (fun _ => XS.iloadN S0.here S0.hx rfl (S0.dec d1_0) rfl) ?_
  show own_F p e below s Z _ _ _ _ _ (T0.setTop (mkF m 1 #[.val (.int p1), .val (.int p2), .unset, .unset] [(.int p2)]))
  refine own_F.of (fun _ => XS.iconst S0.here S0.hx rfl (S0.dec d1_1)) ?_
  show own_F p e below s Z _ _ _ _ _ (T0.setTop (mkF m 2 #[.val (.int p1), .val (.int p2), .unset, .unset] [(.int (1 : Int32)), (.int p2)]))
  refine own_F.of (fun _ => XS.iand S0.here S0.hx rfl (S0.dec d1_2) rfl) ?_
  show own_F p e below s Z _ _ _ _ _ (T0.setTop (mkF m 3 #[.val (.int p1), .val (.int p2), .unset, .unset] [(.int (p2 &&& (1 : Int32)))]))
  refine own_if S0 8 d1_3 (by decide) (by decide) (fun (hc3_1 : ¬ ((p2 &&& (1 : Int32)) = (0 : Int32))) => ?_) (fun (hc3_1 : (p2 &&& (1 : Int32)) = (0 : Int32)) => ?_)
  · show own_F p e below s Z _ _ _ _ _ (T0.setTop (mkF m 8 #[.val (.int p1), .val (.int p2), .unset, .unset] []))
    refine own_F.of (fun _ => XS.iloadN S0.here S0.hx rfl (S0.dec d1_8) rfl) ?_
    show own_F p e below s Z _ _ _ _ _ (T0.setTop (mkF m 9 #[.val (.int p1), .val (.int p2), .unset, .unset] [(.int p2)]))
    refine own_F.of (fun _ => XS.iconst S0.here S0.hx rfl (S0.dec d1_9)) ?_
    show own_F p e below s Z _ _ _ _ _ (T0.setTop (mkF m 10 #[.val (.int p1), .val (.int p2), .unset, .unset] [(.int (1 : Int32)), (.int p2)]))
    refine own_F.of (fun _ => XS.iushr S0.here S0.hx rfl (S0.dec d1_10) rfl) ?_
    show own_F p e below s Z _ _ _ _ _ (T0.setTop (mkF m 11 #[.val (.int p1), .val (.int p2), .unset, .unset] [(.int ((p2.toUInt32 >>> ((1 : Int32) &&& 31).toUInt32).toInt32))]))
    refine own_F.of (fun _ => XS.iconst S0.here S0.hx rfl (S0.dec d1_11)) ?_
    show own_F p e below s Z _ _ _ _ _ (T0.setTop (mkF m 12 #[.val (.int p1), .val (.int p2), .unset, .unset] [(.int (3 : Int32)), (.int ((p2.toUInt32 >>> ((1 : Int32) &&& 31).toUInt32).toInt32))]))
    refine own_F.of (fun _ => XS.iand S0.here S0.hx rfl (S0.dec d1_12) rfl) ?_
    show own_F p e below s Z _ _ _ _ _ (T0.setTop (mkF m 13 #[.val (.int p1), .val (.int p2), .unset, .unset] [(.int (((p2.toUInt32 >>> ((1 : Int32) &&& 31).toUInt32).toInt32) &&& (3 : Int32)))]))
    refine own_F.of (fun _ => XS.istoreN S0.here S0.hx rfl (S0.dec d1_13) rfl (l' := #[.val (.int p1), .val (.int p2), .val (.int (((p2.toUInt32 >>> ((1 : Int32) &&& 31).toUInt32).toInt32) &&& (3 : Int32))), .unset]) rfl) ?_
    show own_F p e below s Z _ _ _ _ _ (T0.setTop (mkF m 14 #[.val (.int p1), .val (.int p2), .val (.int (((p2.toUInt32 >>> ((1 : Int32) &&& 31).toUInt32).toInt32) &&& (3 : Int32))), .unset] []))
    refine own_F.of (fun _ => XS.iloadN S0.here S0.hx rfl (S0.dec d1_14) rfl) ?_
    show own_F p e below s Z _ _ _ _ _ (T0.setTop (mkF m 15 #[.val (.int p1), .val (.int p2), .val (.int (((p2.toUInt32 >>> ((1 : Int32) &&& 31).toUInt32).toInt32) &&& (3 : Int32))), .unset] [(.int (((p2.toUInt32 >>> ((1 : Int32) &&& 31).toUInt32).toInt32) &&& (3 : Int32)))]))
    refine own_if S0 24 d1_15 (by decide) (by decide) (fun (hc15_2 : ¬ ((((p2.toUInt32 >>> ((1 : Int32) &&& 31).toUInt32).toInt32) &&& (3 : Int32)) = (0 : Int32))) => ?_) (fun (hc15_2 : (((p2.toUInt32 >>> ((1 : Int32) &&& 31).toUInt32).toInt32) &&& (3 : Int32)) = (0 : Int32)) => ?_)
    · show own_F p e below s Z _ _ _ _ _ (T0.setTop (mkF m 24 #[.val (.int p1), .val (.int p2), .val (.int (((p2.toUInt32 >>> ((1 : Int32) &&& 31).toUInt32).toInt32) &&& (3 : Int32))), .unset] []))
      refine own_F.of (fun _ => XS.iloadN S0.here S0.hx rfl (S0.dec d1_24) rfl) ?_
      show own_F p e below s Z _ _ _ _ _ (T0.setTop (mkF m 25 #[.val (.int p1), .val (.int p2), .val (.int (((p2.toUInt32 >>> ((1 : Int32) &&& 31).toUInt32).toInt32) &&& (3 : Int32))), .unset] [(.int (((p2.toUInt32 >>> ((1 : Int32) &&& 31).toUInt32).toInt32) &&& (3 : Int32)))]))
      refine own_F.of (fun _ => XS.iconst S0.here S0.hx rfl (S0.dec d1_25)) ?_
      show own_F p e below s Z _ _ _ _ _ (T0.setTop (mkF m 26 #[.val (.int p1), .val (.int p2), .val (.int (((p2.toUInt32 >>> ((1 : Int32) &&& 31).toUInt32).toInt32) &&& (3 : Int32))), .unset] [(.int (1 : Int32)), (.int (((p2.toUInt32 >>> ((1 : Int32) &&& 31).toUInt32).toInt32) &&& (3 : Int32)))]))
      refine own_icmp S0 35 d1_26 (by decide) (by decide) (fun (hc26_3 : ¬ ((((p2.toUInt32 >>> ((1 : Int32) &&& 31).toUInt32).toInt32) &&& (3 : Int32)) = (1 : Int32))) => ?_) (fun (hc26_3 : (((p2.toUInt32 >>> ((1 : Int32) &&& 31).toUInt32).toInt32) &&& (3 : Int32)) = (1 : Int32)) => ?_)
      · show own_F p e below s Z _ _ _ _ _ (T0.setTop (mkF m 35 #[.val (.int p1), .val (.int p2), .val (.int (((p2.toUInt32 >>> ((1 : Int32) &&& 31).toUInt32).toInt32) &&& (3 : Int32))), .unset] []))
        refine own_F.of (fun _ => XS.sipush S0.here S0.hx rfl (S0.dec d1_35)) ?_
        show own_F p e below s Z _ _ _ _ _ (T0.setTop (mkF m 38 #[.val (.int p1), .val (.int p2), .val (.int (((p2.toUInt32 >>> ((1 : Int32) &&& 31).toUInt32).toInt32) &&& (3 : Int32))), .unset] [(.int (500 : Int32))]))
        refine own_F.of (fun _ => XS.istoreN S0.here S0.hx rfl (S0.dec d1_38) rfl (l' := #[.val (.int p1), .val (.int p2), .val (.int (((p2.toUInt32 >>> ((1 : Int32) &&& 31).toUInt32).toInt32) &&& (3 : Int32))), .val (.int (500 : Int32))]) rfl) ?_
        show own_F p e below s Z _ _ _ _ _ (T0.setTop (mkF m 39 #[.val (.int p1), .val (.int p2), .val (.int (((p2.toUInt32 >>> ((1 : Int32) &&& 31).toUInt32).toInt32) &&& (3 : Int32))), .val (.int (500 : Int32))] []))
        refine own_F.of (fun _ => XS.iloadN S0.here S0.hx rfl (S0.dec d1_39) rfl) ?_
        show own_F p e below s Z _ _ _ _ _ (T0.setTop (mkF m 40 #[.val (.int p1), .val (.int p2), .val (.int (((p2.toUInt32 >>> ((1 : Int32) &&& 31).toUInt32).toInt32) &&& (3 : Int32))), .val (.int (500 : Int32))] [(.int (500 : Int32))]))
        refine own_F.of (fun _ => XS.iloadN S0.here S0.hx rfl (S0.dec d1_40) rfl) ?_
        show own_F p e below s Z _ _ _ _ _ (T0.setTop (mkF m 41 #[.val (.int p1), .val (.int p2), .val (.int (((p2.toUInt32 >>> ((1 : Int32) &&& 31).toUInt32).toInt32) &&& (3 : Int32))), .val (.int (500 : Int32))] [(.int p1), (.int (500 : Int32))]))
        refine own_F.of (fun _ => XS.iconst S0.here S0.hx rfl (S0.dec d1_41)) ?_
        show own_F p e below s Z _ _ _ _ _ (T0.setTop (mkF m 42 #[.val (.int p1), .val (.int p2), .val (.int (((p2.toUInt32 >>> ((1 : Int32) &&& 31).toUInt32).toInt32) &&& (3 : Int32))), .val (.int (500 : Int32))] [(.int (4 : Int32)), (.int p1), (.int (500 : Int32))]))
        refine own_F.of (fun _ => own_irem S0 d1_42 (by decide)) ?_
        show own_F p e below s Z _ _ _ _ _ (T0.setTop (mkF m 43 #[.val (.int p1), .val (.int p2), .val (.int (((p2.toUInt32 >>> ((1 : Int32) &&& 31).toUInt32).toInt32) &&& (3 : Int32))), .val (.int (500 : Int32))] [(.int (p1 % (4 : Int32))), (.int (500 : Int32))]))
        refine own_F.of (fun _ => XS.iadd S0.here S0.hx rfl (S0.dec d1_43) rfl) ?_
        show own_F p e below s Z _ _ _ _ _ (T0.setTop (mkF m 44 #[.val (.int p1), .val (.int p2), .val (.int (((p2.toUInt32 >>> ((1 : Int32) &&& 31).toUInt32).toInt32) &&& (3 : Int32))), .val (.int (500 : Int32))] [(.int ((500 : Int32) + (p1 % (4 : Int32))))]))
        refine own_retI S0 d1_44 (by decide) (by decide) ?_
        exact ⟨_, rfl, rfl⟩
      · show own_F p e below s Z _ _ _ _ _ (T0.setTop (mkF m 29 #[.val (.int p1), .val (.int p2), .val (.int (((p2.toUInt32 >>> ((1 : Int32) &&& 31).toUInt32).toInt32) &&& (3 : Int32))), .unset] []))
        refine own_F.of (fun _ => XS.sipush S0.here S0.hx rfl (S0.dec d1_29)) ?_
        show own_F p e below s Z _ _ _ _ _ (T0.setTop (mkF m 32 #[.val (.int p1), .val (.int p2), .val (.int (((p2.toUInt32 >>> ((1 : Int32) &&& 31).toUInt32).toInt32) &&& (3 : Int32))), .unset] [(.int (300 : Int32))]))
        refine own_F.of (fun _ => XS.goto S0.here S0.hx rfl (pc0 := 32) (pc' := 38) rfl (S0.dec d1_32) (by decide) (by decide)) ?_
        show own_F p e below s Z _ _ _ _ _ (T0.setTop (mkF m 38 #[.val (.int p1), .val (.int p2), .val (.int (((p2.toUInt32 >>> ((1 : Int32) &&& 31).toUInt32).toInt32) &&& (3 : Int32))), .unset] [(.int (300 : Int32))]))
        refine own_F.of (fun _ => XS.istoreN S0.here S0.hx rfl (S0.dec d1_38) rfl (l' := #[.val (.int p1), .val (.int p2), .val (.int (((p2.toUInt32 >>> ((1 : Int32) &&& 31).toUInt32).toInt32) &&& (3 : Int32))), .val (.int (300 : Int32))]) rfl) ?_
        show own_F p e below s Z _ _ _ _ _ (T0.setTop (mkF m 39 #[.val (.int p1), .val (.int p2), .val (.int (((p2.toUInt32 >>> ((1 : Int32) &&& 31).toUInt32).toInt32) &&& (3 : Int32))), .val (.int (300 : Int32))] []))
        refine own_F.of (fun _ => XS.iloadN S0.here S0.hx rfl (S0.dec d1_39) rfl) ?_
        show own_F p e below s Z _ _ _ _ _ (T0.setTop (mkF m 40 #[.val (.int p1), .val (.int p2), .val (.int (((p2.toUInt32 >>> ((1 : Int32) &&& 31).toUInt32).toInt32) &&& (3 : Int32))), .val (.int (300 : Int32))] [(.int (300 : Int32))]))
        refine own_F.of (fun _ => XS.iloadN S0.here S0.hx rfl (S0.dec d1_40) rfl) ?_
        show own_F p e below s Z _ _ _ _ _ (T0.setTop (mkF m 41 #[.val (.int p1), .val (.int p2), .val (.int (((p2.toUInt32 >>> ((1 : Int32) &&& 31).toUInt32).toInt32) &&& (3 : Int32))), .val (.int (300 : Int32))] [(.int p1), (.int (300 : Int32))]))
        refine own_F.of (fun _ => XS.iconst S0.here S0.hx rfl (S0.dec d1_41)) ?_
        show own_F p e below s Z _ _ _ _ _ (T0.setTop (mkF m 42 #[.val (.int p1), .val (.int p2), .val (.int (((p2.toUInt32 >>> ((1 : Int32) &&& 31).toUInt32).toInt32) &&& (3 : Int32))), .val (.int (300 : Int32))] [(.int (4 : Int32)), (.int p1), (.int (300 : Int32))]))
        refine own_F.of (fun _ => own_irem S0 d1_42 (by decide)) ?_
        show own_F p e below s Z _ _ _ _ _ (T0.setTop (mkF m 43 #[.val (.int p1), .val (.int p2), .val (.int (((p2.toUInt32 >>> ((1 : Int32) &&& 31).toUInt32).toInt32) &&& (3 : Int32))), .val (.int (300 : Int32))] [(.int (p1 % (4 : Int32))), (.int (300 : Int32))]))
        refine own_F.of (fun _ => XS.iadd S0.here S0.hx rfl (S0.dec d1_43) rfl) ?_
        show own_F p e below s Z _ _ _ _ _ (T0.setTop (mkF m 44 #[.val (.int p1), .val (.int p2), .val (.int (((p2.toUInt32 >>> ((1 : Int32) &&& 31).toUInt32).toInt32) &&& (3 : Int32))), .val (.int (300 : Int32))] [(.int ((300 : Int32) + (p1 % (4 : Int32))))]))
        refine own_retI S0 d1_44 (by decide) (by decide) ?_
        exact ⟨_, rfl, rfl⟩
    · show own_F p e below s Z _ _ _ _ _ (T0.setTop (mkF m 18 #[.val (.int p1), .val (.int p2), .val (.int (((p2.toUInt32 >>> ((1 : Int32) &&& 31).toUInt32).toInt32) &&& (3 : Int32))), .unset] []))
      refine own_F.of (fun _ => XS.sipush S0.here S0.hx rfl (S0.dec d1_18)) ?_
      show own_F p e below s Z _ _ _ _ _ (T0.setTop (mkF m 21 #[.val (.int p1), .val (.int p2), .val (.int (((p2.toUInt32 >>> ((1 : Int32) &&& 31).toUInt32).toInt32) &&& (3 : Int32))), .unset] [(.int (200 : Int32))]))
      refine own_F.of (fun _ => XS.goto S0.here S0.hx rfl (pc0 := 21) (pc' := 38) rfl (S0.dec d1_21) (by decide) (by decide)) ?_
      show own_F p e below s Z _ _ _ _ _ (T0.setTop (mkF m 38 #[.val (.int p1), .val (.int p2), .val (.int (((p2.toUInt32 >>> ((1 : Int32) &&& 31).toUInt32).toInt32) &&& (3 : Int32))), .unset] [(.int (200 : Int32))]))
      refine own_F.of (fun _ => XS.istoreN S0.here S0.hx rfl (S0.dec d1_38) rfl (l' := #[.val (.int p1), .val (.int p2), .val (.int (((p2.toUInt32 >>> ((1 : Int32) &&& 31).toUInt32).toInt32) &&& (3 : Int32))), .val (.int (200 : Int32))]) rfl) ?_
      show own_F p e below s Z _ _ _ _ _ (T0.setTop (mkF m 39 #[.val (.int p1), .val (.int p2), .val (.int (((p2.toUInt32 >>> ((1 : Int32) &&& 31).toUInt32).toInt32) &&& (3 : Int32))), .val (.int (200 : Int32))] []))
      refine own_F.of (fun _ => XS.iloadN S0.here S0.hx rfl (S0.dec d1_39) rfl) ?_
      show own_F p e below s Z _ _ _ _ _ (T0.setTop (mkF m 40 #[.val (.int p1), .val (.int p2), .val (.int (((p2.toUInt32 >>> ((1 : Int32) &&& 31).toUInt32).toInt32) &&& (3 : Int32))), .val (.int (200 : Int32))] [(.int (200 : Int32))]))
      refine own_F.of (fun _ => XS.iloadN S0.here S0.hx rfl (S0.dec d1_40) rfl) ?_
      show own_F p e below s Z _ _ _ _ _ (T0.setTop (mkF m 41 #[.val (.int p1), .val (.int p2), .val (.int (((p2.toUInt32 >>> ((1 : Int32) &&& 31).toUInt32).toInt32) &&& (3 : Int32))), .val (.int (200 : Int32))] [(.int p1), (.int (200 : Int32))]))
      refine own_F.of (fun _ => XS.iconst S0.here S0.hx rfl (S0.dec d1_41)) ?_
      show own_F p e below s Z _ _ _ _ _ (T0.setTop (mkF m 42 #[.val (.int p1), .val (.int p2), .val (.int (((p2.toUInt32 >>> ((1 : Int32) &&& 31).toUInt32).toInt32) &&& (3 : Int32))), .val (.int (200 : Int32))] [(.int (4 : Int32)), (.int p1), (.int (200 : Int32))]))
      refine own_F.of (fun _ => own_irem S0 d1_42 (by decide)) ?_
      show own_F p e below s Z _ _ _ _ _ (T0.setTop (mkF m 43 #[.val (.int p1), .val (.int p2), .val (.int (((p2.toUInt32 >>> ((1 : Int32) &&& 31).toUInt32).toInt32) &&& (3 : Int32))), .val (.int (200 : Int32))] [(.int (p1 % (4 : Int32))), (.int (200 : Int32))]))
      refine own_F.of (fun _ => XS.iadd S0.here S0.hx rfl (S0.dec d1_43) rfl) ?_
      show own_F p e below s Z _ _ _ _ _ (T0.setTop (mkF m 44 #[.val (.int p1), .val (.int p2), .val (.int (((p2.toUInt32 >>> ((1 : Int32) &&& 31).toUInt32).toInt32) &&& (3 : Int32))), .val (.int (200 : Int32))] [(.int ((200 : Int32) + (p1 % (4 : Int32))))]))
      refine own_retI S0 d1_44 (by decide) (by decide) ?_
      exact ⟨_, rfl, rfl⟩
  · show own_F p e below s Z _ _ _ _ _ (T0.setTop (mkF m 6 #[.val (.int p1), .val (.int p2), .unset, .unset] []))
    refine own_F.of (fun _ => XS.iloadN S0.here S0.hx rfl (S0.dec d1_6) rfl) ?_
    show own_F p e below s Z _ _ _ _ _ (T0.setTop (mkF m 7 #[.val (.int p1), .val (.int p2), .unset, .unset] [(.int p1)]))
    refine own_retI S0 d1_7 (by decide) (by decide) ?_
    exact ⟨_, rfl, rfl⟩
theorem d2_0 : decode prog_3_method_4_code 0 = .ok (.aload_n 0, 1) := by decide +kernel
theorem d2_1 : decode prog_3_method_4_code 1 = .ok (.getstatic 7, 3) := by decide +kernel
theorem d2_4 : decode prog_3_method_4_code 4 = .ok (.if_acmp .ne 23, 3) := by decide +kernel
theorem d2_7 : decode prog_3_method_4_code 7 = .ok (.iload_n 1, 1) := by decide +kernel
theorem d2_8 : decode prog_3_method_4_code 8 = .ok (.sipush 200, 3) := by decide +kernel
theorem d2_11 : decode prog_3_method_4_code 11 = .ok (.if_icmp .lt 14, 3) := by decide +kernel
theorem d2_14 : decode prog_3_method_4_code 14 = .ok (.iload_n 1, 1) := by decide +kernel
theorem d2_15 : decode prog_3_method_4_code 15 = .ok (.sipush 300, 3) := by decide +kernel
theorem d2_18 : decode prog_3_method_4_code 18 = .ok (.if_icmp .ge 7, 3) := by decide +kernel
theorem d2_21 : decode prog_3_method_4_code 21 = .ok (.iconst 1, 1) := by decide +kernel
theorem d2_22 : decode prog_3_method_4_code 22 = .ok (.goto 4, 3) := by decide +kernel
theorem d2_25 : decode prog_3_method_4_code 25 = .ok (.iconst 0, 1) := by decide +kernel
theorem d2_26 : decode prog_3_method_4_code 26 = .ok (.ireturn, 1) := by decide +kernel
theorem d2_27 : decode prog_3_method_4_code 27 = .ok (.iload_n 1, 1) := by decide +kernel
theorem d2_28 : decode prog_3_method_4_code 28 = .ok (.sipush 500, 3) := by decide +kernel
theorem d2_31 : decode prog_3_method_4_code 31 = .ok (.if_icmp .ge 7, 3) := by decide +kernel
theorem d2_34 : decode prog_3_method_4_code 34 = .ok (.iconst 1, 1) := by decide +kernel
theorem d2_35 : decode prog_3_method_4_code 35 = .ok (.goto 4, 3) := by decide +kernel
theorem d2_38 : decode prog_3_method_4_code 38 = .ok (.iconst 0, 1) := by decide +kernel
theorem d2_39 : decode prog_3_method_4_code 39 = .ok (.ireturn, 1) := by decide +kernel
theorem pn2 : plainFor (⟨"com/example/libidem/libidem/engine/ReplayedResponses", "keeps", "(I)Z"⟩ : MethodName) = true := plainFor_of_name (by first | (simp [plainName, overriddenIn]; done) | decide +kernel)
set_option maxRecDepth 65536 in
set_option maxHeartbeats 40000000 in
theorem own_keeps (l : Launch) (Z : State) (a0 : Array Value) (hw : ∀ d ∈ tables_1, d.before a0 Z = true) (a1 : Addr) (p2 : Int32) (a_SUCCESSES_ONLY : Addr) (h0 : Heap) (hO : Ext Z.heap h0) (S_SUCCESSES_ONLY : Sta Z Z.heap "com/example/libidem/libidem/engine/ReplayedResponses" "SUCCESSES_ONLY" "Lcom/example/libidem/libidem/engine/ReplayedResponses;" (.ref a_SUCCESSES_ONLY)) :
    own_C l Z (⟨"com/example/libidem/libidem/engine/ReplayedResponses", "keeps", "(I)Z"⟩ : MethodName) prog_3_method_4_code 2 (some .boolean) [] ({ frames := 0, cells := 0, slots := 0, locals := 0 } : Room) [] #[(.ref a1), (.int p2)] h0 (fun v h => v = some (.int (own_kp a1 a_SUCCESSES_ONLY p2)) ∧ h0 = h) := by
  refine own_C.of pn2 hO all0 ?_
  intro p e s m below meth c T0 S0
  refine own_F.cast (by first | (simp [entryFrame, mkF, argsToLocals, Value.category]; done) | rfl : entryFrame m #[(.ref a1), (.int p2)] 2 = mkF m 0 #[.val (.ref a1), .val (.int p2)] []) ?_
  show own_F p e below s Z _ _ _ _ _ (T0.setTop (mkF m 0 #[.val (.ref a1), .val (.int p2)] []))
  refine own_F.of (fun _ => XS.aloadN S0.here S0.hx rfl (S0.dec d2_0) rfl rfl) ?_
  show own_F p e below s Z _ _ _ _ _ (T0.setTop (mkF m 1 #[.val (.ref a1), .val (.int p2)] [(.ref a1)]))
  refine own_getS S0 (host := "") (Or.inl (own_w hw 12 rfl)) Via.refl (S_SUCCESSES_ONLY.ext S0.old) d2_1 (fun T1 S1 => ?_)
  show own_F p e below s Z _ _ _ _ _ (T1.setTop (mkF m 4 #[.val (.ref a1), .val (.int p2)] [(.ref a_SUCCESSES_ONLY), (.ref a1)]))
  refine own_acmp S1 rfl rfl 27 d2_4 (by decide) (by decide) (fun (hc4_2 : ¬ ((Value.ref a1) = (Value.ref a_SUCCESSES_ONLY))) => ?_) (fun (hc4_2 : (Value.ref a1) = (Value.ref a_SUCCESSES_ONLY)) => ?_)
  · show own_F p e below s Z _ _ _ _ _ (T1.setTop (mkF m 27 #[.val (.ref a1), .val (.int p2)] []))
    refine own_F.of (fun _ => XS.iloadN S1.here S1.hx rfl (S1.dec d2_27) rfl) ?_
    show own_F p e below s Z _ _ _ _ _ (T1.setTop (mkF m 28 #[.val (.ref a1), .val (.int p2)] [(.int p2)]))
    refine own_F.of (fun _ => XS.sipush S1.here S1.hx rfl (S1.dec d2_28)) ?_
    show own_F p e below s Z _ _ _ _ _ (T1.setTop (mkF m 31 #[.val (.ref a1), .val (.int p2)] [(.int (500 : Int32)), (.int p2)]))
    refine own_icmp S1 38 d2_31 (by decide) (by decide) (fun (hc31_3 : ¬ (p2 < (500 : Int32))) => ?_) (fun (hc31_3 : p2 < (500 : Int32)) => ?_)
    · show own_F p e below s Z _ _ _ _ _ (T1.setTop (mkF m 38 #[.val (.ref a1), .val (.int p2)] []))
      refine own_F.of (fun _ => XS.iconst S1.here S1.hx rfl (S1.dec d2_38)) ?_
      show own_F p e below s Z _ _ _ _ _ (T1.setTop (mkF m 39 #[.val (.ref a1), .val (.int p2)] [(.int (0 : Int32))]))
      refine own_retZ S1 (by simp) d2_39 (by decide) (by decide) ?_
      have hh : own_kp a1 a_SUCCESSES_ONLY p2 = (0 : Int32) := by simp_all [own_kp]
      rw [hh]; exact ⟨rfl, rfl⟩
    · show own_F p e below s Z _ _ _ _ _ (T1.setTop (mkF m 34 #[.val (.ref a1), .val (.int p2)] []))
      refine own_F.of (fun _ => XS.iconst S1.here S1.hx rfl (S1.dec d2_34)) ?_
      show own_F p e below s Z _ _ _ _ _ (T1.setTop (mkF m 35 #[.val (.ref a1), .val (.int p2)] [(.int (1 : Int32))]))
      refine own_F.of (fun _ => XS.goto S1.here S1.hx rfl (pc0 := 35) (pc' := 39) rfl (S1.dec d2_35) (by decide) (by decide)) ?_
      show own_F p e below s Z _ _ _ _ _ (T1.setTop (mkF m 39 #[.val (.ref a1), .val (.int p2)] [(.int (1 : Int32))]))
      refine own_retZ S1 (by simp) d2_39 (by decide) (by decide) ?_
      have hh : own_kp a1 a_SUCCESSES_ONLY p2 = (1 : Int32) := by simp_all [own_kp]
      rw [hh]; exact ⟨rfl, rfl⟩
  · show own_F p e below s Z _ _ _ _ _ (T1.setTop (mkF m 7 #[.val (.ref a1), .val (.int p2)] []))
    refine own_F.of (fun _ => XS.iloadN S1.here S1.hx rfl (S1.dec d2_7) rfl) ?_
    show own_F p e below s Z _ _ _ _ _ (T1.setTop (mkF m 8 #[.val (.ref a1), .val (.int p2)] [(.int p2)]))
    refine own_F.of (fun _ => XS.sipush S1.here S1.hx rfl (S1.dec d2_8)) ?_
    show own_F p e below s Z _ _ _ _ _ (T1.setTop (mkF m 11 #[.val (.ref a1), .val (.int p2)] [(.int (200 : Int32)), (.int p2)]))
    refine own_icmp S1 25 d2_11 (by decide) (by decide) (fun (hc11_4 : p2 < (200 : Int32)) => ?_) (fun (hc11_4 : ¬ (p2 < (200 : Int32))) => ?_)
    · show own_F p e below s Z _ _ _ _ _ (T1.setTop (mkF m 25 #[.val (.ref a1), .val (.int p2)] []))
      refine own_F.of (fun _ => XS.iconst S1.here S1.hx rfl (S1.dec d2_25)) ?_
      show own_F p e below s Z _ _ _ _ _ (T1.setTop (mkF m 26 #[.val (.ref a1), .val (.int p2)] [(.int (0 : Int32))]))
      refine own_retZ S1 (by simp) d2_26 (by decide) (by decide) ?_
      have hh : own_kp a1 a_SUCCESSES_ONLY p2 = (0 : Int32) := by simp_all [own_kp]
      rw [hh]; exact ⟨rfl, rfl⟩
    · show own_F p e below s Z _ _ _ _ _ (T1.setTop (mkF m 14 #[.val (.ref a1), .val (.int p2)] []))
      refine own_F.of (fun _ => XS.iloadN S1.here S1.hx rfl (S1.dec d2_14) rfl) ?_
      show own_F p e below s Z _ _ _ _ _ (T1.setTop (mkF m 15 #[.val (.ref a1), .val (.int p2)] [(.int p2)]))
      refine own_F.of (fun _ => XS.sipush S1.here S1.hx rfl (S1.dec d2_15)) ?_
      show own_F p e below s Z _ _ _ _ _ (T1.setTop (mkF m 18 #[.val (.ref a1), .val (.int p2)] [(.int (300 : Int32)), (.int p2)]))
      refine own_icmp S1 25 d2_18 (by decide) (by decide) (fun (hc18_5 : ¬ (p2 < (300 : Int32))) => ?_) (fun (hc18_5 : p2 < (300 : Int32)) => ?_)
      · show own_F p e below s Z _ _ _ _ _ (T1.setTop (mkF m 25 #[.val (.ref a1), .val (.int p2)] []))
        refine own_F.of (fun _ => XS.iconst S1.here S1.hx rfl (S1.dec d2_25)) ?_
        show own_F p e below s Z _ _ _ _ _ (T1.setTop (mkF m 26 #[.val (.ref a1), .val (.int p2)] [(.int (0 : Int32))]))
        refine own_retZ S1 (by simp) d2_26 (by decide) (by decide) ?_
        have hh : own_kp a1 a_SUCCESSES_ONLY p2 = (0 : Int32) := by simp_all [own_kp]
        rw [hh]; exact ⟨rfl, rfl⟩
      · show own_F p e below s Z _ _ _ _ _ (T1.setTop (mkF m 21 #[.val (.ref a1), .val (.int p2)] []))
        refine own_F.of (fun _ => XS.iconst S1.here S1.hx rfl (S1.dec d2_21)) ?_
        show own_F p e below s Z _ _ _ _ _ (T1.setTop (mkF m 22 #[.val (.ref a1), .val (.int p2)] [(.int (1 : Int32))]))
        refine own_F.of (fun _ => XS.goto S1.here S1.hx rfl (pc0 := 22) (pc' := 26) rfl (S1.dec d2_22) (by decide) (by decide)) ?_
        show own_F p e below s Z _ _ _ _ _ (T1.setTop (mkF m 26 #[.val (.ref a1), .val (.int p2)] [(.int (1 : Int32))]))
        refine own_retZ S1 (by simp) d2_26 (by decide) (by decide) ?_
        have hh : own_kp a1 a_SUCCESSES_ONLY p2 = (1 : Int32) := by simp_all [own_kp]
        rw [hh]; exact ⟨rfl, rfl⟩
theorem pn0 : plainFor x = true := plainFor_of_name (by first | (simp [plainName, overriddenIn]; done) | decide +kernel)
set_option maxRecDepth 65536 in
set_option maxHeartbeats 40000000 in
theorem own_law (l : Launch) (Z : State) (a0 : Array Value) (hw : ∀ d ∈ tables_1, d.before a0 Z = true) (p0 p1 : Int32) (a_ALL_BUT_SERVER_ERRORS : Addr) (a_SUCCESSES_ONLY : Addr) (h0 : Heap) (hO : Ext Z.heap h0) (S_ALL_BUT_SERVER_ERRORS : Sta Z Z.heap "com/example/libidem/libidem/engine/ReplayedResponses" "ALL_BUT_SERVER_ERRORS" "Lcom/example/libidem/libidem/engine/ReplayedResponses;" (.ref a_ALL_BUT_SERVER_ERRORS)) (X_ALL_BUT_SERVER_ERRORS : Exa Z Z.heap a_ALL_BUT_SERVER_ERRORS "com/example/libidem/libidem/engine/ReplayedResponses") (F_ALL_BUT_SERVER_ERRORS_ordinal : Fld Z Z.heap a_ALL_BUT_SERVER_ERRORS "java/lang/Enum" "ordinal" "I" (.int (0 : Int32))) (S_SUCCESSES_ONLY : Sta Z Z.heap "com/example/libidem/libidem/engine/ReplayedResponses" "SUCCESSES_ONLY" "Lcom/example/libidem/libidem/engine/ReplayedResponses;" (.ref a_SUCCESSES_ONLY)) (X_SUCCESSES_ONLY : Exa Z Z.heap a_SUCCESSES_ONLY "com/example/libidem/libidem/engine/ReplayedResponses") (F_SUCCESSES_ONLY_ordinal : Fld Z Z.heap a_SUCCESSES_ONLY "java/lang/Enum" "ordinal" "I" (.int (1 : Int32))) (n1 : a_ALL_BUT_SERVER_ERRORS ≠ a_SUCCESSES_ONLY) :
    own_C l Z x code maxLocals ret tables_1 room_1 [] #[(.int p0), (.int p1)] h0 (fun v _ => v = some (.int 1)) := by
  refine own_C.of pn0 hO all0 ?_
  intro p e s m below meth c T0 S0
  refine own_F.cast (by first | (simp [entryFrame, mkF, argsToLocals, Value.category, maxLocals]; done) | rfl : entryFrame m #[(.int p0), (.int p1)] maxLocals = mkF m 0 #[.val (.int p0), .val (.int p1), .unset, .unset, .unset, .unset, .unset, .unset] []) ?_
  show own_F p e below s Z _ _ _ _ _ (T0.setTop (mkF m 0 #[.val (.int p0), .val (.int p1), .unset, .unset, .unset, .unset, .unset, .unset] []))
  refine own_F.of (fun _ => XS.iloadN S0.here S0.hx rfl (S0.dec at_0) rfl) ?_
  show own_F p e below s Z _ _ _ _ _ (T0.setTop (mkF m 1 #[.val (.int p0), .val (.int p1), .unset, .unset, .unset, .unset, .unset, .unset] [(.int p0)]))
  refine own_F.of (fun _ => XS.iloadN S0.here S0.hx rfl (S0.dec at_1) rfl) ?_
  show own_F p e below s Z _ _ _ _ _ (T0.setTop (mkF m 2 #[.val (.int p0), .val (.int p1), .unset, .unset, .unset, .unset, .unset, .unset] [(.int p1), (.int p0)]))
  refine own_callS S0 (y := (⟨"com/example/libidem/libidem/engine/ReplayedResponsesKeepsPinLaw", "pickStatus", "(II)I"⟩ : MethodName)) (own_w hw 0 rfl) (own_w hw 1 rfl) (own_w hw 2 rfl) (own_w hw 3 rfl) (by decide) (argsL := [(.int p0), (.int p1)]) (rest := []) (own_status l Z a0 hw p0 p1 h0 S0.old) all0 (by decide +kernel : parseMethodDescriptor "(II)I" = some ⟨[.int, .int], some .int⟩) rfl rfl rfl at_2 (by decide) (Nat.le_of_ble_eq_true rfl) (by decide) (by decide) (fun T1 h1 v1 S1 K1 q1 => ?_)
  obtain ⟨z1, rfl, rfl⟩ := q1
  show own_F p e below s Z _ _ _ _ _ (T1.setTop (mkF m 5 #[.val (.int p0), .val (.int p1), .unset, .unset, .unset, .unset, .unset, .unset] [(.int z1)]))
  refine own_F.of (fun _ => XS.istoreN S1.here S1.hx rfl (S1.dec at_5) rfl (l' := #[.val (.int p0), .val (.int p1), .val (.int z1), .unset, .unset, .unset, .unset, .unset]) rfl) ?_
  show own_F p e below s Z _ _ _ _ _ (T1.setTop (mkF m 6 #[.val (.int p0), .val (.int p1), .val (.int z1), .unset, .unset, .unset, .unset, .unset] []))
  refine own_getS S1 (host := "") (Or.inl (own_w hw 4 rfl)) Via.refl (S_ALL_BUT_SERVER_ERRORS.ext S1.old) at_6 (fun T2 S2 => ?_)
  show own_F p e below s Z _ _ _ _ _ (T2.setTop (mkF m 9 #[.val (.int p0), .val (.int p1), .val (.int z1), .unset, .unset, .unset, .unset, .unset] [(.ref a_ALL_BUT_SERVER_ERRORS)]))
  refine own_F.of (fun _ => XS.iloadN S2.here S2.hx rfl (S2.dec at_9) rfl) ?_
  show own_F p e below s Z _ _ _ _ _ (T2.setTop (mkF m 10 #[.val (.int p0), .val (.int p1), .val (.int z1), .unset, .unset, .unset, .unset, .unset] [(.int z1), (.ref a_ALL_BUT_SERVER_ERRORS)]))
  refine own_callV S2 (y := (⟨"com/example/libidem/libidem/engine/ReplayedResponses", "keeps", "(I)Z"⟩ : MethodName)) (y' := (⟨"com/example/libidem/libidem/engine/ReplayedResponses", "keeps", "(I)Z"⟩ : MethodName)) (own_w hw 7 rfl) (own_w hw 8 rfl) (own_nf S2 (own_w hw 10 rfl)) (own_w hw 10 rfl) (own_w hw 9 rfl) (own_w hw 11 rfl) (own_w hw 5 rfl) (by decide) (X_ALL_BUT_SERVER_ERRORS.ext S2.old) (argsL := [(.int z1)]) (rest := []) (own_keeps l Z a0 hw a_ALL_BUT_SERVER_ERRORS z1 a_SUCCESSES_ONLY h0 S2.old S_SUCCESSES_ONLY) all0 (by decide +kernel : parseMethodDescriptor "(I)Z" = some ⟨[.int], some .boolean⟩) rfl rfl rfl at_10 (by decide) (Nat.le_of_ble_eq_true rfl) (by decide) (by decide) (fun T3 h3 v3 S3 K3 q3 => ?_)
  obtain ⟨rfl, rfl⟩ := q3
  show own_F p e below s Z _ _ _ _ _ (T3.setTop (mkF m 13 #[.val (.int p0), .val (.int p1), .val (.int z1), .unset, .unset, .unset, .unset, .unset] [(.int (own_kp a_ALL_BUT_SERVER_ERRORS a_SUCCESSES_ONLY z1))]))
  refine own_F.of (fun _ => XS.istoreN S3.here S3.hx rfl (S3.dec at_13) rfl (l' := #[.val (.int p0), .val (.int p1), .val (.int z1), .val (.int (own_kp a_ALL_BUT_SERVER_ERRORS a_SUCCESSES_ONLY z1)), .unset, .unset, .unset, .unset]) rfl) ?_
  show own_F p e below s Z _ _ _ _ _ (T3.setTop (mkF m 14 #[.val (.int p0), .val (.int p1), .val (.int z1), .val (.int (own_kp a_ALL_BUT_SERVER_ERRORS a_SUCCESSES_ONLY z1)), .unset, .unset, .unset, .unset] []))
  refine own_getS S3 (host := "") (Or.inl (own_w hw 14 rfl)) Via.refl (S_SUCCESSES_ONLY.ext S3.old) at_14 (fun T4 S4 => ?_)
  show own_F p e below s Z _ _ _ _ _ (T4.setTop (mkF m 17 #[.val (.int p0), .val (.int p1), .val (.int z1), .val (.int (own_kp a_ALL_BUT_SERVER_ERRORS a_SUCCESSES_ONLY z1)), .unset, .unset, .unset, .unset] [(.ref a_SUCCESSES_ONLY)]))
  refine own_F.of (fun _ => XS.iloadN S4.here S4.hx rfl (S4.dec at_17) rfl) ?_
  show own_F p e below s Z _ _ _ _ _ (T4.setTop (mkF m 18 #[.val (.int p0), .val (.int p1), .val (.int z1), .val (.int (own_kp a_ALL_BUT_SERVER_ERRORS a_SUCCESSES_ONLY z1)), .unset, .unset, .unset, .unset] [(.int z1), (.ref a_SUCCESSES_ONLY)]))
  refine own_callV S4 (y := (⟨"com/example/libidem/libidem/engine/ReplayedResponses", "keeps", "(I)Z"⟩ : MethodName)) (y' := (⟨"com/example/libidem/libidem/engine/ReplayedResponses", "keeps", "(I)Z"⟩ : MethodName)) (own_w hw 7 rfl) (own_w hw 8 rfl) (own_nf S4 (own_w hw 10 rfl)) (own_w hw 10 rfl) (own_w hw 9 rfl) (own_w hw 11 rfl) (own_w hw 5 rfl) (by decide) (X_SUCCESSES_ONLY.ext S4.old) (argsL := [(.int z1)]) (rest := []) (own_keeps l Z a0 hw a_SUCCESSES_ONLY z1 a_SUCCESSES_ONLY h0 S4.old S_SUCCESSES_ONLY) all0 (by decide +kernel : parseMethodDescriptor "(I)Z" = some ⟨[.int], some .boolean⟩) rfl rfl rfl at_18 (by decide) (Nat.le_of_ble_eq_true rfl) (by decide) (by decide) (fun T5 h5 v5 S5 K5 q5 => ?_)
  obtain ⟨rfl, rfl⟩ := q5
  show own_F p e below s Z _ _ _ _ _ (T5.setTop (mkF m 21 #[.val (.int p0), .val (.int p1), .val (.int z1), .val (.int (own_kp a_ALL_BUT_SERVER_ERRORS a_SUCCESSES_ONLY z1)), .unset, .unset, .unset, .unset] [(.int (own_kp a_SUCCESSES_ONLY a_SUCCESSES_ONLY z1))]))
  refine own_F.of (fun _ => XS.istore S5.here S5.hx rfl (S5.dec at_21) rfl (l' := #[.val (.int p0), .val (.int p1), .val (.int z1), .val (.int (own_kp a_ALL_BUT_SERVER_ERRORS a_SUCCESSES_ONLY z1)), .val (.int (own_kp a_SUCCESSES_ONLY a_SUCCESSES_ONLY z1)), .unset, .unset, .unset]) rfl) ?_
  show own_F p e below s Z _ _ _ _ _ (T5.setTop (mkF m 23 #[.val (.int p0), .val (.int p1), .val (.int z1), .val (.int (own_kp a_ALL_BUT_SERVER_ERRORS a_SUCCESSES_ONLY z1)), .val (.int (own_kp a_SUCCESSES_ONLY a_SUCCESSES_ONLY z1)), .unset, .unset, .unset] []))
  refine own_F.of (fun _ => XS.iloadN S5.here S5.hx rfl (S5.dec at_23) rfl) ?_
  show own_F p e below s Z _ _ _ _ _ (T5.setTop (mkF m 24 #[.val (.int p0), .val (.int p1), .val (.int z1), .val (.int (own_kp a_ALL_BUT_SERVER_ERRORS a_SUCCESSES_ONLY z1)), .val (.int (own_kp a_SUCCESSES_ONLY a_SUCCESSES_ONLY z1)), .unset, .unset, .unset] [(.int z1)]))
  refine own_F.of (fun _ => XS.sipush S5.here S5.hx rfl (S5.dec at_24)) ?_
  show own_F p e below s Z _ _ _ _ _ (T5.setTop (mkF m 27 #[.val (.int p0), .val (.int p1), .val (.int z1), .val (.int (own_kp a_ALL_BUT_SERVER_ERRORS a_SUCCESSES_ONLY z1)), .val (.int (own_kp a_SUCCESSES_ONLY a_SUCCESSES_ONLY z1)), .unset, .unset, .unset] [(.int (499 : Int32)), (.int z1)]))
  refine own_icmp S5 34 at_27 (by decide) (by decide) (fun (hc27_6 : (499 : Int32) < z1) => ?_) (fun (hc27_6 : ¬ ((499 : Int32) < z1)) => ?_)
  · show own_F p e below s Z _ _ _ _ _ (T5.setTop (mkF m 34 #[.val (.int p0), .val (.int p1), .val (.int z1), .val (.int (own_kp a_ALL_BUT_SERVER_ERRORS a_SUCCESSES_ONLY z1)), .val (.int (own_kp a_SUCCESSES_ONLY a_SUCCESSES_ONLY z1)), .unset, .unset, .unset] []))
    rw [show (own_kp a_ALL_BUT_SERVER_ERRORS a_SUCCESSES_ONLY z1) = (0 : Int32) from own_all0 n1 hc27_6]
    show own_F p e below s Z _ _ _ _ _ (T5.setTop (mkF m 34 #[.val (.int p0), .val (.int p1), .val (.int z1), .val (.int (0 : Int32)), .val (.int (own_kp a_SUCCESSES_ONLY a_SUCCESSES_ONLY z1)), .unset, .unset, .unset] []))
    refine own_F.of (fun _ => XS.iconst S5.here S5.hx rfl (S5.dec at_34)) ?_
    show own_F p e below s Z _ _ _ _ _ (T5.setTop (mkF m 35 #[.val (.int p0), .val (.int p1), .val (.int z1), .val (.int (0 : Int32)), .val (.int (own_kp a_SUCCESSES_ONLY a_SUCCESSES_ONLY z1)), .unset, .unset, .unset] [(.int (0 : Int32))]))
    refine own_F.of (fun _ => XS.istore S5.here S5.hx rfl (S5.dec at_35) rfl (l' := #[.val (.int p0), .val (.int p1), .val (.int z1), .val (.int (0 : Int32)), .val (.int (own_kp a_SUCCESSES_ONLY a_SUCCESSES_ONLY z1)), .val (.int (0 : Int32)), .unset, .unset]) rfl) ?_
    show own_F p e below s Z _ _ _ _ _ (T5.setTop (mkF m 37 #[.val (.int p0), .val (.int p1), .val (.int z1), .val (.int (0 : Int32)), .val (.int (own_kp a_SUCCESSES_ONLY a_SUCCESSES_ONLY z1)), .val (.int (0 : Int32)), .unset, .unset] []))
    refine own_F.of (fun _ => XS.iloadN S5.here S5.hx rfl (S5.dec at_37) rfl) ?_
    show own_F p e below s Z _ _ _ _ _ (T5.setTop (mkF m 38 #[.val (.int p0), .val (.int p1), .val (.int z1), .val (.int (0 : Int32)), .val (.int (own_kp a_SUCCESSES_ONLY a_SUCCESSES_ONLY z1)), .val (.int (0 : Int32)), .unset, .unset] [(.int z1)]))
    refine own_F.of (fun _ => XS.bipush S5.here S5.hx rfl (S5.dec at_38)) ?_
    show own_F p e below s Z _ _ _ _ _ (T5.setTop (mkF m 40 #[.val (.int p0), .val (.int p1), .val (.int z1), .val (.int (0 : Int32)), .val (.int (own_kp a_SUCCESSES_ONLY a_SUCCESSES_ONLY z1)), .val (.int (0 : Int32)), .unset, .unset] [(.int (100 : Int32)), (.int z1)]))
    refine own_F.of (fun _ => XS.idiv S5.here S5.hx rfl (S5.dec at_40) rfl (by decide)) ?_
    show own_F p e below s Z _ _ _ _ _ (T5.setTop (mkF m 41 #[.val (.int p0), .val (.int p1), .val (.int z1), .val (.int (0 : Int32)), .val (.int (own_kp a_SUCCESSES_ONLY a_SUCCESSES_ONLY z1)), .val (.int (0 : Int32)), .unset, .unset] [(.int (z1 / (100 : Int32)))]))
    refine own_F.of (fun _ => XS.iconst S5.here S5.hx rfl (S5.dec at_41)) ?_
    show own_F p e below s Z _ _ _ _ _ (T5.setTop (mkF m 42 #[.val (.int p0), .val (.int p1), .val (.int z1), .val (.int (0 : Int32)), .val (.int (own_kp a_SUCCESSES_ONLY a_SUCCESSES_ONLY z1)), .val (.int (0 : Int32)), .unset, .unset] [(.int (2 : Int32)), (.int (z1 / (100 : Int32)))]))
    refine own_icmp S5 49 at_42 (by decide) (by decide) (fun (hc42_7 : ¬ ((z1 / (100 : Int32)) = (2 : Int32))) => ?_) (fun (hc42_7 : (z1 / (100 : Int32)) = (2 : Int32)) => ?_)
    · show own_F p e below s Z _ _ _ _ _ (T5.setTop (mkF m 49 #[.val (.int p0), .val (.int p1), .val (.int z1), .val (.int (0 : Int32)), .val (.int (own_kp a_SUCCESSES_ONLY a_SUCCESSES_ONLY z1)), .val (.int (0 : Int32)), .unset, .unset] []))
      rw [show (own_kp a_SUCCESSES_ONLY a_SUCCESSES_ONLY z1) = (0 : Int32) from own_suc0 hc42_7]
      show own_F p e below s Z _ _ _ _ _ (T5.setTop (mkF m 49 #[.val (.int p0), .val (.int p1), .val (.int z1), .val (.int (0 : Int32)), .val (.int (0 : Int32)), .val (.int (0 : Int32)), .unset, .unset] []))
      refine own_F.of (fun _ => XS.iconst S5.here S5.hx rfl (S5.dec at_49)) ?_
      show own_F p e below s Z _ _ _ _ _ (T5.setTop (mkF m 50 #[.val (.int p0), .val (.int p1), .val (.int z1), .val (.int (0 : Int32)), .val (.int (0 : Int32)), .val (.int (0 : Int32)), .unset, .unset] [(.int (0 : Int32))]))
      refine own_F.of (fun _ => XS.istore S5.here S5.hx rfl (S5.dec at_50) rfl (l' := #[.val (.int p0), .val (.int p1), .val (.int z1), .val (.int (0 : Int32)), .val (.int (0 : Int32)), .val (.int (0 : Int32)), .val (.int (0 : Int32)), .unset]) rfl) ?_
      show own_F p e below s Z _ _ _ _ _ (T5.setTop (mkF m 52 #[.val (.int p0), .val (.int p1), .val (.int z1), .val (.int (0 : Int32)), .val (.int (0 : Int32)), .val (.int (0 : Int32)), .val (.int (0 : Int32)), .unset] []))
      refine own_F.of (fun _ => XS.iload S5.here S5.hx rfl (S5.dec at_52) rfl) ?_
      show own_F p e below s Z _ _ _ _ _ (T5.setTop (mkF m 54 #[.val (.int p0), .val (.int p1), .val (.int z1), .val (.int (0 : Int32)), .val (.int (0 : Int32)), .val (.int (0 : Int32)), .val (.int (0 : Int32)), .unset] [(.int (0 : Int32))]))
      refine own_if S5 61 at_54 (by decide) (by decide) (fun (hc54_8 : (0 : Int32) = (0 : Int32)) => ?_) (fun (hc54_8 : ¬ ((0 : Int32) = (0 : Int32))) => False.elim (absurd hc54_8 (by decide)))
      show own_F p e below s Z _ _ _ _ _ (T5.setTop (mkF m 61 #[.val (.int p0), .val (.int p1), .val (.int z1), .val (.int (0 : Int32)), .val (.int (0 : Int32)), .val (.int (0 : Int32)), .val (.int (0 : Int32)), .unset] []))
      refine own_F.of (fun _ => XS.iconst S5.here S5.hx rfl (S5.dec at_61)) ?_
      show own_F p e below s Z _ _ _ _ _ (T5.setTop (mkF m 62 #[.val (.int p0), .val (.int p1), .val (.int z1), .val (.int (0 : Int32)), .val (.int (0 : Int32)), .val (.int (0 : Int32)), .val (.int (0 : Int32)), .unset] [(.int (1 : Int32))]))
      refine own_F.of (fun _ => XS.goto S5.here S5.hx rfl (pc0 := 62) (pc' := 66) rfl (S5.dec at_62) (by decide) (by decide)) ?_
      show own_F p e below s Z _ _ _ _ _ (T5.setTop (mkF m 66 #[.val (.int p0), .val (.int p1), .val (.int z1), .val (.int (0 : Int32)), .val (.int (0 : Int32)), .val (.int (0 : Int32)), .val (.int (0 : Int32)), .unset] [(.int (1 : Int32))]))
      refine own_F.of (fun _ => XS.istore S5.here S5.hx rfl (S5.dec at_66) rfl (l' := #[.val (.int p0), .val (.int p1), .val (.int z1), .val (.int (0 : Int32)), .val (.int (0 : Int32)), .val (.int (0 : Int32)), .val (.int (0 : Int32)), .val (.int (1 : Int32))]) rfl) ?_
      show own_F p e below s Z _ _ _ _ _ (T5.setTop (mkF m 68 #[.val (.int p0), .val (.int p1), .val (.int z1), .val (.int (0 : Int32)), .val (.int (0 : Int32)), .val (.int (0 : Int32)), .val (.int (0 : Int32)), .val (.int (1 : Int32))] []))
      refine own_F.of (fun _ => XS.iloadN S5.here S5.hx rfl (S5.dec at_68) rfl) ?_
      show own_F p e below s Z _ _ _ _ _ (T5.setTop (mkF m 69 #[.val (.int p0), .val (.int p1), .val (.int z1), .val (.int (0 : Int32)), .val (.int (0 : Int32)), .val (.int (0 : Int32)), .val (.int (0 : Int32)), .val (.int (1 : Int32))] [(.int (0 : Int32))]))
      refine own_F.of (fun _ => XS.iload S5.here S5.hx rfl (S5.dec at_69) rfl) ?_
      show own_F p e below s Z _ _ _ _ _ (T5.setTop (mkF m 71 #[.val (.int p0), .val (.int p1), .val (.int z1), .val (.int (0 : Int32)), .val (.int (0 : Int32)), .val (.int (0 : Int32)), .val (.int (0 : Int32)), .val (.int (1 : Int32))] [(.int (0 : Int32)), (.int (0 : Int32))]))
      refine own_icmp S5 90 at_71 (by decide) (by decide) (fun (hc71_9 : ¬ ((0 : Int32) = (0 : Int32))) => False.elim (absurd hc71_9 (by decide))) (fun (hc71_9 : (0 : Int32) = (0 : Int32)) => ?_)
      show own_F p e below s Z _ _ _ _ _ (T5.setTop (mkF m 74 #[.val (.int p0), .val (.int p1), .val (.int z1), .val (.int (0 : Int32)), .val (.int (0 : Int32)), .val (.int (0 : Int32)), .val (.int (0 : Int32)), .val (.int (1 : Int32))] []))
      refine own_F.of (fun _ => XS.iload S5.here S5.hx rfl (S5.dec at_74) rfl) ?_
      show own_F p e below s Z _ _ _ _ _ (T5.setTop (mkF m 76 #[.val (.int p0), .val (.int p1), .val (.int z1), .val (.int (0 : Int32)), .val (.int (0 : Int32)), .val (.int (0 : Int32)), .val (.int (0 : Int32)), .val (.int (1 : Int32))] [(.int (0 : Int32))]))
      refine own_F.of (fun _ => XS.iload S5.here S5.hx rfl (S5.dec at_76) rfl) ?_
      show own_F p e below s Z _ _ _ _ _ (T5.setTop (mkF m 78 #[.val (.int p0), .val (.int p1), .val (.int z1), .val (.int (0 : Int32)), .val (.int (0 : Int32)), .val (.int (0 : Int32)), .val (.int (0 : Int32)), .val (.int (1 : Int32))] [(.int (0 : Int32)), (.int (0 : Int32))]))
      refine own_icmp S5 90 at_78 (by decide) (by decide) (fun (hc78_10 : ¬ ((0 : Int32) = (0 : Int32))) => False.elim (absurd hc78_10 (by decide))) (fun (hc78_10 : (0 : Int32) = (0 : Int32)) => ?_)
      show own_F p e below s Z _ _ _ _ _ (T5.setTop (mkF m 81 #[.val (.int p0), .val (.int p1), .val (.int z1), .val (.int (0 : Int32)), .val (.int (0 : Int32)), .val (.int (0 : Int32)), .val (.int (0 : Int32)), .val (.int (1 : Int32))] []))
      refine own_F.of (fun _ => XS.iload S5.here S5.hx rfl (S5.dec at_81) rfl) ?_
      show own_F p e below s Z _ _ _ _ _ (T5.setTop (mkF m 83 #[.val (.int p0), .val (.int p1), .val (.int z1), .val (.int (0 : Int32)), .val (.int (0 : Int32)), .val (.int (0 : Int32)), .val (.int (0 : Int32)), .val (.int (1 : Int32))] [(.int (1 : Int32))]))
      refine own_if S5 90 at_83 (by decide) (by decide) (fun (hc83_11 : (1 : Int32) = (0 : Int32)) => False.elim (absurd hc83_11 (by decide))) (fun (hc83_11 : ¬ ((1 : Int32) = (0 : Int32))) => ?_)
      show own_F p e below s Z _ _ _ _ _ (T5.setTop (mkF m 86 #[.val (.int p0), .val (.int p1), .val (.int z1), .val (.int (0 : Int32)), .val (.int (0 : Int32)), .val (.int (0 : Int32)), .val (.int (0 : Int32)), .val (.int (1 : Int32))] []))
      refine own_F.of (fun _ => XS.iconst S5.here S5.hx rfl (S5.dec at_86)) ?_
      show own_F p e below s Z _ _ _ _ _ (T5.setTop (mkF m 87 #[.val (.int p0), .val (.int p1), .val (.int z1), .val (.int (0 : Int32)), .val (.int (0 : Int32)), .val (.int (0 : Int32)), .val (.int (0 : Int32)), .val (.int (1 : Int32))] [(.int (1 : Int32))]))
      refine own_F.of (fun _ => XS.goto S5.here S5.hx rfl (pc0 := 87) (pc' := 91) rfl (S5.dec at_87) (by decide) (by decide)) ?_
      show own_F p e below s Z _ _ _ _ _ (T5.setTop (mkF m 91 #[.val (.int p0), .val (.int p1), .val (.int z1), .val (.int (0 : Int32)), .val (.int (0 : Int32)), .val (.int (0 : Int32)), .val (.int (0 : Int32)), .val (.int (1 : Int32))] [(.int (1 : Int32))]))
      refine own_retZ S5 (by simp) at_91 (by decide) (by decide) ?_
      rfl
    · show own_F p e below s Z _ _ _ _ _ (T5.setTop (mkF m 45 #[.val (.int p0), .val (.int p1), .val (.int z1), .val (.int (0 : Int32)), .val (.int (own_kp a_SUCCESSES_ONLY a_SUCCESSES_ONLY z1)), .val (.int (0 : Int32)), .unset, .unset] []))
      exact False.elim (own_cant hc27_6 hc42_7)
  · show own_F p e below s Z _ _ _ _ _ (T5.setTop (mkF m 30 #[.val (.int p0), .val (.int p1), .val (.int z1), .val (.int (own_kp a_ALL_BUT_SERVER_ERRORS a_SUCCESSES_ONLY z1)), .val (.int (own_kp a_SUCCESSES_ONLY a_SUCCESSES_ONLY z1)), .unset, .unset, .unset] []))
    rw [show (own_kp a_ALL_BUT_SERVER_ERRORS a_SUCCESSES_ONLY z1) = (1 : Int32) from own_all1 n1 hc27_6]
    show own_F p e below s Z _ _ _ _ _ (T5.setTop (mkF m 30 #[.val (.int p0), .val (.int p1), .val (.int z1), .val (.int (1 : Int32)), .val (.int (own_kp a_SUCCESSES_ONLY a_SUCCESSES_ONLY z1)), .unset, .unset, .unset] []))
    refine own_F.of (fun _ => XS.iconst S5.here S5.hx rfl (S5.dec at_30)) ?_
    show own_F p e below s Z _ _ _ _ _ (T5.setTop (mkF m 31 #[.val (.int p0), .val (.int p1), .val (.int z1), .val (.int (1 : Int32)), .val (.int (own_kp a_SUCCESSES_ONLY a_SUCCESSES_ONLY z1)), .unset, .unset, .unset] [(.int (1 : Int32))]))
    refine own_F.of (fun _ => XS.goto S5.here S5.hx rfl (pc0 := 31) (pc' := 35) rfl (S5.dec at_31) (by decide) (by decide)) ?_
    show own_F p e below s Z _ _ _ _ _ (T5.setTop (mkF m 35 #[.val (.int p0), .val (.int p1), .val (.int z1), .val (.int (1 : Int32)), .val (.int (own_kp a_SUCCESSES_ONLY a_SUCCESSES_ONLY z1)), .unset, .unset, .unset] [(.int (1 : Int32))]))
    refine own_F.of (fun _ => XS.istore S5.here S5.hx rfl (S5.dec at_35) rfl (l' := #[.val (.int p0), .val (.int p1), .val (.int z1), .val (.int (1 : Int32)), .val (.int (own_kp a_SUCCESSES_ONLY a_SUCCESSES_ONLY z1)), .val (.int (1 : Int32)), .unset, .unset]) rfl) ?_
    show own_F p e below s Z _ _ _ _ _ (T5.setTop (mkF m 37 #[.val (.int p0), .val (.int p1), .val (.int z1), .val (.int (1 : Int32)), .val (.int (own_kp a_SUCCESSES_ONLY a_SUCCESSES_ONLY z1)), .val (.int (1 : Int32)), .unset, .unset] []))
    refine own_F.of (fun _ => XS.iloadN S5.here S5.hx rfl (S5.dec at_37) rfl) ?_
    show own_F p e below s Z _ _ _ _ _ (T5.setTop (mkF m 38 #[.val (.int p0), .val (.int p1), .val (.int z1), .val (.int (1 : Int32)), .val (.int (own_kp a_SUCCESSES_ONLY a_SUCCESSES_ONLY z1)), .val (.int (1 : Int32)), .unset, .unset] [(.int z1)]))
    refine own_F.of (fun _ => XS.bipush S5.here S5.hx rfl (S5.dec at_38)) ?_
    show own_F p e below s Z _ _ _ _ _ (T5.setTop (mkF m 40 #[.val (.int p0), .val (.int p1), .val (.int z1), .val (.int (1 : Int32)), .val (.int (own_kp a_SUCCESSES_ONLY a_SUCCESSES_ONLY z1)), .val (.int (1 : Int32)), .unset, .unset] [(.int (100 : Int32)), (.int z1)]))
    refine own_F.of (fun _ => XS.idiv S5.here S5.hx rfl (S5.dec at_40) rfl (by decide)) ?_
    show own_F p e below s Z _ _ _ _ _ (T5.setTop (mkF m 41 #[.val (.int p0), .val (.int p1), .val (.int z1), .val (.int (1 : Int32)), .val (.int (own_kp a_SUCCESSES_ONLY a_SUCCESSES_ONLY z1)), .val (.int (1 : Int32)), .unset, .unset] [(.int (z1 / (100 : Int32)))]))
    refine own_F.of (fun _ => XS.iconst S5.here S5.hx rfl (S5.dec at_41)) ?_
    show own_F p e below s Z _ _ _ _ _ (T5.setTop (mkF m 42 #[.val (.int p0), .val (.int p1), .val (.int z1), .val (.int (1 : Int32)), .val (.int (own_kp a_SUCCESSES_ONLY a_SUCCESSES_ONLY z1)), .val (.int (1 : Int32)), .unset, .unset] [(.int (2 : Int32)), (.int (z1 / (100 : Int32)))]))
    refine own_icmp S5 49 at_42 (by decide) (by decide) (fun (hc42_12 : ¬ ((z1 / (100 : Int32)) = (2 : Int32))) => ?_) (fun (hc42_12 : (z1 / (100 : Int32)) = (2 : Int32)) => ?_)
    · show own_F p e below s Z _ _ _ _ _ (T5.setTop (mkF m 49 #[.val (.int p0), .val (.int p1), .val (.int z1), .val (.int (1 : Int32)), .val (.int (own_kp a_SUCCESSES_ONLY a_SUCCESSES_ONLY z1)), .val (.int (1 : Int32)), .unset, .unset] []))
      rw [show (own_kp a_SUCCESSES_ONLY a_SUCCESSES_ONLY z1) = (0 : Int32) from own_suc0 hc42_12]
      show own_F p e below s Z _ _ _ _ _ (T5.setTop (mkF m 49 #[.val (.int p0), .val (.int p1), .val (.int z1), .val (.int (1 : Int32)), .val (.int (0 : Int32)), .val (.int (1 : Int32)), .unset, .unset] []))
      refine own_F.of (fun _ => XS.iconst S5.here S5.hx rfl (S5.dec at_49)) ?_
      show own_F p e below s Z _ _ _ _ _ (T5.setTop (mkF m 50 #[.val (.int p0), .val (.int p1), .val (.int z1), .val (.int (1 : Int32)), .val (.int (0 : Int32)), .val (.int (1 : Int32)), .unset, .unset] [(.int (0 : Int32))]))
      refine own_F.of (fun _ => XS.istore S5.here S5.hx rfl (S5.dec at_50) rfl (l' := #[.val (.int p0), .val (.int p1), .val (.int z1), .val (.int (1 : Int32)), .val (.int (0 : Int32)), .val (.int (1 : Int32)), .val (.int (0 : Int32)), .unset]) rfl) ?_
      show own_F p e below s Z _ _ _ _ _ (T5.setTop (mkF m 52 #[.val (.int p0), .val (.int p1), .val (.int z1), .val (.int (1 : Int32)), .val (.int (0 : Int32)), .val (.int (1 : Int32)), .val (.int (0 : Int32)), .unset] []))
      refine own_F.of (fun _ => XS.iload S5.here S5.hx rfl (S5.dec at_52) rfl) ?_
      show own_F p e below s Z _ _ _ _ _ (T5.setTop (mkF m 54 #[.val (.int p0), .val (.int p1), .val (.int z1), .val (.int (1 : Int32)), .val (.int (0 : Int32)), .val (.int (1 : Int32)), .val (.int (0 : Int32)), .unset] [(.int (0 : Int32))]))
      refine own_if S5 61 at_54 (by decide) (by decide) (fun (hc54_13 : (0 : Int32) = (0 : Int32)) => ?_) (fun (hc54_13 : ¬ ((0 : Int32) = (0 : Int32))) => False.elim (absurd hc54_13 (by decide)))
      show own_F p e below s Z _ _ _ _ _ (T5.setTop (mkF m 61 #[.val (.int p0), .val (.int p1), .val (.int z1), .val (.int (1 : Int32)), .val (.int (0 : Int32)), .val (.int (1 : Int32)), .val (.int (0 : Int32)), .unset] []))
      refine own_F.of (fun _ => XS.iconst S5.here S5.hx rfl (S5.dec at_61)) ?_
      show own_F p e below s Z _ _ _ _ _ (T5.setTop (mkF m 62 #[.val (.int p0), .val (.int p1), .val (.int z1), .val (.int (1 : Int32)), .val (.int (0 : Int32)), .val (.int (1 : Int32)), .val (.int (0 : Int32)), .unset] [(.int (1 : Int32))]))
      refine own_F.of (fun _ => XS.goto S5.here S5.hx rfl (pc0 := 62) (pc' := 66) rfl (S5.dec at_62) (by decide) (by decide)) ?_
      show own_F p e below s Z _ _ _ _ _ (T5.setTop (mkF m 66 #[.val (.int p0), .val (.int p1), .val (.int z1), .val (.int (1 : Int32)), .val (.int (0 : Int32)), .val (.int (1 : Int32)), .val (.int (0 : Int32)), .unset] [(.int (1 : Int32))]))
      refine own_F.of (fun _ => XS.istore S5.here S5.hx rfl (S5.dec at_66) rfl (l' := #[.val (.int p0), .val (.int p1), .val (.int z1), .val (.int (1 : Int32)), .val (.int (0 : Int32)), .val (.int (1 : Int32)), .val (.int (0 : Int32)), .val (.int (1 : Int32))]) rfl) ?_
      show own_F p e below s Z _ _ _ _ _ (T5.setTop (mkF m 68 #[.val (.int p0), .val (.int p1), .val (.int z1), .val (.int (1 : Int32)), .val (.int (0 : Int32)), .val (.int (1 : Int32)), .val (.int (0 : Int32)), .val (.int (1 : Int32))] []))
      refine own_F.of (fun _ => XS.iloadN S5.here S5.hx rfl (S5.dec at_68) rfl) ?_
      show own_F p e below s Z _ _ _ _ _ (T5.setTop (mkF m 69 #[.val (.int p0), .val (.int p1), .val (.int z1), .val (.int (1 : Int32)), .val (.int (0 : Int32)), .val (.int (1 : Int32)), .val (.int (0 : Int32)), .val (.int (1 : Int32))] [(.int (1 : Int32))]))
      refine own_F.of (fun _ => XS.iload S5.here S5.hx rfl (S5.dec at_69) rfl) ?_
      show own_F p e below s Z _ _ _ _ _ (T5.setTop (mkF m 71 #[.val (.int p0), .val (.int p1), .val (.int z1), .val (.int (1 : Int32)), .val (.int (0 : Int32)), .val (.int (1 : Int32)), .val (.int (0 : Int32)), .val (.int (1 : Int32))] [(.int (1 : Int32)), (.int (1 : Int32))]))
      refine own_icmp S5 90 at_71 (by decide) (by decide) (fun (hc71_14 : ¬ ((1 : Int32) = (1 : Int32))) => False.elim (absurd hc71_14 (by decide))) (fun (hc71_14 : (1 : Int32) = (1 : Int32)) => ?_)
      show own_F p e below s Z _ _ _ _ _ (T5.setTop (mkF m 74 #[.val (.int p0), .val (.int p1), .val (.int z1), .val (.int (1 : Int32)), .val (.int (0 : Int32)), .val (.int (1 : Int32)), .val (.int (0 : Int32)), .val (.int (1 : Int32))] []))
      refine own_F.of (fun _ => XS.iload S5.here S5.hx rfl (S5.dec at_74) rfl) ?_
      show own_F p e below s Z _ _ _ _ _ (T5.setTop (mkF m 76 #[.val (.int p0), .val (.int p1), .val (.int z1), .val (.int (1 : Int32)), .val (.int (0 : Int32)), .val (.int (1 : Int32)), .val (.int (0 : Int32)), .val (.int (1 : Int32))] [(.int (0 : Int32))]))
      refine own_F.of (fun _ => XS.iload S5.here S5.hx rfl (S5.dec at_76) rfl) ?_
      show own_F p e below s Z _ _ _ _ _ (T5.setTop (mkF m 78 #[.val (.int p0), .val (.int p1), .val (.int z1), .val (.int (1 : Int32)), .val (.int (0 : Int32)), .val (.int (1 : Int32)), .val (.int (0 : Int32)), .val (.int (1 : Int32))] [(.int (0 : Int32)), (.int (0 : Int32))]))
      refine own_icmp S5 90 at_78 (by decide) (by decide) (fun (hc78_15 : ¬ ((0 : Int32) = (0 : Int32))) => False.elim (absurd hc78_15 (by decide))) (fun (hc78_15 : (0 : Int32) = (0 : Int32)) => ?_)
      show own_F p e below s Z _ _ _ _ _ (T5.setTop (mkF m 81 #[.val (.int p0), .val (.int p1), .val (.int z1), .val (.int (1 : Int32)), .val (.int (0 : Int32)), .val (.int (1 : Int32)), .val (.int (0 : Int32)), .val (.int (1 : Int32))] []))
      refine own_F.of (fun _ => XS.iload S5.here S5.hx rfl (S5.dec at_81) rfl) ?_
      show own_F p e below s Z _ _ _ _ _ (T5.setTop (mkF m 83 #[.val (.int p0), .val (.int p1), .val (.int z1), .val (.int (1 : Int32)), .val (.int (0 : Int32)), .val (.int (1 : Int32)), .val (.int (0 : Int32)), .val (.int (1 : Int32))] [(.int (1 : Int32))]))
      refine own_if S5 90 at_83 (by decide) (by decide) (fun (hc83_16 : (1 : Int32) = (0 : Int32)) => False.elim (absurd hc83_16 (by decide))) (fun (hc83_16 : ¬ ((1 : Int32) = (0 : Int32))) => ?_)
      show own_F p e below s Z _ _ _ _ _ (T5.setTop (mkF m 86 #[.val (.int p0), .val (.int p1), .val (.int z1), .val (.int (1 : Int32)), .val (.int (0 : Int32)), .val (.int (1 : Int32)), .val (.int (0 : Int32)), .val (.int (1 : Int32))] []))
      refine own_F.of (fun _ => XS.iconst S5.here S5.hx rfl (S5.dec at_86)) ?_
      show own_F p e below s Z _ _ _ _ _ (T5.setTop (mkF m 87 #[.val (.int p0), .val (.int p1), .val (.int z1), .val (.int (1 : Int32)), .val (.int (0 : Int32)), .val (.int (1 : Int32)), .val (.int (0 : Int32)), .val (.int (1 : Int32))] [(.int (1 : Int32))]))
      refine own_F.of (fun _ => XS.goto S5.here S5.hx rfl (pc0 := 87) (pc' := 91) rfl (S5.dec at_87) (by decide) (by decide)) ?_
      show own_F p e below s Z _ _ _ _ _ (T5.setTop (mkF m 91 #[.val (.int p0), .val (.int p1), .val (.int z1), .val (.int (1 : Int32)), .val (.int (0 : Int32)), .val (.int (1 : Int32)), .val (.int (0 : Int32)), .val (.int (1 : Int32))] [(.int (1 : Int32))]))
      refine own_retZ S5 (by simp) at_91 (by decide) (by decide) ?_
      rfl
    · show own_F p e below s Z _ _ _ _ _ (T5.setTop (mkF m 45 #[.val (.int p0), .val (.int p1), .val (.int z1), .val (.int (1 : Int32)), .val (.int (own_kp a_SUCCESSES_ONLY a_SUCCESSES_ONLY z1)), .val (.int (1 : Int32)), .unset, .unset] []))
      rw [show (own_kp a_SUCCESSES_ONLY a_SUCCESSES_ONLY z1) = (1 : Int32) from own_suc1 hc42_12]
      show own_F p e below s Z _ _ _ _ _ (T5.setTop (mkF m 45 #[.val (.int p0), .val (.int p1), .val (.int z1), .val (.int (1 : Int32)), .val (.int (1 : Int32)), .val (.int (1 : Int32)), .unset, .unset] []))
      refine own_F.of (fun _ => XS.iconst S5.here S5.hx rfl (S5.dec at_45)) ?_
      show own_F p e below s Z _ _ _ _ _ (T5.setTop (mkF m 46 #[.val (.int p0), .val (.int p1), .val (.int z1), .val (.int (1 : Int32)), .val (.int (1 : Int32)), .val (.int (1 : Int32)), .unset, .unset] [(.int (1 : Int32))]))
      refine own_F.of (fun _ => XS.goto S5.here S5.hx rfl (pc0 := 46) (pc' := 50) rfl (S5.dec at_46) (by decide) (by decide)) ?_
      show own_F p e below s Z _ _ _ _ _ (T5.setTop (mkF m 50 #[.val (.int p0), .val (.int p1), .val (.int z1), .val (.int (1 : Int32)), .val (.int (1 : Int32)), .val (.int (1 : Int32)), .unset, .unset] [(.int (1 : Int32))]))
      refine own_F.of (fun _ => XS.istore S5.here S5.hx rfl (S5.dec at_50) rfl (l' := #[.val (.int p0), .val (.int p1), .val (.int z1), .val (.int (1 : Int32)), .val (.int (1 : Int32)), .val (.int (1 : Int32)), .val (.int (1 : Int32)), .unset]) rfl) ?_
      show own_F p e below s Z _ _ _ _ _ (T5.setTop (mkF m 52 #[.val (.int p0), .val (.int p1), .val (.int z1), .val (.int (1 : Int32)), .val (.int (1 : Int32)), .val (.int (1 : Int32)), .val (.int (1 : Int32)), .unset] []))
      refine own_F.of (fun _ => XS.iload S5.here S5.hx rfl (S5.dec at_52) rfl) ?_
      show own_F p e below s Z _ _ _ _ _ (T5.setTop (mkF m 54 #[.val (.int p0), .val (.int p1), .val (.int z1), .val (.int (1 : Int32)), .val (.int (1 : Int32)), .val (.int (1 : Int32)), .val (.int (1 : Int32)), .unset] [(.int (1 : Int32))]))
      refine own_if S5 61 at_54 (by decide) (by decide) (fun (hc54_17 : (1 : Int32) = (0 : Int32)) => False.elim (absurd hc54_17 (by decide))) (fun (hc54_17 : ¬ ((1 : Int32) = (0 : Int32))) => ?_)
      show own_F p e below s Z _ _ _ _ _ (T5.setTop (mkF m 57 #[.val (.int p0), .val (.int p1), .val (.int z1), .val (.int (1 : Int32)), .val (.int (1 : Int32)), .val (.int (1 : Int32)), .val (.int (1 : Int32)), .unset] []))
      refine own_F.of (fun _ => XS.iloadN S5.here S5.hx rfl (S5.dec at_57) rfl) ?_
      show own_F p e below s Z _ _ _ _ _ (T5.setTop (mkF m 58 #[.val (.int p0), .val (.int p1), .val (.int z1), .val (.int (1 : Int32)), .val (.int (1 : Int32)), .val (.int (1 : Int32)), .val (.int (1 : Int32)), .unset] [(.int (1 : Int32))]))
      refine own_if S5 65 at_58 (by decide) (by decide) (fun (hc58_18 : (1 : Int32) = (0 : Int32)) => False.elim (absurd hc58_18 (by decide))) (fun (hc58_18 : ¬ ((1 : Int32) = (0 : Int32))) => ?_)
      show own_F p e below s Z _ _ _ _ _ (T5.setTop (mkF m 61 #[.val (.int p0), .val (.int p1), .val (.int z1), .val (.int (1 : Int32)), .val (.int (1 : Int32)), .val (.int (1 : Int32)), .val (.int (1 : Int32)), .unset] []))
      refine own_F.of (fun _ => XS.iconst S5.here S5.hx rfl (S5.dec at_61)) ?_
      show own_F p e below s Z _ _ _ _ _ (T5.setTop (mkF m 62 #[.val (.int p0), .val (.int p1), .val (.int z1), .val (.int (1 : Int32)), .val (.int (1 : Int32)), .val (.int (1 : Int32)), .val (.int (1 : Int32)), .unset] [(.int (1 : Int32))]))
      refine own_F.of (fun _ => XS.goto S5.here S5.hx rfl (pc0 := 62) (pc' := 66) rfl (S5.dec at_62) (by decide) (by decide)) ?_
      show own_F p e below s Z _ _ _ _ _ (T5.setTop (mkF m 66 #[.val (.int p0), .val (.int p1), .val (.int z1), .val (.int (1 : Int32)), .val (.int (1 : Int32)), .val (.int (1 : Int32)), .val (.int (1 : Int32)), .unset] [(.int (1 : Int32))]))
      refine own_F.of (fun _ => XS.istore S5.here S5.hx rfl (S5.dec at_66) rfl (l' := #[.val (.int p0), .val (.int p1), .val (.int z1), .val (.int (1 : Int32)), .val (.int (1 : Int32)), .val (.int (1 : Int32)), .val (.int (1 : Int32)), .val (.int (1 : Int32))]) rfl) ?_
      show own_F p e below s Z _ _ _ _ _ (T5.setTop (mkF m 68 #[.val (.int p0), .val (.int p1), .val (.int z1), .val (.int (1 : Int32)), .val (.int (1 : Int32)), .val (.int (1 : Int32)), .val (.int (1 : Int32)), .val (.int (1 : Int32))] []))
      refine own_F.of (fun _ => XS.iloadN S5.here S5.hx rfl (S5.dec at_68) rfl) ?_
      show own_F p e below s Z _ _ _ _ _ (T5.setTop (mkF m 69 #[.val (.int p0), .val (.int p1), .val (.int z1), .val (.int (1 : Int32)), .val (.int (1 : Int32)), .val (.int (1 : Int32)), .val (.int (1 : Int32)), .val (.int (1 : Int32))] [(.int (1 : Int32))]))
      refine own_F.of (fun _ => XS.iload S5.here S5.hx rfl (S5.dec at_69) rfl) ?_
      show own_F p e below s Z _ _ _ _ _ (T5.setTop (mkF m 71 #[.val (.int p0), .val (.int p1), .val (.int z1), .val (.int (1 : Int32)), .val (.int (1 : Int32)), .val (.int (1 : Int32)), .val (.int (1 : Int32)), .val (.int (1 : Int32))] [(.int (1 : Int32)), (.int (1 : Int32))]))
      refine own_icmp S5 90 at_71 (by decide) (by decide) (fun (hc71_19 : ¬ ((1 : Int32) = (1 : Int32))) => False.elim (absurd hc71_19 (by decide))) (fun (hc71_19 : (1 : Int32) = (1 : Int32)) => ?_)
      show own_F p e below s Z _ _ _ _ _ (T5.setTop (mkF m 74 #[.val (.int p0), .val (.int p1), .val (.int z1), .val (.int (1 : Int32)), .val (.int (1 : Int32)), .val (.int (1 : Int32)), .val (.int (1 : Int32)), .val (.int (1 : Int32))] []))
      refine own_F.of (fun _ => XS.iload S5.here S5.hx rfl (S5.dec at_74) rfl) ?_
      show own_F p e below s Z _ _ _ _ _ (T5.setTop (mkF m 76 #[.val (.int p0), .val (.int p1), .val (.int z1), .val (.int (1 : Int32)), .val (.int (1 : Int32)), .val (.int (1 : Int32)), .val (.int (1 : Int32)), .val (.int (1 : Int32))] [(.int (1 : Int32))]))
      refine own_F.of (fun _ => XS.iload S5.here S5.hx rfl (S5.dec at_76) rfl) ?_
      show own_F p e below s Z _ _ _ _ _ (T5.setTop (mkF m 78 #[.val (.int p0), .val (.int p1), .val (.int z1), .val (.int (1 : Int32)), .val (.int (1 : Int32)), .val (.int (1 : Int32)), .val (.int (1 : Int32)), .val (.int (1 : Int32))] [(.int (1 : Int32)), (.int (1 : Int32))]))
      refine own_icmp S5 90 at_78 (by decide) (by decide) (fun (hc78_20 : ¬ ((1 : Int32) = (1 : Int32))) => False.elim (absurd hc78_20 (by decide))) (fun (hc78_20 : (1 : Int32) = (1 : Int32)) => ?_)
      show own_F p e below s Z _ _ _ _ _ (T5.setTop (mkF m 81 #[.val (.int p0), .val (.int p1), .val (.int z1), .val (.int (1 : Int32)), .val (.int (1 : Int32)), .val (.int (1 : Int32)), .val (.int (1 : Int32)), .val (.int (1 : Int32))] []))
      refine own_F.of (fun _ => XS.iload S5.here S5.hx rfl (S5.dec at_81) rfl) ?_
      show own_F p e below s Z _ _ _ _ _ (T5.setTop (mkF m 83 #[.val (.int p0), .val (.int p1), .val (.int z1), .val (.int (1 : Int32)), .val (.int (1 : Int32)), .val (.int (1 : Int32)), .val (.int (1 : Int32)), .val (.int (1 : Int32))] [(.int (1 : Int32))]))
      refine own_if S5 90 at_83 (by decide) (by decide) (fun (hc83_21 : (1 : Int32) = (0 : Int32)) => False.elim (absurd hc83_21 (by decide))) (fun (hc83_21 : ¬ ((1 : Int32) = (0 : Int32))) => ?_)
      show own_F p e below s Z _ _ _ _ _ (T5.setTop (mkF m 86 #[.val (.int p0), .val (.int p1), .val (.int z1), .val (.int (1 : Int32)), .val (.int (1 : Int32)), .val (.int (1 : Int32)), .val (.int (1 : Int32)), .val (.int (1 : Int32))] []))
      refine own_F.of (fun _ => XS.iconst S5.here S5.hx rfl (S5.dec at_86)) ?_
      show own_F p e below s Z _ _ _ _ _ (T5.setTop (mkF m 87 #[.val (.int p0), .val (.int p1), .val (.int z1), .val (.int (1 : Int32)), .val (.int (1 : Int32)), .val (.int (1 : Int32)), .val (.int (1 : Int32)), .val (.int (1 : Int32))] [(.int (1 : Int32))]))
      refine own_F.of (fun _ => XS.goto S5.here S5.hx rfl (pc0 := 87) (pc' := 91) rfl (S5.dec at_87) (by decide) (by decide)) ?_
      show own_F p e below s Z _ _ _ _ _ (T5.setTop (mkF m 91 #[.val (.int p0), .val (.int p1), .val (.int z1), .val (.int (1 : Int32)), .val (.int (1 : Int32)), .val (.int (1 : Int32)), .val (.int (1 : Int32)), .val (.int (1 : Int32))] [(.int (1 : Int32))]))
      refine own_retZ S5 (by simp) at_91 (by decide) (by decide) ?_
      rfl
set_option maxRecDepth 65536 in
set_option maxHeartbeats 40000000 in
theorem comes_1 {Post : Tables → Env → Array Value → State → Outcome → State → Prop} (hpost : ∀ tb e args s v u, (limb_1_1.after args s (.returned v) u = true ∧ limb_1_2.after args s (.returned v) u = true ∧ True) → FrameEnd s (.returned v) u (Jvm.fieldLocs frame_1_writes args s ++ Jvm.arrayLocs frame_1_arrays args s ++ Jvm.staticLocs frame_1_statics s) 0 0 → Post tb e args s (.returned v) u) :
    ArmFor flags0 classFile x code maxLocals ret World_1 tables_1 room_1 Calls_1 rest_1 Pre_1 Post := by
  intro l hfl _ _ p e ha hc hk s m args below hf hA hF happ hP
  obtain ⟨hcalls, hrest, hpre⟩ := hP
  obtain ⟨-, -, -, hnamed, -, -, -, hat⟩ := (Spec.applies_iff hf).mp happ
  obtain ⟨hg, hn⟩ := and_e (Cond.before_iff.mp (show (Jvm.Cond.and given_1 narrow_1).before args s = true from hpre))
  obtain ⟨g1, g2⟩ := and_e hg
  obtain ⟨g3, g4⟩ := and_e g2
  obtain ⟨w0, w1, rfl⟩ : ∃ w0 w1 : Value, args = #[w0, w1] := by
    have hs : args.size = 2 := by simpa [Cond.value, given_1] using g1
    obtain ⟨L⟩ := args
    match L, hs with
    | [w0, w1], _ => exact ⟨w0, w1, rfl⟩
  have hw := fun d (hd : d ∈ tables_1) => atoms_spec (ws := Jvm.Cond.code x code maxLocals ret :: tables_1) hat d (List.mem_cons_of_mem _ hd)
  have hfit : Fit s := fun {y c} hc i hi => by
    obtain ⟨ha, rfl⟩ := Array.getElem?_eq_some_iff.mp hc
    have q := List.all_eq_true.mp ((Array.all_eq_true_iff_forall_mem.mp hF) _ (Array.getElem_mem ha)) i (List.mem_range.mpr hi)
    simpa [Array.getElem?_eq_getElem hi] using q
  obtain ⟨i0, ei0⟩ := is_v g3
  obtain rfl : w0 = (.int i0) := Option.some.inj ei0
  obtain ⟨i1, ei1⟩ := is_v g4
  obtain rfl : w1 = (.int i1) := Option.some.inj ei1
  obtain ⟨y0, hn⟩ := and_e hn
  obtain ⟨y1, hn⟩ := and_e hn
  obtain ⟨y2, hn⟩ := and_e hn
  have y3 := hn
  obtain ⟨a_ALL_BUT_SERVER_ERRORS, ev_ALL_BUT_SERVER_ERRORS, S_ALL_BUT_SERVER_ERRORS, X_ALL_BUT_SERVER_ERRORS⟩ := own_sta y0 (own_w hw 5 rfl) (own_w hw 6 rfl)
  obtain ⟨a_SUCCESSES_ONLY, ev_SUCCESSES_ONLY, S_SUCCESSES_ONLY, X_SUCCESSES_ONLY⟩ := own_sta y1 (own_w hw 5 rfl) (own_w hw 13 rfl)
  have F_ALL_BUT_SERVER_ERRORS_ordinal := own_fldI ev_ALL_BUT_SERVER_ERRORS y2
  have F_SUCCESSES_ONLY_ordinal := own_fldI ev_SUCCESSES_ONLY y3
  obtain ⟨n, o, h1, h2, h3, _, L, rfl, ⟨N, K, rfl⟩, hq⟩ := own_law l s _ hw i0 i1 a_ALL_BUT_SERVER_ERRORS a_SUCCESSES_ONLY s.heap (own_extRefl _) S_ALL_BUT_SERVER_ERRORS X_ALL_BUT_SERVER_ERRORS F_ALL_BUT_SERVER_ERRORS_ordinal S_SUCCESSES_ONLY X_SUCCESSES_ONLY F_SUCCESSES_ONLY_ordinal (F_ALL_BUT_SERVER_ERRORS_ordinal.ne F_SUCCESSES_ONLY_ordinal (by decide)) p e ha hc hk s m _ below hf ((Spec.applies_iff_loose hf).mp happ).1 ⟨rfl, State.Warmed39.refl s, rfl⟩ trivial
  refine ⟨n, _, h1, h2, h3, hpost _ _ _ _ _ _ ⟨Cond.after_iff.mpr rfl, Cond.after_iff.mpr (eq_i res_at (Term.int_eval (1)) rfl), trivial⟩ ⟨hq.1, hq.2.1, (hq.2.2.sift fun y hy => Or.inr (N y hy)).mono (by decide) (by decide)⟩⟩
theorem main_1_1 : Claimed_1_1 := comes_1 fun _ _ _ _ _ _ h hF => ⟨h.1, hF⟩
theorem main_1_2 : Claimed_1_2 := comes_1 fun _ _ _ _ _ _ h hF => ⟨h.2.1, hF⟩
end Jvm.Pilot.@@N@@
namespace Jvm.Pilot.@@N@@
open Jvm Jvm.ClassFile Sem Op Lib Jvm.Free Jvm.Stand Jvm.Pilot.@@N@@.Jvm.D
/-! MADE BY PROGRAM (witnessworld.py) out of the Statement's table words and the real class files: 12 classes; the members and pool entries that the words name. The judged class is class 1, her method 2. -/
namespace start1
open Jvm.ClassFile
def u (s : String) : CpInfo := .utf8 (stringToUtf16 s)
/-- a pool by its gaps: so many unusable entries, then the entry; so many at the end -/
def gap : Nat → List CpInfo → List CpInfo
  | 0, r => r
  | n + 1, r => .unusable :: gap n r
def poolList (es : List (Nat × CpInfo)) (last : Nat) : List CpInfo := es.foldr (fun e r => gap e.1 (e.2 :: r)) (gap last [])
def pool (es : List (Nat × CpInfo)) (last : Nat) : Array CpInfo := ⟨poolList es last⟩
def fileOf (pool : Array CpInfo) (this : Nat) (attrs : Array Attribute := #[]) (ms : Array MethodInfo := #[]) (fl : Nat := 33) (sup : Nat := 0) (ifs : Array Nat := #[]) (fds : Array FieldInfo := #[]) : ClassFile where
  minorVersion := 0
  majorVersion := 65
  constantPool := pool
  accessFlags := fl
  thisClass := this
  superClass := sup
  interfaces := ifs
  fields := fds
  methods := ms
  attributes := attrs
def plain (name : String) (sup : Option ClassId) : Class where
  name := name
  kind := .ordinary
  loader := none
  accessFlags := 33
  super := sup
  interfaces := #[]
  cf := none
  fields := #[]
  methods := #[]
  instanceTypes := #[]
  staticTypes := #[]
  resolved := #[]
  callSites := []
  init := .initialized
  statics := none
  mirror := none

def pool0 : Array CpInfo := pool [(5, u "<init>"), (0, u "()V"), (1, .class_ 10), (1, u "java/lang/Object")] 113

def k0m0 : Method := { name := "<init>", desc := "()V", sig := { parameters := [], returnType := none }, accessFlags := 1, code := none }
/-- java/lang/Object -/
def k0 : Class := { plain "java/lang/Object" none with
  accessFlags := 33
  interfaces := #[]
  cf := some (fileOf pool0 8 #[] #[{ accessFlags := 1, nameIndex := 5, descriptorIndex := 6, attributes := #[] }] 33 0 #[] #[])
  fields := #[]
  methods := #[k0m0]
  instanceTypes := #[]
  staticTypes := #[]
  resolved := Array.replicate 124 none
  statics := none }

def pool1 : Array CpInfo := pool [(2, .class_ 4), (1, u "java/lang/Object"), (0, u "<init>"), (0, u "()V"), (0, .methodref 8 9), (0, .class_ 10), (0, .nameAndType 11 12), (0, u "com/example/libidem/libidem/engine/ReplayedResponsesKeepsPinLaw"), (0, u "pickStatus"), (0, u "(II)I"), (0, .fieldref 14 15), (0, .class_ 16), (0, .nameAndType 17 18), (0, u "com/example/libidem/libidem/engine/ReplayedResponses"), (0, u "ALL_BUT_SERVER_ERRORS"), (0, u "Lcom/example/libidem/libidem/engine/ReplayedResponses;"), (0, .methodref 14 20), (0, .nameAndType 21 22), (0, u "keeps"), (0, u "(I)Z"), (0, .fieldref 14 24), (0, .nameAndType 25 18), (0, u "SUCCESSES_ONLY"), (3, u "law"), (0, u "(II)Z")] 2

def k1m0 : Method := { name := "<init>", desc := "()V", sig := { parameters := [], returnType := none }, accessFlags := 1, code := none }
def k1c1 : Code := { maxStack := 3, maxLocals := 4, code := method_2_code, exceptionTable := #[], attributes := #[] }
def k1m1 : Method := { name := "pickStatus", desc := "(II)I", sig := { parameters := [.int, .int], returnType := some .int }, accessFlags := 10, code := some k1c1 }
def k1c2 : Code := { maxStack := 2, maxLocals := 8, code := code, exceptionTable := #[], attributes := #[] }
def k1m2 : Method := { name := "law", desc := "(II)Z", sig := { parameters := [.int, .int], returnType := some .boolean }, accessFlags := 9, code := some k1c2 }
/-- com/example/libidem/libidem/engine/ReplayedResponsesKeepsPinLaw -/
def k1 : Class := { plain "com/example/libidem/libidem/engine/ReplayedResponsesKeepsPinLaw" (some 0) with
  accessFlags := 49
  interfaces := #[]
  cf := some (fileOf pool1 8 #[] #[{ accessFlags := 1, nameIndex := 5, descriptorIndex := 6, attributes := #[] }, { accessFlags := 10, nameIndex := 11, descriptorIndex := 12, attributes := #[] }, { accessFlags := 9, nameIndex := 29, descriptorIndex := 30, attributes := #[] }] 49 2 #[] #[])
  fields := #[]
  methods := #[k1m0, k1m1, k1m2]
  instanceTypes := #[]
  staticTypes := #[]
  resolved := Array.replicate 33 none
  statics := none }

def pool2 : Array CpInfo := pool [(1, .class_ 2), (0, u "java/lang/constant/Constable"), (0, .class_ 4), (0, u "java/lang/Object")] 6

/-- java/lang/constant/Constable -/
def k2 : Class := { plain "java/lang/constant/Constable" (some 0) with
  accessFlags := 1537
  interfaces := #[]
  cf := some (fileOf pool2 1 #[] #[] 1537 3 #[] #[])
  fields := #[]
  methods := #[]
  instanceTypes := #[]
  staticTypes := #[]
  resolved := Array.replicate 11 none
  statics := none }

def pool3 : Array CpInfo := pool [(1, .class_ 2), (0, u "java/lang/Comparable"), (0, .class_ 4), (0, u "java/lang/Object")] 7

/-- java/lang/Comparable -/
def k3 : Class := { plain "java/lang/Comparable" (some 0) with
  accessFlags := 1537
  interfaces := #[]
  cf := some (fileOf pool3 1 #[] #[] 1537 3 #[] #[])
  fields := #[]
  methods := #[]
  instanceTypes := #[]
  staticTypes := #[]
  resolved := Array.replicate 12 none
  statics := none }

def pool4 : Array CpInfo := pool [(1, .class_ 2), (0, u "java/io/Serializable"), (0, .class_ 4), (0, u "java/lang/Object")] 2

/-- java/io/Serializable -/
def k4 : Class := { plain "java/io/Serializable" (some 0) with
  accessFlags := 1537
  interfaces := #[]
  cf := some (fileOf pool4 1 #[] #[] 1537 3 #[] #[])
  fields := #[]
  methods := #[]
  instanceTypes := #[]
  staticTypes := #[]
  resolved := Array.replicate 7 none
  statics := none }

def pool5 : Array CpInfo := pool [(2, .class_ 4), (1, u "java/lang/Enum"), (0, u "name"), (0, u "Ljava/lang/String;"), (2, u "ordinal"), (0, u "I"), (1, .class_ 14), (1, u "java/lang/Object"), (4, u "hash"), (86, .class_ 108), (1, u "java/lang/Enum$EnumDesc"), (2, .class_ 112), (0, u "java/lang/constant/Constable"), (0, .class_ 114), (0, u "java/lang/Comparable"), (0, .class_ 116), (0, u "java/io/Serializable")] 87

/-- java/lang/Enum -/
def k5 : Class := { plain "java/lang/Enum" (some 0) with
  accessFlags := 1057
  interfaces := #[2, 3, 4]
  cf := some (fileOf pool5 2 #[.nestMembers #[106]] #[] 1057 12 #[111, 113, 115] #[{ accessFlags := 18, nameIndex := 5, descriptorIndex := 6, attributes := #[] }, { accessFlags := 18, nameIndex := 9, descriptorIndex := 10, attributes := #[] }, { accessFlags := 2, nameIndex := 19, descriptorIndex := 10, attributes := #[] }])
  fields := #[{ name := "name", type := (.object "java/lang/String"), accessFlags := 18, slot := 0, constantValue := 0 }, { name := "ordinal", type := .int, accessFlags := 18, slot := 1, constantValue := 0 }, { name := "hash", type := .int, accessFlags := 2, slot := 2, constantValue := 0 }]
  methods := #[]
  instanceTypes := #[(.object "java/lang/String"), .int, .int]
  staticTypes := #[]
  resolved := Array.replicate 204 none
  statics := none }

def pool6 : Array CpInfo := pool [(1, .class_ 2), (0, u "com/example/libidem/libidem/engine/ReplayedResponses"), (2, u "ALL_BUT_SERVER_ERRORS"), (0, u "Lcom/example/libidem/libidem/engine/ReplayedResponses;"), (0, .fieldref 1 8), (0, .nameAndType 9 6), (0, u "SUCCESSES_ONLY"), (2, u "$VALUES"), (0, u "[Lcom/example/libidem/libidem/engine/ReplayedResponses;"), (6, .class_ 22), (1, u "java/lang/Enum"), (20, u "keeps"), (0, u "(I)Z")] 5

def k6c0 : Code := { maxStack := 2, maxLocals := 2, code := prog_3_method_4_code, exceptionTable := #[], attributes := #[] }
def k6m0 : Method := { name := "keeps", desc := "(I)Z", sig := { parameters := [.int], returnType := some .boolean }, accessFlags := 0, code := some k6c0 }
/-- com/example/libidem/libidem/engine/ReplayedResponses -/
def k6 : Class := { plain "com/example/libidem/libidem/engine/ReplayedResponses" (some 5) with
  accessFlags := 16433
  interfaces := #[]
  cf := some (fileOf pool6 1 #[] #[{ accessFlags := 0, nameIndex := 43, descriptorIndex := 44, attributes := #[] }] 16433 20 #[] #[{ accessFlags := 16409, nameIndex := 5, descriptorIndex := 6, attributes := #[] }, { accessFlags := 16409, nameIndex := 9, descriptorIndex := 6, attributes := #[] }, { accessFlags := 4122, nameIndex := 12, descriptorIndex := 13, attributes := #[] }])
  fields := #[{ name := "ALL_BUT_SERVER_ERRORS", type := (.object "com/example/libidem/libidem/engine/ReplayedResponses"), accessFlags := 16409, slot := 0, constantValue := 0 }, { name := "SUCCESSES_ONLY", type := (.object "com/example/libidem/libidem/engine/ReplayedResponses"), accessFlags := 16409, slot := 1, constantValue := 0 }, { name := "$VALUES", type := (.array (.object "com/example/libidem/libidem/engine/ReplayedResponses")), accessFlags := 4122, slot := 2, constantValue := 0 }]
  methods := #[k6m0]
  instanceTypes := #[(.object "java/lang/String"), .int, .int]
  staticTypes := #[(.object "com/example/libidem/libidem/engine/ReplayedResponses"), (.object "com/example/libidem/libidem/engine/ReplayedResponses"), (.array (.object "com/example/libidem/libidem/engine/ReplayedResponses"))]
  resolved := Array.replicate 50 none
  statics := some 0 }

def pool7 : Array CpInfo := pool [(1, u "java/lang/Cloneable"), (0, .class_ 1), (0, u "java/lang/Object"), (0, .class_ 3)] 3

/-- java/lang/Cloneable -/
def k7 : Class := { plain "java/lang/Cloneable" (some 0) with
  accessFlags := 1537
  interfaces := #[]
  cf := some (fileOf pool7 2 #[] #[] 1537 4 #[] #[])
  fields := #[]
  methods := #[]
  instanceTypes := #[]
  staticTypes := #[]
  resolved := Array.replicate 8 none
  statics := none }

/-- the primitive byte -/
def k8 : Class := { plain "byte" none with kind := .primitive 'B', accessFlags := 0x411 }
/-- [B -/
def k9 : Class := { plain "[B" (some 0) with kind := .array 8 .byte, interfaces := #[7, 4], accessFlags := 1041 }

/-- the primitive int -/
def k10 : Class := { plain "int" none with kind := .primitive 'I', accessFlags := 0x411 }
/-- [I -/
def k11 : Class := { plain "[I" (some 0) with kind := .array 10 .int, interfaces := #[7, 4], accessFlags := 1041 }

def heap : Heap := #[{ cls := 6, slots := #[.ref 1, .ref 2, .null], vm := .statics 6 },
  { cls := 6, slots := #[.null, .int 0, .int 0], vm := .none },
  { cls := 6, slots := #[.null, .int 1, .int 0], vm := .none }]
def classes : Array Class := #[k0, k1, k2, k3, k4, k5, k6, k7, k8, k9, k10, k11]
def interned : List (Array UInt16 × Addr) := []
def slotsUsed : Nat := 9
def theMethod : MethodId := ⟨1, 2⟩
def args0 : Array Value := #[.int 5, .int 7]
def aboutOver (below : List Frame) : State where
  vm := { classes := classes, interned := interned.toArray }
  heap := heap
  slotsUsed := slotsUsed
  threads := #[{ frames := .invoking theMethod args0 :: below }]
def below0 : List Frame := [.native { method := ⟨0, 0⟩, args := #[] }]
def about1 : State := aboutOver below0
def p0 : Program := .bare "" "" ""
def e0 : Env := launch0.env 0 0 0
theorem w_frames : about1.frames = Frame.invoking theMethod args0 :: below0 := rfl
set_option maxRecDepth 65536 in
theorem w_args : argsFit about1.vm theMethod args0 = true := by decide +kernel
set_option maxRecDepth 65536 in
theorem w_heap : heapFits about1 = true := by decide +kernel
set_option maxRecDepth 65536 in
theorem w_runnable : about1.curStatus? = some .runnable := by decide +kernel
set_option maxRecDepth 65536 in
theorem w_alone : about1.alone = true := by decide +kernel
set_option maxRecDepth 65536 in
theorem w_named : about1.methodNamed? x = some theMethod := by decide +kernel
set_option maxRecDepth 65536 in
theorem w_hears : about1.hears theMethod below0 = true := by decide +kernel
set_option maxRecDepth 65536 in
theorem w_ripe : about1.ripe theMethod args0 below0 = true := by decide +kernel
theorem w_running : about1.status = .running := rfl
set_option maxRecDepth 65536 in
theorem w_room : about1.hasRoom e0.platform room_1 = true :=
  launch0.hasRoom_least _ room_1 (by decide +kernel) (by decide +kernel) (by decide +kernel) (by decide +kernel) (by decide +kernel) (by decide +kernel)
theorem allAtoms_all (ts : List Jvm.Cond) (a : Array Jvm.Value) (st : Jvm.State) : (allAtoms ts).before a st = ts.all (fun c => c.before a st) := by
  induction ts with
  | nil => rfl
  | cons c t ih =>
    show (Jvm.Cond.and c (allAtoms t)).before a st = _
    rw [Jvm.Cond.before_and, ih, List.all_cons]
def words1 : List Jvm.Cond := Jvm.Cond.code x code maxLocals ret :: tables_1
/-- a 'code' word, met by the world's own term for the bytes: nothing is compared byte by byte -/
theorem code_word {y : MethodName} {bytes : ByteArray} {mx : Nat} {rt : Option FieldType} {a : Array Value} {s : State} {m : MethodId} {meth : Method} {c : Code} (h1 : s.methodNamed? y = some m) (h2 : s.vm.method? m = some meth) (h3 : meth.code = some c) (h4 : c.code = bytes)
    (h5 : (c.maxLocals == mx && c.exceptionTable.isEmpty && decide (c.maxStack ≤ mostOperands) && decide (meth.sig.returnType = rt) && !meth.locks && decide (parseMethodDescriptor y.desc = some meth.sig)) = true) : (Jvm.Cond.code y bytes mx rt).before a s = true := by
  simp only [Bool.and_eq_true, beq_iff_eq, Bool.not_eq_true', decide_eq_true_eq] at h5
  obtain ⟨⟨⟨⟨⟨g1, g2⟩, g3⟩, g4⟩, g5⟩, g6⟩ := h5
  simp [Cond.before, Cond.holds, Cond.value, h1, h2, h3, h4, g1, g2, g3, g4, g5, g6]
def isCode : Jvm.Cond → Bool
  | .code _ _ _ _ => true
  | _ => false
theorem all_split {L : List Jvm.Cond} {P : Jvm.Cond → Bool} (h1 : L.all (fun c => isCode c || P c) = true) (h2 : ∀ c ∈ L.filter isCode, P c = true) : L.all P = true := by
  refine List.all_eq_true.mpr fun c hc => ?_
  have h := List.all_eq_true.mp h1 c hc
  rcases Bool.eq_false_or_eq_true (isCode c) with hi | hi
  · exact h2 c (List.mem_filter.mpr ⟨hc, hi⟩)
  · simpa [hi] using h
set_option maxRecDepth 65536 in
theorem w_c0 : (Jvm.Cond.code x code maxLocals ret).before args0 about1 = true := code_word (m := ⟨1, 2⟩) (meth := k1m2) (c := k1c2) (by decide +kernel) rfl rfl rfl (by decide +kernel)
set_option maxRecDepth 65536 in
theorem w_c1 : (Jvm.Cond.code ({ cls := "com/example/libidem/libidem/engine/ReplayedResponsesKeepsPinLaw", name := "pickStatus", desc := "(II)I" } : Jvm.MethodName) method_2_code (4 : Nat) (Option.some Jvm.ClassFile.FieldType.int)).before args0 about1 = true := code_word (m := ⟨1, 1⟩) (meth := k1m1) (c := k1c1) (by decide +kernel) rfl rfl rfl (by decide +kernel)
set_option maxRecDepth 65536 in
theorem w_c2 : (Jvm.Cond.code ({ cls := "com/example/libidem/libidem/engine/ReplayedResponses", name := "keeps", desc := "(I)Z" } : Jvm.MethodName) prog_3_method_4_code (2 : Nat) (Option.some Jvm.ClassFile.FieldType.boolean)).before args0 about1 = true := code_word (m := ⟨6, 0⟩) (meth := k6m0) (c := k6c0) (by decide +kernel) rfl rfl rfl (by decide +kernel)
def codes1 : List Jvm.Cond := [Jvm.Cond.code x code maxLocals ret, Jvm.Cond.code ({ cls := "com/example/libidem/libidem/engine/ReplayedResponsesKeepsPinLaw", name := "pickStatus", desc := "(II)I" } : Jvm.MethodName) method_2_code (4 : Nat) (Option.some Jvm.ClassFile.FieldType.int), Jvm.Cond.code ({ cls := "com/example/libidem/libidem/engine/ReplayedResponses", name := "keeps", desc := "(I)Z" } : Jvm.MethodName) prog_3_method_4_code (2 : Nat) (Option.some Jvm.ClassFile.FieldType.boolean)]
set_option maxRecDepth 65536 in
theorem codes_eq : words1.filter isCode = codes1 := rfl
theorem w_codes : ∀ c ∈ words1.filter isCode, c.before args0 about1 = true := by
  rw [codes_eq]
  intro c hc
  simp only [codes1, List.mem_cons, List.not_mem_nil, or_false] at hc
  rcases hc with rfl | rfl | rfl
  · exact w_c0
  · exact w_c1
  · exact w_c2
set_option maxRecDepth 65536 in
theorem w_t1 : words1.all (fun c => isCode c || c.before args0 about1) = true := by decide +kernel
theorem w_tables : (allAtoms (Jvm.Cond.code x code maxLocals ret :: tables_1)).before args0 about1 = true := by
  rw [allAtoms_all]
  show words1.all (fun c => c.before args0 about1) = true
  refine all_split ?_ w_codes
  rw [w_t1]
set_option maxRecDepth 65536 in
theorem w_case : (Jvm.Cond.and given_1 narrow_1).before args0 about1 = true := by decide +kernel
theorem w_applies : (headSpec (Jvm.Cond.code x code maxLocals ret :: tables_1) room_1).applies x e0.platform about1 = true :=
  (Spec.applies_iff w_frames).mpr ⟨w_running, w_runnable, w_alone, w_named, w_hears, w_ripe, w_room, w_tables⟩
theorem atStart : AtStart classFile x code maxLocals ret World_1 tables_1 room_1 Calls_1 rest_1 Pre_1 launch0 p0 e0 about1 theMethod args0 below0 :=
  ⟨lists_1, trivial, launch0.admits_env _ _ _, launch0.least_env, fairChoices_fair.cas, fairChoices_fair.clock, w_frames, w_args, w_heap, w_applies, trivial, trivial, w_case⟩
end start1
theorem witness_1 : WitnessClaimed_1 := ⟨start1.p0, start1.e0, start1.about1, start1.theMethod, start1.args0, start1.below0, start1.atStart⟩
end Jvm.Pilot.@@N@@
