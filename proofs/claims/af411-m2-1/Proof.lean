import JvmDerived
import JvmDerived.Pilot.@@N@@Statement
import JvmDerived.Pilot.@@N@@Code
set_option linter.unusedVariables false
set_option linter.unusedSimpArgs false
namespace Jvm.Pilot.@@N@@
open Jvm Jvm.ClassFile Sem Op Lib Jvm.Free Jvm.Stand Jvm.LawKit Jvm.RoadKit Bundle Jvm.Pilot.@@N@@.Jvm.D
/-! OWN PRELUDE (the same text in every proof of this seat): the walk as a goal that goes forward -/
section OwnPrelude
variable {Z : State} {hs : Heap} {W : List Addr} {own : String} {bytes : ByteArray} {maxL : Nat} {ret : Option FieldType} {nm : String}
  {p : Program} {l : Launch} {e : Env} {R : Room} {s : State} {m : MethodId} {args : Array Value} {below : List Frame} {meth : Method} {c : Code}
  {T : State} {h : Heap} {cells slots : Nat} {k n : Nat} {Q : Option Value → Heap → Prop} {a0 : Array Value} {pc : Nat} {Ls : Array Slot} {st rest : List Value}

/-- what stays the same while one body is walked -/
def own_G (Z : State) (hs : Heap) (W : List Addr) (own : String) (bytes : ByteArray) (maxL : Nat) (ret : Option FieldType) (nm : String) (p : Program) (s : State) (m : MethodId) (meth : Method) (c : Code) : Prop :=
  p.tables.exec = Jvm.exec ∧ Z.Warmed39 s.vm ∧ s.vm.findClass own = some m.cls ∧ c.code = bytes ∧ c.maxLocals = maxL ∧ meth.sig.returnType = ret ∧ meth.locks = false ∧ meth.name = nm ∧ Ext Z.heap hs ∧ ∀ a ∈ W, Z.heap.size ≤ a
/-- where the walk stands: state T, heap h, so many cells and slots made; nothing old but W was written -/
def own_S (Z : State) (hs : Heap) (W : List Addr) (own : String) (bytes : ByteArray) (maxL : Nat) (ret : Option FieldType) (nm : String) (p : Program) (l : Launch) (e : Env) (R : Room) (s : State) (m : MethodId) (args : Array Value) (below : List Frame) (meth : Method) (c : Code)
    (T : State) (h : Heap) (cells slots : Nat) : Prop :=
  own_G Z hs W own bytes maxL ret nm p s m meth c ∧ ∃ locs, Stand p l e R s m args below meth c T locs cells slots ∧ Fr Z.heap.size locs ∧ T.heap = h ∧ Keep hs h W
/-- from A the call comes to its end, and there Q holds -/
def own_F (p : Program) (e : Env) (below : List Frame) (s : State) (Z : State) (hs : Heap) (W : List Addr) (k n : Nat) (Q : Option Value → Heap → Prop) (A : State) : Prop :=
  ∃ s₂ o, Steps p.tables e below A s₂ ∧ s₂.status = .running ∧ Ended s₂ below o ∧ ∃ v L, o = .returned v ∧ (Fr Z.heap.size L ∧ Keep hs s₂.heap W ∧ Q v s₂.heap) ∧ FrameEnd s o s₂ L k n
/-- a body's contract -/
def own_C (l : Launch) (Z : State) (y : MethodName) (bytes : ByteArray) (maxL : Nat) (ret : Option FieldType) (ws : List Jvm.Cond) (rm : Room) (W : List Addr) (as' : Array Value) (h0 : Heap) (Q : Option Value → Heap → Prop) : Prop :=
  MetFree l y (head1 (Jvm.Cond.code y bytes maxL ret :: ws) rm) (fun a U => a = as' ∧ Z.Warmed39 U.vm ∧ U.heap = h0) (fun _ _ _ _ _ => True)
    (fun _ U o U' => ∃ v L, o = .returned v ∧ (Fr Z.heap.size L ∧ Keep h0 U'.heap W ∧ Q v U'.heap) ∧ FrameEnd U o U' L rm.cells rm.slots)

theorem own_C.of {y : MethodName} {ws : List Jvm.Cond} {rm : Room} {as' : Array Value} {h0 : Heap} (hpl : plainFor y = true) (hO : Ext Z.heap h0) (hW : ∀ a ∈ W, Z.heap.size ≤ a)
    (body : ∀ p e s m below meth c T, own_S Z h0 W y.cls bytes maxL ret y.name p l e rm s m as' below meth c T h0 0 0 → own_F p e below s Z h0 W rm.cells rm.slots Q (T.setTop (entryFrame m as' maxL))) :
    own_C l Z y bytes maxL ret ws rm W as' h0 Q := by
  refine MetFree.of_bodySF hpl hisR ?_
  intro p e s m args below meth c s₁ Bd hml hP hK
  obtain ⟨rfl, hZ, hh⟩ := hP
  exact body p e s m below meth c s₁ ⟨⟨Bd.exec, hZ, findClass_of_methodNamed Bd.named, Bd.bytes, hml, Bd.returns, Bd.notSynchronized, (name_of_methodNamed Bd.named Bd.method).1, hO, hW⟩, [], Stand.of_body Bd, Fr.nil _, (by rw [← hh, Bd.state]; rfl), Keep.refl _ _⟩

theorem own_F.of {A B : State} (h : ∀ t, Steps p.tables e below B t → Steps p.tables e below A t) (f : own_F p e below s Z hs W k n Q B) : own_F p e below s Z hs W k n Q A := by
  obtain ⟨s₂, o, h1, r⟩ := f
  exact ⟨s₂, o, h _ h1, r⟩
theorem own_F.to {A B : State} (h : Steps p.tables e below A B) (f : own_F p e below s Z hs W k n Q B) : own_F p e below s Z hs W k n Q A := own_F.of (fun _ => h.trans) f
theorem own_F.cast {g g' : JFrame} (q : g = g') (f : own_F p e below s Z hs W k n Q (T.setTop g')) : own_F p e below s Z hs W k n Q (T.setTop g) := q ▸ f
theorem own_F.mono {A : State} {Q' : Option Value → Heap → Prop} (f : own_F p e below s Z hs W k n Q A) (q : ∀ v h, Q v h → Q' v h) : own_F p e below s Z hs W k n Q' A := by
  obtain ⟨s₂, o, h1, h2, h3, v, L, h4, ⟨h5, h6, h7⟩, h8⟩ := f
  exact ⟨s₂, o, h1, h2, h3, v, L, h4, ⟨h5, h6, q _ _ h7⟩, h8⟩
theorem own_C.mono {y : MethodName} {ws : List Jvm.Cond} {rm : Room} {as' : Array Value} {h0 : Heap} {Q' : Option Value → Heap → Prop} (f : own_C l Z y bytes maxL ret ws rm W as' h0 Q) (q : ∀ v h, Q v h → Q' v h) : own_C l Z y bytes maxL ret ws rm W as' h0 Q' := by
  intro p e ha hc hk s m args below hf happ hP hK
  obtain ⟨n, o, h1, h2, h3, v, L, h4, ⟨h5, h6, h7⟩, h8⟩ := f p e ha hc hk s m args below hf happ hP hK
  exact ⟨n, o, h1, h2, h3, v, L, h4, ⟨h5, h6, q _ _ h7⟩, h8⟩

theorem own_S.hx (S : own_S Z hs W own bytes maxL ret nm p l e R s m args below meth c T h cells slots) : p.tables.exec = Jvm.exec := S.1.1
theorem own_S.hZ (S : own_S Z hs W own bytes maxL ret nm p l e R s m args below meth c T h cells slots) : Z.Warmed39 s.vm := S.1.2.1
theorem own_S.hown (S : own_S Z hs W own bytes maxL ret nm p l e R s m args below meth c T h cells slots) : s.vm.findClass own = some m.cls := S.1.2.2.1
theorem own_S.hby (S : own_S Z hs W own bytes maxL ret nm p l e R s m args below meth c T h cells slots) : c.code = bytes := S.1.2.2.2.1
theorem own_S.hml (S : own_S Z hs W own bytes maxL ret nm p l e R s m args below meth c T h cells slots) : c.maxLocals = maxL := S.1.2.2.2.2.1
theorem own_S.hret (S : own_S Z hs W own bytes maxL ret nm p l e R s m args below meth c T h cells slots) : meth.sig.returnType = ret := S.1.2.2.2.2.2.1
theorem own_S.hlk (S : own_S Z hs W own bytes maxL ret nm p l e R s m args below meth c T h cells slots) : meth.locks = false := S.1.2.2.2.2.2.2.1
theorem own_S.hnm (S : own_S Z hs W own bytes maxL ret nm p l e R s m args below meth c T h cells slots) : meth.name = nm := S.1.2.2.2.2.2.2.2.1
theorem own_S.hO (S : own_S Z hs W own bytes maxL ret nm p l e R s m args below meth c T h cells slots) : Ext Z.heap hs := S.1.2.2.2.2.2.2.2.2.1
theorem own_S.hW (S : own_S Z hs W own bytes maxL ret nm p l e R s m args below meth c T h cells slots) : ∀ a ∈ W, Z.heap.size ≤ a := S.1.2.2.2.2.2.2.2.2.2
theorem own_S.keep (S : own_S Z hs W own bytes maxL ret nm p l e R s m args below meth c T h cells slots) : Keep hs h W := by obtain ⟨-, _, -, -, -, K⟩ := S; exact K
theorem own_S.size (S : own_S Z hs W own bytes maxL ret nm p l e R s m args below meth c T h cells slots) : hs.size ≤ h.size := S.keep.1
theorem own_S.old (S : own_S Z hs W own bytes maxL ret nm p l e R s m args below meth c T h cells slots) : Ext Z.heap h :=
  ⟨Nat.le_trans S.hO.1 S.size, fun x cc q => S.keep.2.1 x cc (S.hO.2 x cc q) fun r => absurd (Array.getElem?_eq_some_iff.mp q).1 (Nat.not_lt.mpr (S.hW x r))⟩
theorem own_S.here (S : own_S Z hs W own bytes maxL ret nm p l e R s m args below meth c T h cells slots) : At T m c below := by obtain ⟨-, _, X, -⟩ := S; exact X.here
theorem own_S.dec (S : own_S Z hs W own bytes maxL ret nm p l e R s m args below meth c T h cells slots) {r : Except ClassFile.DecodeError (ClassFile.Instr × Nat)} (h2 : decode bytes pc = r) : decode c.code pc = r := hb S.hby h2
theorem own_S.may (S : own_S Z hs W own bytes maxL ret nm p l e R s m args below meth c T h cells slots) {a : Addr} (q : a ∈ W ∨ hs.size ≤ a) : Z.heap.size ≤ a := q.elim (S.hW a) (Nat.le_trans S.hO.1)
theorem own_S.more (S : own_S Z hs W own bytes maxL ret nm p l e R s m args below meth c T h cells slots) {k' n' : Nat} (hk : cells ≤ k') (hn : slots ≤ n') : own_S Z hs W own bytes maxL ret nm p l e R s m args below meth c T h k' n' := by
  obtain ⟨G, locs, X, r⟩ := S
  exact ⟨G, locs, X.more hk hn, r⟩

/-! the ends -/
theorem own_S.leave (S : own_S Z hs W own bytes maxL ret nm p l e R s m args below meth c T h cells slots) {A : State} {v : Option Value} (hk : cells ≤ k) (hn : slots ≤ n) (hv : ret = none → v = none) (hq : Q v h)
    (go : ∀ (locs : List Loc) (_ : Stand p l e R s m args below meth c T locs cells slots) (fs : List Frame), (∀ (f : JFrame) (acts : List Action), f.method = m → f.locked = none → f.entered = [] → (doReturn e (T.setTop f) acts v).1 = T.setFrames fs) → Steps p.tables e below A (T.setFrames fs)) : own_F p e below s Z hs W k n Q A := by
  obtain ⟨G, locs, X, N, e0, K⟩ := S
  have hlk : meth.locks = false := own_S.hlk (⟨G, locs, X, N, e0, K⟩ : own_S Z hs W own bytes maxL ret nm p l e R s m args below meth c T h cells slots)
  have hret : meth.sig.returnType = ret := own_S.hret (⟨G, locs, X, N, e0, K⟩ : own_S Z hs W own bytes maxL ret nm p l e R s m args below meth c T h cells slots)
  obtain ⟨fs, hr, hrun, hended, hW, hsame⟩ := X.leave (v := v) (fun q => hv (hret ▸ q)) hlk
  subst e0
  exact ⟨_, _, go locs X fs hr, hrun, hended, _, _, rfl, ⟨N, K, hq⟩, ⟨_, rfl⟩, hW, hsame.mono hk hn⟩
theorem own_retV (S : own_S Z hs W own bytes maxL none nm p l e R s m args below meth c T h cells slots) (hd : decode bytes pc = .ok (.return_, 1)) (hk : cells ≤ k) (hn : slots ≤ n) (hq : Q none h) : own_F p e below s Z hs W k n Q (T.setTop (mkF m pc Ls [])) :=
  S.leave hk hn (fun _ => rfl) hq fun locs X fs hr => X.returnOut S.hx S.hret (S.dec hd) hr
theorem own_retZ {t : FieldType} (S : own_S Z hs W own bytes maxL (some t) nm p l e R s m args below meth c T h cells slots) {z : Int32} (ht : t = .boolean ∨ t = .byte ∨ t = .char ∨ t = .short) (hd : decode bytes pc = .ok (.ireturn, 1)) (hk : cells ≤ k) (hn : slots ≤ n) (hq : Q (some (.int (nar t z))) h) : own_F p e below s Z hs W k n Q (T.setTop (mkF m pc Ls (.int z :: rest))) :=
  S.leave hk hn (fun q => by cases q) hq fun locs X fs hr => retN X S.hx S.hret ht (S.dec hd) hr
theorem own_retI (S : own_S Z hs W own bytes maxL (some .int) nm p l e R s m args below meth c T h cells slots) {z : Int32} (hd : decode bytes pc = .ok (.ireturn, 1)) (hk : cells ≤ k) (hn : slots ≤ n) (hq : Q (some (.int z)) h) : own_F p e below s Z hs W k n Q (T.setTop (mkF m pc Ls (.int z :: rest))) :=
  S.leave hk hn (fun q => by cases q) hq fun locs X fs hr => retOut X S.hx S.hret rfl (Or.inl ⟨rfl, Or.inl rfl, _, rfl⟩) (S.dec hd) hr
theorem own_retJ (S : own_S Z hs W own bytes maxL (some .long) nm p l e R s m args below meth c T h cells slots) {z : Int64} (hd : decode bytes pc = .ok (.lreturn, 1)) (hk : cells ≤ k) (hn : slots ≤ n) (hq : Q (some (.long z)) h) : own_F p e below s Z hs W k n Q (T.setTop (mkF m pc Ls (.long z :: rest))) :=
  S.leave hk hn (fun q => by cases q) hq fun locs X fs hr => retOut X S.hx S.hret rfl (Or.inr (Or.inl ⟨rfl, rfl, _, rfl⟩)) (S.dec hd) hr
theorem own_retD (S : own_S Z hs W own bytes maxL (some .double) nm p l e R s m args below meth c T h cells slots) {z : UInt64} (hd : decode bytes pc = .ok (.dreturn, 1)) (hk : cells ≤ k) (hn : slots ≤ n) (hq : Q (some (.double z)) h) : own_F p e below s Z hs W k n Q (T.setTop (mkF m pc Ls (.double z :: rest))) :=
  S.leave hk hn (fun q => by cases q) hq fun locs X fs hr => retOut X S.hx S.hret rfl (Or.inr (Or.inr (Or.inl ⟨rfl, rfl, _, rfl⟩))) (S.dec hd) hr
theorem own_retA {t : FieldType} (S : own_S Z hs W own bytes maxL (some t) nm p l e R s m args below meth c T h cells slots) {w : Value} (ht : t.isReference = true) (hw : w.isRef = true) (hd : decode bytes pc = .ok (.areturn, 1)) (hk : cells ≤ k) (hn : slots ≤ n) (hq : Q (some w) h) : own_F p e below s Z hs W k n Q (T.setTop (mkF m pc Ls (w :: rest))) :=
  S.leave hk hn (fun q => by cases q) hq fun locs X fs hr => retOut X S.hx S.hret (by cases w <;> simp [Value.isRef] at hw <;> cases t <;> simp [FieldType.isReference] at ht <;> rfl) (Or.inr (Or.inr (Or.inr (Or.inr ⟨rfl, ht, hw⟩)))) (S.dec hd) hr

/-! branches -/
def own_cd : ClassFile.Cond → Int32 → Int32 → Prop
  | .eq, x, y => x = y
  | .ne, x, y => ¬ x = y
  | .lt, x, y => x < y
  | .ge, x, y => ¬ x < y
  | .gt, x, y => y < x
  | .le, x, y => ¬ y < x
theorem own_cd_t {cd : ClassFile.Cond} {x y : Int32} (q : own_cd cd x y) : if_icmp.holds cd x y = true := by
  cases cd
  · exact (teq q).1
  · exact (feq q).2
  · exact (tlt q).1
  · exact (flt q).2.1
  · exact (tlt q).2.2.1
  · exact (flt q).2.2.2
def own_cn : ClassFile.Cond → Int32 → Int32 → Prop
  | .eq, x, y => ¬ x = y
  | .ne, x, y => x = y
  | .lt, x, y => ¬ x < y
  | .ge, x, y => x < y
  | .gt, x, y => ¬ y < x
  | .le, x, y => y < x
theorem own_cd_f {cd : ClassFile.Cond} {x y : Int32} (q : own_cn cd x y) : if_icmp.holds cd x y = false := by
  cases cd
  · exact (feq q).1
  · exact (teq q).2
  · exact (flt q).1
  · exact (tlt q).2.1
  · exact (flt q).2.2.1
  · exact (tlt q).2.2.2
theorem own_cd_em (cd : ClassFile.Cond) (x y : Int32) : own_cd cd x y ∨ own_cn cd x y := by
  cases cd
  · exact Classical.em (x = y)
  · exact (Classical.em (x = y)).symm
  · exact Classical.em (x < y)
  · exact (Classical.em (x < y)).symm
  · exact Classical.em (y < x)
  · exact (Classical.em (y < x)).symm
theorem own_icmp (S : own_S Z hs W own bytes maxL ret nm p l e R s m args below meth c T h cells slots) {cd : ClassFile.Cond} {o : Int} {x y : Int32} (pc' : Nat) (hd : decode bytes pc = .ok (.if_icmp cd o, 3)) (ho : 0 ≤ (pc : Int) + o) (hp : ((pc : Int) + o).toNat = pc')
    (ft : own_cd cd x y → own_F p e below s Z hs W k n Q (T.setTop (mkF m pc' Ls rest))) (ff : own_cn cd x y → own_F p e below s Z hs W k n Q (T.setTop (mkF m (pc + 3) Ls rest))) : own_F p e below s Z hs W k n Q (T.setTop (mkF m pc Ls (.int y :: .int x :: rest))) := by
  rcases own_cd_em cd x y with q | q
  · exact own_F.of (fun _ => XS.icmpYes S.here S.hx rfl (pc0 := pc) rfl (S.dec hd) rfl (own_cd_t q) ho hp) (ft q)
  · exact own_F.of (fun _ => XS.icmpNo S.here S.hx rfl (S.dec hd) rfl (own_cd_f q)) (ff q)
theorem own_if (S : own_S Z hs W own bytes maxL ret nm p l e R s m args below meth c T h cells slots) {cd : ClassFile.Cond} {o : Int} {x : Int32} (pc' : Nat) (hd : decode bytes pc = .ok (.ifCond cd o, 3)) (ho : 0 ≤ (pc : Int) + o) (hp : ((pc : Int) + o).toNat = pc')
    (ft : own_cd cd x 0 → own_F p e below s Z hs W k n Q (T.setTop (mkF m pc' Ls rest))) (ff : own_cn cd x 0 → own_F p e below s Z hs W k n Q (T.setTop (mkF m (pc + 3) Ls rest))) : own_F p e below s Z hs W k n Q (T.setTop (mkF m pc Ls (.int x :: rest))) := by
  rcases own_cd_em cd x 0 with q | q
  · exact own_F.of (fun _ => XS.ifYes S.here S.hx rfl (pc0 := pc) rfl (S.dec hd) rfl ((if0 _ _).trans (own_cd_t q)) ho hp) (ft q)
  · exact own_F.of (fun _ => XS.ifNo S.here S.hx rfl (S.dec hd) rfl ((if0 _ _).trans (own_cd_f q))) (ff q)
def own_ac : ACond → Value → Value → Prop
  | .eq, x, y => x = y
  | .ne, x, y => ¬ x = y
def own_an : ACond → Value → Value → Prop
  | .eq, x, y => ¬ x = y
  | .ne, x, y => x = y
theorem own_acmp (S : own_S Z hs W own bytes maxL ret nm p l e R s m args below meth c T h cells slots) {cd : ACond} {o : Int} {x y : Value} (h1 : x.isRef = true) (h2 : y.isRef = true) (pc' : Nat) (hd : decode bytes pc = .ok (.if_acmp cd o, 3)) (ho : 0 ≤ (pc : Int) + o) (hp : ((pc : Int) + o).toNat = pc')
    (ft : own_ac cd x y → own_F p e below s Z hs W k n Q (T.setTop (mkF m pc' Ls rest))) (ff : own_an cd x y → own_F p e below s Z hs W k n Q (T.setTop (mkF m (pc + 3) Ls rest))) : own_F p e below s Z hs W k n Q (T.setTop (mkF m pc Ls (y :: x :: rest))) := by
  obtain ⟨locs, X, -⟩ := S.2
  cases cd <;> rcases Classical.em (x = y) with q | q
  · exact own_F.of (fun _ => Jvm.RoadKit.acmp (g := mkF m pc Ls (y :: x :: rest)) X S.hx rfl h1 h2 (pc0 := pc) (pc' := pc') (same := true) rfl (S.dec hd) rfl (decide_eq_true q) ho (by simp [acV, ← hp])) (ft q)
  · exact own_F.of (fun _ => Jvm.RoadKit.acmp (g := mkF m pc Ls (y :: x :: rest)) X S.hx rfl h1 h2 (pc0 := pc) (pc' := pc + 3) (same := false) rfl (S.dec hd) rfl (decide_eq_false q) ho (by simp [acV])) (ff q)
  · exact own_F.of (fun _ => Jvm.RoadKit.acmp (g := mkF m pc Ls (y :: x :: rest)) X S.hx rfl h1 h2 (pc0 := pc) (pc' := pc + 3) (same := true) rfl (S.dec hd) rfl (decide_eq_true q) ho (by simp [acV])) (ff q)
  · exact own_F.of (fun _ => Jvm.RoadKit.acmp (g := mkF m pc Ls (y :: x :: rest)) X S.hx rfl h1 h2 (pc0 := pc) (pc' := pc') (same := false) rfl (S.dec hd) rfl (decide_eq_false q) ho (by simp [acV, ← hp])) (ft q)

/-! the heap -/
theorem own_getF (S : own_S Z hs W own bytes maxL ret nm p l e R s m args below meth c T h cells slots) {R0 O fn d host : String} {index : Nat} (w : (Jvm.Cond.fieldLink own index R0 fn d).before a0 Z = true ∨ (Jvm.Cond.fieldLinkNest own index R0 fn d host).before a0 Z = true) (via : Via Z R0 O fn d)
    {a : Addr} {v : Value} (F : Fld Z h a O fn d v) (hd : decode bytes pc = .ok (.getfield index, 3))
    (f : ∀ T', own_S Z hs W own bytes maxL ret nm p l e R s m args below meth c T' h cells slots → own_F p e below s Z hs W k n Q (T'.setTop (mkF m (pc + 3) Ls (v :: rest)))) : own_F p e below s Z hs W k n Q (T.setTop (mkF m pc Ls (.ref a :: rest))) := by
  have S' := S
  obtain ⟨G, locs, X, N, e0, K⟩ := S
  obtain ⟨T', X', e', st⟩ := getF X S'.hx S'.hZ S'.hown w via e0 F (g := mkF m pc Ls (.ref a :: rest)) rfl rfl (S'.dec hd)
  exact own_F.of st (f T' ⟨G, locs, X', N, e', K⟩)
theorem own_getS (S : own_S Z hs W own bytes maxL ret nm p l e R s m args below meth c T h cells slots) {R0 O fn d host : String} {index : Nat} (w : (Jvm.Cond.fieldLink own index R0 fn d).before a0 Z = true ∨ (Jvm.Cond.fieldLinkNest own index R0 fn d host).before a0 Z = true) (via : Via Z R0 O fn d)
    {v : Value} (F : Sta Z h O fn d v) (hd : decode bytes pc = .ok (.getstatic index, 3))
    (f : ∀ T', own_S Z hs W own bytes maxL ret nm p l e R s m args below meth c T' h cells slots → own_F p e below s Z hs W k n Q (T'.setTop (mkF m (pc + 3) Ls (v :: st)))) : own_F p e below s Z hs W k n Q (T.setTop (mkF m pc Ls st)) := by
  have S' := S
  obtain ⟨G, locs, X, N, e0, K⟩ := S
  obtain ⟨T', X', e', st⟩ := getS2 X S'.hx S'.hZ S'.hown w via e0 F (g := mkF m pc Ls st) rfl (S'.dec hd)
  exact own_F.of st (f T' ⟨G, locs, X', N, e', K⟩)
theorem own_putF (S : own_S Z hs W own bytes maxL ret nm p l e R s m args below meth c T h cells slots) {R0 O fn d host C : String} {index kk : Nat} {ty : FieldType} (w : (Jvm.Cond.fieldLink own index R0 fn d).before a0 Z = true ∨ (Jvm.Cond.fieldLinkNest own index R0 fn d host).before a0 Z = true) (via : Via Z R0 O fn d)
    {a : Addr} {v old : Value} (F : Fld Z h a O fn d old) (E : Exa Z h a C) (L : (Jvm.Cond.lays C O fn d).before a0 Z = true ∨ ((Jvm.Cond.laysFinal C O fn d).before a0 Z = true ∧ own = O ∧ nm = "<init>")) (wi : (Jvm.Cond.instantiable C kk).before a0 Z = true)
    (hty : parseFieldDescriptor d = some ty) (hn : narrow ty v = v) (hf : fits ty v = true) (hd : decode bytes pc = .ok (.putfield index, 3)) (ok : a ∈ W ∨ hs.size ≤ a)
    (f : ∀ T' h', own_S Z hs W own bytes maxL ret nm p l e R s m args below meth c T' h' cells slots → Wr h h' a (Jvm.RoadKit.slotOf Z O fn d) v → own_F p e below s Z hs W k n Q (T'.setTop (mkF m (pc + 3) Ls rest))) : own_F p e below s Z hs W k n Q (T.setTop (mkF m pc Ls (v :: .ref a :: rest))) := by
  have S' := S
  obtain ⟨G, locs, X, N, e0, K⟩ := S
  obtain ⟨T', h', X', e', Wt, st⟩ := putF X S'.hx S'.hZ S'.hown w via e0 F E (L.imp id fun q => ⟨q.1, q.2.1, S'.hnm.trans q.2.2⟩) wi hty hn hf (g := mkF m pc Ls (v :: .ref a :: rest)) rfl rfl (S'.dec hd)
  exact own_F.of st (f T' h' ⟨G, _, X', Fr.snoc X' N (S'.may ok), e', K.wr Wt ok⟩ Wt)
theorem own_new (S : own_S Z hs W own bytes maxL ret nm p l e R s m args below meth c T h cells slots) {C : String} {index sl : Nat} (w : (Jvm.Cond.classLink own index C).before a0 Z = true) (wi : (Jvm.Cond.instantiable C sl).before a0 Z = true) (wz : (Jvm.Cond.initialized C).before a0 Z = true)
    (hd : decode bytes pc = .ok (.new index, 3)) (hc : cells + 1 ≤ R.cells) (hl : slots + sl ≤ R.slots)
    (f : ∀ T' h' a, a = h.size → own_S Z hs W own bytes maxL ret nm p l e R s m args below meth c T' h' (cells + 1) (slots + sl) → Ext h h' → Exa Z h' a C → (∀ {O fn d : String} {ty : FieldType}, Laid Z a0 C O fn d → parseFieldDescriptor d = some ty → Fld Z h' a O fn d (defaultValue ty)) →
      own_F p e below s Z hs W k n Q (T'.setTop (mkF m (pc + 3) Ls (.ref a :: st)))) : own_F p e below s Z hs W k n Q (T.setTop (mkF m pc Ls st)) := by
  have S' := S
  obtain ⟨G, locs, X, N, e0, K⟩ := S
  obtain ⟨T', h', X', e', E, A, D, -, st⟩ := newO X S'.hx S'.hZ S'.hown w wi wz e0 (g := mkF m pc Ls st) rfl (S'.dec hd) hc hl
  exact own_F.of st (f T' h' _ rfl ⟨G, _, X', N, e', K.ext E⟩ E A D)
theorem own_initO (S : own_S Z hs W own bytes maxL ret nm p l e R s m args below meth c T h cells slots) {index : Nat} (w1 : (Jvm.Cond.methodLink own index Lib.objectInit).before a0 Z = true) (w2 : (Jvm.Cond.instanceMethod Lib.objectInit).before a0 Z = true)
    (w3 : (Jvm.Cond.code Lib.objectInit ⟨#[0xb1]⟩ 1 none).before a0 Z = true) {a : Addr} (hsz : Ls.size = maxL) (hd : decode bytes pc = .ok (.invokespecial index, 3)) (hf : 1 ≤ R.frames) (hl : (rest.map fun v => v.category).sum + 12 ≤ R.locals)
    (f : ∀ T', own_S Z hs W own bytes maxL ret nm p l e R s m args below meth c T' h cells slots → own_F p e below s Z hs W k n Q (T'.setTop (mkF m (pc + 3) Ls rest))) : own_F p e below s Z hs W k n Q (T.setTop (mkF m pc Ls (.ref a :: rest))) := by
  have S' := S
  obtain ⟨G, locs, X, N, e0, K⟩ := S
  obtain ⟨T', X', e', st⟩ := initO X S'.hx S'.hZ S'.hown w1 w2 w3 e0 (g := mkF m pc Ls (.ref a :: rest)) rfl (hsz.trans S'.hml.symm) rfl (S'.dec hd) hf (W := (rest.map fun v => v.category).sum) (by show 2 * 0 + _ ≤ _; omega) hl
  exact own_F.of st (f T' ⟨G, locs, X', N, e', K⟩)

/-! calls -/
variable {index : Nat} {y y' : MethodName} {bytes' : ByteArray} {maxL' : Nat} {ret' : Option FieldType} {rm : Room} {W' : List Addr} {Q' : Option Value → Heap → Prop} {argsL : List Value} {ps : List FieldType} {rt : Option FieldType}
theorem own_callS (S : own_S Z hs W own bytes maxL ret nm p l e R s m args below meth c T h cells slots)
    (w1 : (Jvm.Cond.methodLink own index y).before a0 Z = true) (w2 : (Jvm.Cond.static y).before a0 Z = true) (w3 : (Jvm.Cond.initialized y.cls).before a0 Z = true) (w4 : (Jvm.Cond.code y bytes' maxL' ret').before a0 Z = true) (hy : y.cls ≠ "java/lang/invoke/MethodHandle" ∧ y.cls ≠ "java/lang/invoke/VarHandle")
    (C : own_C l Z y bytes' maxL' ret' [] rm W' argsL.toArray h Q') (hWW : ∀ a ∈ W', a ∈ W ∨ hs.size ≤ a) (pd : parseMethodDescriptor y.desc = some ⟨ps, rt⟩) (hlen : argsL.length = ps.length) (hsz : Ls.size = maxL) (hst : st = argsL.reverse ++ rest)
    (hd : decode bytes pc = .ok (.invokestatic index, 3)) (hfr : rm.frames + 1 ≤ R.frames) (hlo : (rest.map fun v => v.category).sum + (maxL' + 11) + rm.locals ≤ R.locals) (hc : cells + rm.cells ≤ R.cells) (hsl : slots + rm.slots ≤ R.slots)
    (f : ∀ T' h' v, own_S Z hs W own bytes maxL ret nm p l e R s m args below meth c T' h' (cells + rm.cells) (slots + rm.slots) → Keep h h' W' → Q' v h' → own_F p e below s Z hs W k n Q (T'.setTop (mkF m (pc + 3) Ls (v.toList ++ rest)))) : own_F p e below s Z hs W k n Q (T.setTop (mkF m pc Ls st)) := by
  have S' := S
  obtain ⟨G, locs, X, N, e0, K⟩ := S
  obtain ⟨v, _, ⟨T', L', k', n'⟩, -, X', ⟨Lc, hQ, h1, h2, h3⟩, st⟩ := Jvm.LawKit.callS X S'.hx (y := y) S'.hown (mvT S'.hZ w1) (mvT S'.hZ w2) (mvT S'.hZ w3) (mvT S'.hZ w4) hy (backOf (W := (rest.map fun v => v.category).sum) (Q := fun v hh L => Fr Z.heap.size L ∧ Keep h hh W' ∧ Q' v hh) C S'.hZ w4 w3 hfr hlo) (g := mkF m pc Ls st) rfl (hsz.trans S'.hml.symm) (argsL := argsL) (rest := rest) (lenOf pd hlen) hst (by show 2 * 0 + _ ≤ _; omega) (S'.dec hd) (fun _ _ => ⟨rfl, e0, hc, hsl⟩)
  dsimp only [Pt.U, Pt.locs, Pt.cells, Pt.slots] at X' h1 h2 h3 st hQ
  subst h1 h2 h3
  obtain ⟨N', K', q⟩ := hQ
  exact own_F.of st (f T' T'.heap v ⟨G, _, X', Fr.app N N', rfl, K.trans K' hWW⟩ K' q)
theorem own_callI (S : own_S Z hs W own bytes maxL ret nm p l e R s m args below meth c T h cells slots) (hy1 : y.name = "<init>")
    (w1 : (Jvm.Cond.methodLink own index y).before a0 Z = true) (w2 : (Jvm.Cond.instanceMethod y).before a0 Z = true) (w3 : (Jvm.Cond.initialized y.cls).before a0 Z = true) (w4 : (Jvm.Cond.code y bytes' maxL' none).before a0 Z = true) (hy : y.cls ≠ "java/lang/invoke/MethodHandle" ∧ y.cls ≠ "java/lang/invoke/VarHandle")
    {a : Addr} (C : own_C l Z y bytes' maxL' none [] rm W' (.ref a :: argsL).toArray h Q') (hWW : ∀ a ∈ W', a ∈ W ∨ hs.size ≤ a) (pd : parseMethodDescriptor y.desc = some ⟨ps, rt⟩) (hlen : argsL.length = ps.length) (hsz : Ls.size = maxL) (hst : st = argsL.reverse ++ .ref a :: rest)
    (hd : decode bytes pc = .ok (.invokespecial index, 3)) (hfr : rm.frames + 1 ≤ R.frames) (hlo : (rest.map fun v => v.category).sum + (maxL' + 11) + rm.locals ≤ R.locals) (hc : cells + rm.cells ≤ R.cells) (hsl : slots + rm.slots ≤ R.slots)
    (f : ∀ T' h' v, own_S Z hs W own bytes maxL ret nm p l e R s m args below meth c T' h' (cells + rm.cells) (slots + rm.slots) → Keep h h' W' → Q' v h' → own_F p e below s Z hs W k n Q (T'.setTop (mkF m (pc + 3) Ls (v.toList ++ rest)))) : own_F p e below s Z hs W k n Q (T.setTop (mkF m pc Ls st)) := by
  have S' := S
  obtain ⟨G, locs, X, N, e0, K⟩ := S
  obtain ⟨v, _, ⟨T', L', k', n'⟩, -, X', ⟨Lc, hQ, h1, h2, h3⟩, st⟩ := X.specialBack S'.hx (y := y) hy1 S'.hown (mvT S'.hZ w1) (mvT S'.hZ w2) (mvT S'.hZ w4) hy (backOf (W := (rest.map fun v => v.category).sum) (Q := fun v hh L => Fr Z.heap.size L ∧ Keep h hh W' ∧ Q' v hh) C S'.hZ w4 w3 hfr hlo) (g := mkF m pc Ls st) rfl (hsz.trans S'.hml.symm) (Steps.refl _) (a := a) (argsL := argsL) (rest := rest) (lenOf pd hlen) hst (by show 2 * 0 + _ ≤ _; omega) (S'.dec hd) (fun _ _ => ⟨rfl, e0, hc, hsl⟩)
  dsimp only [Pt.U, Pt.locs, Pt.cells, Pt.slots] at X' h1 h2 h3 st hQ
  subst h1 h2 h3
  obtain ⟨N', K', q⟩ := hQ
  exact own_F.to st (f T' T'.heap v ⟨G, _, X', Fr.app N N', rfl, K.trans K' hWW⟩ K' q)
theorem own_callV (S : own_S Z hs W own bytes maxL ret nm p l e R s m args below meth c T h cells slots) {Cn : String}
    (w1 : (Jvm.Cond.methodLink own index y).before a0 Z = true) (w2 : (Jvm.Cond.declares y).before a0 Z = true) (nf : NotFace s y) (w3 : (Jvm.Cond.selects Cn y y').before a0 Z = true) (w4 : (Jvm.Cond.instanceMethod y').before a0 Z = true) (w5 : (Jvm.Cond.code y' bytes' maxL' ret').before a0 Z = true) (w6 : (Jvm.Cond.initialized y'.cls).before a0 Z = true) (hy : y.cls ≠ "java/lang/invoke/MethodHandle" ∧ y.cls ≠ "java/lang/invoke/VarHandle")
    {a : Addr} (E : Exa Z h a Cn) (C : own_C l Z y' bytes' maxL' ret' [] rm W' (.ref a :: argsL).toArray h Q') (hWW : ∀ a ∈ W', a ∈ W ∨ hs.size ≤ a) (pd : parseMethodDescriptor y.desc = some ⟨ps, rt⟩) (hlen : argsL.length = ps.length) (hsz : Ls.size = maxL) (hst : st = argsL.reverse ++ .ref a :: rest)
    (hd : decode bytes pc = .ok (.invokevirtual index, 3)) (hfr : rm.frames + 1 ≤ R.frames) (hlo : (rest.map fun v => v.category).sum + (maxL' + 11) + rm.locals ≤ R.locals) (hc : cells + rm.cells ≤ R.cells) (hsl : slots + rm.slots ≤ R.slots)
    (f : ∀ T' h' v, own_S Z hs W own bytes maxL ret nm p l e R s m args below meth c T' h' (cells + rm.cells) (slots + rm.slots) → Keep h h' W' → Q' v h' → own_F p e below s Z hs W k n Q (T'.setTop (mkF m (pc + 3) Ls (v.toList ++ rest)))) : own_F p e below s Z hs W k n Q (T.setTop (mkF m pc Ls st)) := by
  have S' := S
  obtain ⟨G, locs, X, N, e0, K⟩ := S
  obtain ⟨cq, kq, qa, qb, qc⟩ := isOf S'.hZ e0 E
  obtain ⟨v, _, ⟨T', L', k', n'⟩, -, X', ⟨Lc, hQ, h1, h2, h3⟩, st⟩ := X.virtualBack S'.hx (y := y) (z := y') S'.hown (mvT S'.hZ w1) (mvT S'.hZ w2) nf (mvT S'.hZ w3) (mvT S'.hZ w4) hy (backOf (W := (rest.map fun v => v.category).sum) (Q := fun v hh L => Fr Z.heap.size L ∧ Keep h hh W' ∧ Q' v hh) C S'.hZ w5 w6 hfr hlo) qa qc (g := mkF m pc Ls st) rfl (hsz.trans S'.hml.symm) (Steps.refl _) (argsL := argsL) (rest := rest) (lenOf pd hlen) hst (by show 2 * 0 + _ ≤ _; omega) (S'.dec hd) (fun _ _ => ⟨rfl, e0, hc, hsl⟩)
  dsimp only [Pt.U, Pt.locs, Pt.cells, Pt.slots] at X' h1 h2 h3 st hQ
  subst h1 h2 h3
  obtain ⟨N', K', q⟩ := hQ
  exact own_F.to st (f T' T'.heap v ⟨G, _, X', Fr.app N N', rfl, K.trans K' hWW⟩ K' q)
theorem own_nf (S : own_S Z hs W own bytes maxL ret nm p l e R s m args below meth c T h cells slots) {Cn : String} (w : (Jvm.Cond.selects Cn y y).before a0 Z = true) : NotFace s y := notFace_of_selects (args := #[]) (mvT S.hZ w)
theorem own_callX (S : own_S Z hs W own bytes maxL ret nm p l e R s m args below meth c T h cells slots) {Cn : String} {cnt : Nat}
    (w1 : (Jvm.Cond.methodLink own index y).before a0 Z = true) (w2 : (Jvm.Cond.declares y).before a0 Z = true) (w7 : (Jvm.Cond.interfaceMethod y.cls y.cls y.name y.desc).before a0 Z = true) (w3 : (Jvm.Cond.selects Cn y y').before a0 Z = true) (w4 : (Jvm.Cond.instanceMethod y').before a0 Z = true) (w8 : (Jvm.Cond.publicMethod y').before a0 Z = true) (w9 : (Jvm.Cond.unhidden Cn y.name y.desc).before a0 Z = true) (w10 : (Jvm.Cond.castable Cn y.cls).before a0 Z = true)
    (w5 : (Jvm.Cond.code y' bytes' maxL' ret').before a0 Z = true) (w6 : (Jvm.Cond.initialized y'.cls).before a0 Z = true) (hy : y.cls ≠ "java/lang/invoke/MethodHandle" ∧ y.cls ≠ "java/lang/invoke/VarHandle")
    {a : Addr} (E : Exa Z h a Cn) (C : own_C l Z y' bytes' maxL' ret' [] rm W' (.ref a :: argsL).toArray h Q') (hWW : ∀ a ∈ W', a ∈ W ∨ hs.size ≤ a) (pd : parseMethodDescriptor y.desc = some ⟨ps, rt⟩) (hlen : argsL.length = ps.length) (hsz : Ls.size = maxL) (hst : st = argsL.reverse ++ .ref a :: rest)
    (hd : decode bytes pc = .ok (.invokeinterface index cnt, 5)) (hfr : rm.frames + 1 ≤ R.frames) (hlo : (rest.map fun v => v.category).sum + (maxL' + 11) + rm.locals ≤ R.locals) (hc : cells + rm.cells ≤ R.cells) (hsl : slots + rm.slots ≤ R.slots)
    (f : ∀ T' h' v, own_S Z hs W own bytes maxL ret nm p l e R s m args below meth c T' h' (cells + rm.cells) (slots + rm.slots) → Keep h h' W' → Q' v h' → own_F p e below s Z hs W k n Q (T'.setTop (mkF m (pc + 5) Ls (v.toList ++ rest)))) : own_F p e below s Z hs W k n Q (T.setTop (mkF m pc Ls st)) := by
  have S' := S
  obtain ⟨G, locs, X, N, e0, K⟩ := S
  obtain ⟨cq, kq, qa, qb, qc⟩ := isOf S'.hZ e0 E
  obtain ⟨v, _, ⟨T', L', k', n'⟩, -, X', ⟨Lc, hQ, h1, h2, h3⟩, st⟩ := X.interfaceBack S'.hx (xi := y) (y := y') S'.hown (mvT S'.hZ w1) (mvT S'.hZ w2) (mvT S'.hZ w7 (by simp [Cond.onTables, Cond.keepsFace, Cond.keeps, Cond.steady, Cond.faceAtom, hy])) (mvT S'.hZ w3) (mvT S'.hZ w4) (mvT S'.hZ w8) (mvT S'.hZ w9) (mvT S'.hZ w10) hy (backOf (W := (rest.map fun v => v.category).sum) (Q := fun v hh L => Fr Z.heap.size L ∧ Keep h hh W' ∧ Q' v hh) C S'.hZ w5 w6 hfr hlo) qa qb qc (g := mkF m pc Ls st) rfl (hsz.trans S'.hml.symm) (Steps.refl _) (argsL := argsL) (rest := rest) (lenOf pd hlen) hst (by show 2 * 0 + _ ≤ _; omega) (S'.dec hd) (fun _ _ => ⟨rfl, e0, hc, hsl⟩)
  dsimp only [Pt.U, Pt.locs, Pt.cells, Pt.slots] at X' h1 h2 h3 st hQ
  subst h1 h2 h3
  obtain ⟨N', K', q⟩ := hQ
  exact own_F.to st (f T' T'.heap v ⟨G, _, X', Fr.app N N', rfl, K.trans K' hWW⟩ K' q)
theorem own_callP (S : own_S Z hs W own bytes maxL ret nm p l e R s m args below meth c T h cells slots)
    (w1 : (Jvm.Cond.methodLink own index y).before a0 Z = true) (w2 : (Jvm.Cond.instanceMethod y).before a0 Z = true) (w3 : (Jvm.Cond.selects y.cls y y).before a0 Z = true) (wp : (Jvm.Cond.privateMethod y).before a0 Z = true) (w5 : (Jvm.Cond.code y bytes' maxL' ret').before a0 Z = true) (w6 : (Jvm.Cond.initialized y.cls).before a0 Z = true) (hy : y.cls ≠ "java/lang/invoke/MethodHandle" ∧ y.cls ≠ "java/lang/invoke/VarHandle")
    {a : Addr} {Cn : String} (E : Exa Z h a Cn) (C : own_C l Z y bytes' maxL' ret' [] rm W' (.ref a :: argsL).toArray h Q') (hWW : ∀ a ∈ W', a ∈ W ∨ hs.size ≤ a) (pd : parseMethodDescriptor y.desc = some ⟨ps, rt⟩) (hlen : argsL.length = ps.length) (hsz : Ls.size = maxL) (hst : st = argsL.reverse ++ .ref a :: rest)
    (hd : decode bytes pc = .ok (.invokevirtual index, 3)) (hfr : rm.frames + 1 ≤ R.frames) (hlo : (rest.map fun v => v.category).sum + (maxL' + 11) + rm.locals ≤ R.locals) (hc : cells + rm.cells ≤ R.cells) (hsl : slots + rm.slots ≤ R.slots)
    (f : ∀ T' h' v, own_S Z hs W own bytes maxL ret nm p l e R s m args below meth c T' h' (cells + rm.cells) (slots + rm.slots) → Keep h h' W' → Q' v h' → own_F p e below s Z hs W k n Q (T'.setTop (mkF m (pc + 3) Ls (v.toList ++ rest)))) : own_F p e below s Z hs W k n Q (T.setTop (mkF m pc Ls st)) := by
  have S' := S
  obtain ⟨G, locs, X, N, e0, K⟩ := S
  obtain ⟨cq, qq, qq'⟩ := E.cell
  obtain ⟨v, _, ⟨T', L', k', n'⟩, -, X', ⟨Lc, hQ, h1, h2, h3⟩, st⟩ := X.privateBack S'.hx (y := y) S'.hown (mvT S'.hZ w1) (mvT S'.hZ w2) (mvT S'.hZ w3) (Cond.privateMethod_at (mvP S'.hZ wp (args := #[]))) (mvT S'.hZ w5) hy (backOf (W := (rest.map fun v => v.category).sum) (Q := fun v hh L => Fr Z.heap.size L ∧ Keep h hh W' ∧ Q' v hh) C S'.hZ w5 w6 hfr hlo) (g := mkF m pc Ls st) rfl (hsz.trans S'.hml.symm) (Steps.refl _) (a := a) (by rw [e0]; exact qq) qq' (argsL := argsL) (rest := rest) (lenOf pd hlen) hst (by show 2 * 0 + _ ≤ _; omega) (S'.dec hd) (fun _ _ => ⟨rfl, e0, hc, hsl⟩)
  dsimp only [Pt.U, Pt.locs, Pt.cells, Pt.slots] at X' h1 h2 h3 st hQ
  subst h1 h2 h3
  obtain ⟨N', K', q⟩ := hQ
  exact own_F.to st (f T' T'.heap v ⟨G, _, X', Fr.app N N', rfl, K.trans K' hWW⟩ K' q)
theorem own_callU (S : own_S Z hs W own bytes maxL ret nm p l e R s m args below meth c T h cells slots) {Cn owner : String}
    (w1 : (Jvm.Cond.methodLink own index y).before a0 Z = true) (w2 : (Jvm.Cond.sameMethod y.cls owner y.name y.desc).before a0 Z = true) (w7 : (Jvm.Cond.declares ⟨owner, y.name, y.desc⟩).before a0 Z = true) (hy : owner ≠ "java/lang/invoke/MethodHandle" ∧ owner ≠ "java/lang/invoke/VarHandle") (w3 : (Jvm.Cond.selects Cn y y').before a0 Z = true) (w4 : (Jvm.Cond.instanceMethod y').before a0 Z = true) (w5 : (Jvm.Cond.code y' bytes' maxL' ret').before a0 Z = true) (w6 : (Jvm.Cond.initialized y'.cls).before a0 Z = true)
    {a : Addr} (E : Exa Z h a Cn) (C : own_C l Z y' bytes' maxL' ret' [] rm W' (.ref a :: argsL).toArray h Q') (hWW : ∀ a ∈ W', a ∈ W ∨ hs.size ≤ a) (pd : parseMethodDescriptor y.desc = some ⟨ps, rt⟩) (hlen : argsL.length = ps.length) (hsz : Ls.size = maxL) (hst : st = argsL.reverse ++ .ref a :: rest)
    (hd : decode bytes pc = .ok (.invokevirtual index, 3)) (hfr : rm.frames + 1 ≤ R.frames) (hlo : (rest.map fun v => v.category).sum + (maxL' + 11) + rm.locals ≤ R.locals) (hc : cells + rm.cells ≤ R.cells) (hsl : slots + rm.slots ≤ R.slots)
    (f : ∀ T' h' v, own_S Z hs W own bytes maxL ret nm p l e R s m args below meth c T' h' (cells + rm.cells) (slots + rm.slots) → Keep h h' W' → Q' v h' → own_F p e below s Z hs W k n Q (T'.setTop (mkF m (pc + 3) Ls (v.toList ++ rest)))) : own_F p e below s Z hs W k n Q (T.setTop (mkF m pc Ls st)) := by
  have S' := S
  obtain ⟨G, locs, X, N, e0, K⟩ := S
  obtain ⟨cq, kq, qa, qb, qc⟩ := isOf S'.hZ e0 E
  obtain ⟨v, _, ⟨T', L', k', n'⟩, -, X', ⟨Lc, hQ, h1, h2, h3⟩, st⟩ := X.virtualBackUp S'.hx (x := y) (y := y') S'.hown (mvT S'.hZ w1) (mvT S'.hZ w2) (mvT S'.hZ w7) hy (mvT S'.hZ w3) (mvT S'.hZ w4) (backOf (W := (rest.map fun v => v.category).sum) (Q := fun v hh L => Fr Z.heap.size L ∧ Keep h hh W' ∧ Q' v hh) C S'.hZ w5 w6 hfr hlo) qa qc (g := mkF m pc Ls st) rfl (hsz.trans S'.hml.symm) (Steps.refl _) (argsL := argsL) (rest := rest) (lenOf pd hlen) hst (by show 2 * 0 + _ ≤ _; omega) (S'.dec hd) (fun _ _ => ⟨rfl, e0, hc, hsl⟩)
  dsimp only [Pt.U, Pt.locs, Pt.cells, Pt.slots] at X' h1 h2 h3 st hQ
  subst h1 h2 h3
  obtain ⟨N', K', q⟩ := hQ
  exact own_F.to st (f T' T'.heap v ⟨G, _, X', Fr.app N N', rfl, K.trans K' hWW⟩ K' q)
/-! casts and tests of classes -/
theorem own_cast (S : own_S Z hs W own bytes maxL ret nm p l e R s m args below meth c T h cells slots) {Kn : String} {a : Addr} (w : (Jvm.Cond.classLink own index Kn).before a0 Z = true) (F : Ins Z h a Kn true) (hd : decode bytes pc = .ok (.checkcast index, 3))
    (f : ∀ T', own_S Z hs W own bytes maxL ret nm p l e R s m args below meth c T' h cells slots → own_F p e below s Z hs W k n Q (T'.setTop (mkF m (pc + 3) Ls (.ref a :: rest)))) : own_F p e below s Z hs W k n Q (T.setTop (mkF m pc Ls (.ref a :: rest))) := by
  have S' := S
  obtain ⟨G, locs, X, N, e0, K⟩ := S
  obtain ⟨T', X', e', st⟩ := castY X S'.hx S'.hZ S'.hown w e0 F (g := mkF m pc Ls (.ref a :: rest)) rfl rfl (S'.dec hd)
  exact own_F.of st (f T' ⟨G, locs, X', N, e', K⟩)
theorem own_inst (S : own_S Z hs W own bytes maxL ret nm p l e R s m args below meth c T h cells slots) {Kn : String} {a : Addr} (w : (Jvm.Cond.classLink own index Kn).before a0 Z = true) (F : Ins Z h a Kn true) (hd : decode bytes pc = .ok (.instanceof index, 3))
    (f : ∀ T', own_S Z hs W own bytes maxL ret nm p l e R s m args below meth c T' h cells slots → own_F p e below s Z hs W k n Q (T'.setTop (mkF m (pc + 3) Ls (.int (1 : Int32) :: rest)))) : own_F p e below s Z hs W k n Q (T.setTop (mkF m pc Ls (.ref a :: rest))) := by
  have S' := S
  obtain ⟨G, locs, X, N, e0, K⟩ := S
  obtain ⟨T', X', e', st⟩ := instY X S'.hx S'.hZ S'.hown w e0 F (g := mkF m pc Ls (.ref a :: rest)) rfl rfl (S'.dec hd)
  exact own_F.of st (f T' ⟨G, locs, X', N, e', K⟩)

/-! more single steps -/
theorem own_irem (S : own_S Z hs W own bytes maxL ret nm p l e R s m args below meth c T h cells slots) {x y : Int32} {t : State} (hd : decode bytes pc = .ok (.irem, 1)) (hy : y ≠ 0) (k : Steps p.tables e below (T.setTop (mkF m (pc + 1) Ls (.int (x % y) :: rest))) t) : Steps p.tables e below (T.setTop (mkF m pc Ls (.int y :: .int x :: rest))) t := by
  obtain ⟨locs, X, -⟩ := S.2
  exact iremM X S.hx (g := mkF m pc Ls (.int y :: .int x :: rest)) rfl (S.dec hd) rfl hy k
theorem own_lrem (S : own_S Z hs W own bytes maxL ret nm p l e R s m args below meth c T h cells slots) {x y : Int64} {t : State} (hd : decode bytes pc = .ok (.lrem, 1)) (hy : y ≠ 0) (k : Steps p.tables e below (T.setTop (mkF m (pc + 1) Ls (.long (x % y) :: rest))) t) : Steps p.tables e below (T.setTop (mkF m pc Ls (.long y :: .long x :: rest))) t := by
  have q : x - x / y * y = x % y := lrem_mod x y
  exact XS.lrem S.here S.hx (g := mkF m pc Ls (.long y :: .long x :: rest)) rfl (S.dec hd) rfl hy (by rw [q]; exact k)
theorem own_ldcI (S : own_S Z hs W own bytes maxL ret nm p l e R s m args below meth c T h cells slots) {i : Nat} {v : Int32} (w : (Jvm.Cond.constant own i v).before a0 Z = true) (hd : decode bytes pc = .ok (.ldc i, 2)) (f : own_F p e below s Z hs W k n Q (T.setTop (mkF m (pc + 2) Ls (.int v :: st)))) : own_F p e below s Z hs W k n Q (T.setTop (mkF m pc Ls st)) := by
  obtain ⟨locs, X, -⟩ := S.2
  exact own_F.of (X.ldcInt S.hx S.hown (mvT S.hZ w) (g := mkF m pc Ls st) rfl (S.dec hd)) f
theorem own_ldcIw (S : own_S Z hs W own bytes maxL ret nm p l e R s m args below meth c T h cells slots) {i : Nat} {v : Int32} (w : (Jvm.Cond.constant own i v).before a0 Z = true) (hd : decode bytes pc = .ok (.ldc_w i, 3)) (f : own_F p e below s Z hs W k n Q (T.setTop (mkF m (pc + 3) Ls (.int v :: st)))) : own_F p e below s Z hs W k n Q (T.setTop (mkF m pc Ls st)) := by
  obtain ⟨locs, X, -⟩ := S.2
  exact own_F.of (X.ldcwInt S.hx S.hown (mvT S.hZ w) (g := mkF m pc Ls st) rfl (S.dec hd)) f
theorem own_ldcJ (S : own_S Z hs W own bytes maxL ret nm p l e R s m args below meth c T h cells slots) {i : Nat} {v : Int64} (w : (Jvm.Cond.constantLong own i v).before a0 Z = true) (hd : decode bytes pc = .ok (.ldc2_w i, 3)) (f : own_F p e below s Z hs W k n Q (T.setTop (mkF m (pc + 3) Ls (.long v :: st)))) : own_F p e below s Z hs W k n Q (T.setTop (mkF m pc Ls st)) := by
  obtain ⟨locs, X, -⟩ := S.2
  exact own_F.of (X.ldc2Long S.hx S.hown (mvT S.hZ w) (g := mkF m pc Ls st) rfl (S.dec hd)) f
theorem own_narR {ty : FieldType} {v : Value} (ht : ty.isReference = true) (hv : v.isRef = true) : narrow ty v = v := by cases v <;> simp [Value.isRef] at hv <;> cases ty <;> simp [FieldType.isReference] at ht <;> rfl
theorem own_fitR {ty : FieldType} {v : Value} (ht : ty.isReference = true) (hv : v.isRef = true) : fits ty v = true := by cases v <;> simp [Value.isRef] at hv <;> cases ty <;> simp [FieldType.isReference] at ht <;> rfl

/-! from the case's words to facts of the start -/
theorem own_extRefl (h : Heap) : Ext h h := ⟨Nat.le_refl _, fun _ _ q => q⟩
theorem own_sta {C fn d K : String} (hx : (Jvm.Cond.exactly (.static C fn d) K).value a0 Z none Z [] = some true) (w1 : (Jvm.Cond.initialized C).before a0 Z = true) (w2 : (Jvm.Cond.laysStatic C fn d).before a0 Z = true) :
    ∃ a, (Term.static C fn d).eval a0 Z none [] Z = some (.ref a) ∧ Sta Z Z.heap C fn d (.ref a) ∧ Exa Z Z.heap a K := by
  obtain ⟨a, ev⟩ := exa_v hx
  exact ⟨a, ev, Sta.start ev (Or.inr ⟨w1, w2⟩), Exa.start ev hx⟩
theorem own_fldI {t : Term} {C fn d : String} {a : Addr} {v : Int32} (ev : t.eval a0 Z none [] Z = some (.ref a)) (hx : (Jvm.Cond.eq (.field t C fn d) (.int v)).value a0 Z none Z [] = some true) : Fld Z Z.heap a C fn d (.int v) := by
  obtain ⟨x, y, h1, h2, -⟩ := cmp_v (Or.inl hx)
  have h2' : y = .int v := by simpa [Term.eval] using h2.symm
  subst h2'
  have h3 : x = .int v := by
    simp only [Jvm.Cond.value, h1, h2] at hx
    cases x <;> simp at hx
    rw [hx]
  subst h3
  refine Fld.start ?_
  simpa [Term.eval, ev] using h1
end OwnPrelude
/-! OWN: arrays by their whole contents -/
section OwnArrays
variable {Z : State} {hs : Heap} {W : List Addr} {own : String} {bytes : ByteArray} {maxL : Nat} {ret : Option FieldType} {nm : String}
  {p : Program} {l : Launch} {e : Env} {R : Room} {s : State} {m : MethodId} {args : Array Value} {below : List Frame} {meth : Method} {c : Code}
  {T : State} {h h' : Heap} {cells slots : Nat} {k n : Nat} {Q : Option Value → Heap → Prop} {a0 : Array Value} {pc : Nat} {Ls : Array Slot} {st rest : List Value} {a b : Addr} {ty : FieldType} {vs : List Value} {v : Value} {j x : Int32}

def own_A (Z : State) (h : Heap) (a : Addr) (ty : FieldType) (vs : List Value) : Prop := ∃ cl : Cell, Arr Z h a cl ty ∧ cl.slots.toList = vs ∧ vs.length < 2 ^ 31
theorem own_A.lt (F : own_A Z h a ty vs) : a < h.size := by obtain ⟨_, A, -⟩ := F; exact A.lt
theorem own_A.ext (F : own_A Z h a ty vs) (E : Ext h h') : own_A Z h' a ty vs := by obtain ⟨cl, A, r⟩ := F; exact ⟨cl, A.ext E, r⟩
theorem own_A.other {sl : Nat} {w : Value} (F : own_A Z h b ty vs) (Wt : Wr h h' a sl w) (q : b ≠ a) : own_A Z h' b ty vs := by obtain ⟨cl, A, r⟩ := F; exact ⟨cl, A.other Wt q, r⟩
theorem own_A.keep {ws : List Addr} (F : own_A Z h a ty vs) (K : Keep h h' ws) (q : a ∉ ws) : own_A Z h' a ty vs := by obtain ⟨cl, A, r⟩ := F; exact ⟨cl, ⟨K.2.1 a cl A.1 q, A.2⟩, r⟩
theorem own_A.set {i : Nat} (F : own_A Z h a ty vs) (Wt : Wr h h' a i v) : own_A Z h' a ty (vs.set i v) := by
  obtain ⟨cl, A, r1, r2⟩ := F
  subst r1
  refine ⟨cl.setSlot i v, A.same Wt, ?_, by simpa using r2⟩
  simp [Cell.setSlot]
theorem own_A.inb {cl : Cell} {vs : List Value} (r1 : cl.slots.toList = vs) (h0 : ¬ j < 0) (hv : j.toNatClampNeg < vs.length) : ¬ (j < 0 ∨ cl.slots.size ≤ j.toNatClampNeg) := by
  rintro (q | q)
  · exact h0 q
  · subst r1; simp at hv; omega
theorem own_A.get {cl : Cell} {vs : List Value} {i : Nat} (r1 : cl.slots.toList = vs) (hv : vs[i]? = some v) : cl.slots[i]? = some v := by subst r1; simpa using hv
theorem own_A.ix {i : Nat} (hv : vs[i]? = some v) : i < vs.length := (List.getElem?_eq_some_iff.mp hv).1
theorem own_len (S : own_S Z hs W own bytes maxL ret nm p l e R s m args below meth c T h cells slots) (F : own_A Z h a ty vs) (hd : decode bytes pc = .ok (.arraylength, 1))
    (f : own_F p e below s Z hs W k n Q (T.setTop (mkF m (pc + 1) Ls (.int vs.length.toInt32 :: rest)))) : own_F p e below s Z hs W k n Q (T.setTop (mkF m pc Ls (.ref a :: rest))) := by
  have S' := S
  obtain ⟨G, locs, X, N, e0, K⟩ := S
  obtain ⟨cl, A, r1, r2⟩ := F
  have q : cl.slots.size = vs.length := by rw [← r1]; simp
  rw [← q] at f
  exact own_F.of (fun t => X.arraylength S'.hx (by rw [e0]; exact A.1) (State.isArrayOf_alike S'.hZ.alike A.2.1) (g := mkF m pc Ls (.ref a :: rest)) rfl rfl (S'.dec hd) t) f
theorem own_iald (S : own_S Z hs W own bytes maxL ret nm p l e R s m args below meth c T h cells slots) (F : own_A Z h a .int vs) (h0 : ¬ j < 0) (hv : vs[j.toNatClampNeg]? = some v) (hd : decode bytes pc = .ok (.iaload, 1))
    (f : own_F p e below s Z hs W k n Q (T.setTop (mkF m (pc + 1) Ls (v :: rest)))) : own_F p e below s Z hs W k n Q (T.setTop (mkF m pc Ls (.int j :: .ref a :: rest))) := by
  have S' := S
  obtain ⟨G, locs, X, N, e0, K⟩ := S
  obtain ⟨cl, A, r1, r2⟩ := F
  exact own_F.of (fun t => X.iaload S'.hx (by rw [e0]; exact A.1) (State.isArrayOf_alike S'.hZ.alike A.2.1) A.2.2 (own_A.inb r1 h0 (own_A.ix hv)) (own_A.get r1 hv) (g := mkF m pc Ls (.int j :: .ref a :: rest)) rfl rfl (S'.dec hd) t) f
theorem own_lald (S : own_S Z hs W own bytes maxL ret nm p l e R s m args below meth c T h cells slots) (F : own_A Z h a .long vs) (h0 : ¬ j < 0) (hv : vs[j.toNatClampNeg]? = some v) (hd : decode bytes pc = .ok (.laload, 1))
    (f : own_F p e below s Z hs W k n Q (T.setTop (mkF m (pc + 1) Ls (v :: rest)))) : own_F p e below s Z hs W k n Q (T.setTop (mkF m pc Ls (.int j :: .ref a :: rest))) := by
  have S' := S
  obtain ⟨G, locs, X, N, e0, K⟩ := S
  obtain ⟨cl, A, r1, r2⟩ := F
  exact own_F.of (fun t => X.laload S'.hx (by rw [e0]; exact A.1) (State.isArrayOf_alike S'.hZ.alike A.2.1) A.2.2 (own_A.inb r1 h0 (own_A.ix hv)) (own_A.get r1 hv) (g := mkF m pc Ls (.int j :: .ref a :: rest)) rfl rfl (S'.dec hd) t) f
theorem own_cald (S : own_S Z hs W own bytes maxL ret nm p l e R s m args below meth c T h cells slots) (F : own_A Z h a .char vs) (h0 : ¬ j < 0) (hv : vs[j.toNatClampNeg]? = some v) (hd : decode bytes pc = .ok (.caload, 1))
    (f : own_F p e below s Z hs W k n Q (T.setTop (mkF m (pc + 1) Ls (v :: rest)))) : own_F p e below s Z hs W k n Q (T.setTop (mkF m pc Ls (.int j :: .ref a :: rest))) := by
  have S' := S
  obtain ⟨G, locs, X, N, e0, K⟩ := S
  obtain ⟨cl, A, r1, r2⟩ := F
  exact own_F.of (fun t => X.caload S'.hx (by rw [e0]; exact A.1) (State.isArrayOf_alike S'.hZ.alike A.2.1) A.2.2 (own_A.inb r1 h0 (own_A.ix hv)) (own_A.get r1 hv) (g := mkF m pc Ls (.int j :: .ref a :: rest)) rfl rfl (S'.dec hd) t) f
theorem own_bald (S : own_S Z hs W own bytes maxL ret nm p l e R s m args below meth c T h cells slots) (F : own_A Z h a .byte vs) (h0 : ¬ j < 0) (hv : vs[j.toNatClampNeg]? = some v) (hd : decode bytes pc = .ok (.baload, 1))
    (f : own_F p e below s Z hs W k n Q (T.setTop (mkF m (pc + 1) Ls (v :: rest)))) : own_F p e below s Z hs W k n Q (T.setTop (mkF m pc Ls (.int j :: .ref a :: rest))) := by
  have S' := S
  obtain ⟨G, locs, X, N, e0, K⟩ := S
  obtain ⟨cl, A, r1, r2⟩ := F
  exact own_F.of (fun t => X.baloadBytes S'.hx (by rw [e0]; exact A.1) (State.isArrayOf_alike S'.hZ.alike A.2.1) A.2.2 (own_A.inb r1 h0 (own_A.ix hv)) (own_A.get r1 hv) (g := mkF m pc Ls (.int j :: .ref a :: rest)) rfl rfl (S'.dec hd) t) f
theorem own_zald (S : own_S Z hs W own bytes maxL ret nm p l e R s m args below meth c T h cells slots) (F : own_A Z h a .boolean vs) (h0 : ¬ j < 0) (hv : vs[j.toNatClampNeg]? = some v) (hd : decode bytes pc = .ok (.baload, 1))
    (f : own_F p e below s Z hs W k n Q (T.setTop (mkF m (pc + 1) Ls (v :: rest)))) : own_F p e below s Z hs W k n Q (T.setTop (mkF m pc Ls (.int j :: .ref a :: rest))) := by
  have S' := S
  obtain ⟨G, locs, X, N, e0, K⟩ := S
  obtain ⟨cl, A, r1, r2⟩ := F
  exact own_F.of (fun t => X.baloadBooleans S'.hx (by rw [e0]; exact A.1) (State.isArrayOf_alike S'.hZ.alike A.2.1) A.2.2 (own_A.inb r1 h0 (own_A.ix hv)) (own_A.get r1 hv) (g := mkF m pc Ls (.int j :: .ref a :: rest)) rfl rfl (S'.dec hd) t) f
theorem own_aald (S : own_S Z hs W own bytes maxL ret nm p l e R s m args below meth c T h cells slots) (F : own_A Z h a ty vs) (hty : ty.isReference = true) (h0 : ¬ j < 0) (hv : vs[j.toNatClampNeg]? = some v) (hd : decode bytes pc = .ok (.aaload, 1))
    (f : own_F p e below s Z hs W k n Q (T.setTop (mkF m (pc + 1) Ls (v :: rest)))) : own_F p e below s Z hs W k n Q (T.setTop (mkF m pc Ls (.int j :: .ref a :: rest))) := by
  have S' := S
  obtain ⟨G, locs, X, N, e0, K⟩ := S
  obtain ⟨cl, A, r1, r2⟩ := F
  exact own_F.of (fun t => X.aaload S'.hx (by rw [e0]; exact A.1) (State.isArrayOf_alike S'.hZ.alike A.2.1) hty A.2.2 (own_A.inb r1 h0 (own_A.ix hv)) (own_A.get r1 hv) (g := mkF m pc Ls (.int j :: .ref a :: rest)) rfl rfl (S'.dec hd) t) f
theorem own_ist (S : own_S Z hs W own bytes maxL ret nm p l e R s m args below meth c T h cells slots) (F : own_A Z h a .int vs) (h0 : ¬ j < 0) (hv : j.toNatClampNeg < vs.length) (hd : decode bytes pc = .ok (.iastore, 1)) (ok : a ∈ W ∨ hs.size ≤ a)
    (f : ∀ T' h', own_S Z hs W own bytes maxL ret nm p l e R s m args below meth c T' h' cells slots → Wr h h' a j.toNatClampNeg (.int x) → own_A Z h' a .int (vs.set j.toNatClampNeg (.int x)) → own_F p e below s Z hs W k n Q (T'.setTop (mkF m (pc + 1) Ls rest))) : own_F p e below s Z hs W k n Q (T.setTop (mkF m pc Ls (.int x :: .int j :: .ref a :: rest))) := by
  have S' := S; have F' := F
  obtain ⟨G, locs, X, N, e0, K⟩ := S
  obtain ⟨cl, A, r1, r2⟩ := F
  obtain ⟨T', h', X', e', Wt, stp⟩ := stI X S'.hx S'.hZ e0 A (own_A.inb r1 h0 hv) (g := mkF m pc Ls (.int x :: .int j :: .ref a :: rest)) rfl rfl (S'.dec hd)
  exact own_F.of stp (f T' h' ⟨G, _, X', Fr.snoc X' N (S'.may ok), e', K.wr Wt ok⟩ Wt (F'.set Wt))
theorem own_jst {x : Int64} (S : own_S Z hs W own bytes maxL ret nm p l e R s m args below meth c T h cells slots) (F : own_A Z h a .long vs) (h0 : ¬ j < 0) (hv : j.toNatClampNeg < vs.length) (hd : decode bytes pc = .ok (.lastore, 1)) (ok : a ∈ W ∨ hs.size ≤ a)
    (f : ∀ T' h', own_S Z hs W own bytes maxL ret nm p l e R s m args below meth c T' h' cells slots → Wr h h' a j.toNatClampNeg (.long x) → own_A Z h' a .long (vs.set j.toNatClampNeg (.long x)) → own_F p e below s Z hs W k n Q (T'.setTop (mkF m (pc + 1) Ls rest))) : own_F p e below s Z hs W k n Q (T.setTop (mkF m pc Ls (.long x :: .int j :: .ref a :: rest))) := by
  have S' := S; have F' := F
  obtain ⟨G, locs, X, N, e0, K⟩ := S
  obtain ⟨cl, A, r1, r2⟩ := F
  obtain ⟨T', h', X', e', Wt, stp⟩ := stJ X S'.hx S'.hZ e0 A (own_A.inb r1 h0 hv) (g := mkF m pc Ls (.long x :: .int j :: .ref a :: rest)) rfl rfl (S'.dec hd)
  exact own_F.of stp (f T' h' ⟨G, _, X', Fr.snoc X' N (S'.may ok), e', K.wr Wt ok⟩ Wt (F'.set Wt))
theorem own_cst (S : own_S Z hs W own bytes maxL ret nm p l e R s m args below meth c T h cells slots) (F : own_A Z h a .char vs) (h0 : ¬ j < 0) (hv : j.toNatClampNeg < vs.length) (hd : decode bytes pc = .ok (.castore, 1)) (ok : a ∈ W ∨ hs.size ≤ a)
    (f : ∀ T' h', own_S Z hs W own bytes maxL ret nm p l e R s m args below meth c T' h' cells slots → Wr h h' a j.toNatClampNeg (.int (nar .char x)) → own_A Z h' a .char (vs.set j.toNatClampNeg (.int (nar .char x))) → own_F p e below s Z hs W k n Q (T'.setTop (mkF m (pc + 1) Ls rest))) : own_F p e below s Z hs W k n Q (T.setTop (mkF m pc Ls (.int x :: .int j :: .ref a :: rest))) := by
  have S' := S; have F' := F
  obtain ⟨G, locs, X, N, e0, K⟩ := S
  obtain ⟨cl, A, r1, r2⟩ := F
  obtain ⟨T', h', X', e', Wt, stp⟩ := stC X S'.hx S'.hZ e0 A (own_A.inb r1 h0 hv) (g := mkF m pc Ls (.int x :: .int j :: .ref a :: rest)) rfl rfl (S'.dec hd)
  exact own_F.of stp (f T' h' ⟨G, _, X', Fr.snoc X' N (S'.may ok), e', K.wr Wt ok⟩ Wt (F'.set Wt))
theorem own_bst (S : own_S Z hs W own bytes maxL ret nm p l e R s m args below meth c T h cells slots) (F : own_A Z h a .byte vs) (h0 : ¬ j < 0) (hv : j.toNatClampNeg < vs.length) (hd : decode bytes pc = .ok (.bastore, 1)) (ok : a ∈ W ∨ hs.size ≤ a)
    (f : ∀ T' h', own_S Z hs W own bytes maxL ret nm p l e R s m args below meth c T' h' cells slots → Wr h h' a j.toNatClampNeg (.int (nar .byte x)) → own_A Z h' a .byte (vs.set j.toNatClampNeg (.int (nar .byte x))) → own_F p e below s Z hs W k n Q (T'.setTop (mkF m (pc + 1) Ls rest))) : own_F p e below s Z hs W k n Q (T.setTop (mkF m pc Ls (.int x :: .int j :: .ref a :: rest))) := by
  have S' := S; have F' := F
  obtain ⟨G, locs, X, N, e0, K⟩ := S
  obtain ⟨cl, A, r1, r2⟩ := F
  obtain ⟨T', h', X', e', Wt, stp⟩ := stB X S'.hx S'.hZ e0 A (own_A.inb r1 h0 hv) (g := mkF m pc Ls (.int x :: .int j :: .ref a :: rest)) rfl rfl (S'.dec hd)
  exact own_F.of stp (f T' h' ⟨G, _, X', Fr.snoc X' N (S'.may ok), e', K.wr Wt ok⟩ Wt (F'.set Wt))
theorem own_zst (S : own_S Z hs W own bytes maxL ret nm p l e R s m args below meth c T h cells slots) (F : own_A Z h a .boolean vs) (h0 : ¬ j < 0) (hv : j.toNatClampNeg < vs.length) (hd : decode bytes pc = .ok (.bastore, 1)) (ok : a ∈ W ∨ hs.size ≤ a)
    (f : ∀ T' h', own_S Z hs W own bytes maxL ret nm p l e R s m args below meth c T' h' cells slots → Wr h h' a j.toNatClampNeg (.int (nar .boolean x)) → own_A Z h' a .boolean (vs.set j.toNatClampNeg (.int (nar .boolean x))) → own_F p e below s Z hs W k n Q (T'.setTop (mkF m (pc + 1) Ls rest))) : own_F p e below s Z hs W k n Q (T.setTop (mkF m pc Ls (.int x :: .int j :: .ref a :: rest))) := by
  have S' := S; have F' := F
  obtain ⟨G, locs, X, N, e0, K⟩ := S
  obtain ⟨cl, A, r1, r2⟩ := F
  obtain ⟨T', h', X', e', Wt, stp⟩ := stZ X S'.hx S'.hZ e0 A (own_A.inb r1 h0 hv) (g := mkF m pc Ls (.int x :: .int j :: .ref a :: rest)) rfl rfl (S'.dec hd)
  exact own_F.of stp (f T' h' ⟨G, _, X', Fr.snoc X' N (S'.may ok), e', K.wr Wt ok⟩ Wt (F'.set Wt))
theorem own_newP (S : own_S Z hs W own bytes maxL ret nm p l e R s m args below meth c T h cells slots) {aty : ArrayType} {z : Int32} (w : (Jvm.Cond.arrayClass (newarray.typeOf aty)).before a0 Z = true) (hd : decode bytes pc = .ok (.newarray aty, 2)) (hz : ¬ z < 0) {cap : Nat} (hcap : z.toNatClampNeg ≤ cap) (hb : cap * 8 ≤ 536870912) (hc : cells + 1 ≤ R.cells) (hl : slots + cap ≤ R.slots)
    (f : ∀ T' h' a, a = h.size → own_S Z hs W own bytes maxL ret nm p l e R s m args below meth c T' h' (cells + 1) (slots + cap) → Ext h h' → own_A Z h' a (newarray.typeOf aty) (List.replicate z.toNatClampNeg (defaultValue (newarray.typeOf aty))) → own_F p e below s Z hs W k n Q (T'.setTop (mkF m (pc + 2) Ls (.ref a :: rest)))) : own_F p e below s Z hs W k n Q (T.setTop (mkF m pc Ls (.int z :: rest))) := by
  have S' := S
  obtain ⟨G, locs, X, N, e0, K⟩ := S
  obtain ⟨T', h', cA, X', e', E, A, stp⟩ := newP X S'.hx S'.hZ w e0 (g := mkF m pc Ls (.int z :: rest)) rfl (S'.dec hd) rfl hz hcap hb hc hl
  refine own_F.of stp (f T' h' _ rfl ⟨G, _, X', N, e', K.ext E⟩ E ⟨_, A, by simp [newA], ?_⟩)
  have := (back32 hz).2
  simpa using this
/-- an array that stands at the start -/
theorem own_A.start {t : Term} {z : Int32} (ev : t.eval a0 Z none [] Z = some (.ref a)) (hx : (Jvm.Cond.arrayOf t ty).value a0 Z none Z [] = some true) (hl : (Jvm.Cond.eq (.length t) (.int z)).value a0 Z none Z [] = some true) : ∃ cl : Cell, Arr Z Z.heap a cl ty ∧ cl.slots.size < 2 ^ 31 ∧ cl.slots.size.toInt32 = z ∧ Z.arrayAt? a = some cl := by
  obtain ⟨cl, A⟩ := Arr.start ev hx
  have q := A.fin (Vm.Alike.refl _)
  refine ⟨cl, A, ?_, ?_, q⟩
  all_goals
    obtain ⟨u, w, h1, h2, -⟩ := cmp_v (Or.inl hl)
    have h1' : (if cl.slots.size < 2 ^ 31 then some (Value.int cl.slots.size.toInt32) else none) = some u := by simpa [Term.eval, ev, q] using h1
    by_cases g : cl.slots.size < 2 ^ 31
    · first
        | exact g
        | (have e1 : u = .int cl.slots.size.toInt32 := by simpa [g] using h1'.symm
           have e2 : w = .int z := by simpa [Term.eval] using h2.symm
           subst e1 e2
           exact gotT (Cond.eq_ints h1 h2) hl)
    · simp [g] at h1'
end OwnArrays

theorem own_w {a0 : Array Value} {Z : State} (hw : ∀ d ∈ tables_1, d.before a0 Z = true) {d : Jvm.Cond} (i : Nat) (q : tables_1[i]? = some d) : d.before a0 Z = true := hw _ (List.mem_of_getElem? q)

def own_sp (x : Int32) : Int32 := if x = 33 then 1 else if x = 35 then 1 else if x = 36 then 1 else if x = 37 then 1 else if x = 38 then 1 else if x = 39 then 1 else if x = 42 then 1 else if x = 43 then 1 else if x = 45 then 1 else if x = 46 then 1 else if x = 94 then 1 else if x = 95 then 1 else if x = 96 then 1 else if x = 124 then 1 else if x = 126 then 1 else 0
def own_ex (x : Int32) : Int32 := if ¬ x < 48 ∧ ¬ 57 < x then 1 else if ¬ x < 65 ∧ ¬ 90 < x then 1 else if ¬ x < 97 ∧ ¬ 122 < x then 1 else own_sp x
def own_bit (j : Nat) : Int32 := own_ex j.toInt32
def own_tc (x : Int32) : Int32 := if x < 128 then own_bit x.toNatClampNeg else 0
theorem own_ite01 {q : Prop} [Decidable q] {y : Int32} (h : y = 0 ∨ y = 1) : (if q then 1 else y) = 0 ∨ (if q then 1 else y) = 1 := by
  split
  · exact Or.inr rfl
  · exact h
theorem own_sp01 (x : Int32) : own_sp x = 0 ∨ own_sp x = 1 := by
  unfold own_sp
  repeat (refine own_ite01 ?_)
  exact Or.inl rfl
theorem own_nsp (x : Int32) : nar .boolean (own_sp x) = own_sp x := by rcases own_sp01 x with h | h <;> rw [h] <;> rfl
theorem own_ex01 (x : Int32) : own_ex x = 0 ∨ own_ex x = 1 := by
  unfold own_ex
  split
  · exact Or.inr rfl
  · split
    · exact Or.inr rfl
    · split
      · exact Or.inr rfl
      · exact own_sp01 x
theorem own_chr (x : Int32) : ¬ x.toUInt32.toUInt16.toUInt32.toInt32 < 0 ∧ ¬ 65535 < x.toUInt32.toUInt16.toUInt32.toInt32 := by
  have h := c_i2c x
  rw [Int32.lt_iff_toInt_lt, Int32.lt_iff_toInt_lt]
  have e1 : (0 : Int32).toInt = 0 := rfl
  have e2 : (65535 : Int32).toInt = 65535 := rfl
  omega
theorem own_clamp {x : Int32} (h : ¬ x < 0) : x.toNatClampNeg.toInt32 = x := (back32 h).1
theorem own_far {x : Int32} (h : ¬ x < 128) : own_ex x = 0 := by
  have e : ∀ k : Int32, k < 128 → ¬ x < k ∧ k < x := fun k hk => by
    rw [Int32.lt_iff_toInt_lt] at *
    rw [Int32.lt_iff_toInt_lt]
    omega
  have d : ∀ k : Int32, k < 128 → ¬ x = k := fun k hk q => by subst q; exact h hk
  simp [own_ex, own_sp, (e 57 (by decide)).2, (e 90 (by decide)).2, (e 122 (by decide)).2, d 33 (by decide), d 35 (by decide), d 36 (by decide), d 37 (by decide), d 38 (by decide), d 39 (by decide), d 42 (by decide), d 43 (by decide), d 45 (by decide), d 46 (by decide), d 94 (by decide), d 95 (by decide), d 96 (by decide), d 124 (by decide), d 126 (by decide)]
theorem own_same {x : Int32} (h : ¬ x < 0) (h' : ¬ 65535 < x) : own_tc x = own_ex x := by
  unfold own_tc own_bit
  split
  · rw [own_clamp h]
  · next q => rw [own_far q]
def own_tab : List Value := (List.range 128).map fun j => .int (own_bit j)
theorem own_tab_at {j : Nat} (h : j < 128) : own_tab[j]? = some (.int (own_bit j)) := by simp [own_tab, h]

theorem d1_0 : decode prog_16_method_3_code 0 = .ok (.iload_n 0, 1) := by decide +kernel
theorem d1_1 : decode prog_16_method_3_code 1 = .ok (.getstatic 27, 3) := by decide +kernel
theorem d1_4 : decode prog_16_method_3_code 4 = .ok (.arraylength, 1) := by decide +kernel
theorem d1_5 : decode prog_16_method_3_code 5 = .ok (.if_icmp .ge 15, 3) := by decide +kernel
theorem d1_8 : decode prog_16_method_3_code 8 = .ok (.getstatic 27, 3) := by decide +kernel
theorem d1_11 : decode prog_16_method_3_code 11 = .ok (.iload_n 0, 1) := by decide +kernel
theorem d1_12 : decode prog_16_method_3_code 12 = .ok (.baload, 1) := by decide +kernel
theorem d1_13 : decode prog_16_method_3_code 13 = .ok (.ifCond .eq 7, 3) := by decide +kernel
theorem d1_16 : decode prog_16_method_3_code 16 = .ok (.iconst 1, 1) := by decide +kernel
theorem d1_17 : decode prog_16_method_3_code 17 = .ok (.goto 4, 3) := by decide +kernel
theorem d1_20 : decode prog_16_method_3_code 20 = .ok (.iconst 0, 1) := by decide +kernel
theorem d1_21 : decode prog_16_method_3_code 21 = .ok (.ireturn, 1) := by decide +kernel
theorem pn1 : plainFor (⟨"com/example/libidem/libidem/protocol/Token", "isTchar", "(C)Z"⟩ : MethodName) = true := plainFor_of_name (by first | (simp [plainName, overriddenIn]; done) | decide +kernel)
theorem own_lt128 {x : Int32} (h : ¬ x < 0) (h' : x < 128) : x.toNatClampNeg < 128 := by
  have := nat_of h
  rw [Int32.lt_iff_toInt_lt] at h'
  have e : (128 : Int32).toInt = 128 := rfl
  omega

set_option maxRecDepth 65536 in
set_option maxHeartbeats 40000000 in
theorem own_isTchar (l : Launch) (Z : State) (a0 : Array Value) (hw : ∀ d ∈ tables_1, d.before a0 Z = true) (p1 : Int32) (aT : Addr) (h0 : Heap) (hO : Ext Z.heap h0) (ST : Sta Z Z.heap "com/example/libidem/libidem/protocol/Token" "TCHAR" "[Z" (.ref aT)) (AT : own_A Z Z.heap aT .boolean own_tab) (hp : ¬ p1 < 0) :
    own_C l Z (⟨"com/example/libidem/libidem/protocol/Token", "isTchar", "(C)Z"⟩ : MethodName) prog_16_method_3_code 1 (some .boolean) [] ({ frames := 0, cells := 0, slots := 0, locals := 0 } : Room) [] #[(.int p1)] h0 (fun v h => v = some (.int (own_tc p1)) ∧ h0 = h) := by
  refine own_C.of pn1 hO all0 ?_
  intro p e s m below meth c T0 S0
  refine own_F.cast (by first | (simp [entryFrame, mkF, argsToLocals, Value.category]; done) | rfl : entryFrame m #[(.int p1)] 1 = mkF m 0 #[.val (.int p1)] []) ?_
  show own_F p e below s Z _ _ _ _ _ (T0.setTop (mkF m 0 #[.val (.int p1)] []))
  refine own_F.of (fun _ => XS.iloadN S0.here S0.hx rfl (S0.dec d1_0) rfl) ?_
  show own_F p e below s Z _ _ _ _ _ (T0.setTop (mkF m 1 #[.val (.int p1)] [(.int p1)]))
  refine own_getS S0 (host := "") (Or.inl (own_w hw 4 rfl)) Via.refl (ST.ext S0.old) d1_1 (fun T1 S1 => ?_)
  show own_F p e below s Z _ _ _ _ _ (T1.setTop (mkF m 4 #[.val (.int p1)] [(.ref aT), (.int p1)]))
  refine own_len S1 (AT.ext S1.old) d1_4 ?_
  show own_F p e below s Z _ _ _ _ _ (T1.setTop (mkF m 5 #[.val (.int p1)] [(.int (128 : Int32)), (.int p1)]))
  refine own_icmp S1 20 d1_5 (by decide) (by decide) (fun (hc5_2 : ¬ (p1 < (128 : Int32))) => ?_) (fun (hc5_2 : p1 < (128 : Int32)) => ?_)
  · show own_F p e below s Z _ _ _ _ _ (T1.setTop (mkF m 20 #[.val (.int p1)] []))
    refine own_F.of (fun _ => XS.iconst S1.here S1.hx rfl (S1.dec d1_20)) ?_
    show own_F p e below s Z _ _ _ _ _ (T1.setTop (mkF m 21 #[.val (.int p1)] [(.int (0 : Int32))]))
    refine own_retZ S1 (by simp) d1_21 (by decide) (by decide) ?_
    have hh : own_tc p1 = (0 : Int32) := by unfold own_tc; rw [if_neg hc5_2]
    rw [hh]; exact ⟨rfl, rfl⟩
  · show own_F p e below s Z _ _ _ _ _ (T1.setTop (mkF m 8 #[.val (.int p1)] []))
    refine own_getS S1 (host := "") (Or.inl (own_w hw 4 rfl)) Via.refl (ST.ext S1.old) d1_8 (fun T3 S3 => ?_)
    show own_F p e below s Z _ _ _ _ _ (T3.setTop (mkF m 11 #[.val (.int p1)] [(.ref aT)]))
    refine own_F.of (fun _ => XS.iloadN S3.here S3.hx rfl (S3.dec d1_11) rfl) ?_
    show own_F p e below s Z _ _ _ _ _ (T3.setTop (mkF m 12 #[.val (.int p1)] [(.int p1), (.ref aT)]))
    refine own_zald S3 (AT.ext S3.old) hp (own_tab_at (own_lt128 hp hc5_2)) d1_12 ?_
    show own_F p e below s Z _ _ _ _ _ (T3.setTop (mkF m 13 #[.val (.int p1)] [(.int (own_bit p1.toNatClampNeg))]))
    refine own_if S3 20 d1_13 (by decide) (by decide) (fun (hc13_4 : (own_bit p1.toNatClampNeg) = (0 : Int32)) => ?_) (fun (hc13_4 : ¬ ((own_bit p1.toNatClampNeg) = (0 : Int32))) => ?_)
    · show own_F p e below s Z _ _ _ _ _ (T3.setTop (mkF m 20 #[.val (.int p1)] []))
      refine own_F.of (fun _ => XS.iconst S3.here S3.hx rfl (S3.dec d1_20)) ?_
      show own_F p e below s Z _ _ _ _ _ (T3.setTop (mkF m 21 #[.val (.int p1)] [(.int (0 : Int32))]))
      refine own_retZ S3 (by simp) d1_21 (by decide) (by decide) ?_
      have hh : own_tc p1 = (0 : Int32) := by unfold own_tc; rw [if_pos hc5_2, hc13_4]
      rw [hh]; exact ⟨rfl, rfl⟩
    · show own_F p e below s Z _ _ _ _ _ (T3.setTop (mkF m 16 #[.val (.int p1)] []))
      refine own_F.of (fun _ => XS.iconst S3.here S3.hx rfl (S3.dec d1_16)) ?_
      show own_F p e below s Z _ _ _ _ _ (T3.setTop (mkF m 17 #[.val (.int p1)] [(.int (1 : Int32))]))
      refine own_F.of (fun _ => XS.goto S3.here S3.hx rfl (pc0 := 17) (pc' := 21) rfl (S3.dec d1_17) (by decide) (by decide)) ?_
      show own_F p e below s Z _ _ _ _ _ (T3.setTop (mkF m 21 #[.val (.int p1)] [(.int (1 : Int32))]))
      refine own_retZ S3 (by simp) d1_21 (by decide) (by decide) ?_
      have hh : own_tc p1 = (1 : Int32) := by unfold own_tc; rw [if_pos hc5_2]; exact (own_ex01 _).resolve_left hc13_4
      rw [hh]; exact ⟨rfl, rfl⟩
theorem d3_0 : decode method_2_code 0 = .ok (.iload_n 0, 1) := by decide +kernel
theorem d3_1 : decode method_2_code 1 = .ok (.bipush 33, 2) := by decide +kernel
theorem d3_3 : decode method_2_code 3 = .ok (.if_icmp .eq 87, 3) := by decide +kernel
theorem d3_6 : decode method_2_code 6 = .ok (.iload_n 0, 1) := by decide +kernel
theorem d3_7 : decode method_2_code 7 = .ok (.bipush 35, 2) := by decide +kernel
theorem d3_9 : decode method_2_code 9 = .ok (.if_icmp .eq 81, 3) := by decide +kernel
theorem d3_12 : decode method_2_code 12 = .ok (.iload_n 0, 1) := by decide +kernel
theorem d3_13 : decode method_2_code 13 = .ok (.bipush 36, 2) := by decide +kernel
theorem d3_15 : decode method_2_code 15 = .ok (.if_icmp .eq 75, 3) := by decide +kernel
theorem d3_18 : decode method_2_code 18 = .ok (.iload_n 0, 1) := by decide +kernel
theorem d3_19 : decode method_2_code 19 = .ok (.bipush 37, 2) := by decide +kernel
theorem d3_21 : decode method_2_code 21 = .ok (.if_icmp .eq 69, 3) := by decide +kernel
theorem d3_24 : decode method_2_code 24 = .ok (.iload_n 0, 1) := by decide +kernel
theorem d3_25 : decode method_2_code 25 = .ok (.bipush 38, 2) := by decide +kernel
theorem d3_27 : decode method_2_code 27 = .ok (.if_icmp .eq 63, 3) := by decide +kernel
theorem d3_30 : decode method_2_code 30 = .ok (.iload_n 0, 1) := by decide +kernel
theorem d3_31 : decode method_2_code 31 = .ok (.bipush 39, 2) := by decide +kernel
theorem d3_33 : decode method_2_code 33 = .ok (.if_icmp .eq 57, 3) := by decide +kernel
theorem d3_36 : decode method_2_code 36 = .ok (.iload_n 0, 1) := by decide +kernel
theorem d3_37 : decode method_2_code 37 = .ok (.bipush 42, 2) := by decide +kernel
theorem d3_39 : decode method_2_code 39 = .ok (.if_icmp .eq 51, 3) := by decide +kernel
theorem d3_42 : decode method_2_code 42 = .ok (.iload_n 0, 1) := by decide +kernel
theorem d3_43 : decode method_2_code 43 = .ok (.bipush 43, 2) := by decide +kernel
theorem d3_45 : decode method_2_code 45 = .ok (.if_icmp .eq 45, 3) := by decide +kernel
theorem d3_48 : decode method_2_code 48 = .ok (.iload_n 0, 1) := by decide +kernel
theorem d3_49 : decode method_2_code 49 = .ok (.bipush 45, 2) := by decide +kernel
theorem d3_51 : decode method_2_code 51 = .ok (.if_icmp .eq 39, 3) := by decide +kernel
theorem d3_54 : decode method_2_code 54 = .ok (.iload_n 0, 1) := by decide +kernel
theorem d3_55 : decode method_2_code 55 = .ok (.bipush 46, 2) := by decide +kernel
theorem d3_57 : decode method_2_code 57 = .ok (.if_icmp .eq 33, 3) := by decide +kernel
theorem d3_60 : decode method_2_code 60 = .ok (.iload_n 0, 1) := by decide +kernel
theorem d3_61 : decode method_2_code 61 = .ok (.bipush 94, 2) := by decide +kernel
theorem d3_63 : decode method_2_code 63 = .ok (.if_icmp .eq 27, 3) := by decide +kernel
theorem d3_66 : decode method_2_code 66 = .ok (.iload_n 0, 1) := by decide +kernel
theorem d3_67 : decode method_2_code 67 = .ok (.bipush 95, 2) := by decide +kernel
theorem d3_69 : decode method_2_code 69 = .ok (.if_icmp .eq 21, 3) := by decide +kernel
theorem d3_72 : decode method_2_code 72 = .ok (.iload_n 0, 1) := by decide +kernel
theorem d3_73 : decode method_2_code 73 = .ok (.bipush 96, 2) := by decide +kernel
theorem d3_75 : decode method_2_code 75 = .ok (.if_icmp .eq 15, 3) := by decide +kernel
theorem d3_78 : decode method_2_code 78 = .ok (.iload_n 0, 1) := by decide +kernel
theorem d3_79 : decode method_2_code 79 = .ok (.bipush 124, 2) := by decide +kernel
theorem d3_81 : decode method_2_code 81 = .ok (.if_icmp .eq 9, 3) := by decide +kernel
theorem d3_84 : decode method_2_code 84 = .ok (.iload_n 0, 1) := by decide +kernel
theorem d3_85 : decode method_2_code 85 = .ok (.bipush 126, 2) := by decide +kernel
theorem d3_87 : decode method_2_code 87 = .ok (.if_icmp .ne 7, 3) := by decide +kernel
theorem d3_90 : decode method_2_code 90 = .ok (.iconst 1, 1) := by decide +kernel
theorem d3_91 : decode method_2_code 91 = .ok (.goto 4, 3) := by decide +kernel
theorem d3_94 : decode method_2_code 94 = .ok (.iconst 0, 1) := by decide +kernel
theorem d3_95 : decode method_2_code 95 = .ok (.ireturn, 1) := by decide +kernel
theorem pn3 : plainFor (⟨"com/example/libidem/libidem/protocol/TokenIsTcharPinLaw", "isSpecial", "(C)Z"⟩ : MethodName) = true := plainFor_of_name (by first | (simp [plainName, overriddenIn]; done) | decide +kernel)
set_option maxRecDepth 65536 in
set_option maxHeartbeats 40000000 in
theorem own_special (l : Launch) (Z : State) (a0 : Array Value) (hw : ∀ d ∈ tables_1, d.before a0 Z = true) (p1 : Int32) (h0 : Heap) (hO : Ext Z.heap h0) :
    own_C l Z (⟨"com/example/libidem/libidem/protocol/TokenIsTcharPinLaw", "isSpecial", "(C)Z"⟩ : MethodName) method_2_code 1 (some .boolean) [] ({ frames := 0, cells := 0, slots := 0, locals := 0 } : Room) [] #[(.int p1)] h0 (fun v h => v = some (.int (own_sp p1)) ∧ h0 = h) := by
  refine own_C.of pn3 hO all0 ?_
  intro p e s m below meth c T0 S0
  refine own_F.cast (by first | (simp [entryFrame, mkF, argsToLocals, Value.category]; done) | rfl : entryFrame m #[(.int p1)] 1 = mkF m 0 #[.val (.int p1)] []) ?_
  show own_F p e below s Z _ _ _ _ _ (T0.setTop (mkF m 0 #[.val (.int p1)] []))
  refine own_F.of (fun _ => XS.iloadN S0.here S0.hx rfl (S0.dec d3_0) rfl) ?_
  show own_F p e below s Z _ _ _ _ _ (T0.setTop (mkF m 1 #[.val (.int p1)] [(.int p1)]))
  refine own_F.of (fun _ => XS.bipush S0.here S0.hx rfl (S0.dec d3_1)) ?_
  show own_F p e below s Z _ _ _ _ _ (T0.setTop (mkF m 3 #[.val (.int p1)] [(.int (33 : Int32)), (.int p1)]))
  refine own_icmp S0 90 d3_3 (by decide) (by decide) (fun (hc3_1 : p1 = (33 : Int32)) => ?_) (fun (hc3_1 : ¬ (p1 = (33 : Int32))) => ?_)
  · show own_F p e below s Z _ _ _ _ _ (T0.setTop (mkF m 90 #[.val (.int p1)] []))
    refine own_F.of (fun _ => XS.iconst S0.here S0.hx rfl (S0.dec d3_90)) ?_
    show own_F p e below s Z _ _ _ _ _ (T0.setTop (mkF m 91 #[.val (.int p1)] [(.int (1 : Int32))]))
    refine own_F.of (fun _ => XS.goto S0.here S0.hx rfl (pc0 := 91) (pc' := 95) rfl (S0.dec d3_91) (by decide) (by decide)) ?_
    show own_F p e below s Z _ _ _ _ _ (T0.setTop (mkF m 95 #[.val (.int p1)] [(.int (1 : Int32))]))
    refine own_retZ S0 (by simp) d3_95 (by decide) (by decide) ?_
    have hh : own_sp p1 = (1 : Int32) := by simp [own_sp, hc3_1]
    rw [hh]; exact ⟨rfl, rfl⟩
  · show own_F p e below s Z _ _ _ _ _ (T0.setTop (mkF m 6 #[.val (.int p1)] []))
    refine own_F.of (fun _ => XS.iloadN S0.here S0.hx rfl (S0.dec d3_6) rfl) ?_
    show own_F p e below s Z _ _ _ _ _ (T0.setTop (mkF m 7 #[.val (.int p1)] [(.int p1)]))
    refine own_F.of (fun _ => XS.bipush S0.here S0.hx rfl (S0.dec d3_7)) ?_
    show own_F p e below s Z _ _ _ _ _ (T0.setTop (mkF m 9 #[.val (.int p1)] [(.int (35 : Int32)), (.int p1)]))
    refine own_icmp S0 90 d3_9 (by decide) (by decide) (fun (hc9_2 : p1 = (35 : Int32)) => ?_) (fun (hc9_2 : ¬ (p1 = (35 : Int32))) => ?_)
    · show own_F p e below s Z _ _ _ _ _ (T0.setTop (mkF m 90 #[.val (.int p1)] []))
      refine own_F.of (fun _ => XS.iconst S0.here S0.hx rfl (S0.dec d3_90)) ?_
      show own_F p e below s Z _ _ _ _ _ (T0.setTop (mkF m 91 #[.val (.int p1)] [(.int (1 : Int32))]))
      refine own_F.of (fun _ => XS.goto S0.here S0.hx rfl (pc0 := 91) (pc' := 95) rfl (S0.dec d3_91) (by decide) (by decide)) ?_
      show own_F p e below s Z _ _ _ _ _ (T0.setTop (mkF m 95 #[.val (.int p1)] [(.int (1 : Int32))]))
      refine own_retZ S0 (by simp) d3_95 (by decide) (by decide) ?_
      have hh : own_sp p1 = (1 : Int32) := by simp [own_sp, hc3_1, hc9_2]
      rw [hh]; exact ⟨rfl, rfl⟩
    · show own_F p e below s Z _ _ _ _ _ (T0.setTop (mkF m 12 #[.val (.int p1)] []))
      refine own_F.of (fun _ => XS.iloadN S0.here S0.hx rfl (S0.dec d3_12) rfl) ?_
      show own_F p e below s Z _ _ _ _ _ (T0.setTop (mkF m 13 #[.val (.int p1)] [(.int p1)]))
      refine own_F.of (fun _ => XS.bipush S0.here S0.hx rfl (S0.dec d3_13)) ?_
      show own_F p e below s Z _ _ _ _ _ (T0.setTop (mkF m 15 #[.val (.int p1)] [(.int (36 : Int32)), (.int p1)]))
      refine own_icmp S0 90 d3_15 (by decide) (by decide) (fun (hc15_3 : p1 = (36 : Int32)) => ?_) (fun (hc15_3 : ¬ (p1 = (36 : Int32))) => ?_)
      · show own_F p e below s Z _ _ _ _ _ (T0.setTop (mkF m 90 #[.val (.int p1)] []))
        refine own_F.of (fun _ => XS.iconst S0.here S0.hx rfl (S0.dec d3_90)) ?_
        show own_F p e below s Z _ _ _ _ _ (T0.setTop (mkF m 91 #[.val (.int p1)] [(.int (1 : Int32))]))
        refine own_F.of (fun _ => XS.goto S0.here S0.hx rfl (pc0 := 91) (pc' := 95) rfl (S0.dec d3_91) (by decide) (by decide)) ?_
        show own_F p e below s Z _ _ _ _ _ (T0.setTop (mkF m 95 #[.val (.int p1)] [(.int (1 : Int32))]))
        refine own_retZ S0 (by simp) d3_95 (by decide) (by decide) ?_
        have hh : own_sp p1 = (1 : Int32) := by simp [own_sp, hc3_1, hc9_2, hc15_3]
        rw [hh]; exact ⟨rfl, rfl⟩
      · show own_F p e below s Z _ _ _ _ _ (T0.setTop (mkF m 18 #[.val (.int p1)] []))
        refine own_F.of (fun _ => XS.iloadN S0.here S0.hx rfl (S0.dec d3_18) rfl) ?_
        show own_F p e below s Z _ _ _ _ _ (T0.setTop (mkF m 19 #[.val (.int p1)] [(.int p1)]))
        refine own_F.of (fun _ => XS.bipush S0.here S0.hx rfl (S0.dec d3_19)) ?_
        show own_F p e below s Z _ _ _ _ _ (T0.setTop (mkF m 21 #[.val (.int p1)] [(.int (37 : Int32)), (.int p1)]))
        refine own_icmp S0 90 d3_21 (by decide) (by decide) (fun (hc21_4 : p1 = (37 : Int32)) => ?_) (fun (hc21_4 : ¬ (p1 = (37 : Int32))) => ?_)
        · show own_F p e below s Z _ _ _ _ _ (T0.setTop (mkF m 90 #[.val (.int p1)] []))
          refine own_F.of (fun _ => XS.iconst S0.here S0.hx rfl (S0.dec d3_90)) ?_
          show own_F p e below s Z _ _ _ _ _ (T0.setTop (mkF m 91 #[.val (.int p1)] [(.int (1 : Int32))]))
          refine own_F.of (fun _ => XS.goto S0.here S0.hx rfl (pc0 := 91) (pc' := 95) rfl (S0.dec d3_91) (by decide) (by decide)) ?_
          show own_F p e below s Z _ _ _ _ _ (T0.setTop (mkF m 95 #[.val (.int p1)] [(.int (1 : Int32))]))
          refine own_retZ S0 (by simp) d3_95 (by decide) (by decide) ?_
          have hh : own_sp p1 = (1 : Int32) := by simp [own_sp, hc3_1, hc9_2, hc15_3, hc21_4]
          rw [hh]; exact ⟨rfl, rfl⟩
        · show own_F p e below s Z _ _ _ _ _ (T0.setTop (mkF m 24 #[.val (.int p1)] []))
          refine own_F.of (fun _ => XS.iloadN S0.here S0.hx rfl (S0.dec d3_24) rfl) ?_
          show own_F p e below s Z _ _ _ _ _ (T0.setTop (mkF m 25 #[.val (.int p1)] [(.int p1)]))
          refine own_F.of (fun _ => XS.bipush S0.here S0.hx rfl (S0.dec d3_25)) ?_
          show own_F p e below s Z _ _ _ _ _ (T0.setTop (mkF m 27 #[.val (.int p1)] [(.int (38 : Int32)), (.int p1)]))
          refine own_icmp S0 90 d3_27 (by decide) (by decide) (fun (hc27_5 : p1 = (38 : Int32)) => ?_) (fun (hc27_5 : ¬ (p1 = (38 : Int32))) => ?_)
          · show own_F p e below s Z _ _ _ _ _ (T0.setTop (mkF m 90 #[.val (.int p1)] []))
            refine own_F.of (fun _ => XS.iconst S0.here S0.hx rfl (S0.dec d3_90)) ?_
            show own_F p e below s Z _ _ _ _ _ (T0.setTop (mkF m 91 #[.val (.int p1)] [(.int (1 : Int32))]))
            refine own_F.of (fun _ => XS.goto S0.here S0.hx rfl (pc0 := 91) (pc' := 95) rfl (S0.dec d3_91) (by decide) (by decide)) ?_
            show own_F p e below s Z _ _ _ _ _ (T0.setTop (mkF m 95 #[.val (.int p1)] [(.int (1 : Int32))]))
            refine own_retZ S0 (by simp) d3_95 (by decide) (by decide) ?_
            have hh : own_sp p1 = (1 : Int32) := by simp [own_sp, hc3_1, hc9_2, hc15_3, hc21_4, hc27_5]
            rw [hh]; exact ⟨rfl, rfl⟩
          · show own_F p e below s Z _ _ _ _ _ (T0.setTop (mkF m 30 #[.val (.int p1)] []))
            refine own_F.of (fun _ => XS.iloadN S0.here S0.hx rfl (S0.dec d3_30) rfl) ?_
            show own_F p e below s Z _ _ _ _ _ (T0.setTop (mkF m 31 #[.val (.int p1)] [(.int p1)]))
            refine own_F.of (fun _ => XS.bipush S0.here S0.hx rfl (S0.dec d3_31)) ?_
            show own_F p e below s Z _ _ _ _ _ (T0.setTop (mkF m 33 #[.val (.int p1)] [(.int (39 : Int32)), (.int p1)]))
            refine own_icmp S0 90 d3_33 (by decide) (by decide) (fun (hc33_6 : p1 = (39 : Int32)) => ?_) (fun (hc33_6 : ¬ (p1 = (39 : Int32))) => ?_)
            · show own_F p e below s Z _ _ _ _ _ (T0.setTop (mkF m 90 #[.val (.int p1)] []))
              refine own_F.of (fun _ => XS.iconst S0.here S0.hx rfl (S0.dec d3_90)) ?_
              show own_F p e below s Z _ _ _ _ _ (T0.setTop (mkF m 91 #[.val (.int p1)] [(.int (1 : Int32))]))
              refine own_F.of (fun _ => XS.goto S0.here S0.hx rfl (pc0 := 91) (pc' := 95) rfl (S0.dec d3_91) (by decide) (by decide)) ?_
              show own_F p e below s Z _ _ _ _ _ (T0.setTop (mkF m 95 #[.val (.int p1)] [(.int (1 : Int32))]))
              refine own_retZ S0 (by simp) d3_95 (by decide) (by decide) ?_
              have hh : own_sp p1 = (1 : Int32) := by simp [own_sp, hc3_1, hc9_2, hc15_3, hc21_4, hc27_5, hc33_6]
              rw [hh]; exact ⟨rfl, rfl⟩
            · show own_F p e below s Z _ _ _ _ _ (T0.setTop (mkF m 36 #[.val (.int p1)] []))
              refine own_F.of (fun _ => XS.iloadN S0.here S0.hx rfl (S0.dec d3_36) rfl) ?_
              show own_F p e below s Z _ _ _ _ _ (T0.setTop (mkF m 37 #[.val (.int p1)] [(.int p1)]))
              refine own_F.of (fun _ => XS.bipush S0.here S0.hx rfl (S0.dec d3_37)) ?_
              show own_F p e below s Z _ _ _ _ _ (T0.setTop (mkF m 39 #[.val (.int p1)] [(.int (42 : Int32)), (.int p1)]))
              refine own_icmp S0 90 d3_39 (by decide) (by decide) (fun (hc39_7 : p1 = (42 : Int32)) => ?_) (fun (hc39_7 : ¬ (p1 = (42 : Int32))) => ?_)
              · show own_F p e below s Z _ _ _ _ _ (T0.setTop (mkF m 90 #[.val (.int p1)] []))
                refine own_F.of (fun _ => XS.iconst S0.here S0.hx rfl (S0.dec d3_90)) ?_
                show own_F p e below s Z _ _ _ _ _ (T0.setTop (mkF m 91 #[.val (.int p1)] [(.int (1 : Int32))]))
                refine own_F.of (fun _ => XS.goto S0.here S0.hx rfl (pc0 := 91) (pc' := 95) rfl (S0.dec d3_91) (by decide) (by decide)) ?_
                show own_F p e below s Z _ _ _ _ _ (T0.setTop (mkF m 95 #[.val (.int p1)] [(.int (1 : Int32))]))
                refine own_retZ S0 (by simp) d3_95 (by decide) (by decide) ?_
                have hh : own_sp p1 = (1 : Int32) := by simp [own_sp, hc3_1, hc9_2, hc15_3, hc21_4, hc27_5, hc33_6, hc39_7]
                rw [hh]; exact ⟨rfl, rfl⟩
              · show own_F p e below s Z _ _ _ _ _ (T0.setTop (mkF m 42 #[.val (.int p1)] []))
                refine own_F.of (fun _ => XS.iloadN S0.here S0.hx rfl (S0.dec d3_42) rfl) ?_
                show own_F p e below s Z _ _ _ _ _ (T0.setTop (mkF m 43 #[.val (.int p1)] [(.int p1)]))
                refine own_F.of (fun _ => XS.bipush S0.here S0.hx rfl (S0.dec d3_43)) ?_
                show own_F p e below s Z _ _ _ _ _ (T0.setTop (mkF m 45 #[.val (.int p1)] [(.int (43 : Int32)), (.int p1)]))
                refine own_icmp S0 90 d3_45 (by decide) (by decide) (fun (hc45_8 : p1 = (43 : Int32)) => ?_) (fun (hc45_8 : ¬ (p1 = (43 : Int32))) => ?_)
                · show own_F p e below s Z _ _ _ _ _ (T0.setTop (mkF m 90 #[.val (.int p1)] []))
                  refine own_F.of (fun _ => XS.iconst S0.here S0.hx rfl (S0.dec d3_90)) ?_
                  show own_F p e below s Z _ _ _ _ _ (T0.setTop (mkF m 91 #[.val (.int p1)] [(.int (1 : Int32))]))
                  refine own_F.of (fun _ => XS.goto S0.here S0.hx rfl (pc0 := 91) (pc' := 95) rfl (S0.dec d3_91) (by decide) (by decide)) ?_
                  show own_F p e below s Z _ _ _ _ _ (T0.setTop (mkF m 95 #[.val (.int p1)] [(.int (1 : Int32))]))
                  refine own_retZ S0 (by simp) d3_95 (by decide) (by decide) ?_
                  have hh : own_sp p1 = (1 : Int32) := by simp [own_sp, hc3_1, hc9_2, hc15_3, hc21_4, hc27_5, hc33_6, hc39_7, hc45_8]
                  rw [hh]; exact ⟨rfl, rfl⟩
                · show own_F p e below s Z _ _ _ _ _ (T0.setTop (mkF m 48 #[.val (.int p1)] []))
                  refine own_F.of (fun _ => XS.iloadN S0.here S0.hx rfl (S0.dec d3_48) rfl) ?_
                  show own_F p e below s Z _ _ _ _ _ (T0.setTop (mkF m 49 #[.val (.int p1)] [(.int p1)]))
                  refine own_F.of (fun _ => XS.bipush S0.here S0.hx rfl (S0.dec d3_49)) ?_
                  show own_F p e below s Z _ _ _ _ _ (T0.setTop (mkF m 51 #[.val (.int p1)] [(.int (45 : Int32)), (.int p1)]))
                  refine own_icmp S0 90 d3_51 (by decide) (by decide) (fun (hc51_9 : p1 = (45 : Int32)) => ?_) (fun (hc51_9 : ¬ (p1 = (45 : Int32))) => ?_)
                  · show own_F p e below s Z _ _ _ _ _ (T0.setTop (mkF m 90 #[.val (.int p1)] []))
                    refine own_F.of (fun _ => XS.iconst S0.here S0.hx rfl (S0.dec d3_90)) ?_
                    show own_F p e below s Z _ _ _ _ _ (T0.setTop (mkF m 91 #[.val (.int p1)] [(.int (1 : Int32))]))
                    refine own_F.of (fun _ => XS.goto S0.here S0.hx rfl (pc0 := 91) (pc' := 95) rfl (S0.dec d3_91) (by decide) (by decide)) ?_
                    show own_F p e below s Z _ _ _ _ _ (T0.setTop (mkF m 95 #[.val (.int p1)] [(.int (1 : Int32))]))
                    refine own_retZ S0 (by simp) d3_95 (by decide) (by decide) ?_
                    have hh : own_sp p1 = (1 : Int32) := by simp [own_sp, hc3_1, hc9_2, hc15_3, hc21_4, hc27_5, hc33_6, hc39_7, hc45_8, hc51_9]
                    rw [hh]; exact ⟨rfl, rfl⟩
                  · show own_F p e below s Z _ _ _ _ _ (T0.setTop (mkF m 54 #[.val (.int p1)] []))
                    refine own_F.of (fun _ => XS.iloadN S0.here S0.hx rfl (S0.dec d3_54) rfl) ?_
                    show own_F p e below s Z _ _ _ _ _ (T0.setTop (mkF m 55 #[.val (.int p1)] [(.int p1)]))
                    refine own_F.of (fun _ => XS.bipush S0.here S0.hx rfl (S0.dec d3_55)) ?_
                    show own_F p e below s Z _ _ _ _ _ (T0.setTop (mkF m 57 #[.val (.int p1)] [(.int (46 : Int32)), (.int p1)]))
                    refine own_icmp S0 90 d3_57 (by decide) (by decide) (fun (hc57_10 : p1 = (46 : Int32)) => ?_) (fun (hc57_10 : ¬ (p1 = (46 : Int32))) => ?_)
                    · show own_F p e below s Z _ _ _ _ _ (T0.setTop (mkF m 90 #[.val (.int p1)] []))
                      refine own_F.of (fun _ => XS.iconst S0.here S0.hx rfl (S0.dec d3_90)) ?_
                      show own_F p e below s Z _ _ _ _ _ (T0.setTop (mkF m 91 #[.val (.int p1)] [(.int (1 : Int32))]))
                      refine own_F.of (fun _ => XS.goto S0.here S0.hx rfl (pc0 := 91) (pc' := 95) rfl (S0.dec d3_91) (by decide) (by decide)) ?_
                      show own_F p e below s Z _ _ _ _ _ (T0.setTop (mkF m 95 #[.val (.int p1)] [(.int (1 : Int32))]))
                      refine own_retZ S0 (by simp) d3_95 (by decide) (by decide) ?_
                      have hh : own_sp p1 = (1 : Int32) := by simp [own_sp, hc3_1, hc9_2, hc15_3, hc21_4, hc27_5, hc33_6, hc39_7, hc45_8, hc51_9, hc57_10]
                      rw [hh]; exact ⟨rfl, rfl⟩
                    · show own_F p e below s Z _ _ _ _ _ (T0.setTop (mkF m 60 #[.val (.int p1)] []))
                      refine own_F.of (fun _ => XS.iloadN S0.here S0.hx rfl (S0.dec d3_60) rfl) ?_
                      show own_F p e below s Z _ _ _ _ _ (T0.setTop (mkF m 61 #[.val (.int p1)] [(.int p1)]))
                      refine own_F.of (fun _ => XS.bipush S0.here S0.hx rfl (S0.dec d3_61)) ?_
                      show own_F p e below s Z _ _ _ _ _ (T0.setTop (mkF m 63 #[.val (.int p1)] [(.int (94 : Int32)), (.int p1)]))
                      refine own_icmp S0 90 d3_63 (by decide) (by decide) (fun (hc63_11 : p1 = (94 : Int32)) => ?_) (fun (hc63_11 : ¬ (p1 = (94 : Int32))) => ?_)
                      · show own_F p e below s Z _ _ _ _ _ (T0.setTop (mkF m 90 #[.val (.int p1)] []))
                        refine own_F.of (fun _ => XS.iconst S0.here S0.hx rfl (S0.dec d3_90)) ?_
                        show own_F p e below s Z _ _ _ _ _ (T0.setTop (mkF m 91 #[.val (.int p1)] [(.int (1 : Int32))]))
                        refine own_F.of (fun _ => XS.goto S0.here S0.hx rfl (pc0 := 91) (pc' := 95) rfl (S0.dec d3_91) (by decide) (by decide)) ?_
                        show own_F p e below s Z _ _ _ _ _ (T0.setTop (mkF m 95 #[.val (.int p1)] [(.int (1 : Int32))]))
                        refine own_retZ S0 (by simp) d3_95 (by decide) (by decide) ?_
                        have hh : own_sp p1 = (1 : Int32) := by simp [own_sp, hc3_1, hc9_2, hc15_3, hc21_4, hc27_5, hc33_6, hc39_7, hc45_8, hc51_9, hc57_10, hc63_11]
                        rw [hh]; exact ⟨rfl, rfl⟩
                      · show own_F p e below s Z _ _ _ _ _ (T0.setTop (mkF m 66 #[.val (.int p1)] []))
                        refine own_F.of (fun _ => XS.iloadN S0.here S0.hx rfl (S0.dec d3_66) rfl) ?_
                        show own_F p e below s Z _ _ _ _ _ (T0.setTop (mkF m 67 #[.val (.int p1)] [(.int p1)]))
                        refine own_F.of (fun _ => XS.bipush S0.here S0.hx rfl (S0.dec d3_67)) ?_
                        show own_F p e below s Z _ _ _ _ _ (T0.setTop (mkF m 69 #[.val (.int p1)] [(.int (95 : Int32)), (.int p1)]))
                        refine own_icmp S0 90 d3_69 (by decide) (by decide) (fun (hc69_12 : p1 = (95 : Int32)) => ?_) (fun (hc69_12 : ¬ (p1 = (95 : Int32))) => ?_)
                        · show own_F p e below s Z _ _ _ _ _ (T0.setTop (mkF m 90 #[.val (.int p1)] []))
                          refine own_F.of (fun _ => XS.iconst S0.here S0.hx rfl (S0.dec d3_90)) ?_
                          show own_F p e below s Z _ _ _ _ _ (T0.setTop (mkF m 91 #[.val (.int p1)] [(.int (1 : Int32))]))
                          refine own_F.of (fun _ => XS.goto S0.here S0.hx rfl (pc0 := 91) (pc' := 95) rfl (S0.dec d3_91) (by decide) (by decide)) ?_
                          show own_F p e below s Z _ _ _ _ _ (T0.setTop (mkF m 95 #[.val (.int p1)] [(.int (1 : Int32))]))
                          refine own_retZ S0 (by simp) d3_95 (by decide) (by decide) ?_
                          have hh : own_sp p1 = (1 : Int32) := by simp [own_sp, hc3_1, hc9_2, hc15_3, hc21_4, hc27_5, hc33_6, hc39_7, hc45_8, hc51_9, hc57_10, hc63_11, hc69_12]
                          rw [hh]; exact ⟨rfl, rfl⟩
                        · show own_F p e below s Z _ _ _ _ _ (T0.setTop (mkF m 72 #[.val (.int p1)] []))
                          refine own_F.of (fun _ => XS.iloadN S0.here S0.hx rfl (S0.dec d3_72) rfl) ?_
                          show own_F p e below s Z _ _ _ _ _ (T0.setTop (mkF m 73 #[.val (.int p1)] [(.int p1)]))
                          refine own_F.of (fun _ => XS.bipush S0.here S0.hx rfl (S0.dec d3_73)) ?_
                          show own_F p e below s Z _ _ _ _ _ (T0.setTop (mkF m 75 #[.val (.int p1)] [(.int (96 : Int32)), (.int p1)]))
                          refine own_icmp S0 90 d3_75 (by decide) (by decide) (fun (hc75_13 : p1 = (96 : Int32)) => ?_) (fun (hc75_13 : ¬ (p1 = (96 : Int32))) => ?_)
                          · show own_F p e below s Z _ _ _ _ _ (T0.setTop (mkF m 90 #[.val (.int p1)] []))
                            refine own_F.of (fun _ => XS.iconst S0.here S0.hx rfl (S0.dec d3_90)) ?_
                            show own_F p e below s Z _ _ _ _ _ (T0.setTop (mkF m 91 #[.val (.int p1)] [(.int (1 : Int32))]))
                            refine own_F.of (fun _ => XS.goto S0.here S0.hx rfl (pc0 := 91) (pc' := 95) rfl (S0.dec d3_91) (by decide) (by decide)) ?_
                            show own_F p e below s Z _ _ _ _ _ (T0.setTop (mkF m 95 #[.val (.int p1)] [(.int (1 : Int32))]))
                            refine own_retZ S0 (by simp) d3_95 (by decide) (by decide) ?_
                            have hh : own_sp p1 = (1 : Int32) := by simp [own_sp, hc3_1, hc9_2, hc15_3, hc21_4, hc27_5, hc33_6, hc39_7, hc45_8, hc51_9, hc57_10, hc63_11, hc69_12, hc75_13]
                            rw [hh]; exact ⟨rfl, rfl⟩
                          · show own_F p e below s Z _ _ _ _ _ (T0.setTop (mkF m 78 #[.val (.int p1)] []))
                            refine own_F.of (fun _ => XS.iloadN S0.here S0.hx rfl (S0.dec d3_78) rfl) ?_
                            show own_F p e below s Z _ _ _ _ _ (T0.setTop (mkF m 79 #[.val (.int p1)] [(.int p1)]))
                            refine own_F.of (fun _ => XS.bipush S0.here S0.hx rfl (S0.dec d3_79)) ?_
                            show own_F p e below s Z _ _ _ _ _ (T0.setTop (mkF m 81 #[.val (.int p1)] [(.int (124 : Int32)), (.int p1)]))
                            refine own_icmp S0 90 d3_81 (by decide) (by decide) (fun (hc81_14 : p1 = (124 : Int32)) => ?_) (fun (hc81_14 : ¬ (p1 = (124 : Int32))) => ?_)
                            · show own_F p e below s Z _ _ _ _ _ (T0.setTop (mkF m 90 #[.val (.int p1)] []))
                              refine own_F.of (fun _ => XS.iconst S0.here S0.hx rfl (S0.dec d3_90)) ?_
                              show own_F p e below s Z _ _ _ _ _ (T0.setTop (mkF m 91 #[.val (.int p1)] [(.int (1 : Int32))]))
                              refine own_F.of (fun _ => XS.goto S0.here S0.hx rfl (pc0 := 91) (pc' := 95) rfl (S0.dec d3_91) (by decide) (by decide)) ?_
                              show own_F p e below s Z _ _ _ _ _ (T0.setTop (mkF m 95 #[.val (.int p1)] [(.int (1 : Int32))]))
                              refine own_retZ S0 (by simp) d3_95 (by decide) (by decide) ?_
                              have hh : own_sp p1 = (1 : Int32) := by simp [own_sp, hc3_1, hc9_2, hc15_3, hc21_4, hc27_5, hc33_6, hc39_7, hc45_8, hc51_9, hc57_10, hc63_11, hc69_12, hc75_13, hc81_14]
                              rw [hh]; exact ⟨rfl, rfl⟩
                            · show own_F p e below s Z _ _ _ _ _ (T0.setTop (mkF m 84 #[.val (.int p1)] []))
                              refine own_F.of (fun _ => XS.iloadN S0.here S0.hx rfl (S0.dec d3_84) rfl) ?_
                              show own_F p e below s Z _ _ _ _ _ (T0.setTop (mkF m 85 #[.val (.int p1)] [(.int p1)]))
                              refine own_F.of (fun _ => XS.bipush S0.here S0.hx rfl (S0.dec d3_85)) ?_
                              show own_F p e below s Z _ _ _ _ _ (T0.setTop (mkF m 87 #[.val (.int p1)] [(.int (126 : Int32)), (.int p1)]))
                              refine own_icmp S0 94 d3_87 (by decide) (by decide) (fun (hc87_15 : ¬ (p1 = (126 : Int32))) => ?_) (fun (hc87_15 : p1 = (126 : Int32)) => ?_)
                              · show own_F p e below s Z _ _ _ _ _ (T0.setTop (mkF m 94 #[.val (.int p1)] []))
                                refine own_F.of (fun _ => XS.iconst S0.here S0.hx rfl (S0.dec d3_94)) ?_
                                show own_F p e below s Z _ _ _ _ _ (T0.setTop (mkF m 95 #[.val (.int p1)] [(.int (0 : Int32))]))
                                refine own_retZ S0 (by simp) d3_95 (by decide) (by decide) ?_
                                have hh : own_sp p1 = (0 : Int32) := by simp [own_sp, hc3_1, hc9_2, hc15_3, hc21_4, hc27_5, hc33_6, hc39_7, hc45_8, hc51_9, hc57_10, hc63_11, hc69_12, hc75_13, hc81_14, hc87_15]
                                rw [hh]; exact ⟨rfl, rfl⟩
                              · show own_F p e below s Z _ _ _ _ _ (T0.setTop (mkF m 90 #[.val (.int p1)] []))
                                refine own_F.of (fun _ => XS.iconst S0.here S0.hx rfl (S0.dec d3_90)) ?_
                                show own_F p e below s Z _ _ _ _ _ (T0.setTop (mkF m 91 #[.val (.int p1)] [(.int (1 : Int32))]))
                                refine own_F.of (fun _ => XS.goto S0.here S0.hx rfl (pc0 := 91) (pc' := 95) rfl (S0.dec d3_91) (by decide) (by decide)) ?_
                                show own_F p e below s Z _ _ _ _ _ (T0.setTop (mkF m 95 #[.val (.int p1)] [(.int (1 : Int32))]))
                                refine own_retZ S0 (by simp) d3_95 (by decide) (by decide) ?_
                                have hh : own_sp p1 = (1 : Int32) := by simp [own_sp, hc3_1, hc9_2, hc15_3, hc21_4, hc27_5, hc33_6, hc39_7, hc45_8, hc51_9, hc57_10, hc63_11, hc69_12, hc75_13, hc81_14, hc87_15]
                                rw [hh]; exact ⟨rfl, rfl⟩
theorem own_only {j a b : Int32} {n m : Int} (ea : a.toInt = n) (eb : b.toInt = m) (e : m = n + 1) (q1 : ¬ j < a) (q2 : j < b) : j = a := by
  rw [Int32.lt_iff_toInt_lt] at q1 q2
  apply Int32.toInt_inj.mp
  omega
theorem own_elv {a0 : Array Value} {Z : State} {a : Addr} {t : Term} {cl : Cell} {i : Term} {idx : List Nat} {j x v : Int32} (ev : t.eval a0 Z none idx Z = some (.ref a)) (q : Z.arrayAt? a = some cl) (hi : i.eval a0 Z none idx Z = some (.int j)) (hj : ¬ j < 0) (hx : cl.slots[j.toNatClampNeg]? = some (.int x)) :
    (Jvm.Cond.eq (.elem t i) (.int v)).value a0 Z none Z idx = some (decide (x = v)) := by
  have e1 : (Term.elem t i).eval a0 Z none idx Z = some (.int x) := by simp [Term.eval, ev, q, hi, hj, hx]
  have e2 : (Term.int v).eval a0 Z none idx Z = some (.int v) := rfl
  simp [Jvm.Cond.value, e1, e2]

theorem d2_0 : decode method_3_code 0 = .ok (.iload_n 0, 1) := by decide +kernel
theorem d2_1 : decode method_3_code 1 = .ok (.bipush 48, 2) := by decide +kernel
theorem d2_3 : decode method_3_code 3 = .ok (.if_icmp .lt 11, 3) := by decide +kernel
theorem d2_6 : decode method_3_code 6 = .ok (.iload_n 0, 1) := by decide +kernel
theorem d2_7 : decode method_3_code 7 = .ok (.bipush 57, 2) := by decide +kernel
theorem d2_9 : decode method_3_code 9 = .ok (.if_icmp .gt 5, 3) := by decide +kernel
theorem d2_12 : decode method_3_code 12 = .ok (.iconst 1, 1) := by decide +kernel
theorem d2_13 : decode method_3_code 13 = .ok (.ireturn, 1) := by decide +kernel
theorem d2_14 : decode method_3_code 14 = .ok (.iload_n 0, 1) := by decide +kernel
theorem d2_15 : decode method_3_code 15 = .ok (.bipush 65, 2) := by decide +kernel
theorem d2_17 : decode method_3_code 17 = .ok (.if_icmp .lt 11, 3) := by decide +kernel
theorem d2_20 : decode method_3_code 20 = .ok (.iload_n 0, 1) := by decide +kernel
theorem d2_21 : decode method_3_code 21 = .ok (.bipush 90, 2) := by decide +kernel
theorem d2_23 : decode method_3_code 23 = .ok (.if_icmp .gt 5, 3) := by decide +kernel
theorem d2_26 : decode method_3_code 26 = .ok (.iconst 1, 1) := by decide +kernel
theorem d2_27 : decode method_3_code 27 = .ok (.ireturn, 1) := by decide +kernel
theorem d2_28 : decode method_3_code 28 = .ok (.iload_n 0, 1) := by decide +kernel
theorem d2_29 : decode method_3_code 29 = .ok (.bipush 97, 2) := by decide +kernel
theorem d2_31 : decode method_3_code 31 = .ok (.if_icmp .lt 11, 3) := by decide +kernel
theorem d2_34 : decode method_3_code 34 = .ok (.iload_n 0, 1) := by decide +kernel
theorem d2_35 : decode method_3_code 35 = .ok (.bipush 122, 2) := by decide +kernel
theorem d2_37 : decode method_3_code 37 = .ok (.if_icmp .gt 5, 3) := by decide +kernel
theorem d2_40 : decode method_3_code 40 = .ok (.iconst 1, 1) := by decide +kernel
theorem d2_41 : decode method_3_code 41 = .ok (.ireturn, 1) := by decide +kernel
theorem d2_42 : decode method_3_code 42 = .ok (.iload_n 0, 1) := by decide +kernel
theorem d2_43 : decode method_3_code 43 = .ok (.invokestatic 7, 3) := by decide +kernel
theorem d2_46 : decode method_3_code 46 = .ok (.ireturn, 1) := by decide +kernel
theorem pn2 : plainFor (⟨"com/example/libidem/libidem/protocol/TokenIsTcharPinLaw", "expected", "(C)Z"⟩ : MethodName) = true := plainFor_of_name (by first | (simp [plainName, overriddenIn]; done) | decide +kernel)
set_option maxRecDepth 65536 in
set_option maxHeartbeats 40000000 in
theorem own_expected (l : Launch) (Z : State) (a0 : Array Value) (hw : ∀ d ∈ tables_1, d.before a0 Z = true) (p1 : Int32) (h0 : Heap) (hO : Ext Z.heap h0) :
    own_C l Z (⟨"com/example/libidem/libidem/protocol/TokenIsTcharPinLaw", "expected", "(C)Z"⟩ : MethodName) method_3_code 1 (some .boolean) [] ({ frames := 1, cells := 0, slots := 0, locals := 12 } : Room) [] #[(.int p1)] h0 (fun v h => v = some (.int (own_ex p1)) ∧ h0 = h) := by
  refine own_C.of pn2 hO all0 ?_
  intro p e s m below meth c T0 S0
  refine own_F.cast (by first | (simp [entryFrame, mkF, argsToLocals, Value.category]; done) | rfl : entryFrame m #[(.int p1)] 1 = mkF m 0 #[.val (.int p1)] []) ?_
  show own_F p e below s Z _ _ _ _ _ (T0.setTop (mkF m 0 #[.val (.int p1)] []))
  refine own_F.of (fun _ => XS.iloadN S0.here S0.hx rfl (S0.dec d2_0) rfl) ?_
  show own_F p e below s Z _ _ _ _ _ (T0.setTop (mkF m 1 #[.val (.int p1)] [(.int p1)]))
  refine own_F.of (fun _ => XS.bipush S0.here S0.hx rfl (S0.dec d2_1)) ?_
  show own_F p e below s Z _ _ _ _ _ (T0.setTop (mkF m 3 #[.val (.int p1)] [(.int (48 : Int32)), (.int p1)]))
  refine own_icmp S0 14 d2_3 (by decide) (by decide) (fun (hc3_1 : p1 < (48 : Int32)) => ?_) (fun (hc3_1 : ¬ (p1 < (48 : Int32))) => ?_)
  · show own_F p e below s Z _ _ _ _ _ (T0.setTop (mkF m 14 #[.val (.int p1)] []))
    refine own_F.of (fun _ => XS.iloadN S0.here S0.hx rfl (S0.dec d2_14) rfl) ?_
    show own_F p e below s Z _ _ _ _ _ (T0.setTop (mkF m 15 #[.val (.int p1)] [(.int p1)]))
    refine own_F.of (fun _ => XS.bipush S0.here S0.hx rfl (S0.dec d2_15)) ?_
    show own_F p e below s Z _ _ _ _ _ (T0.setTop (mkF m 17 #[.val (.int p1)] [(.int (65 : Int32)), (.int p1)]))
    refine own_icmp S0 28 d2_17 (by decide) (by decide) (fun (hc17_2 : p1 < (65 : Int32)) => ?_) (fun (hc17_2 : ¬ (p1 < (65 : Int32))) => ?_)
    · show own_F p e below s Z _ _ _ _ _ (T0.setTop (mkF m 28 #[.val (.int p1)] []))
      refine own_F.of (fun _ => XS.iloadN S0.here S0.hx rfl (S0.dec d2_28) rfl) ?_
      show own_F p e below s Z _ _ _ _ _ (T0.setTop (mkF m 29 #[.val (.int p1)] [(.int p1)]))
      refine own_F.of (fun _ => XS.bipush S0.here S0.hx rfl (S0.dec d2_29)) ?_
      show own_F p e below s Z _ _ _ _ _ (T0.setTop (mkF m 31 #[.val (.int p1)] [(.int (97 : Int32)), (.int p1)]))
      refine own_icmp S0 42 d2_31 (by decide) (by decide) (fun (hc31_3 : p1 < (97 : Int32)) => ?_) (fun (hc31_3 : ¬ (p1 < (97 : Int32))) => ?_)
      · show own_F p e below s Z _ _ _ _ _ (T0.setTop (mkF m 42 #[.val (.int p1)] []))
        refine own_F.of (fun _ => XS.iloadN S0.here S0.hx rfl (S0.dec d2_42) rfl) ?_
        show own_F p e below s Z _ _ _ _ _ (T0.setTop (mkF m 43 #[.val (.int p1)] [(.int p1)]))
        refine own_callS S0 (y := (⟨"com/example/libidem/libidem/protocol/TokenIsTcharPinLaw", "isSpecial", "(C)Z"⟩ : MethodName)) (own_w hw 10 rfl) (own_w hw 11 rfl) (own_w hw 8 rfl) (own_w hw 12 rfl) (by decide) (argsL := [(.int p1)]) (rest := []) (own_special l Z a0 hw p1 h0 S0.old) all0 (by decide +kernel : parseMethodDescriptor "(C)Z" = some ⟨[.char], some .boolean⟩) rfl rfl rfl d2_43 (by decide) (Nat.le_of_ble_eq_true rfl) (by decide) (by decide) (fun T4 h4 v4 S4 K4 q4 => ?_)
        obtain ⟨rfl, rfl⟩ := q4
        show own_F p e below s Z _ _ _ _ _ (T4.setTop (mkF m 46 #[.val (.int p1)] [(.int (own_sp p1))]))
        refine own_retZ S4 (by simp) d2_46 (by decide) (by decide) ?_
        have hh : own_ex p1 = own_sp p1 := by simp [own_ex, hc3_1, hc17_2, hc31_3]
        exact ⟨by rw [hh, own_nsp], rfl⟩
      · show own_F p e below s Z _ _ _ _ _ (T0.setTop (mkF m 34 #[.val (.int p1)] []))
        refine own_F.of (fun _ => XS.iloadN S0.here S0.hx rfl (S0.dec d2_34) rfl) ?_
        show own_F p e below s Z _ _ _ _ _ (T0.setTop (mkF m 35 #[.val (.int p1)] [(.int p1)]))
        refine own_F.of (fun _ => XS.bipush S0.here S0.hx rfl (S0.dec d2_35)) ?_
        show own_F p e below s Z _ _ _ _ _ (T0.setTop (mkF m 37 #[.val (.int p1)] [(.int (122 : Int32)), (.int p1)]))
        refine own_icmp S0 42 d2_37 (by decide) (by decide) (fun (hc37_5 : (122 : Int32) < p1) => ?_) (fun (hc37_5 : ¬ ((122 : Int32) < p1)) => ?_)
        · show own_F p e below s Z _ _ _ _ _ (T0.setTop (mkF m 42 #[.val (.int p1)] []))
          refine own_F.of (fun _ => XS.iloadN S0.here S0.hx rfl (S0.dec d2_42) rfl) ?_
          show own_F p e below s Z _ _ _ _ _ (T0.setTop (mkF m 43 #[.val (.int p1)] [(.int p1)]))
          refine own_callS S0 (y := (⟨"com/example/libidem/libidem/protocol/TokenIsTcharPinLaw", "isSpecial", "(C)Z"⟩ : MethodName)) (own_w hw 10 rfl) (own_w hw 11 rfl) (own_w hw 8 rfl) (own_w hw 12 rfl) (by decide) (argsL := [(.int p1)]) (rest := []) (own_special l Z a0 hw p1 h0 S0.old) all0 (by decide +kernel : parseMethodDescriptor "(C)Z" = some ⟨[.char], some .boolean⟩) rfl rfl rfl d2_43 (by decide) (Nat.le_of_ble_eq_true rfl) (by decide) (by decide) (fun T6 h6 v6 S6 K6 q6 => ?_)
          obtain ⟨rfl, rfl⟩ := q6
          show own_F p e below s Z _ _ _ _ _ (T6.setTop (mkF m 46 #[.val (.int p1)] [(.int (own_sp p1))]))
          refine own_retZ S6 (by simp) d2_46 (by decide) (by decide) ?_
          have hh : own_ex p1 = own_sp p1 := by simp [own_ex, hc3_1, hc17_2, hc31_3, hc37_5]
          exact ⟨by rw [hh, own_nsp], rfl⟩
        · show own_F p e below s Z _ _ _ _ _ (T0.setTop (mkF m 40 #[.val (.int p1)] []))
          refine own_F.of (fun _ => XS.iconst S0.here S0.hx rfl (S0.dec d2_40)) ?_
          show own_F p e below s Z _ _ _ _ _ (T0.setTop (mkF m 41 #[.val (.int p1)] [(.int (1 : Int32))]))
          refine own_retZ S0 (by simp) d2_41 (by decide) (by decide) ?_
          have hh : own_ex p1 = (1 : Int32) := by simp [own_ex, hc3_1, hc17_2, hc31_3, hc37_5]
          rw [hh]; exact ⟨rfl, rfl⟩
    · show own_F p e below s Z _ _ _ _ _ (T0.setTop (mkF m 20 #[.val (.int p1)] []))
      refine own_F.of (fun _ => XS.iloadN S0.here S0.hx rfl (S0.dec d2_20) rfl) ?_
      show own_F p e below s Z _ _ _ _ _ (T0.setTop (mkF m 21 #[.val (.int p1)] [(.int p1)]))
      refine own_F.of (fun _ => XS.bipush S0.here S0.hx rfl (S0.dec d2_21)) ?_
      show own_F p e below s Z _ _ _ _ _ (T0.setTop (mkF m 23 #[.val (.int p1)] [(.int (90 : Int32)), (.int p1)]))
      refine own_icmp S0 28 d2_23 (by decide) (by decide) (fun (hc23_7 : (90 : Int32) < p1) => ?_) (fun (hc23_7 : ¬ ((90 : Int32) < p1)) => ?_)
      · show own_F p e below s Z _ _ _ _ _ (T0.setTop (mkF m 28 #[.val (.int p1)] []))
        refine own_F.of (fun _ => XS.iloadN S0.here S0.hx rfl (S0.dec d2_28) rfl) ?_
        show own_F p e below s Z _ _ _ _ _ (T0.setTop (mkF m 29 #[.val (.int p1)] [(.int p1)]))
        refine own_F.of (fun _ => XS.bipush S0.here S0.hx rfl (S0.dec d2_29)) ?_
        show own_F p e below s Z _ _ _ _ _ (T0.setTop (mkF m 31 #[.val (.int p1)] [(.int (97 : Int32)), (.int p1)]))
        refine own_icmp S0 42 d2_31 (by decide) (by decide) (fun (hc31_8 : p1 < (97 : Int32)) => ?_) (fun (hc31_8 : ¬ (p1 < (97 : Int32))) => ?_)
        · show own_F p e below s Z _ _ _ _ _ (T0.setTop (mkF m 42 #[.val (.int p1)] []))
          refine own_F.of (fun _ => XS.iloadN S0.here S0.hx rfl (S0.dec d2_42) rfl) ?_
          show own_F p e below s Z _ _ _ _ _ (T0.setTop (mkF m 43 #[.val (.int p1)] [(.int p1)]))
          refine own_callS S0 (y := (⟨"com/example/libidem/libidem/protocol/TokenIsTcharPinLaw", "isSpecial", "(C)Z"⟩ : MethodName)) (own_w hw 10 rfl) (own_w hw 11 rfl) (own_w hw 8 rfl) (own_w hw 12 rfl) (by decide) (argsL := [(.int p1)]) (rest := []) (own_special l Z a0 hw p1 h0 S0.old) all0 (by decide +kernel : parseMethodDescriptor "(C)Z" = some ⟨[.char], some .boolean⟩) rfl rfl rfl d2_43 (by decide) (Nat.le_of_ble_eq_true rfl) (by decide) (by decide) (fun T9 h9 v9 S9 K9 q9 => ?_)
          obtain ⟨rfl, rfl⟩ := q9
          show own_F p e below s Z _ _ _ _ _ (T9.setTop (mkF m 46 #[.val (.int p1)] [(.int (own_sp p1))]))
          refine own_retZ S9 (by simp) d2_46 (by decide) (by decide) ?_
          have hh : own_ex p1 = own_sp p1 := by simp [own_ex, hc3_1, hc17_2, hc23_7, hc31_8]
          exact ⟨by rw [hh, own_nsp], rfl⟩
        · show own_F p e below s Z _ _ _ _ _ (T0.setTop (mkF m 34 #[.val (.int p1)] []))
          refine own_F.of (fun _ => XS.iloadN S0.here S0.hx rfl (S0.dec d2_34) rfl) ?_
          show own_F p e below s Z _ _ _ _ _ (T0.setTop (mkF m 35 #[.val (.int p1)] [(.int p1)]))
          refine own_F.of (fun _ => XS.bipush S0.here S0.hx rfl (S0.dec d2_35)) ?_
          show own_F p e below s Z _ _ _ _ _ (T0.setTop (mkF m 37 #[.val (.int p1)] [(.int (122 : Int32)), (.int p1)]))
          refine own_icmp S0 42 d2_37 (by decide) (by decide) (fun (hc37_10 : (122 : Int32) < p1) => ?_) (fun (hc37_10 : ¬ ((122 : Int32) < p1)) => ?_)
          · show own_F p e below s Z _ _ _ _ _ (T0.setTop (mkF m 42 #[.val (.int p1)] []))
            refine own_F.of (fun _ => XS.iloadN S0.here S0.hx rfl (S0.dec d2_42) rfl) ?_
            show own_F p e below s Z _ _ _ _ _ (T0.setTop (mkF m 43 #[.val (.int p1)] [(.int p1)]))
            refine own_callS S0 (y := (⟨"com/example/libidem/libidem/protocol/TokenIsTcharPinLaw", "isSpecial", "(C)Z"⟩ : MethodName)) (own_w hw 10 rfl) (own_w hw 11 rfl) (own_w hw 8 rfl) (own_w hw 12 rfl) (by decide) (argsL := [(.int p1)]) (rest := []) (own_special l Z a0 hw p1 h0 S0.old) all0 (by decide +kernel : parseMethodDescriptor "(C)Z" = some ⟨[.char], some .boolean⟩) rfl rfl rfl d2_43 (by decide) (Nat.le_of_ble_eq_true rfl) (by decide) (by decide) (fun T11 h11 v11 S11 K11 q11 => ?_)
            obtain ⟨rfl, rfl⟩ := q11
            show own_F p e below s Z _ _ _ _ _ (T11.setTop (mkF m 46 #[.val (.int p1)] [(.int (own_sp p1))]))
            refine own_retZ S11 (by simp) d2_46 (by decide) (by decide) ?_
            have hh : own_ex p1 = own_sp p1 := by simp [own_ex, hc3_1, hc17_2, hc23_7, hc31_8, hc37_10]
            exact ⟨by rw [hh, own_nsp], rfl⟩
          · show own_F p e below s Z _ _ _ _ _ (T0.setTop (mkF m 40 #[.val (.int p1)] []))
            refine own_F.of (fun _ => XS.iconst S0.here S0.hx rfl (S0.dec d2_40)) ?_
            show own_F p e below s Z _ _ _ _ _ (T0.setTop (mkF m 41 #[.val (.int p1)] [(.int (1 : Int32))]))
            refine own_retZ S0 (by simp) d2_41 (by decide) (by decide) ?_
            have hh : own_ex p1 = (1 : Int32) := by simp [own_ex, hc3_1, hc17_2, hc23_7, hc31_8, hc37_10]
            rw [hh]; exact ⟨rfl, rfl⟩
      · show own_F p e below s Z _ _ _ _ _ (T0.setTop (mkF m 26 #[.val (.int p1)] []))
        refine own_F.of (fun _ => XS.iconst S0.here S0.hx rfl (S0.dec d2_26)) ?_
        show own_F p e below s Z _ _ _ _ _ (T0.setTop (mkF m 27 #[.val (.int p1)] [(.int (1 : Int32))]))
        refine own_retZ S0 (by simp) d2_27 (by decide) (by decide) ?_
        have hh : own_ex p1 = (1 : Int32) := by simp [own_ex, hc3_1, hc17_2, hc23_7]
        rw [hh]; exact ⟨rfl, rfl⟩
  · show own_F p e below s Z _ _ _ _ _ (T0.setTop (mkF m 6 #[.val (.int p1)] []))
    refine own_F.of (fun _ => XS.iloadN S0.here S0.hx rfl (S0.dec d2_6) rfl) ?_
    show own_F p e below s Z _ _ _ _ _ (T0.setTop (mkF m 7 #[.val (.int p1)] [(.int p1)]))
    refine own_F.of (fun _ => XS.bipush S0.here S0.hx rfl (S0.dec d2_7)) ?_
    show own_F p e below s Z _ _ _ _ _ (T0.setTop (mkF m 9 #[.val (.int p1)] [(.int (57 : Int32)), (.int p1)]))
    refine own_icmp S0 14 d2_9 (by decide) (by decide) (fun (hc9_12 : (57 : Int32) < p1) => ?_) (fun (hc9_12 : ¬ ((57 : Int32) < p1)) => ?_)
    · show own_F p e below s Z _ _ _ _ _ (T0.setTop (mkF m 14 #[.val (.int p1)] []))
      refine own_F.of (fun _ => XS.iloadN S0.here S0.hx rfl (S0.dec d2_14) rfl) ?_
      show own_F p e below s Z _ _ _ _ _ (T0.setTop (mkF m 15 #[.val (.int p1)] [(.int p1)]))
      refine own_F.of (fun _ => XS.bipush S0.here S0.hx rfl (S0.dec d2_15)) ?_
      show own_F p e below s Z _ _ _ _ _ (T0.setTop (mkF m 17 #[.val (.int p1)] [(.int (65 : Int32)), (.int p1)]))
      refine own_icmp S0 28 d2_17 (by decide) (by decide) (fun (hc17_13 : p1 < (65 : Int32)) => ?_) (fun (hc17_13 : ¬ (p1 < (65 : Int32))) => ?_)
      · show own_F p e below s Z _ _ _ _ _ (T0.setTop (mkF m 28 #[.val (.int p1)] []))
        refine own_F.of (fun _ => XS.iloadN S0.here S0.hx rfl (S0.dec d2_28) rfl) ?_
        show own_F p e below s Z _ _ _ _ _ (T0.setTop (mkF m 29 #[.val (.int p1)] [(.int p1)]))
        refine own_F.of (fun _ => XS.bipush S0.here S0.hx rfl (S0.dec d2_29)) ?_
        show own_F p e below s Z _ _ _ _ _ (T0.setTop (mkF m 31 #[.val (.int p1)] [(.int (97 : Int32)), (.int p1)]))
        refine own_icmp S0 42 d2_31 (by decide) (by decide) (fun (hc31_14 : p1 < (97 : Int32)) => ?_) (fun (hc31_14 : ¬ (p1 < (97 : Int32))) => ?_)
        · show own_F p e below s Z _ _ _ _ _ (T0.setTop (mkF m 42 #[.val (.int p1)] []))
          refine own_F.of (fun _ => XS.iloadN S0.here S0.hx rfl (S0.dec d2_42) rfl) ?_
          show own_F p e below s Z _ _ _ _ _ (T0.setTop (mkF m 43 #[.val (.int p1)] [(.int p1)]))
          refine own_callS S0 (y := (⟨"com/example/libidem/libidem/protocol/TokenIsTcharPinLaw", "isSpecial", "(C)Z"⟩ : MethodName)) (own_w hw 10 rfl) (own_w hw 11 rfl) (own_w hw 8 rfl) (own_w hw 12 rfl) (by decide) (argsL := [(.int p1)]) (rest := []) (own_special l Z a0 hw p1 h0 S0.old) all0 (by decide +kernel : parseMethodDescriptor "(C)Z" = some ⟨[.char], some .boolean⟩) rfl rfl rfl d2_43 (by decide) (Nat.le_of_ble_eq_true rfl) (by decide) (by decide) (fun T15 h15 v15 S15 K15 q15 => ?_)
          obtain ⟨rfl, rfl⟩ := q15
          show own_F p e below s Z _ _ _ _ _ (T15.setTop (mkF m 46 #[.val (.int p1)] [(.int (own_sp p1))]))
          refine own_retZ S15 (by simp) d2_46 (by decide) (by decide) ?_
          have hh : own_ex p1 = own_sp p1 := by simp [own_ex, hc3_1, hc9_12, hc17_13, hc31_14]
          exact ⟨by rw [hh, own_nsp], rfl⟩
        · show own_F p e below s Z _ _ _ _ _ (T0.setTop (mkF m 34 #[.val (.int p1)] []))
          refine own_F.of (fun _ => XS.iloadN S0.here S0.hx rfl (S0.dec d2_34) rfl) ?_
          show own_F p e below s Z _ _ _ _ _ (T0.setTop (mkF m 35 #[.val (.int p1)] [(.int p1)]))
          refine own_F.of (fun _ => XS.bipush S0.here S0.hx rfl (S0.dec d2_35)) ?_
          show own_F p e below s Z _ _ _ _ _ (T0.setTop (mkF m 37 #[.val (.int p1)] [(.int (122 : Int32)), (.int p1)]))
          refine own_icmp S0 42 d2_37 (by decide) (by decide) (fun (hc37_16 : (122 : Int32) < p1) => ?_) (fun (hc37_16 : ¬ ((122 : Int32) < p1)) => ?_)
          · show own_F p e below s Z _ _ _ _ _ (T0.setTop (mkF m 42 #[.val (.int p1)] []))
            refine own_F.of (fun _ => XS.iloadN S0.here S0.hx rfl (S0.dec d2_42) rfl) ?_
            show own_F p e below s Z _ _ _ _ _ (T0.setTop (mkF m 43 #[.val (.int p1)] [(.int p1)]))
            refine own_callS S0 (y := (⟨"com/example/libidem/libidem/protocol/TokenIsTcharPinLaw", "isSpecial", "(C)Z"⟩ : MethodName)) (own_w hw 10 rfl) (own_w hw 11 rfl) (own_w hw 8 rfl) (own_w hw 12 rfl) (by decide) (argsL := [(.int p1)]) (rest := []) (own_special l Z a0 hw p1 h0 S0.old) all0 (by decide +kernel : parseMethodDescriptor "(C)Z" = some ⟨[.char], some .boolean⟩) rfl rfl rfl d2_43 (by decide) (Nat.le_of_ble_eq_true rfl) (by decide) (by decide) (fun T17 h17 v17 S17 K17 q17 => ?_)
            obtain ⟨rfl, rfl⟩ := q17
            show own_F p e below s Z _ _ _ _ _ (T17.setTop (mkF m 46 #[.val (.int p1)] [(.int (own_sp p1))]))
            refine own_retZ S17 (by simp) d2_46 (by decide) (by decide) ?_
            have hh : own_ex p1 = own_sp p1 := by simp [own_ex, hc3_1, hc9_12, hc17_13, hc31_14, hc37_16]
            exact ⟨by rw [hh, own_nsp], rfl⟩
          · show own_F p e below s Z _ _ _ _ _ (T0.setTop (mkF m 40 #[.val (.int p1)] []))
            refine own_F.of (fun _ => XS.iconst S0.here S0.hx rfl (S0.dec d2_40)) ?_
            show own_F p e below s Z _ _ _ _ _ (T0.setTop (mkF m 41 #[.val (.int p1)] [(.int (1 : Int32))]))
            refine own_retZ S0 (by simp) d2_41 (by decide) (by decide) ?_
            have hh : own_ex p1 = (1 : Int32) := by simp [own_ex, hc3_1, hc9_12, hc17_13, hc31_14, hc37_16]
            rw [hh]; exact ⟨rfl, rfl⟩
      · show own_F p e below s Z _ _ _ _ _ (T0.setTop (mkF m 20 #[.val (.int p1)] []))
        refine own_F.of (fun _ => XS.iloadN S0.here S0.hx rfl (S0.dec d2_20) rfl) ?_
        show own_F p e below s Z _ _ _ _ _ (T0.setTop (mkF m 21 #[.val (.int p1)] [(.int p1)]))
        refine own_F.of (fun _ => XS.bipush S0.here S0.hx rfl (S0.dec d2_21)) ?_
        show own_F p e below s Z _ _ _ _ _ (T0.setTop (mkF m 23 #[.val (.int p1)] [(.int (90 : Int32)), (.int p1)]))
        refine own_icmp S0 28 d2_23 (by decide) (by decide) (fun (hc23_18 : (90 : Int32) < p1) => ?_) (fun (hc23_18 : ¬ ((90 : Int32) < p1)) => ?_)
        · show own_F p e below s Z _ _ _ _ _ (T0.setTop (mkF m 28 #[.val (.int p1)] []))
          refine own_F.of (fun _ => XS.iloadN S0.here S0.hx rfl (S0.dec d2_28) rfl) ?_
          show own_F p e below s Z _ _ _ _ _ (T0.setTop (mkF m 29 #[.val (.int p1)] [(.int p1)]))
          refine own_F.of (fun _ => XS.bipush S0.here S0.hx rfl (S0.dec d2_29)) ?_
          show own_F p e below s Z _ _ _ _ _ (T0.setTop (mkF m 31 #[.val (.int p1)] [(.int (97 : Int32)), (.int p1)]))
          refine own_icmp S0 42 d2_31 (by decide) (by decide) (fun (hc31_19 : p1 < (97 : Int32)) => ?_) (fun (hc31_19 : ¬ (p1 < (97 : Int32))) => ?_)
          · show own_F p e below s Z _ _ _ _ _ (T0.setTop (mkF m 42 #[.val (.int p1)] []))
            refine own_F.of (fun _ => XS.iloadN S0.here S0.hx rfl (S0.dec d2_42) rfl) ?_
            show own_F p e below s Z _ _ _ _ _ (T0.setTop (mkF m 43 #[.val (.int p1)] [(.int p1)]))
            refine own_callS S0 (y := (⟨"com/example/libidem/libidem/protocol/TokenIsTcharPinLaw", "isSpecial", "(C)Z"⟩ : MethodName)) (own_w hw 10 rfl) (own_w hw 11 rfl) (own_w hw 8 rfl) (own_w hw 12 rfl) (by decide) (argsL := [(.int p1)]) (rest := []) (own_special l Z a0 hw p1 h0 S0.old) all0 (by decide +kernel : parseMethodDescriptor "(C)Z" = some ⟨[.char], some .boolean⟩) rfl rfl rfl d2_43 (by decide) (Nat.le_of_ble_eq_true rfl) (by decide) (by decide) (fun T20 h20 v20 S20 K20 q20 => ?_)
            obtain ⟨rfl, rfl⟩ := q20
            show own_F p e below s Z _ _ _ _ _ (T20.setTop (mkF m 46 #[.val (.int p1)] [(.int (own_sp p1))]))
            refine own_retZ S20 (by simp) d2_46 (by decide) (by decide) ?_
            have hh : own_ex p1 = own_sp p1 := by simp [own_ex, hc3_1, hc9_12, hc17_13, hc23_18, hc31_19]
            exact ⟨by rw [hh, own_nsp], rfl⟩
          · show own_F p e below s Z _ _ _ _ _ (T0.setTop (mkF m 34 #[.val (.int p1)] []))
            refine own_F.of (fun _ => XS.iloadN S0.here S0.hx rfl (S0.dec d2_34) rfl) ?_
            show own_F p e below s Z _ _ _ _ _ (T0.setTop (mkF m 35 #[.val (.int p1)] [(.int p1)]))
            refine own_F.of (fun _ => XS.bipush S0.here S0.hx rfl (S0.dec d2_35)) ?_
            show own_F p e below s Z _ _ _ _ _ (T0.setTop (mkF m 37 #[.val (.int p1)] [(.int (122 : Int32)), (.int p1)]))
            refine own_icmp S0 42 d2_37 (by decide) (by decide) (fun (hc37_21 : (122 : Int32) < p1) => ?_) (fun (hc37_21 : ¬ ((122 : Int32) < p1)) => ?_)
            · show own_F p e below s Z _ _ _ _ _ (T0.setTop (mkF m 42 #[.val (.int p1)] []))
              refine own_F.of (fun _ => XS.iloadN S0.here S0.hx rfl (S0.dec d2_42) rfl) ?_
              show own_F p e below s Z _ _ _ _ _ (T0.setTop (mkF m 43 #[.val (.int p1)] [(.int p1)]))
              refine own_callS S0 (y := (⟨"com/example/libidem/libidem/protocol/TokenIsTcharPinLaw", "isSpecial", "(C)Z"⟩ : MethodName)) (own_w hw 10 rfl) (own_w hw 11 rfl) (own_w hw 8 rfl) (own_w hw 12 rfl) (by decide) (argsL := [(.int p1)]) (rest := []) (own_special l Z a0 hw p1 h0 S0.old) all0 (by decide +kernel : parseMethodDescriptor "(C)Z" = some ⟨[.char], some .boolean⟩) rfl rfl rfl d2_43 (by decide) (Nat.le_of_ble_eq_true rfl) (by decide) (by decide) (fun T22 h22 v22 S22 K22 q22 => ?_)
              obtain ⟨rfl, rfl⟩ := q22
              show own_F p e below s Z _ _ _ _ _ (T22.setTop (mkF m 46 #[.val (.int p1)] [(.int (own_sp p1))]))
              refine own_retZ S22 (by simp) d2_46 (by decide) (by decide) ?_
              have hh : own_ex p1 = own_sp p1 := by simp [own_ex, hc3_1, hc9_12, hc17_13, hc23_18, hc31_19, hc37_21]
              exact ⟨by rw [hh, own_nsp], rfl⟩
            · show own_F p e below s Z _ _ _ _ _ (T0.setTop (mkF m 40 #[.val (.int p1)] []))
              refine own_F.of (fun _ => XS.iconst S0.here S0.hx rfl (S0.dec d2_40)) ?_
              show own_F p e below s Z _ _ _ _ _ (T0.setTop (mkF m 41 #[.val (.int p1)] [(.int (1 : Int32))]))
              refine own_retZ S0 (by simp) d2_41 (by decide) (by decide) ?_
              have hh : own_ex p1 = (1 : Int32) := by simp [own_ex, hc3_1, hc9_12, hc17_13, hc23_18, hc31_19, hc37_21]
              rw [hh]; exact ⟨rfl, rfl⟩
        · show own_F p e below s Z _ _ _ _ _ (T0.setTop (mkF m 26 #[.val (.int p1)] []))
          refine own_F.of (fun _ => XS.iconst S0.here S0.hx rfl (S0.dec d2_26)) ?_
          show own_F p e below s Z _ _ _ _ _ (T0.setTop (mkF m 27 #[.val (.int p1)] [(.int (1 : Int32))]))
          refine own_retZ S0 (by simp) d2_27 (by decide) (by decide) ?_
          have hh : own_ex p1 = (1 : Int32) := by simp [own_ex, hc3_1, hc9_12, hc17_13, hc23_18]
          rw [hh]; exact ⟨rfl, rfl⟩
    · show own_F p e below s Z _ _ _ _ _ (T0.setTop (mkF m 12 #[.val (.int p1)] []))
      refine own_F.of (fun _ => XS.iconst S0.here S0.hx rfl (S0.dec d2_12)) ?_
      show own_F p e below s Z _ _ _ _ _ (T0.setTop (mkF m 13 #[.val (.int p1)] [(.int (1 : Int32))]))
      refine own_retZ S0 (by simp) d2_13 (by decide) (by decide) ?_
      have hh : own_ex p1 = (1 : Int32) := by simp [own_ex, hc3_1, hc9_12]
      rw [hh]; exact ⟨rfl, rfl⟩
theorem pn0 : plainFor x = true := plainFor_of_name (by first | (simp [plainName, overriddenIn]; done) | decide +kernel)
set_option maxRecDepth 65536 in
set_option maxHeartbeats 40000000 in
theorem own_law (l : Launch) (Z : State) (a0 : Array Value) (hw : ∀ d ∈ tables_1, d.before a0 Z = true) (p0 p1 : Int32) (aT : Addr) (h0 : Heap) (hO : Ext Z.heap h0) (ST : Sta Z Z.heap "com/example/libidem/libidem/protocol/Token" "TCHAR" "[Z" (.ref aT)) (AT : own_A Z Z.heap aT .boolean own_tab) :
    own_C l Z x code maxLocals ret tables_1 room_1 [] #[(.int p0), (.int p1)] h0 (fun v _ => v = some (.int 1)) := by
  refine own_C.of pn0 hO all0 ?_
  intro p e s m below meth c T0 S0
  refine own_F.cast (by first | (simp [entryFrame, mkF, argsToLocals, Value.category, maxLocals]; done) | rfl : entryFrame m #[(.int p0), (.int p1)] maxLocals = mkF m 0 #[.val (.int p0), .val (.int p1), .unset] []) ?_
  show own_F p e below s Z _ _ _ _ _ (T0.setTop (mkF m 0 #[.val (.int p0), .val (.int p1), .unset] []))
  refine own_F.of (fun _ => XS.iloadN S0.here S0.hx rfl (S0.dec at_0) rfl) ?_
  show own_F p e below s Z _ _ _ _ _ (T0.setTop (mkF m 1 #[.val (.int p0), .val (.int p1), .unset] [(.int p1)]))
  refine own_F.of (fun _ => XS.iconst S0.here S0.hx rfl (S0.dec at_1)) ?_
  show own_F p e below s Z _ _ _ _ _ (T0.setTop (mkF m 2 #[.val (.int p0), .val (.int p1), .unset] [(.int (1 : Int32)), (.int p1)]))
  refine own_F.of (fun _ => XS.iand S0.here S0.hx rfl (S0.dec at_2) rfl) ?_
  show own_F p e below s Z _ _ _ _ _ (T0.setTop (mkF m 3 #[.val (.int p0), .val (.int p1), .unset] [(.int (p1 &&& (1 : Int32)))]))
  refine own_if S0 15 at_3 (by decide) (by decide) (fun (hc3_1 : (p1 &&& (1 : Int32)) = (0 : Int32)) => ?_) (fun (hc3_1 : ¬ ((p1 &&& (1 : Int32)) = (0 : Int32))) => ?_)
  · show own_F p e below s Z _ _ _ _ _ (T0.setTop (mkF m 15 #[.val (.int p0), .val (.int p1), .unset] []))
    refine own_F.of (fun _ => XS.iloadN S0.here S0.hx rfl (S0.dec at_15) rfl) ?_
    show own_F p e below s Z _ _ _ _ _ (T0.setTop (mkF m 16 #[.val (.int p0), .val (.int p1), .unset] [(.int p0)]))
    refine own_ldcI S0 (own_w hw 13 rfl) at_16 ?_
    show own_F p e below s Z _ _ _ _ _ (T0.setTop (mkF m 18 #[.val (.int p0), .val (.int p1), .unset] [(.int (65535 : Int32)), (.int p0)]))
    refine own_F.of (fun _ => XS.iand S0.here S0.hx rfl (S0.dec at_18) rfl) ?_
    show own_F p e below s Z _ _ _ _ _ (T0.setTop (mkF m 19 #[.val (.int p0), .val (.int p1), .unset] [(.int (p0 &&& (65535 : Int32)))]))
    refine own_F.of (fun _ => XS.i2c S0.here S0.hx rfl (S0.dec at_19) rfl) ?_
    show own_F p e below s Z _ _ _ _ _ (T0.setTop (mkF m 20 #[.val (.int p0), .val (.int p1), .unset] [(.int ((p0 &&& (65535 : Int32)).toUInt32.toUInt16.toUInt32.toInt32))]))
    refine own_F.of (fun _ => XS.istoreN S0.here S0.hx rfl (S0.dec at_20) rfl (l' := #[.val (.int p0), .val (.int p1), .val (.int ((p0 &&& (65535 : Int32)).toUInt32.toUInt16.toUInt32.toInt32))]) rfl) ?_
    show own_F p e below s Z _ _ _ _ _ (T0.setTop (mkF m 21 #[.val (.int p0), .val (.int p1), .val (.int ((p0 &&& (65535 : Int32)).toUInt32.toUInt16.toUInt32.toInt32))] []))
    refine own_F.of (fun _ => XS.iloadN S0.here S0.hx rfl (S0.dec at_21) rfl) ?_
    show own_F p e below s Z _ _ _ _ _ (T0.setTop (mkF m 22 #[.val (.int p0), .val (.int p1), .val (.int ((p0 &&& (65535 : Int32)).toUInt32.toUInt16.toUInt32.toInt32))] [(.int ((p0 &&& (65535 : Int32)).toUInt32.toUInt16.toUInt32.toInt32))]))
    refine own_callS S0 (y := (⟨"com/example/libidem/libidem/protocol/Token", "isTchar", "(C)Z"⟩ : MethodName)) (own_w hw 0 rfl) (own_w hw 1 rfl) (own_w hw 2 rfl) (own_w hw 3 rfl) (by decide) (argsL := [(.int ((p0 &&& (65535 : Int32)).toUInt32.toUInt16.toUInt32.toInt32))]) (rest := []) (own_isTchar l Z a0 hw ((p0 &&& (65535 : Int32)).toUInt32.toUInt16.toUInt32.toInt32) aT h0 S0.old ST AT (own_chr _).1) all0 (by decide +kernel : parseMethodDescriptor "(C)Z" = some ⟨[.char], some .boolean⟩) rfl rfl rfl at_22 (by decide) (Nat.le_of_ble_eq_true rfl) (by decide) (by decide) (fun T2 h2 v2 S2 K2 q2 => ?_)
    obtain ⟨rfl, rfl⟩ := q2
    show own_F p e below s Z _ _ _ _ _ (T2.setTop (mkF m 25 #[.val (.int p0), .val (.int p1), .val (.int ((p0 &&& (65535 : Int32)).toUInt32.toUInt16.toUInt32.toInt32))] [(.int (own_tc ((p0 &&& (65535 : Int32)).toUInt32.toUInt16.toUInt32.toInt32)))]))
    refine own_F.of (fun _ => XS.iloadN S2.here S2.hx rfl (S2.dec at_25) rfl) ?_
    show own_F p e below s Z _ _ _ _ _ (T2.setTop (mkF m 26 #[.val (.int p0), .val (.int p1), .val (.int ((p0 &&& (65535 : Int32)).toUInt32.toUInt16.toUInt32.toInt32))] [(.int ((p0 &&& (65535 : Int32)).toUInt32.toUInt16.toUInt32.toInt32)), (.int (own_tc ((p0 &&& (65535 : Int32)).toUInt32.toUInt16.toUInt32.toInt32)))]))
    refine own_callS S2 (y := (⟨"com/example/libidem/libidem/protocol/TokenIsTcharPinLaw", "expected", "(C)Z"⟩ : MethodName)) (own_w hw 6 rfl) (own_w hw 7 rfl) (own_w hw 8 rfl) (own_w hw 9 rfl) (by decide) (argsL := [(.int ((p0 &&& (65535 : Int32)).toUInt32.toUInt16.toUInt32.toInt32))]) (rest := [(.int (own_tc ((p0 &&& (65535 : Int32)).toUInt32.toUInt16.toUInt32.toInt32)))]) (own_expected l Z a0 hw ((p0 &&& (65535 : Int32)).toUInt32.toUInt16.toUInt32.toInt32) h0 S2.old) all0 (by decide +kernel : parseMethodDescriptor "(C)Z" = some ⟨[.char], some .boolean⟩) rfl rfl rfl at_26 (by decide) (Nat.le_of_ble_eq_true rfl) (by decide) (by decide) (fun T3 h3 v3 S3 K3 q3 => ?_)
    obtain ⟨rfl, rfl⟩ := q3
    show own_F p e below s Z _ _ _ _ _ (T3.setTop (mkF m 29 #[.val (.int p0), .val (.int p1), .val (.int ((p0 &&& (65535 : Int32)).toUInt32.toUInt16.toUInt32.toInt32))] [(.int (own_ex ((p0 &&& (65535 : Int32)).toUInt32.toUInt16.toUInt32.toInt32))), (.int (own_tc ((p0 &&& (65535 : Int32)).toUInt32.toUInt16.toUInt32.toInt32)))]))
    refine own_icmp S3 36 at_29 (by decide) (by decide) (fun (hc29_4 : ¬ ((own_tc ((p0 &&& (65535 : Int32)).toUInt32.toUInt16.toUInt32.toInt32)) = (own_ex ((p0 &&& (65535 : Int32)).toUInt32.toUInt16.toUInt32.toInt32)))) => False.elim (hc29_4 (own_same (own_chr _).1 (own_chr _).2))) (fun (hc29_4 : (own_tc ((p0 &&& (65535 : Int32)).toUInt32.toUInt16.toUInt32.toInt32)) = (own_ex ((p0 &&& (65535 : Int32)).toUInt32.toUInt16.toUInt32.toInt32))) => ?_)
    show own_F p e below s Z _ _ _ _ _ (T3.setTop (mkF m 32 #[.val (.int p0), .val (.int p1), .val (.int ((p0 &&& (65535 : Int32)).toUInt32.toUInt16.toUInt32.toInt32))] []))
    refine own_F.of (fun _ => XS.iconst S3.here S3.hx rfl (S3.dec at_32)) ?_
    show own_F p e below s Z _ _ _ _ _ (T3.setTop (mkF m 33 #[.val (.int p0), .val (.int p1), .val (.int ((p0 &&& (65535 : Int32)).toUInt32.toUInt16.toUInt32.toInt32))] [(.int (1 : Int32))]))
    refine own_F.of (fun _ => XS.goto S3.here S3.hx rfl (pc0 := 33) (pc' := 37) rfl (S3.dec at_33) (by decide) (by decide)) ?_
    show own_F p e below s Z _ _ _ _ _ (T3.setTop (mkF m 37 #[.val (.int p0), .val (.int p1), .val (.int ((p0 &&& (65535 : Int32)).toUInt32.toUInt16.toUInt32.toInt32))] [(.int (1 : Int32))]))
    refine own_retZ S3 (by simp) at_37 (by decide) (by decide) ?_
    rfl
  · show own_F p e below s Z _ _ _ _ _ (T0.setTop (mkF m 6 #[.val (.int p0), .val (.int p1), .unset] []))
    refine own_F.of (fun _ => XS.iloadN S0.here S0.hx rfl (S0.dec at_6) rfl) ?_
    show own_F p e below s Z _ _ _ _ _ (T0.setTop (mkF m 7 #[.val (.int p0), .val (.int p1), .unset] [(.int p0)]))
    refine own_F.of (fun _ => XS.bipush S0.here S0.hx rfl (S0.dec at_7)) ?_
    show own_F p e below s Z _ _ _ _ _ (T0.setTop (mkF m 9 #[.val (.int p0), .val (.int p1), .unset] [(.int (127 : Int32)), (.int p0)]))
    refine own_F.of (fun _ => XS.iand S0.here S0.hx rfl (S0.dec at_9) rfl) ?_
    show own_F p e below s Z _ _ _ _ _ (T0.setTop (mkF m 10 #[.val (.int p0), .val (.int p1), .unset] [(.int (p0 &&& (127 : Int32)))]))
    refine own_F.of (fun _ => XS.i2c S0.here S0.hx rfl (S0.dec at_10) rfl) ?_
    show own_F p e below s Z _ _ _ _ _ (T0.setTop (mkF m 11 #[.val (.int p0), .val (.int p1), .unset] [(.int ((p0 &&& (127 : Int32)).toUInt32.toUInt16.toUInt32.toInt32))]))
    refine own_F.of (fun _ => XS.istoreN S0.here S0.hx rfl (S0.dec at_11) rfl (l' := #[.val (.int p0), .val (.int p1), .val (.int ((p0 &&& (127 : Int32)).toUInt32.toUInt16.toUInt32.toInt32))]) rfl) ?_
    show own_F p e below s Z _ _ _ _ _ (T0.setTop (mkF m 12 #[.val (.int p0), .val (.int p1), .val (.int ((p0 &&& (127 : Int32)).toUInt32.toUInt16.toUInt32.toInt32))] []))
    refine own_F.of (fun _ => XS.goto S0.here S0.hx rfl (pc0 := 12) (pc' := 21) rfl (S0.dec at_12) (by decide) (by decide)) ?_
    show own_F p e below s Z _ _ _ _ _ (T0.setTop (mkF m 21 #[.val (.int p0), .val (.int p1), .val (.int ((p0 &&& (127 : Int32)).toUInt32.toUInt16.toUInt32.toInt32))] []))
    refine own_F.of (fun _ => XS.iloadN S0.here S0.hx rfl (S0.dec at_21) rfl) ?_
    show own_F p e below s Z _ _ _ _ _ (T0.setTop (mkF m 22 #[.val (.int p0), .val (.int p1), .val (.int ((p0 &&& (127 : Int32)).toUInt32.toUInt16.toUInt32.toInt32))] [(.int ((p0 &&& (127 : Int32)).toUInt32.toUInt16.toUInt32.toInt32))]))
    refine own_callS S0 (y := (⟨"com/example/libidem/libidem/protocol/Token", "isTchar", "(C)Z"⟩ : MethodName)) (own_w hw 0 rfl) (own_w hw 1 rfl) (own_w hw 2 rfl) (own_w hw 3 rfl) (by decide) (argsL := [(.int ((p0 &&& (127 : Int32)).toUInt32.toUInt16.toUInt32.toInt32))]) (rest := []) (own_isTchar l Z a0 hw ((p0 &&& (127 : Int32)).toUInt32.toUInt16.toUInt32.toInt32) aT h0 S0.old ST AT (own_chr _).1) all0 (by decide +kernel : parseMethodDescriptor "(C)Z" = some ⟨[.char], some .boolean⟩) rfl rfl rfl at_22 (by decide) (Nat.le_of_ble_eq_true rfl) (by decide) (by decide) (fun T5 h5 v5 S5 K5 q5 => ?_)
    obtain ⟨rfl, rfl⟩ := q5
    show own_F p e below s Z _ _ _ _ _ (T5.setTop (mkF m 25 #[.val (.int p0), .val (.int p1), .val (.int ((p0 &&& (127 : Int32)).toUInt32.toUInt16.toUInt32.toInt32))] [(.int (own_tc ((p0 &&& (127 : Int32)).toUInt32.toUInt16.toUInt32.toInt32)))]))
    refine own_F.of (fun _ => XS.iloadN S5.here S5.hx rfl (S5.dec at_25) rfl) ?_
    show own_F p e below s Z _ _ _ _ _ (T5.setTop (mkF m 26 #[.val (.int p0), .val (.int p1), .val (.int ((p0 &&& (127 : Int32)).toUInt32.toUInt16.toUInt32.toInt32))] [(.int ((p0 &&& (127 : Int32)).toUInt32.toUInt16.toUInt32.toInt32)), (.int (own_tc ((p0 &&& (127 : Int32)).toUInt32.toUInt16.toUInt32.toInt32)))]))
    refine own_callS S5 (y := (⟨"com/example/libidem/libidem/protocol/TokenIsTcharPinLaw", "expected", "(C)Z"⟩ : MethodName)) (own_w hw 6 rfl) (own_w hw 7 rfl) (own_w hw 8 rfl) (own_w hw 9 rfl) (by decide) (argsL := [(.int ((p0 &&& (127 : Int32)).toUInt32.toUInt16.toUInt32.toInt32))]) (rest := [(.int (own_tc ((p0 &&& (127 : Int32)).toUInt32.toUInt16.toUInt32.toInt32)))]) (own_expected l Z a0 hw ((p0 &&& (127 : Int32)).toUInt32.toUInt16.toUInt32.toInt32) h0 S5.old) all0 (by decide +kernel : parseMethodDescriptor "(C)Z" = some ⟨[.char], some .boolean⟩) rfl rfl rfl at_26 (by decide) (Nat.le_of_ble_eq_true rfl) (by decide) (by decide) (fun T6 h6 v6 S6 K6 q6 => ?_)
    obtain ⟨rfl, rfl⟩ := q6
    show own_F p e below s Z _ _ _ _ _ (T6.setTop (mkF m 29 #[.val (.int p0), .val (.int p1), .val (.int ((p0 &&& (127 : Int32)).toUInt32.toUInt16.toUInt32.toInt32))] [(.int (own_ex ((p0 &&& (127 : Int32)).toUInt32.toUInt16.toUInt32.toInt32))), (.int (own_tc ((p0 &&& (127 : Int32)).toUInt32.toUInt16.toUInt32.toInt32)))]))
    refine own_icmp S6 36 at_29 (by decide) (by decide) (fun (hc29_7 : ¬ ((own_tc ((p0 &&& (127 : Int32)).toUInt32.toUInt16.toUInt32.toInt32)) = (own_ex ((p0 &&& (127 : Int32)).toUInt32.toUInt16.toUInt32.toInt32)))) => False.elim (hc29_7 (own_same (own_chr _).1 (own_chr _).2))) (fun (hc29_7 : (own_tc ((p0 &&& (127 : Int32)).toUInt32.toUInt16.toUInt32.toInt32)) = (own_ex ((p0 &&& (127 : Int32)).toUInt32.toUInt16.toUInt32.toInt32))) => ?_)
    show own_F p e below s Z _ _ _ _ _ (T6.setTop (mkF m 32 #[.val (.int p0), .val (.int p1), .val (.int ((p0 &&& (127 : Int32)).toUInt32.toUInt16.toUInt32.toInt32))] []))
    refine own_F.of (fun _ => XS.iconst S6.here S6.hx rfl (S6.dec at_32)) ?_
    show own_F p e below s Z _ _ _ _ _ (T6.setTop (mkF m 33 #[.val (.int p0), .val (.int p1), .val (.int ((p0 &&& (127 : Int32)).toUInt32.toUInt16.toUInt32.toInt32))] [(.int (1 : Int32))]))
    refine own_F.of (fun _ => XS.goto S6.here S6.hx rfl (pc0 := 33) (pc' := 37) rfl (S6.dec at_33) (by decide) (by decide)) ?_
    show own_F p e below s Z _ _ _ _ _ (T6.setTop (mkF m 37 #[.val (.int p0), .val (.int p1), .val (.int ((p0 &&& (127 : Int32)).toUInt32.toUInt16.toUInt32.toInt32))] [(.int (1 : Int32))]))
    refine own_retZ S6 (by simp) at_37 (by decide) (by decide) ?_
    rfl
set_option maxRecDepth 65536 in
set_option maxHeartbeats 40000000 in
theorem comes_1 {Post : Tables → Env → Array Value → State → Outcome → State → Prop} (hpost : ∀ tb e args s v u, (limb_1_1.after args s (.returned v) u = true ∧ limb_1_2.after args s (.returned v) u = true ∧ True) → FrameEnd s (.returned v) u (Jvm.fieldLocs frame_1_writes args s ++ Jvm.arrayLocs frame_1_arrays args s ++ Jvm.staticLocs frame_1_statics s) 0 0 → Post tb e args s (.returned v) u) :
    ArmFor flags0 classFile x code maxLocals ret World_1 tables_1 room_1 Calls_1 rest_1 Pre_1 Post := by
  intro l hfl _ _ p e ha hc hk s m args below hf hA hF happ hP
  obtain ⟨hcalls, hrest, hpre⟩ := hP
  obtain ⟨-, -, -, hnamed, -, -, -, hat⟩ := (Spec.applies_iff hf).mp happ
  obtain ⟨hg, hn⟩ := and_e (Cond.before_iff.mp (show (Jvm.Cond.and given_1 narrow_1).before args s = true from hpre))
  obtain ⟨g1, g2⟩ := and_e hg
  obtain ⟨g3, g4⟩ := and_e g2
  obtain ⟨w0, w1, rfl⟩ : ∃ w0 w1 : Value, args = #[w0, w1] := by
    have hs : args.size = 2 := by simpa [Cond.value, given_1] using g1
    obtain ⟨L⟩ := args
    match L, hs with
    | [w0, w1], _ => exact ⟨w0, w1, rfl⟩
  have hw := fun d (hd : d ∈ tables_1) => atoms_spec (ws := Jvm.Cond.code x code maxLocals ret :: tables_1) hat d (List.mem_cons_of_mem _ hd)
  have hfit : Fit s := fun {y c} hc i hi => by
    obtain ⟨ha, rfl⟩ := Array.getElem?_eq_some_iff.mp hc
    have q := List.all_eq_true.mp ((Array.all_eq_true_iff_forall_mem.mp hF) _ (Array.getElem_mem ha)) i (List.mem_range.mpr hi)
    simpa [Array.getElem?_eq_getElem hi] using q
  obtain ⟨i0, ei0⟩ := is_v g3
  obtain rfl : w0 = (.int i0) := Option.some.inj ei0
  obtain ⟨i1, ei1⟩ := is_v g4
  obtain rfl : w1 = (.int i1) := Option.some.inj ei1
  obtain ⟨y0, hn⟩ := and_e hn
  obtain ⟨y1, hn⟩ := and_e hn
  obtain ⟨y2, hn⟩ := and_e hn
  obtain ⟨y3, hn⟩ := and_e hn
  obtain ⟨y4, hn⟩ := and_e hn
  obtain ⟨y5, hn⟩ := and_e hn
  obtain ⟨y6, hn⟩ := and_e hn
  obtain ⟨y7, hn⟩ := and_e hn
  obtain ⟨y8, hn⟩ := and_e hn
  obtain ⟨y9, hn⟩ := and_e hn
  obtain ⟨y10, hn⟩ := and_e hn
  obtain ⟨y11, hn⟩ := and_e hn
  obtain ⟨y12, hn⟩ := and_e hn
  obtain ⟨y13, hn⟩ := and_e hn
  obtain ⟨y14, hn⟩ := and_e hn
  obtain ⟨y15, hn⟩ := and_e hn
  obtain ⟨y16, hn⟩ := and_e hn
  obtain ⟨y17, hn⟩ := and_e hn
  obtain ⟨y18, hn⟩ := and_e hn
  obtain ⟨y19, hn⟩ := and_e hn
  obtain ⟨y20, hn⟩ := and_e hn
  obtain ⟨y21, hn⟩ := and_e hn
  obtain ⟨y22, hn⟩ := and_e hn
  obtain ⟨y23, hn⟩ := and_e hn
  obtain ⟨y24, hn⟩ := and_e hn
  have y25 := hn
  obtain ⟨aT, ev⟩ := arr_v y0
  have ST := Sta.start ev (Or.inr ⟨(own_w hw 2 rfl), (own_w hw 5 rfl)⟩)
  obtain ⟨cl, Ar, hl1, hl2, hat'⟩ := own_A.start ev y0 y1
  have hz : ¬ (128 : Int32) < 0 := by decide
  obtain ⟨-, hsz, -, hT⟩ := Tab.start hfit Ar (Or.inr (Or.inl rfl)) hl1 hl2 hz
  have hsz' : cl.slots.size = 128 := hsz
  have hin : ∀ j : Int32, ¬ j < 0 → j < 128 → cl.slots[j.toNatClampNeg]? = some (.int (atv cl j)) := fun j h0 h1 => hT j (fun q => q.elim h0 fun q => by have := own_lt128 h0 h1; omega)
  have z2 : ∀ j : Int32, ¬ j < 0 → j < 128 → ¬ j < 0 → j < 33 → atv cl j = 0 := fun j h0 h1 q1 q2 => by
    have u := Cond.all_elim ev hat' y2 j.toNatClampNeg (by have := own_lt128 h0 h1; omega)
    exact (or_e2 (Cond.le_ints rfl (idx_at h0)) (own_elv (idx := [j.toNatClampNeg]) ev hat' (idx_at h0) h0 (hin j h0 h1)) u).resolve_left (fun r => absurd q2 (Int32.not_lt.mpr r))
  have z3 : ∀ j : Int32, ¬ j < 0 → j < 128 → ¬ j < 33 → j < 34 → atv cl j = 1 := fun j h0 h1 q1 q2 => by
    obtain rfl : j = 33 := own_only (b := 34) (n := 33) (m := 34) rfl rfl rfl q1 q2
    exact gotT (own_elv ev hat' rfl (by decide) (hin _ (by decide) (by decide))) y3
  have z4 : ∀ j : Int32, ¬ j < 0 → j < 128 → ¬ j < 34 → j < 35 → atv cl j = 0 := fun j h0 h1 q1 q2 => by
    obtain rfl : j = 34 := own_only (b := 35) (n := 34) (m := 35) rfl rfl rfl q1 q2
    exact gotT (own_elv ev hat' rfl (by decide) (hin _ (by decide) (by decide))) y4
  have z5 : ∀ j : Int32, ¬ j < 0 → j < 128 → ¬ j < 35 → j < 40 → atv cl j = 1 := fun j h0 h1 q1 q2 => by
    have u := Cond.all_elim ev hat' y5 j.toNatClampNeg (by have := own_lt128 h0 h1; omega)
    exact ((or3 u (Cond.lt_ints (idx_at h0) rfl) (Cond.le_ints rfl (idx_at h0)) (own_elv (idx := [j.toNatClampNeg]) ev hat' (idx_at h0) h0 (hin j h0 h1))).resolve_left q1).resolve_left (fun r => r q2)
  have z6 : ∀ j : Int32, ¬ j < 0 → j < 128 → ¬ j < 40 → j < 41 → atv cl j = 0 := fun j h0 h1 q1 q2 => by
    obtain rfl : j = 40 := own_only (b := 41) (n := 40) (m := 41) rfl rfl rfl q1 q2
    exact gotT (own_elv ev hat' rfl (by decide) (hin _ (by decide) (by decide))) y6
  have z7 : ∀ j : Int32, ¬ j < 0 → j < 128 → ¬ j < 41 → j < 42 → atv cl j = 0 := fun j h0 h1 q1 q2 => by
    obtain rfl : j = 41 := own_only (b := 42) (n := 41) (m := 42) rfl rfl rfl q1 q2
    exact gotT (own_elv ev hat' rfl (by decide) (hin _ (by decide) (by decide))) y7
  have z8 : ∀ j : Int32, ¬ j < 0 → j < 128 → ¬ j < 42 → j < 43 → atv cl j = 1 := fun j h0 h1 q1 q2 => by
    obtain rfl : j = 42 := own_only (b := 43) (n := 42) (m := 43) rfl rfl rfl q1 q2
    exact gotT (own_elv ev hat' rfl (by decide) (hin _ (by decide) (by decide))) y8
  have z9 : ∀ j : Int32, ¬ j < 0 → j < 128 → ¬ j < 43 → j < 44 → atv cl j = 1 := fun j h0 h1 q1 q2 => by
    obtain rfl : j = 43 := own_only (b := 44) (n := 43) (m := 44) rfl rfl rfl q1 q2
    exact gotT (own_elv ev hat' rfl (by decide) (hin _ (by decide) (by decide))) y9
  have z10 : ∀ j : Int32, ¬ j < 0 → j < 128 → ¬ j < 44 → j < 45 → atv cl j = 0 := fun j h0 h1 q1 q2 => by
    obtain rfl : j = 44 := own_only (b := 45) (n := 44) (m := 45) rfl rfl rfl q1 q2
    exact gotT (own_elv ev hat' rfl (by decide) (hin _ (by decide) (by decide))) y10
  have z11 : ∀ j : Int32, ¬ j < 0 → j < 128 → ¬ j < 45 → j < 46 → atv cl j = 1 := fun j h0 h1 q1 q2 => by
    obtain rfl : j = 45 := own_only (b := 46) (n := 45) (m := 46) rfl rfl rfl q1 q2
    exact gotT (own_elv ev hat' rfl (by decide) (hin _ (by decide) (by decide))) y11
  have z12 : ∀ j : Int32, ¬ j < 0 → j < 128 → ¬ j < 46 → j < 47 → atv cl j = 1 := fun j h0 h1 q1 q2 => by
    obtain rfl : j = 46 := own_only (b := 47) (n := 46) (m := 47) rfl rfl rfl q1 q2
    exact gotT (own_elv ev hat' rfl (by decide) (hin _ (by decide) (by decide))) y12
  have z13 : ∀ j : Int32, ¬ j < 0 → j < 128 → ¬ j < 47 → j < 48 → atv cl j = 0 := fun j h0 h1 q1 q2 => by
    obtain rfl : j = 47 := own_only (b := 48) (n := 47) (m := 48) rfl rfl rfl q1 q2
    exact gotT (own_elv ev hat' rfl (by decide) (hin _ (by decide) (by decide))) y13
  have z14 : ∀ j : Int32, ¬ j < 0 → j < 128 → ¬ j < 48 → j < 58 → atv cl j = 1 := fun j h0 h1 q1 q2 => by
    have u := Cond.all_elim ev hat' y14 j.toNatClampNeg (by have := own_lt128 h0 h1; omega)
    exact ((or3 u (Cond.lt_ints (idx_at h0) rfl) (Cond.le_ints rfl (idx_at h0)) (own_elv (idx := [j.toNatClampNeg]) ev hat' (idx_at h0) h0 (hin j h0 h1))).resolve_left q1).resolve_left (fun r => r q2)
  have z15 : ∀ j : Int32, ¬ j < 0 → j < 128 → ¬ j < 58 → j < 65 → atv cl j = 0 := fun j h0 h1 q1 q2 => by
    have u := Cond.all_elim ev hat' y15 j.toNatClampNeg (by have := own_lt128 h0 h1; omega)
    exact ((or3 u (Cond.lt_ints (idx_at h0) rfl) (Cond.le_ints rfl (idx_at h0)) (own_elv (idx := [j.toNatClampNeg]) ev hat' (idx_at h0) h0 (hin j h0 h1))).resolve_left q1).resolve_left (fun r => r q2)
  have z16 : ∀ j : Int32, ¬ j < 0 → j < 128 → ¬ j < 65 → j < 91 → atv cl j = 1 := fun j h0 h1 q1 q2 => by
    have u := Cond.all_elim ev hat' y16 j.toNatClampNeg (by have := own_lt128 h0 h1; omega)
    exact ((or3 u (Cond.lt_ints (idx_at h0) rfl) (Cond.le_ints rfl (idx_at h0)) (own_elv (idx := [j.toNatClampNeg]) ev hat' (idx_at h0) h0 (hin j h0 h1))).resolve_left q1).resolve_left (fun r => r q2)
  have z17 : ∀ j : Int32, ¬ j < 0 → j < 128 → ¬ j < 91 → j < 92 → atv cl j = 0 := fun j h0 h1 q1 q2 => by
    obtain rfl : j = 91 := own_only (b := 92) (n := 91) (m := 92) rfl rfl rfl q1 q2
    exact gotT (own_elv ev hat' rfl (by decide) (hin _ (by decide) (by decide))) y17
  have z18 : ∀ j : Int32, ¬ j < 0 → j < 128 → ¬ j < 92 → j < 93 → atv cl j = 0 := fun j h0 h1 q1 q2 => by
    obtain rfl : j = 92 := own_only (b := 93) (n := 92) (m := 93) rfl rfl rfl q1 q2
    exact gotT (own_elv ev hat' rfl (by decide) (hin _ (by decide) (by decide))) y18
  have z19 : ∀ j : Int32, ¬ j < 0 → j < 128 → ¬ j < 93 → j < 94 → atv cl j = 0 := fun j h0 h1 q1 q2 => by
    obtain rfl : j = 93 := own_only (b := 94) (n := 93) (m := 94) rfl rfl rfl q1 q2
    exact gotT (own_elv ev hat' rfl (by decide) (hin _ (by decide) (by decide))) y19
  have z20 : ∀ j : Int32, ¬ j < 0 → j < 128 → ¬ j < 94 → j < 123 → atv cl j = 1 := fun j h0 h1 q1 q2 => by
    have u := Cond.all_elim ev hat' y20 j.toNatClampNeg (by have := own_lt128 h0 h1; omega)
    exact ((or3 u (Cond.lt_ints (idx_at h0) rfl) (Cond.le_ints rfl (idx_at h0)) (own_elv (idx := [j.toNatClampNeg]) ev hat' (idx_at h0) h0 (hin j h0 h1))).resolve_left q1).resolve_left (fun r => r q2)
  have z21 : ∀ j : Int32, ¬ j < 0 → j < 128 → ¬ j < 123 → j < 124 → atv cl j = 0 := fun j h0 h1 q1 q2 => by
    obtain rfl : j = 123 := own_only (b := 124) (n := 123) (m := 124) rfl rfl rfl q1 q2
    exact gotT (own_elv ev hat' rfl (by decide) (hin _ (by decide) (by decide))) y21
  have z22 : ∀ j : Int32, ¬ j < 0 → j < 128 → ¬ j < 124 → j < 125 → atv cl j = 1 := fun j h0 h1 q1 q2 => by
    obtain rfl : j = 124 := own_only (b := 125) (n := 124) (m := 125) rfl rfl rfl q1 q2
    exact gotT (own_elv ev hat' rfl (by decide) (hin _ (by decide) (by decide))) y22
  have z23 : ∀ j : Int32, ¬ j < 0 → j < 128 → ¬ j < 125 → j < 126 → atv cl j = 0 := fun j h0 h1 q1 q2 => by
    obtain rfl : j = 125 := own_only (b := 126) (n := 125) (m := 126) rfl rfl rfl q1 q2
    exact gotT (own_elv ev hat' rfl (by decide) (hin _ (by decide) (by decide))) y23
  have z24 : ∀ j : Int32, ¬ j < 0 → j < 128 → ¬ j < 126 → j < 127 → atv cl j = 1 := fun j h0 h1 q1 q2 => by
    obtain rfl : j = 126 := own_only (b := 127) (n := 126) (m := 127) rfl rfl rfl q1 q2
    exact gotT (own_elv ev hat' rfl (by decide) (hin _ (by decide) (by decide))) y24
  have z25 : ∀ j : Int32, ¬ j < 0 → j < 128 → ¬ j < 127 → j < 128 → atv cl j = 0 := fun j h0 h1 q1 q2 => by
    obtain rfl : j = 127 := own_only (b := 128) (n := 127) (m := 128) rfl rfl rfl q1 q2
    exact gotT (own_elv ev hat' rfl (by decide) (hin _ (by decide) (by decide))) y25
  have hall : ∀ j : Int32, ¬ j < 0 → j < 128 → atv cl j = own_ex j := fun j h0 h1 => by
    have key : ∀ i : Fin 128, own_ex (i.1.toInt32) = if i.1.toInt32 < 33 then 0 else if i.1.toInt32 < 34 then 1 else if i.1.toInt32 < 35 then 0 else if i.1.toInt32 < 40 then 1 else if i.1.toInt32 < 41 then 0 else if i.1.toInt32 < 42 then 0 else if i.1.toInt32 < 43 then 1 else if i.1.toInt32 < 44 then 1 else if i.1.toInt32 < 45 then 0 else if i.1.toInt32 < 46 then 1 else if i.1.toInt32 < 47 then 1 else if i.1.toInt32 < 48 then 0 else if i.1.toInt32 < 58 then 1 else if i.1.toInt32 < 65 then 0 else if i.1.toInt32 < 91 then 1 else if i.1.toInt32 < 92 then 0 else if i.1.toInt32 < 93 then 0 else if i.1.toInt32 < 94 then 0 else if i.1.toInt32 < 123 then 1 else if i.1.toInt32 < 124 then 0 else if i.1.toInt32 < 125 then 1 else if i.1.toInt32 < 126 then 0 else if i.1.toInt32 < 127 then 1 else 0 := by decide +kernel
    have kk := key ⟨j.toNatClampNeg, own_lt128 h0 h1⟩
    simp only [own_clamp h0] at kk
    rw [kk]
    by_cases r0 : j < 33
    · rw [if_pos r0]; exact z2 j h0 h1 h0 r0
    rw [if_neg r0]
    by_cases r1 : j < 34
    · rw [if_pos r1]; exact z3 j h0 h1 r0 r1
    rw [if_neg r1]
    by_cases r2 : j < 35
    · rw [if_pos r2]; exact z4 j h0 h1 r1 r2
    rw [if_neg r2]
    by_cases r3 : j < 40
    · rw [if_pos r3]; exact z5 j h0 h1 r2 r3
    rw [if_neg r3]
    by_cases r4 : j < 41
    · rw [if_pos r4]; exact z6 j h0 h1 r3 r4
    rw [if_neg r4]
    by_cases r5 : j < 42
    · rw [if_pos r5]; exact z7 j h0 h1 r4 r5
    rw [if_neg r5]
    by_cases r6 : j < 43
    · rw [if_pos r6]; exact z8 j h0 h1 r5 r6
    rw [if_neg r6]
    by_cases r7 : j < 44
    · rw [if_pos r7]; exact z9 j h0 h1 r6 r7
    rw [if_neg r7]
    by_cases r8 : j < 45
    · rw [if_pos r8]; exact z10 j h0 h1 r7 r8
    rw [if_neg r8]
    by_cases r9 : j < 46
    · rw [if_pos r9]; exact z11 j h0 h1 r8 r9
    rw [if_neg r9]
    by_cases r10 : j < 47
    · rw [if_pos r10]; exact z12 j h0 h1 r9 r10
    rw [if_neg r10]
    by_cases r11 : j < 48
    · rw [if_pos r11]; exact z13 j h0 h1 r10 r11
    rw [if_neg r11]
    by_cases r12 : j < 58
    · rw [if_pos r12]; exact z14 j h0 h1 r11 r12
    rw [if_neg r12]
    by_cases r13 : j < 65
    · rw [if_pos r13]; exact z15 j h0 h1 r12 r13
    rw [if_neg r13]
    by_cases r14 : j < 91
    · rw [if_pos r14]; exact z16 j h0 h1 r13 r14
    rw [if_neg r14]
    by_cases r15 : j < 92
    · rw [if_pos r15]; exact z17 j h0 h1 r14 r15
    rw [if_neg r15]
    by_cases r16 : j < 93
    · rw [if_pos r16]; exact z18 j h0 h1 r15 r16
    rw [if_neg r16]
    by_cases r17 : j < 94
    · rw [if_pos r17]; exact z19 j h0 h1 r16 r17
    rw [if_neg r17]
    by_cases r18 : j < 123
    · rw [if_pos r18]; exact z20 j h0 h1 r17 r18
    rw [if_neg r18]
    by_cases r19 : j < 124
    · rw [if_pos r19]; exact z21 j h0 h1 r18 r19
    rw [if_neg r19]
    by_cases r20 : j < 125
    · rw [if_pos r20]; exact z22 j h0 h1 r19 r20
    rw [if_neg r20]
    by_cases r21 : j < 126
    · rw [if_pos r21]; exact z23 j h0 h1 r20 r21
    rw [if_neg r21]
    by_cases r22 : j < 127
    · rw [if_pos r22]; exact z24 j h0 h1 r21 r22
    rw [if_neg r22]
    exact z25 j h0 h1 r22 h1
  have AT : own_A s s.heap aT .boolean own_tab := ⟨cl, Ar, List.ext_getElem? fun i => by
    by_cases hi : i < 128
    · have w1 : i.toInt32.toNatClampNeg = i := by simpa using Int32.toNatClampNeg_ofNat_of_lt (n := i) (by omega)
      have w0 : ¬ i.toInt32 < 0 := fun q => idx_in (n := 128) hi (by decide) (Or.inl q)
      have w2 : i.toInt32 < 128 := by have h := nat_of w0; rw [w1] at h; rw [Int32.lt_iff_toInt_lt]; have e : (128 : Int32).toInt = 128 := rfl; omega
      have u := hin _ w0 w2
      rw [w1, hall _ w0 w2] at u
      rw [own_tab_at hi, Array.getElem?_toList, u]; rfl
    · rw [List.getElem?_eq_none (by simpa [hsz'] using hi), List.getElem?_eq_none (by simpa [own_tab] using hi)], by simp [own_tab]⟩
  obtain ⟨n, o, h1, h2, h3, _, L, rfl, ⟨N, K, rfl⟩, hq⟩ := own_law l s _ hw i0 i1 aT s.heap (own_extRefl _) ST AT p e ha hc hk s m _ below hf ((Spec.applies_iff_loose hf).mp happ).1 ⟨rfl, State.Warmed39.refl s, rfl⟩ trivial
  refine ⟨n, _, h1, h2, h3, hpost _ _ _ _ _ _ ⟨Cond.after_iff.mpr rfl, Cond.after_iff.mpr (eq_i res_at (Term.int_eval (1)) rfl), trivial⟩ ⟨hq.1, hq.2.1, (hq.2.2.sift fun y hy => Or.inr (N y hy)).mono (by decide) (by decide)⟩⟩
theorem main_1_1 : Claimed_1_1 := comes_1 fun _ _ _ _ _ _ h hF => ⟨h.1, hF⟩
theorem main_1_2 : Claimed_1_2 := comes_1 fun _ _ _ _ _ _ h hF => ⟨h.2.1, hF⟩
end Jvm.Pilot.@@N@@
namespace Jvm.Pilot.@@N@@
open Jvm Jvm.ClassFile Sem Op Lib Jvm.Free Jvm.Stand Jvm.Pilot.@@N@@.Jvm.D
/-! MADE BY PROGRAM (witnessworld.py) out of the Statement's table words and the real class files: 11 classes; the members and pool entries that the words name. The judged class is class 1, her method 3. -/
namespace start1
open Jvm.ClassFile
def u (s : String) : CpInfo := .utf8 (stringToUtf16 s)
/-- a pool by its gaps: so many unusable entries, then the entry; so many at the end -/
def gap : Nat → List CpInfo → List CpInfo
  | 0, r => r
  | n + 1, r => .unusable :: gap n r
def poolList (es : List (Nat × CpInfo)) (last : Nat) : List CpInfo := es.foldr (fun e r => gap e.1 (e.2 :: r)) (gap last [])
def pool (es : List (Nat × CpInfo)) (last : Nat) : Array CpInfo := ⟨poolList es last⟩
def fileOf (pool : Array CpInfo) (this : Nat) (attrs : Array Attribute := #[]) (ms : Array MethodInfo := #[]) (fl : Nat := 33) (sup : Nat := 0) (ifs : Array Nat := #[]) (fds : Array FieldInfo := #[]) : ClassFile where
  minorVersion := 0
  majorVersion := 65
  constantPool := pool
  accessFlags := fl
  thisClass := this
  superClass := sup
  interfaces := ifs
  fields := fds
  methods := ms
  attributes := attrs
def plain (name : String) (sup : Option ClassId) : Class where
  name := name
  kind := .ordinary
  loader := none
  accessFlags := 33
  super := sup
  interfaces := #[]
  cf := none
  fields := #[]
  methods := #[]
  instanceTypes := #[]
  staticTypes := #[]
  resolved := #[]
  callSites := []
  init := .initialized
  statics := none
  mirror := none

def pool0 : Array CpInfo := pool [(5, u "<init>"), (0, u "()V"), (1, .class_ 10), (1, u "java/lang/Object")] 113

def k0m0 : Method := { name := "<init>", desc := "()V", sig := { parameters := [], returnType := none }, accessFlags := 1, code := none }
/-- java/lang/Object -/
def k0 : Class := { plain "java/lang/Object" none with
  accessFlags := 33
  interfaces := #[]
  cf := some (fileOf pool0 8 #[] #[{ accessFlags := 1, nameIndex := 5, descriptorIndex := 6, attributes := #[] }] 33 0 #[] #[])
  fields := #[]
  methods := #[k0m0]
  instanceTypes := #[]
  staticTypes := #[]
  resolved := Array.replicate 124 none
  statics := none }

def pool1 : Array CpInfo := pool [(2, .class_ 4), (1, u "java/lang/Object"), (0, u "<init>"), (0, u "()V"), (0, .methodref 8 9), (0, .class_ 10), (0, .nameAndType 11 12), (0, u "com/example/libidem/libidem/protocol/TokenIsTcharPinLaw"), (0, u "isSpecial"), (0, u "(C)Z"), (0, .integer 65535), (0, .methodref 15 16), (0, .class_ 17), (0, .nameAndType 18 12), (0, u "com/example/libidem/libidem/protocol/Token"), (0, u "isTchar"), (0, .methodref 8 20), (0, .nameAndType 21 12), (0, u "expected"), (3, u "law"), (0, u "(II)Z")] 2

def k1m0 : Method := { name := "<init>", desc := "()V", sig := { parameters := [], returnType := none }, accessFlags := 2, code := none }
def k1c1 : Code := { maxStack := 2, maxLocals := 1, code := method_2_code, exceptionTable := #[], attributes := #[] }
def k1m1 : Method := { name := "isSpecial", desc := "(C)Z", sig := { parameters := [.char], returnType := some .boolean }, accessFlags := 10, code := some k1c1 }
def k1c2 : Code := { maxStack := 2, maxLocals := 1, code := method_3_code, exceptionTable := #[], attributes := #[] }
def k1m2 : Method := { name := "expected", desc := "(C)Z", sig := { parameters := [.char], returnType := some .boolean }, accessFlags := 10, code := some k1c2 }
def k1c3 : Code := { maxStack := 2, maxLocals := 3, code := code, exceptionTable := #[], attributes := #[] }
def k1m3 : Method := { name := "law", desc := "(II)Z", sig := { parameters := [.int, .int], returnType := some .boolean }, accessFlags := 9, code := some k1c3 }
/-- com/example/libidem/libidem/protocol/TokenIsTcharPinLaw -/
def k1 : Class := { plain "com/example/libidem/libidem/protocol/TokenIsTcharPinLaw" (some 0) with
  accessFlags := 49
  interfaces := #[]
  cf := some (fileOf pool1 8 #[] #[{ accessFlags := 2, nameIndex := 5, descriptorIndex := 6, attributes := #[] }, { accessFlags := 10, nameIndex := 11, descriptorIndex := 12, attributes := #[] }, { accessFlags := 10, nameIndex := 21, descriptorIndex := 12, attributes := #[] }, { accessFlags := 9, nameIndex := 25, descriptorIndex := 26, attributes := #[] }] 49 2 #[] #[])
  fields := #[]
  methods := #[k1m0, k1m1, k1m2, k1m3]
  instanceTypes := #[]
  staticTypes := #[]
  resolved := Array.replicate 29 none
  statics := none }

def pool2 : Array CpInfo := pool [(2, .class_ 4), (1, u "java/lang/Object"), (0, u "<init>"), (0, u "()V"), (15, .class_ 24), (1, u "com/example/libidem/libidem/protocol/Token"), (0, u "isTchar"), (0, u "(C)Z"), (0, .fieldref 22 28), (0, .nameAndType 29 30), (0, u "TCHAR"), (0, u "[Z")] 27

def k2m0 : Method := { name := "<init>", desc := "()V", sig := { parameters := [], returnType := none }, accessFlags := 2, code := none }
def k2c1 : Code := { maxStack := 2, maxLocals := 1, code := prog_16_method_3_code, exceptionTable := #[], attributes := #[] }
def k2m1 : Method := { name := "isTchar", desc := "(C)Z", sig := { parameters := [.char], returnType := some .boolean }, accessFlags := 9, code := some k2c1 }
/-- com/example/libidem/libidem/protocol/Token -/
def k2 : Class := { plain "com/example/libidem/libidem/protocol/Token" (some 0) with
  accessFlags := 49
  interfaces := #[]
  cf := some (fileOf pool2 22 #[] #[{ accessFlags := 2, nameIndex := 5, descriptorIndex := 6, attributes := #[] }, { accessFlags := 9, nameIndex := 25, descriptorIndex := 26, attributes := #[] }] 49 2 #[] #[{ accessFlags := 26, nameIndex := 29, descriptorIndex := 30, attributes := #[] }])
  fields := #[{ name := "TCHAR", type := (.array .boolean), accessFlags := 26, slot := 0, constantValue := 0 }]
  methods := #[k2m0, k2m1]
  instanceTypes := #[]
  staticTypes := #[(.array .boolean)]
  resolved := Array.replicate 58 none
  statics := some 0 }

def pool3 : Array CpInfo := pool [(1, u "java/lang/Cloneable"), (0, .class_ 1), (0, u "java/lang/Object"), (0, .class_ 3)] 3

/-- java/lang/Cloneable -/
def k3 : Class := { plain "java/lang/Cloneable" (some 0) with
  accessFlags := 1537
  interfaces := #[]
  cf := some (fileOf pool3 2 #[] #[] 1537 4 #[] #[])
  fields := #[]
  methods := #[]
  instanceTypes := #[]
  staticTypes := #[]
  resolved := Array.replicate 8 none
  statics := none }

def pool4 : Array CpInfo := pool [(1, u "java/io/Serializable"), (0, .class_ 1), (0, u "java/lang/Object"), (0, .class_ 3)] 3

/-- java/io/Serializable -/
def k4 : Class := { plain "java/io/Serializable" (some 0) with
  accessFlags := 1537
  interfaces := #[]
  cf := some (fileOf pool4 2 #[] #[] 1537 4 #[] #[])
  fields := #[]
  methods := #[]
  instanceTypes := #[]
  staticTypes := #[]
  resolved := Array.replicate 8 none
  statics := none }

/-- the primitive boolean -/
def k5 : Class := { plain "boolean" none with kind := .primitive 'Z', accessFlags := 0x411 }
/-- [Z -/
def k6 : Class := { plain "[Z" (some 0) with kind := .array 5 .boolean, interfaces := #[3, 4], accessFlags := 1041 }

/-- the primitive byte -/
def k7 : Class := { plain "byte" none with kind := .primitive 'B', accessFlags := 0x411 }
/-- [B -/
def k8 : Class := { plain "[B" (some 0) with kind := .array 7 .byte, interfaces := #[3, 4], accessFlags := 1041 }

/-- the primitive int -/
def k9 : Class := { plain "int" none with kind := .primitive 'I', accessFlags := 0x411 }
/-- [I -/
def k10 : Class := { plain "[I" (some 0) with kind := .array 9 .int, interfaces := #[3, 4], accessFlags := 1041 }

def heap : Heap := #[{ cls := 2, slots := #[.ref 1], vm := .statics 2 },
  { cls := 6, slots := #[.int 0, .int 0, .int 0, .int 0, .int 0, .int 0, .int 0, .int 0, .int 0, .int 0, .int 0, .int 0, .int 0, .int 0, .int 0, .int 0, .int 0, .int 0, .int 0, .int 0, .int 0, .int 0, .int 0, .int 0, .int 0, .int 0, .int 0, .int 0, .int 0, .int 0, .int 0, .int 0, .int 0, .int 1, .int 0, .int 1, .int 1, .int 1, .int 1, .int 1, .int 0, .int 0, .int 1, .int 1, .int 0, .int 1, .int 1, .int 0, .int 1, .int 1, .int 1, .int 1, .int 1, .int 1, .int 1, .int 1, .int 1, .int 1, .int 0, .int 0, .int 0, .int 0, .int 0, .int 0, .int 0, .int 1, .int 1, .int 1, .int 1, .int 1, .int 1, .int 1, .int 1, .int 1, .int 1, .int 1, .int 1, .int 1, .int 1, .int 1, .int 1, .int 1, .int 1, .int 1, .int 1, .int 1, .int 1, .int 1, .int 1, .int 1, .int 1, .int 0, .int 0, .int 0, .int 1, .int 1, .int 1, .int 1, .int 1, .int 1, .int 1, .int 1, .int 1, .int 1, .int 1, .int 1, .int 1, .int 1, .int 1, .int 1, .int 1, .int 1, .int 1, .int 1, .int 1, .int 1, .int 1, .int 1, .int 1, .int 1, .int 1, .int 1, .int 1, .int 0, .int 1, .int 0, .int 1, .int 0], vm := .none }]
def classes : Array Class := #[k0, k1, k2, k3, k4, k5, k6, k7, k8, k9, k10]
def interned : List (Array UInt16 × Addr) := []
def slotsUsed : Nat := 129
def theMethod : MethodId := ⟨1, 3⟩
def args0 : Array Value := #[.int 65, .int 1]
def aboutOver (below : List Frame) : State where
  vm := { classes := classes, interned := interned.toArray }
  heap := heap
  slotsUsed := slotsUsed
  threads := #[{ frames := .invoking theMethod args0 :: below }]
def below0 : List Frame := [.native { method := ⟨0, 0⟩, args := #[] }]
def about1 : State := aboutOver below0
def p0 : Program := .bare "" "" ""
def e0 : Env := launch0.env 0 0 0
theorem w_frames : about1.frames = Frame.invoking theMethod args0 :: below0 := rfl
set_option maxRecDepth 65536 in
theorem w_args : argsFit about1.vm theMethod args0 = true := by decide +kernel
set_option maxRecDepth 65536 in
theorem w_heap : heapFits about1 = true := by decide +kernel
set_option maxRecDepth 65536 in
theorem w_runnable : about1.curStatus? = some .runnable := by decide +kernel
set_option maxRecDepth 65536 in
theorem w_alone : about1.alone = true := by decide +kernel
set_option maxRecDepth 65536 in
theorem w_named : about1.methodNamed? x = some theMethod := by decide +kernel
set_option maxRecDepth 65536 in
theorem w_hears : about1.hears theMethod below0 = true := by decide +kernel
set_option maxRecDepth 65536 in
theorem w_ripe : about1.ripe theMethod args0 below0 = true := by decide +kernel
theorem w_running : about1.status = .running := rfl
set_option maxRecDepth 65536 in
theorem w_room : about1.hasRoom e0.platform room_1 = true :=
  launch0.hasRoom_least _ room_1 (by decide +kernel) (by decide +kernel) (by decide +kernel) (by decide +kernel) (by decide +kernel) (by decide +kernel)
theorem allAtoms_all (ts : List Jvm.Cond) (a : Array Jvm.Value) (st : Jvm.State) : (allAtoms ts).before a st = ts.all (fun c => c.before a st) := by
  induction ts with
  | nil => rfl
  | cons c t ih =>
    show (Jvm.Cond.and c (allAtoms t)).before a st = _
    rw [Jvm.Cond.before_and, ih, List.all_cons]
def words1 : List Jvm.Cond := Jvm.Cond.code x code maxLocals ret :: tables_1
/-- a 'code' word, met by the world's own term for the bytes: nothing is compared byte by byte -/
theorem code_word {y : MethodName} {bytes : ByteArray} {mx : Nat} {rt : Option FieldType} {a : Array Value} {s : State} {m : MethodId} {meth : Method} {c : Code} (h1 : s.methodNamed? y = some m) (h2 : s.vm.method? m = some meth) (h3 : meth.code = some c) (h4 : c.code = bytes)
    (h5 : (c.maxLocals == mx && c.exceptionTable.isEmpty && decide (c.maxStack ≤ mostOperands) && decide (meth.sig.returnType = rt) && !meth.locks && decide (parseMethodDescriptor y.desc = some meth.sig)) = true) : (Jvm.Cond.code y bytes mx rt).before a s = true := by
  simp only [Bool.and_eq_true, beq_iff_eq, Bool.not_eq_true', decide_eq_true_eq] at h5
  obtain ⟨⟨⟨⟨⟨g1, g2⟩, g3⟩, g4⟩, g5⟩, g6⟩ := h5
  simp [Cond.before, Cond.holds, Cond.value, h1, h2, h3, h4, g1, g2, g3, g4, g5, g6]
def isCode : Jvm.Cond → Bool
  | .code _ _ _ _ => true
  | _ => false
theorem all_split {L : List Jvm.Cond} {P : Jvm.Cond → Bool} (h1 : L.all (fun c => isCode c || P c) = true) (h2 : ∀ c ∈ L.filter isCode, P c = true) : L.all P = true := by
  refine List.all_eq_true.mpr fun c hc => ?_
  have h := List.all_eq_true.mp h1 c hc
  rcases Bool.eq_false_or_eq_true (isCode c) with hi | hi
  · exact h2 c (List.mem_filter.mpr ⟨hc, hi⟩)
  · simpa [hi] using h
set_option maxRecDepth 65536 in
theorem w_c0 : (Jvm.Cond.code x code maxLocals ret).before args0 about1 = true := code_word (m := ⟨1, 3⟩) (meth := k1m3) (c := k1c3) (by decide +kernel) rfl rfl rfl (by decide +kernel)
set_option maxRecDepth 65536 in
theorem w_c1 : (Jvm.Cond.code ({ cls := "com/example/libidem/libidem/protocol/Token", name := "isTchar", desc := "(C)Z" } : Jvm.MethodName) prog_16_method_3_code (1 : Nat) (Option.some Jvm.ClassFile.FieldType.boolean)).before args0 about1 = true := code_word (m := ⟨2, 1⟩) (meth := k2m1) (c := k2c1) (by decide +kernel) rfl rfl rfl (by decide +kernel)
set_option maxRecDepth 65536 in
theorem w_c2 : (Jvm.Cond.code ({ cls := "com/example/libidem/libidem/protocol/TokenIsTcharPinLaw", name := "expected", desc := "(C)Z" } : Jvm.MethodName) method_3_code (1 : Nat) (Option.some Jvm.ClassFile.FieldType.boolean)).before args0 about1 = true := code_word (m := ⟨1, 2⟩) (meth := k1m2) (c := k1c2) (by decide +kernel) rfl rfl rfl (by decide +kernel)
set_option maxRecDepth 65536 in
theorem w_c3 : (Jvm.Cond.code ({ cls := "com/example/libidem/libidem/protocol/TokenIsTcharPinLaw", name := "isSpecial", desc := "(C)Z" } : Jvm.MethodName) method_2_code (1 : Nat) (Option.some Jvm.ClassFile.FieldType.boolean)).before args0 about1 = true := code_word (m := ⟨1, 1⟩) (meth := k1m1) (c := k1c1) (by decide +kernel) rfl rfl rfl (by decide +kernel)
def codes1 : List Jvm.Cond := [Jvm.Cond.code x code maxLocals ret, Jvm.Cond.code ({ cls := "com/example/libidem/libidem/protocol/Token", name := "isTchar", desc := "(C)Z" } : Jvm.MethodName) prog_16_method_3_code (1 : Nat) (Option.some Jvm.ClassFile.FieldType.boolean), Jvm.Cond.code ({ cls := "com/example/libidem/libidem/protocol/TokenIsTcharPinLaw", name := "expected", desc := "(C)Z" } : Jvm.MethodName) method_3_code (1 : Nat) (Option.some Jvm.ClassFile.FieldType.boolean), Jvm.Cond.code ({ cls := "com/example/libidem/libidem/protocol/TokenIsTcharPinLaw", name := "isSpecial", desc := "(C)Z" } : Jvm.MethodName) method_2_code (1 : Nat) (Option.some Jvm.ClassFile.FieldType.boolean)]
set_option maxRecDepth 65536 in
theorem codes_eq : words1.filter isCode = codes1 := rfl
theorem w_codes : ∀ c ∈ words1.filter isCode, c.before args0 about1 = true := by
  rw [codes_eq]
  intro c hc
  simp only [codes1, List.mem_cons, List.not_mem_nil, or_false] at hc
  rcases hc with rfl | rfl | rfl | rfl
  · exact w_c0
  · exact w_c1
  · exact w_c2
  · exact w_c3
set_option maxRecDepth 65536 in
theorem w_t1 : words1.all (fun c => isCode c || c.before args0 about1) = true := by decide +kernel
theorem w_tables : (allAtoms (Jvm.Cond.code x code maxLocals ret :: tables_1)).before args0 about1 = true := by
  rw [allAtoms_all]
  show words1.all (fun c => c.before args0 about1) = true
  refine all_split ?_ w_codes
  rw [w_t1]
set_option maxRecDepth 65536 in
theorem w_case : (Jvm.Cond.and given_1 narrow_1).before args0 about1 = true := by decide +kernel
theorem w_applies : (headSpec (Jvm.Cond.code x code maxLocals ret :: tables_1) room_1).applies x e0.platform about1 = true :=
  (Spec.applies_iff w_frames).mpr ⟨w_running, w_runnable, w_alone, w_named, w_hears, w_ripe, w_room, w_tables⟩
theorem atStart : AtStart classFile x code maxLocals ret World_1 tables_1 room_1 Calls_1 rest_1 Pre_1 launch0 p0 e0 about1 theMethod args0 below0 :=
  ⟨lists_1, trivial, launch0.admits_env _ _ _, launch0.least_env, fairChoices_fair.cas, fairChoices_fair.clock, w_frames, w_args, w_heap, w_applies, trivial, trivial, w_case⟩
end start1
theorem witness_1 : WitnessClaimed_1 := ⟨start1.p0, start1.e0, start1.about1, start1.theMethod, start1.args0, start1.below0, start1.atStart⟩
end Jvm.Pilot.@@N@@
