import JvmDerived
import JvmDerived.Pilot.@@N@@Statement
import JvmDerived.Pilot.@@N@@Code
set_option linter.unusedVariables false
set_option linter.unusedSimpArgs false
namespace Jvm.Pilot.@@N@@
open Jvm Jvm.ClassFile Sem Op Lib Jvm.Free Jvm.Stand Jvm.LawKit Jvm.RoadKit Bundle Jvm.Pilot.@@N@@.Jvm.D
/-! OWN PRELUDE (the same text in every proof of this seat): the walk as a goal that goes forward -/
section OwnPrelude
variable {Z : State} {hs : Heap} {W : List Addr} {own : String} {bytes : ByteArray} {maxL : Nat} {ret : Option FieldType} {nm : String}
  {p : Program} {l : Launch} {e : Env} {R : Room} {s : State} {m : MethodId} {args : Array Value} {below : List Frame} {meth : Method} {c : Code}
  {T : State} {h : Heap} {cells slots : Nat} {k n : Nat} {Q : Option Value → Heap → Prop} {a0 : Array Value} {pc : Nat} {Ls : Array Slot} {st rest : List Value}

/-- what stays the same while one body is walked -/
def own_G (Z : State) (hs : Heap) (W : List Addr) (own : String) (bytes : ByteArray) (maxL : Nat) (ret : Option FieldType) (nm : String) (p : Program) (s : State) (m : MethodId) (meth : Method) (c : Code) : Prop :=
  p.tables.exec = Jvm.exec ∧ Z.Warmed39 s.vm ∧ s.vm.findClass own = some m.cls ∧ c.code = bytes ∧ c.maxLocals = maxL ∧ meth.sig.returnType = ret ∧ meth.locks = false ∧ meth.name = nm ∧ Ext Z.heap hs ∧ ∀ a ∈ W, Z.heap.size ≤ a
/-- where the walk stands: state T, heap h, so many cells and slots made; nothing old but W was written -/
def own_S (Z : State) (hs : Heap) (W : List Addr) (own : String) (bytes : ByteArray) (maxL : Nat) (ret : Option FieldType) (nm : String) (p : Program) (l : Launch) (e : Env) (R : Room) (s : State) (m : MethodId) (args : Array Value) (below : List Frame) (meth : Method) (c : Code)
    (T : State) (h : Heap) (cells slots : Nat) : Prop :=
  own_G Z hs W own bytes maxL ret nm p s m meth c ∧ ∃ locs, Stand p l e R s m args below meth c T locs cells slots ∧ Fr Z.heap.size locs ∧ T.heap = h ∧ Keep hs h W
/-- from A the call comes to its end, and there Q holds -/
def own_F (p : Program) (e : Env) (below : List Frame) (s : State) (Z : State) (hs : Heap) (W : List Addr) (k n : Nat) (Q : Option Value → Heap → Prop) (A : State) : Prop :=
  ∃ s₂ o, Steps p.tables e below A s₂ ∧ s₂.status = .running ∧ Ended s₂ below o ∧ ∃ v L, o = .returned v ∧ (Fr Z.heap.size L ∧ Keep hs s₂.heap W ∧ Q v s₂.heap) ∧ FrameEnd s o s₂ L k n
/-- a body's contract -/
def own_C (l : Launch) (Z : State) (y : MethodName) (bytes : ByteArray) (maxL : Nat) (ret : Option FieldType) (ws : List Jvm.Cond) (rm : Room) (W : List Addr) (as' : Array Value) (h0 : Heap) (Q : Option Value → Heap → Prop) : Prop :=
  MetFree l y (head1 (Jvm.Cond.code y bytes maxL ret :: ws) rm) (fun a U => a = as' ∧ Z.Warmed39 U.vm ∧ U.heap = h0) (fun _ _ _ _ _ => True)
    (fun _ U o U' => ∃ v L, o = .returned v ∧ (Fr Z.heap.size L ∧ Keep h0 U'.heap W ∧ Q v U'.heap) ∧ FrameEnd U o U' L rm.cells rm.slots)

theorem own_C.of {y : MethodName} {ws : List Jvm.Cond} {rm : Room} {as' : Array Value} {h0 : Heap} (hpl : plainFor y = true) (hO : Ext Z.heap h0) (hW : ∀ a ∈ W, Z.heap.size ≤ a)
    (body : ∀ p e s m below meth c T, own_S Z h0 W y.cls bytes maxL ret y.name p l e rm s m as' below meth c T h0 0 0 → own_F p e below s Z h0 W rm.cells rm.slots Q (T.setTop (entryFrame m as' maxL))) :
    own_C l Z y bytes maxL ret ws rm W as' h0 Q := by
  refine MetFree.of_bodySF hpl hisR ?_
  intro p e s m args below meth c s₁ Bd hml hP hK
  obtain ⟨rfl, hZ, hh⟩ := hP
  exact body p e s m below meth c s₁ ⟨⟨Bd.exec, hZ, findClass_of_methodNamed Bd.named, Bd.bytes, hml, Bd.returns, Bd.notSynchronized, (name_of_methodNamed Bd.named Bd.method).1, hO, hW⟩, [], Stand.of_body Bd, Fr.nil _, (by rw [← hh, Bd.state]; rfl), Keep.refl _ _⟩

theorem own_F.of {A B : State} (h : ∀ t, Steps p.tables e below B t → Steps p.tables e below A t) (f : own_F p e below s Z hs W k n Q B) : own_F p e below s Z hs W k n Q A := by
  obtain ⟨s₂, o, h1, r⟩ := f
  exact ⟨s₂, o, h _ h1, r⟩
theorem own_F.to {A B : State} (h : Steps p.tables e below A B) (f : own_F p e below s Z hs W k n Q B) : own_F p e below s Z hs W k n Q A := own_F.of (fun _ => h.trans) f
theorem own_F.cast {g g' : JFrame} (q : g = g') (f : own_F p e below s Z hs W k n Q (T.setTop g')) : own_F p e below s Z hs W k n Q (T.setTop g) := q ▸ f
theorem own_F.mono {A : State} {Q' : Option Value → Heap → Prop} (f : own_F p e below s Z hs W k n Q A) (q : ∀ v h, Q v h → Q' v h) : own_F p e below s Z hs W k n Q' A := by
  obtain ⟨s₂, o, h1, h2, h3, v, L, h4, ⟨h5, h6, h7⟩, h8⟩ := f
  exact ⟨s₂, o, h1, h2, h3, v, L, h4, ⟨h5, h6, q _ _ h7⟩, h8⟩
theorem own_C.mono {y : MethodName} {ws : List Jvm.Cond} {rm : Room} {as' : Array Value} {h0 : Heap} {Q' : Option Value → Heap → Prop} (f : own_C l Z y bytes maxL ret ws rm W as' h0 Q) (q : ∀ v h, Q v h → Q' v h) : own_C l Z y bytes maxL ret ws rm W as' h0 Q' := by
  intro p e ha hc hk s m args below hf happ hP hK
  obtain ⟨n, o, h1, h2, h3, v, L, h4, ⟨h5, h6, h7⟩, h8⟩ := f p e ha hc hk s m args below hf happ hP hK
  exact ⟨n, o, h1, h2, h3, v, L, h4, ⟨h5, h6, q _ _ h7⟩, h8⟩

theorem own_S.hx (S : own_S Z hs W own bytes maxL ret nm p l e R s m args below meth c T h cells slots) : p.tables.exec = Jvm.exec := S.1.1
theorem own_S.hZ (S : own_S Z hs W own bytes maxL ret nm p l e R s m args below meth c T h cells slots) : Z.Warmed39 s.vm := S.1.2.1
theorem own_S.hown (S : own_S Z hs W own bytes maxL ret nm p l e R s m args below meth c T h cells slots) : s.vm.findClass own = some m.cls := S.1.2.2.1
theorem own_S.hby (S : own_S Z hs W own bytes maxL ret nm p l e R s m args below meth c T h cells slots) : c.code = bytes := S.1.2.2.2.1
theorem own_S.hml (S : own_S Z hs W own bytes maxL ret nm p l e R s m args below meth c T h cells slots) : c.maxLocals = maxL := S.1.2.2.2.2.1
theorem own_S.hret (S : own_S Z hs W own bytes maxL ret nm p l e R s m args below meth c T h cells slots) : meth.sig.returnType = ret := S.1.2.2.2.2.2.1
theorem own_S.hlk (S : own_S Z hs W own bytes maxL ret nm p l e R s m args below meth c T h cells slots) : meth.locks = false := S.1.2.2.2.2.2.2.1
theorem own_S.hnm (S : own_S Z hs W own bytes maxL ret nm p l e R s m args below meth c T h cells slots) : meth.name = nm := S.1.2.2.2.2.2.2.2.1
theorem own_S.hO (S : own_S Z hs W own bytes maxL ret nm p l e R s m args below meth c T h cells slots) : Ext Z.heap hs := S.1.2.2.2.2.2.2.2.2.1
theorem own_S.hW (S : own_S Z hs W own bytes maxL ret nm p l e R s m args below meth c T h cells slots) : ∀ a ∈ W, Z.heap.size ≤ a := S.1.2.2.2.2.2.2.2.2.2
theorem own_S.keep (S : own_S Z hs W own bytes maxL ret nm p l e R s m args below meth c T h cells slots) : Keep hs h W := by obtain ⟨-, _, -, -, -, K⟩ := S; exact K
theorem own_S.size (S : own_S Z hs W own bytes maxL ret nm p l e R s m args below meth c T h cells slots) : hs.size ≤ h.size := S.keep.1
theorem own_S.old (S : own_S Z hs W own bytes maxL ret nm p l e R s m args below meth c T h cells slots) : Ext Z.heap h :=
  ⟨Nat.le_trans S.hO.1 S.size, fun x cc q => S.keep.2.1 x cc (S.hO.2 x cc q) fun r => absurd (Array.getElem?_eq_some_iff.mp q).1 (Nat.not_lt.mpr (S.hW x r))⟩
theorem own_S.here (S : own_S Z hs W own bytes maxL ret nm p l e R s m args below meth c T h cells slots) : At T m c below := by obtain ⟨-, _, X, -⟩ := S; exact X.here
theorem own_S.dec (S : own_S Z hs W own bytes maxL ret nm p l e R s m args below meth c T h cells slots) {r : Except ClassFile.DecodeError (ClassFile.Instr × Nat)} (h2 : decode bytes pc = r) : decode c.code pc = r := hb S.hby h2
theorem own_S.may (S : own_S Z hs W own bytes maxL ret nm p l e R s m args below meth c T h cells slots) {a : Addr} (q : a ∈ W ∨ hs.size ≤ a) : Z.heap.size ≤ a := q.elim (S.hW a) (Nat.le_trans S.hO.1)
theorem own_S.more (S : own_S Z hs W own bytes maxL ret nm p l e R s m args below meth c T h cells slots) {k' n' : Nat} (hk : cells ≤ k') (hn : slots ≤ n') : own_S Z hs W own bytes maxL ret nm p l e R s m args below meth c T h k' n' := by
  obtain ⟨G, locs, X, r⟩ := S
  exact ⟨G, locs, X.more hk hn, r⟩

/-! the ends -/
theorem own_S.leave (S : own_S Z hs W own bytes maxL ret nm p l e R s m args below meth c T h cells slots) {A : State} {v : Option Value} (hk : cells ≤ k) (hn : slots ≤ n) (hv : ret = none → v = none) (hq : Q v h)
    (go : ∀ (locs : List Loc) (_ : Stand p l e R s m args below meth c T locs cells slots) (fs : List Frame), (∀ (f : JFrame) (acts : List Action), f.method = m → f.locked = none → f.entered = [] → (doReturn e (T.setTop f) acts v).1 = T.setFrames fs) → Steps p.tables e below A (T.setFrames fs)) : own_F p e below s Z hs W k n Q A := by
  obtain ⟨G, locs, X, N, e0, K⟩ := S
  have hlk : meth.locks = false := own_S.hlk (⟨G, locs, X, N, e0, K⟩ : own_S Z hs W own bytes maxL ret nm p l e R s m args below meth c T h cells slots)
  have hret : meth.sig.returnType = ret := own_S.hret (⟨G, locs, X, N, e0, K⟩ : own_S Z hs W own bytes maxL ret nm p l e R s m args below meth c T h cells slots)
  obtain ⟨fs, hr, hrun, hended, hW, hsame⟩ := X.leave (v := v) (fun q => hv (hret ▸ q)) hlk
  subst e0
  exact ⟨_, _, go locs X fs hr, hrun, hended, _, _, rfl, ⟨N, K, hq⟩, ⟨_, rfl⟩, hW, hsame.mono hk hn⟩
theorem own_retV (S : own_S Z hs W own bytes maxL none nm p l e R s m args below meth c T h cells slots) (hd : decode bytes pc = .ok (.return_, 1)) (hk : cells ≤ k) (hn : slots ≤ n) (hq : Q none h) : own_F p e below s Z hs W k n Q (T.setTop (mkF m pc Ls [])) :=
  S.leave hk hn (fun _ => rfl) hq fun locs X fs hr => X.returnOut S.hx S.hret (S.dec hd) hr
theorem own_retZ {t : FieldType} (S : own_S Z hs W own bytes maxL (some t) nm p l e R s m args below meth c T h cells slots) {z : Int32} (ht : t = .boolean ∨ t = .byte ∨ t = .char ∨ t = .short) (hd : decode bytes pc = .ok (.ireturn, 1)) (hk : cells ≤ k) (hn : slots ≤ n) (hq : Q (some (.int (nar t z))) h) : own_F p e below s Z hs W k n Q (T.setTop (mkF m pc Ls (.int z :: rest))) :=
  S.leave hk hn (fun q => by cases q) hq fun locs X fs hr => retN X S.hx S.hret ht (S.dec hd) hr
theorem own_retI (S : own_S Z hs W own bytes maxL (some .int) nm p l e R s m args below meth c T h cells slots) {z : Int32} (hd : decode bytes pc = .ok (.ireturn, 1)) (hk : cells ≤ k) (hn : slots ≤ n) (hq : Q (some (.int z)) h) : own_F p e below s Z hs W k n Q (T.setTop (mkF m pc Ls (.int z :: rest))) :=
  S.leave hk hn (fun q => by cases q) hq fun locs X fs hr => retOut X S.hx S.hret rfl (Or.inl ⟨rfl, Or.inl rfl, _, rfl⟩) (S.dec hd) hr
theorem own_retJ (S : own_S Z hs W own bytes maxL (some .long) nm p l e R s m args below meth c T h cells slots) {z : Int64} (hd : decode bytes pc = .ok (.lreturn, 1)) (hk : cells ≤ k) (hn : slots ≤ n) (hq : Q (some (.long z)) h) : own_F p e below s Z hs W k n Q (T.setTop (mkF m pc Ls (.long z :: rest))) :=
  S.leave hk hn (fun q => by cases q) hq fun locs X fs hr => retOut X S.hx S.hret rfl (Or.inr (Or.inl ⟨rfl, rfl, _, rfl⟩)) (S.dec hd) hr
theorem own_retD (S : own_S Z hs W own bytes maxL (some .double) nm p l e R s m args below meth c T h cells slots) {z : UInt64} (hd : decode bytes pc = .ok (.dreturn, 1)) (hk : cells ≤ k) (hn : slots ≤ n) (hq : Q (some (.double z)) h) : own_F p e below s Z hs W k n Q (T.setTop (mkF m pc Ls (.double z :: rest))) :=
  S.leave hk hn (fun q => by cases q) hq fun locs X fs hr => retOut X S.hx S.hret rfl (Or.inr (Or.inr (Or.inl ⟨rfl, rfl, _, rfl⟩))) (S.dec hd) hr
theorem own_retA {t : FieldType} (S : own_S Z hs W own bytes maxL (some t) nm p l e R s m args below meth c T h cells slots) {w : Value} (ht : t.isReference = true) (hw : w.isRef = true) (hd : decode bytes pc = .ok (.areturn, 1)) (hk : cells ≤ k) (hn : slots ≤ n) (hq : Q (some w) h) : own_F p e below s Z hs W k n Q (T.setTop (mkF m pc Ls (w :: rest))) :=
  S.leave hk hn (fun q => by cases q) hq fun locs X fs hr => retOut X S.hx S.hret (by cases w <;> simp [Value.isRef] at hw <;> cases t <;> simp [FieldType.isReference] at ht <;> rfl) (Or.inr (Or.inr (Or.inr (Or.inr ⟨rfl, ht, hw⟩)))) (S.dec hd) hr

/-! branches -/
def own_cd : ClassFile.Cond → Int32 → Int32 → Prop
  | .eq, x, y => x = y
  | .ne, x, y => ¬ x = y
  | .lt, x, y => x < y
  | .ge, x, y => ¬ x < y
  | .gt, x, y => y < x
  | .le, x, y => ¬ y < x
theorem own_cd_t {cd : ClassFile.Cond} {x y : Int32} (q : own_cd cd x y) : if_icmp.holds cd x y = true := by
  cases cd
  · exact (teq q).1
  · exact (feq q).2
  · exact (tlt q).1
  · exact (flt q).2.1
  · exact (tlt q).2.2.1
  · exact (flt q).2.2.2
def own_cn : ClassFile.Cond → Int32 → Int32 → Prop
  | .eq, x, y => ¬ x = y
  | .ne, x, y => x = y
  | .lt, x, y => ¬ x < y
  | .ge, x, y => x < y
  | .gt, x, y => ¬ y < x
  | .le, x, y => y < x
theorem own_cd_f {cd : ClassFile.Cond} {x y : Int32} (q : own_cn cd x y) : if_icmp.holds cd x y = false := by
  cases cd
  · exact (feq q).1
  · exact (teq q).2
  · exact (flt q).1
  · exact (tlt q).2.1
  · exact (flt q).2.2.1
  · exact (tlt q).2.2.2
theorem own_cd_em (cd : ClassFile.Cond) (x y : Int32) : own_cd cd x y ∨ own_cn cd x y := by
  cases cd
  · exact Classical.em (x = y)
  · exact (Classical.em (x = y)).symm
  · exact Classical.em (x < y)
  · exact (Classical.em (x < y)).symm
  · exact Classical.em (y < x)
  · exact (Classical.em (y < x)).symm
theorem own_icmp (S : own_S Z hs W own bytes maxL ret nm p l e R s m args below meth c T h cells slots) {cd : ClassFile.Cond} {o : Int} {x y : Int32} (pc' : Nat) (hd : decode bytes pc = .ok (.if_icmp cd o, 3)) (ho : 0 ≤ (pc : Int) + o) (hp : ((pc : Int) + o).toNat = pc')
    (ft : own_cd cd x y → own_F p e below s Z hs W k n Q (T.setTop (mkF m pc' Ls rest))) (ff : own_cn cd x y → own_F p e below s Z hs W k n Q (T.setTop (mkF m (pc + 3) Ls rest))) : own_F p e below s Z hs W k n Q (T.setTop (mkF m pc Ls (.int y :: .int x :: rest))) := by
  rcases own_cd_em cd x y with q | q
  · exact own_F.of (fun _ => XS.icmpYes S.here S.hx rfl (pc0 := pc) rfl (S.dec hd) rfl (own_cd_t q) ho hp) (ft q)
  · exact own_F.of (fun _ => XS.icmpNo S.here S.hx rfl (S.dec hd) rfl (own_cd_f q)) (ff q)
theorem own_if (S : own_S Z hs W own bytes maxL ret nm p l e R s m args below meth c T h cells slots) {cd : ClassFile.Cond} {o : Int} {x : Int32} (pc' : Nat) (hd : decode bytes pc = .ok (.ifCond cd o, 3)) (ho : 0 ≤ (pc : Int) + o) (hp : ((pc : Int) + o).toNat = pc')
    (ft : own_cd cd x 0 → own_F p e below s Z hs W k n Q (T.setTop (mkF m pc' Ls rest))) (ff : own_cn cd x 0 → own_F p e below s Z hs W k n Q (T.setTop (mkF m (pc + 3) Ls rest))) : own_F p e below s Z hs W k n Q (T.setTop (mkF m pc Ls (.int x :: rest))) := by
  rcases own_cd_em cd x 0 with q | q
  · exact own_F.of (fun _ => XS.ifYes S.here S.hx rfl (pc0 := pc) rfl (S.dec hd) rfl ((if0 _ _).trans (own_cd_t q)) ho hp) (ft q)
  · exact own_F.of (fun _ => XS.ifNo S.here S.hx rfl (S.dec hd) rfl ((if0 _ _).trans (own_cd_f q))) (ff q)
def own_ac : ACond → Value → Value → Prop
  | .eq, x, y => x = y
  | .ne, x, y => ¬ x = y
def own_an : ACond → Value → Value → Prop
  | .eq, x, y => ¬ x = y
  | .ne, x, y => x = y
theorem own_acmp (S : own_S Z hs W own bytes maxL ret nm p l e R s m args below meth c T h cells slots) {cd : ACond} {o : Int} {x y : Value} (h1 : x.isRef = true) (h2 : y.isRef = true) (pc' : Nat) (hd : decode bytes pc = .ok (.if_acmp cd o, 3)) (ho : 0 ≤ (pc : Int) + o) (hp : ((pc : Int) + o).toNat = pc')
    (ft : own_ac cd x y → own_F p e below s Z hs W k n Q (T.setTop (mkF m pc' Ls rest))) (ff : own_an cd x y → own_F p e below s Z hs W k n Q (T.setTop (mkF m (pc + 3) Ls rest))) : own_F p e below s Z hs W k n Q (T.setTop (mkF m pc Ls (y :: x :: rest))) := by
  obtain ⟨locs, X, -⟩ := S.2
  cases cd <;> rcases Classical.em (x = y) with q | q
  · exact own_F.of (fun _ => Jvm.RoadKit.acmp (g := mkF m pc Ls (y :: x :: rest)) X S.hx rfl h1 h2 (pc0 := pc) (pc' := pc') (same := true) rfl (S.dec hd) rfl (decide_eq_true q) ho (by simp [acV, ← hp])) (ft q)
  · exact own_F.of (fun _ => Jvm.RoadKit.acmp (g := mkF m pc Ls (y :: x :: rest)) X S.hx rfl h1 h2 (pc0 := pc) (pc' := pc + 3) (same := false) rfl (S.dec hd) rfl (decide_eq_false q) ho (by simp [acV])) (ff q)
  · exact own_F.of (fun _ => Jvm.RoadKit.acmp (g := mkF m pc Ls (y :: x :: rest)) X S.hx rfl h1 h2 (pc0 := pc) (pc' := pc + 3) (same := true) rfl (S.dec hd) rfl (decide_eq_true q) ho (by simp [acV])) (ff q)
  · exact own_F.of (fun _ => Jvm.RoadKit.acmp (g := mkF m pc Ls (y :: x :: rest)) X S.hx rfl h1 h2 (pc0 := pc) (pc' := pc') (same := false) rfl (S.dec hd) rfl (decide_eq_false q) ho (by simp [acV, ← hp])) (ft q)

/-! the heap -/
theorem own_getF (S : own_S Z hs W own bytes maxL ret nm p l e R s m args below meth c T h cells slots) {R0 O fn d host : String} {index : Nat} (w : (Jvm.Cond.fieldLink own index R0 fn d).before a0 Z = true ∨ (Jvm.Cond.fieldLinkNest own index R0 fn d host).before a0 Z = true) (via : Via Z R0 O fn d)
    {a : Addr} {v : Value} (F : Fld Z h a O fn d v) (hd : decode bytes pc = .ok (.getfield index, 3))
    (f : ∀ T', own_S Z hs W own bytes maxL ret nm p l e R s m args below meth c T' h cells slots → own_F p e below s Z hs W k n Q (T'.setTop (mkF m (pc + 3) Ls (v :: rest)))) : own_F p e below s Z hs W k n Q (T.setTop (mkF m pc Ls (.ref a :: rest))) := by
  have S' := S
  obtain ⟨G, locs, X, N, e0, K⟩ := S
  obtain ⟨T', X', e', st⟩ := getF X S'.hx S'.hZ S'.hown w via e0 F (g := mkF m pc Ls (.ref a :: rest)) rfl rfl (S'.dec hd)
  exact own_F.of st (f T' ⟨G, locs, X', N, e', K⟩)
theorem own_getS (S : own_S Z hs W own bytes maxL ret nm p l e R s m args below meth c T h cells slots) {R0 O fn d host : String} {index : Nat} (w : (Jvm.Cond.fieldLink own index R0 fn d).before a0 Z = true ∨ (Jvm.Cond.fieldLinkNest own index R0 fn d host).before a0 Z = true) (via : Via Z R0 O fn d)
    {v : Value} (F : Sta Z h O fn d v) (hd : decode bytes pc = .ok (.getstatic index, 3))
    (f : ∀ T', own_S Z hs W own bytes maxL ret nm p l e R s m args below meth c T' h cells slots → own_F p e below s Z hs W k n Q (T'.setTop (mkF m (pc + 3) Ls (v :: st)))) : own_F p e below s Z hs W k n Q (T.setTop (mkF m pc Ls st)) := by
  have S' := S
  obtain ⟨G, locs, X, N, e0, K⟩ := S
  obtain ⟨T', X', e', st⟩ := getS2 X S'.hx S'.hZ S'.hown w via e0 F (g := mkF m pc Ls st) rfl (S'.dec hd)
  exact own_F.of st (f T' ⟨G, locs, X', N, e', K⟩)
theorem own_putF (S : own_S Z hs W own bytes maxL ret nm p l e R s m args below meth c T h cells slots) {R0 O fn d host C : String} {index kk : Nat} {ty : FieldType} (w : (Jvm.Cond.fieldLink own index R0 fn d).before a0 Z = true ∨ (Jvm.Cond.fieldLinkNest own index R0 fn d host).before a0 Z = true) (via : Via Z R0 O fn d)
    {a : Addr} {v old : Value} (F : Fld Z h a O fn d old) (E : Exa Z h a C) (L : (Jvm.Cond.lays C O fn d).before a0 Z = true ∨ ((Jvm.Cond.laysFinal C O fn d).before a0 Z = true ∧ own = O ∧ nm = "<init>")) (wi : (Jvm.Cond.instantiable C kk).before a0 Z = true)
    (hty : parseFieldDescriptor d = some ty) (hn : narrow ty v = v) (hf : fits ty v = true) (hd : decode bytes pc = .ok (.putfield index, 3)) (ok : a ∈ W ∨ hs.size ≤ a)
    (f : ∀ T' h', own_S Z hs W own bytes maxL ret nm p l e R s m args below meth c T' h' cells slots → Wr h h' a (Jvm.RoadKit.slotOf Z O fn d) v → own_F p e below s Z hs W k n Q (T'.setTop (mkF m (pc + 3) Ls rest))) : own_F p e below s Z hs W k n Q (T.setTop (mkF m pc Ls (v :: .ref a :: rest))) := by
  have S' := S
  obtain ⟨G, locs, X, N, e0, K⟩ := S
  obtain ⟨T', h', X', e', Wt, st⟩ := putF X S'.hx S'.hZ S'.hown w via e0 F E (L.imp id fun q => ⟨q.1, q.2.1, S'.hnm.trans q.2.2⟩) wi hty hn hf (g := mkF m pc Ls (v :: .ref a :: rest)) rfl rfl (S'.dec hd)
  exact own_F.of st (f T' h' ⟨G, _, X', Fr.snoc X' N (S'.may ok), e', K.wr Wt ok⟩ Wt)
theorem own_new (S : own_S Z hs W own bytes maxL ret nm p l e R s m args below meth c T h cells slots) {C : String} {index sl : Nat} (w : (Jvm.Cond.classLink own index C).before a0 Z = true) (wi : (Jvm.Cond.instantiable C sl).before a0 Z = true) (wz : (Jvm.Cond.initialized C).before a0 Z = true)
    (hd : decode bytes pc = .ok (.new index, 3)) (hc : cells + 1 ≤ R.cells) (hl : slots + sl ≤ R.slots)
    (f : ∀ T' h' a, a = h.size → own_S Z hs W own bytes maxL ret nm p l e R s m args below meth c T' h' (cells + 1) (slots + sl) → Ext h h' → Exa Z h' a C → (∀ {O fn d : String} {ty : FieldType}, Laid Z a0 C O fn d → parseFieldDescriptor d = some ty → Fld Z h' a O fn d (defaultValue ty)) →
      own_F p e below s Z hs W k n Q (T'.setTop (mkF m (pc + 3) Ls (.ref a :: st)))) : own_F p e below s Z hs W k n Q (T.setTop (mkF m pc Ls st)) := by
  have S' := S
  obtain ⟨G, locs, X, N, e0, K⟩ := S
  obtain ⟨T', h', X', e', E, A, D, -, st⟩ := newO X S'.hx S'.hZ S'.hown w wi wz e0 (g := mkF m pc Ls st) rfl (S'.dec hd) hc hl
  exact own_F.of st (f T' h' _ rfl ⟨G, _, X', N, e', K.ext E⟩ E A D)
theorem own_initO (S : own_S Z hs W own bytes maxL ret nm p l e R s m args below meth c T h cells slots) {index : Nat} (w1 : (Jvm.Cond.methodLink own index Lib.objectInit).before a0 Z = true) (w2 : (Jvm.Cond.instanceMethod Lib.objectInit).before a0 Z = true)
    (w3 : (Jvm.Cond.code Lib.objectInit ⟨#[0xb1]⟩ 1 none).before a0 Z = true) {a : Addr} (hsz : Ls.size = maxL) (hd : decode bytes pc = .ok (.invokespecial index, 3)) (hf : 1 ≤ R.frames) (hl : (rest.map fun v => v.category).sum + 12 ≤ R.locals)
    (f : ∀ T', own_S Z hs W own bytes maxL ret nm p l e R s m args below meth c T' h cells slots → own_F p e below s Z hs W k n Q (T'.setTop (mkF m (pc + 3) Ls rest))) : own_F p e below s Z hs W k n Q (T.setTop (mkF m pc Ls (.ref a :: rest))) := by
  have S' := S
  obtain ⟨G, locs, X, N, e0, K⟩ := S
  obtain ⟨T', X', e', st⟩ := initO X S'.hx S'.hZ S'.hown w1 w2 w3 e0 (g := mkF m pc Ls (.ref a :: rest)) rfl (hsz.trans S'.hml.symm) rfl (S'.dec hd) hf (W := (rest.map fun v => v.category).sum) (by show 2 * 0 + _ ≤ _; omega) hl
  exact own_F.of st (f T' ⟨G, locs, X', N, e', K⟩)

/-! calls -/
variable {index : Nat} {y y' : MethodName} {bytes' : ByteArray} {maxL' : Nat} {ret' : Option FieldType} {rm : Room} {W' : List Addr} {Q' : Option Value → Heap → Prop} {argsL : List Value} {ps : List FieldType} {rt : Option FieldType}
theorem own_callS (S : own_S Z hs W own bytes maxL ret nm p l e R s m args below meth c T h cells slots)
    (w1 : (Jvm.Cond.methodLink own index y).before a0 Z = true) (w2 : (Jvm.Cond.static y).before a0 Z = true) (w3 : (Jvm.Cond.initialized y.cls).before a0 Z = true) (w4 : (Jvm.Cond.code y bytes' maxL' ret').before a0 Z = true) (hy : y.cls ≠ "java/lang/invoke/MethodHandle" ∧ y.cls ≠ "java/lang/invoke/VarHandle")
    (C : own_C l Z y bytes' maxL' ret' [] rm W' argsL.toArray h Q') (hWW : ∀ a ∈ W', a ∈ W ∨ hs.size ≤ a) (pd : parseMethodDescriptor y.desc = some ⟨ps, rt⟩) (hlen : argsL.length = ps.length) (hsz : Ls.size = maxL) (hst : st = argsL.reverse ++ rest)
    (hd : decode bytes pc = .ok (.invokestatic index, 3)) (hfr : rm.frames + 1 ≤ R.frames) (hlo : (rest.map fun v => v.category).sum + (maxL' + 11) + rm.locals ≤ R.locals) (hc : cells + rm.cells ≤ R.cells) (hsl : slots + rm.slots ≤ R.slots)
    (f : ∀ T' h' v, own_S Z hs W own bytes maxL ret nm p l e R s m args below meth c T' h' (cells + rm.cells) (slots + rm.slots) → Keep h h' W' → Q' v h' → own_F p e below s Z hs W k n Q (T'.setTop (mkF m (pc + 3) Ls (v.toList ++ rest)))) : own_F p e below s Z hs W k n Q (T.setTop (mkF m pc Ls st)) := by
  have S' := S
  obtain ⟨G, locs, X, N, e0, K⟩ := S
  obtain ⟨v, _, ⟨T', L', k', n'⟩, -, X', ⟨Lc, hQ, h1, h2, h3⟩, st⟩ := Jvm.LawKit.callS X S'.hx (y := y) S'.hown (mvT S'.hZ w1) (mvT S'.hZ w2) (mvT S'.hZ w3) (mvT S'.hZ w4) hy (backOf (W := (rest.map fun v => v.category).sum) (Q := fun v hh L => Fr Z.heap.size L ∧ Keep h hh W' ∧ Q' v hh) C S'.hZ w4 w3 hfr hlo) (g := mkF m pc Ls st) rfl (hsz.trans S'.hml.symm) (argsL := argsL) (rest := rest) (lenOf pd hlen) hst (by show 2 * 0 + _ ≤ _; omega) (S'.dec hd) (fun _ _ => ⟨rfl, e0, hc, hsl⟩)
  dsimp only [Pt.U, Pt.locs, Pt.cells, Pt.slots] at X' h1 h2 h3 st hQ
  subst h1 h2 h3
  obtain ⟨N', K', q⟩ := hQ
  exact own_F.of st (f T' T'.heap v ⟨G, _, X', Fr.app N N', rfl, K.trans K' hWW⟩ K' q)
theorem own_callI (S : own_S Z hs W own bytes maxL ret nm p l e R s m args below meth c T h cells slots) (hy1 : y.name = "<init>")
    (w1 : (Jvm.Cond.methodLink own index y).before a0 Z = true) (w2 : (Jvm.Cond.instanceMethod y).before a0 Z = true) (w3 : (Jvm.Cond.initialized y.cls).before a0 Z = true) (w4 : (Jvm.Cond.code y bytes' maxL' none).before a0 Z = true) (hy : y.cls ≠ "java/lang/invoke/MethodHandle" ∧ y.cls ≠ "java/lang/invoke/VarHandle")
    {a : Addr} (C : own_C l Z y bytes' maxL' none [] rm W' (.ref a :: argsL).toArray h Q') (hWW : ∀ a ∈ W', a ∈ W ∨ hs.size ≤ a) (pd : parseMethodDescriptor y.desc = some ⟨ps, rt⟩) (hlen : argsL.length = ps.length) (hsz : Ls.size = maxL) (hst : st = argsL.reverse ++ .ref a :: rest)
    (hd : decode bytes pc = .ok (.invokespecial index, 3)) (hfr : rm.frames + 1 ≤ R.frames) (hlo : (rest.map fun v => v.category).sum + (maxL' + 11) + rm.locals ≤ R.locals) (hc : cells + rm.cells ≤ R.cells) (hsl : slots + rm.slots ≤ R.slots)
    (f : ∀ T' h' v, own_S Z hs W own bytes maxL ret nm p l e R s m args below meth c T' h' (cells + rm.cells) (slots + rm.slots) → Keep h h' W' → Q' v h' → own_F p e below s Z hs W k n Q (T'.setTop (mkF m (pc + 3) Ls (v.toList ++ rest)))) : own_F p e below s Z hs W k n Q (T.setTop (mkF m pc Ls st)) := by
  have S' := S
  obtain ⟨G, locs, X, N, e0, K⟩ := S
  obtain ⟨v, _, ⟨T', L', k', n'⟩, -, X', ⟨Lc, hQ, h1, h2, h3⟩, st⟩ := X.specialBack S'.hx (y := y) hy1 S'.hown (mvT S'.hZ w1) (mvT S'.hZ w2) (mvT S'.hZ w4) hy (backOf (W := (rest.map fun v => v.category).sum) (Q := fun v hh L => Fr Z.heap.size L ∧ Keep h hh W' ∧ Q' v hh) C S'.hZ w4 w3 hfr hlo) (g := mkF m pc Ls st) rfl (hsz.trans S'.hml.symm) (Steps.refl _) (a := a) (argsL := argsL) (rest := rest) (lenOf pd hlen) hst (by show 2 * 0 + _ ≤ _; omega) (S'.dec hd) (fun _ _ => ⟨rfl, e0, hc, hsl⟩)
  dsimp only [Pt.U, Pt.locs, Pt.cells, Pt.slots] at X' h1 h2 h3 st hQ
  subst h1 h2 h3
  obtain ⟨N', K', q⟩ := hQ
  exact own_F.to st (f T' T'.heap v ⟨G, _, X', Fr.app N N', rfl, K.trans K' hWW⟩ K' q)
theorem own_callV (S : own_S Z hs W own bytes maxL ret nm p l e R s m args below meth c T h cells slots) {Cn : String}
    (w1 : (Jvm.Cond.methodLink own index y).before a0 Z = true) (w2 : (Jvm.Cond.declares y).before a0 Z = true) (nf : NotFace s y) (w3 : (Jvm.Cond.selects Cn y y').before a0 Z = true) (w4 : (Jvm.Cond.instanceMethod y').before a0 Z = true) (w5 : (Jvm.Cond.code y' bytes' maxL' ret').before a0 Z = true) (w6 : (Jvm.Cond.initialized y'.cls).before a0 Z = true) (hy : y.cls ≠ "java/lang/invoke/MethodHandle" ∧ y.cls ≠ "java/lang/invoke/VarHandle")
    {a : Addr} (E : Exa Z h a Cn) (C : own_C l Z y' bytes' maxL' ret' [] rm W' (.ref a :: argsL).toArray h Q') (hWW : ∀ a ∈ W', a ∈ W ∨ hs.size ≤ a) (pd : parseMethodDescriptor y.desc = some ⟨ps, rt⟩) (hlen : argsL.length = ps.length) (hsz : Ls.size = maxL) (hst : st = argsL.reverse ++ .ref a :: rest)
    (hd : decode bytes pc = .ok (.invokevirtual index, 3)) (hfr : rm.frames + 1 ≤ R.frames) (hlo : (rest.map fun v => v.category).sum + (maxL' + 11) + rm.locals ≤ R.locals) (hc : cells + rm.cells ≤ R.cells) (hsl : slots + rm.slots ≤ R.slots)
    (f : ∀ T' h' v, own_S Z hs W own bytes maxL ret nm p l e R s m args below meth c T' h' (cells + rm.cells) (slots + rm.slots) → Keep h h' W' → Q' v h' → own_F p e below s Z hs W k n Q (T'.setTop (mkF m (pc + 3) Ls (v.toList ++ rest)))) : own_F p e below s Z hs W k n Q (T.setTop (mkF m pc Ls st)) := by
  have S' := S
  obtain ⟨G, locs, X, N, e0, K⟩ := S
  obtain ⟨cq, kq, qa, qb, qc⟩ := isOf S'.hZ e0 E
  obtain ⟨v, _, ⟨T', L', k', n'⟩, -, X', ⟨Lc, hQ, h1, h2, h3⟩, st⟩ := X.virtualBack S'.hx (y := y) (z := y') S'.hown (mvT S'.hZ w1) (mvT S'.hZ w2) nf (mvT S'.hZ w3) (mvT S'.hZ w4) hy (backOf (W := (rest.map fun v => v.category).sum) (Q := fun v hh L => Fr Z.heap.size L ∧ Keep h hh W' ∧ Q' v hh) C S'.hZ w5 w6 hfr hlo) qa qc (g := mkF m pc Ls st) rfl (hsz.trans S'.hml.symm) (Steps.refl _) (argsL := argsL) (rest := rest) (lenOf pd hlen) hst (by show 2 * 0 + _ ≤ _; omega) (S'.dec hd) (fun _ _ => ⟨rfl, e0, hc, hsl⟩)
  dsimp only [Pt.U, Pt.locs, Pt.cells, Pt.slots] at X' h1 h2 h3 st hQ
  subst h1 h2 h3
  obtain ⟨N', K', q⟩ := hQ
  exact own_F.to st (f T' T'.heap v ⟨G, _, X', Fr.app N N', rfl, K.trans K' hWW⟩ K' q)
theorem own_nf (S : own_S Z hs W own bytes maxL ret nm p l e R s m args below meth c T h cells slots) {Cn : String} (w : (Jvm.Cond.selects Cn y y).before a0 Z = true) : NotFace s y := notFace_of_selects (args := #[]) (mvT S.hZ w)
theorem own_callX (S : own_S Z hs W own bytes maxL ret nm p l e R s m args below meth c T h cells slots) {Cn : String} {cnt : Nat}
    (w1 : (Jvm.Cond.methodLink own index y).before a0 Z = true) (w2 : (Jvm.Cond.declares y).before a0 Z = true) (w7 : (Jvm.Cond.interfaceMethod y.cls y.cls y.name y.desc).before a0 Z = true) (w3 : (Jvm.Cond.selects Cn y y').before a0 Z = true) (w4 : (Jvm.Cond.instanceMethod y').before a0 Z = true) (w8 : (Jvm.Cond.publicMethod y').before a0 Z = true) (w9 : (Jvm.Cond.unhidden Cn y.name y.desc).before a0 Z = true) (w10 : (Jvm.Cond.castable Cn y.cls).before a0 Z = true)
    (w5 : (Jvm.Cond.code y' bytes' maxL' ret').before a0 Z = true) (w6 : (Jvm.Cond.initialized y'.cls).before a0 Z = true) (hy : y.cls ≠ "java/lang/invoke/MethodHandle" ∧ y.cls ≠ "java/lang/invoke/VarHandle")
    {a : Addr} (E : Exa Z h a Cn) (C : own_C l Z y' bytes' maxL' ret' [] rm W' (.ref a :: argsL).toArray h Q') (hWW : ∀ a ∈ W', a ∈ W ∨ hs.size ≤ a) (pd : parseMethodDescriptor y.desc = some ⟨ps, rt⟩) (hlen : argsL.length = ps.length) (hsz : Ls.size = maxL) (hst : st = argsL.reverse ++ .ref a :: rest)
    (hd : decode bytes pc = .ok (.invokeinterface index cnt, 5)) (hfr : rm.frames + 1 ≤ R.frames) (hlo : (rest.map fun v => v.category).sum + (maxL' + 11) + rm.locals ≤ R.locals) (hc : cells + rm.cells ≤ R.cells) (hsl : slots + rm.slots ≤ R.slots)
    (f : ∀ T' h' v, own_S Z hs W own bytes maxL ret nm p l e R s m args below meth c T' h' (cells + rm.cells) (slots + rm.slots) → Keep h h' W' → Q' v h' → own_F p e below s Z hs W k n Q (T'.setTop (mkF m (pc + 5) Ls (v.toList ++ rest)))) : own_F p e below s Z hs W k n Q (T.setTop (mkF m pc Ls st)) := by
  have S' := S
  obtain ⟨G, locs, X, N, e0, K⟩ := S
  obtain ⟨cq, kq, qa, qb, qc⟩ := isOf S'.hZ e0 E
  obtain ⟨v, _, ⟨T', L', k', n'⟩, -, X', ⟨Lc, hQ, h1, h2, h3⟩, st⟩ := X.interfaceBack S'.hx (xi := y) (y := y') S'.hown (mvT S'.hZ w1) (mvT S'.hZ w2) (mvT S'.hZ w7 (by simp [Cond.onTables, Cond.keepsFace, Cond.keeps, Cond.steady, Cond.faceAtom, hy])) (mvT S'.hZ w3) (mvT S'.hZ w4) (mvT S'.hZ w8) (mvT S'.hZ w9) (mvT S'.hZ w10) hy (backOf (W := (rest.map fun v => v.category).sum) (Q := fun v hh L => Fr Z.heap.size L ∧ Keep h hh W' ∧ Q' v hh) C S'.hZ w5 w6 hfr hlo) qa qb qc (g := mkF m pc Ls st) rfl (hsz.trans S'.hml.symm) (Steps.refl _) (argsL := argsL) (rest := rest) (lenOf pd hlen) hst (by show 2 * 0 + _ ≤ _; omega) (S'.dec hd) (fun _ _ => ⟨rfl, e0, hc, hsl⟩)
  dsimp only [Pt.U, Pt.locs, Pt.cells, Pt.slots] at X' h1 h2 h3 st hQ
  subst h1 h2 h3
  obtain ⟨N', K', q⟩ := hQ
  exact own_F.to st (f T' T'.heap v ⟨G, _, X', Fr.app N N', rfl, K.trans K' hWW⟩ K' q)
theorem own_callP (S : own_S Z hs W own bytes maxL ret nm p l e R s m args below meth c T h cells slots)
    (w1 : (Jvm.Cond.methodLink own index y).before a0 Z = true) (w2 : (Jvm.Cond.instanceMethod y).before a0 Z = true) {kk : Nat} (w3 : (Jvm.Cond.instantiable y.cls kk).before a0 Z = true) (wp : (Jvm.Cond.privateMethod y).before a0 Z = true) (w5 : (Jvm.Cond.code y bytes' maxL' ret').before a0 Z = true) (w6 : (Jvm.Cond.initialized y.cls).before a0 Z = true) (hy : y.cls ≠ "java/lang/invoke/MethodHandle" ∧ y.cls ≠ "java/lang/invoke/VarHandle")
    {a : Addr} {Cn : String} (E : Exa Z h a Cn) (C : own_C l Z y bytes' maxL' ret' [] rm W' (.ref a :: argsL).toArray h Q') (hWW : ∀ a ∈ W', a ∈ W ∨ hs.size ≤ a) (pd : parseMethodDescriptor y.desc = some ⟨ps, rt⟩) (hlen : argsL.length = ps.length) (hsz : Ls.size = maxL) (hst : st = argsL.reverse ++ .ref a :: rest)
    (hd : decode bytes pc = .ok (.invokevirtual index, 3)) (hfr : rm.frames + 1 ≤ R.frames) (hlo : (rest.map fun v => v.category).sum + (maxL' + 11) + rm.locals ≤ R.locals) (hc : cells + rm.cells ≤ R.cells) (hsl : slots + rm.slots ≤ R.slots)
    (f : ∀ T' h' v, own_S Z hs W own bytes maxL ret nm p l e R s m args below meth c T' h' (cells + rm.cells) (slots + rm.slots) → Keep h h' W' → Q' v h' → own_F p e below s Z hs W k n Q (T'.setTop (mkF m (pc + 3) Ls (v.toList ++ rest)))) : own_F p e below s Z hs W k n Q (T.setTop (mkF m pc Ls st)) := by
  have S' := S
  obtain ⟨G, locs, X, N, e0, K⟩ := S
  obtain ⟨cq, qq, qq'⟩ := E.cell
  obtain ⟨ci, ki, i1, i2, i3, i4, -⟩ := Cond.instantiable_spec (mvT (args := args) S'.hZ w3)
  have hsel : (Jvm.Cond.selects y.cls y y).before args s = true := Jvm.Stand.selects_self_of_private i1 i2 (by simp only [Bool.or_eq_false_iff] at i4; exact i4.1) (Cond.privateMethod_at (mvP S'.hZ wp (args := #[]))) (mvT S'.hZ w2) hy
  obtain ⟨v, _, ⟨T', L', k', n'⟩, -, X', ⟨Lc, hQ, h1, h2, h3⟩, st⟩ := X.privateBack S'.hx (y := y) S'.hown (mvT S'.hZ w1) (mvT S'.hZ w2) hsel (Cond.privateMethod_at (mvP S'.hZ wp (args := #[]))) (mvT S'.hZ w5) hy (backOf (W := (rest.map fun v => v.category).sum) (Q := fun v hh L => Fr Z.heap.size L ∧ Keep h hh W' ∧ Q' v hh) C S'.hZ w5 w6 hfr hlo) (g := mkF m pc Ls st) rfl (hsz.trans S'.hml.symm) (Steps.refl _) (a := a) (by rw [e0]; exact qq) qq' (argsL := argsL) (rest := rest) (lenOf pd hlen) hst (by show 2 * 0 + _ ≤ _; omega) (S'.dec hd) (fun _ _ => ⟨rfl, e0, hc, hsl⟩)
  dsimp only [Pt.U, Pt.locs, Pt.cells, Pt.slots] at X' h1 h2 h3 st hQ
  subst h1 h2 h3
  obtain ⟨N', K', q⟩ := hQ
  exact own_F.to st (f T' T'.heap v ⟨G, _, X', Fr.app N N', rfl, K.trans K' hWW⟩ K' q)
theorem own_callU (S : own_S Z hs W own bytes maxL ret nm p l e R s m args below meth c T h cells slots) {Cn owner : String}
    (w1 : (Jvm.Cond.methodLink own index y).before a0 Z = true) (w2 : (Jvm.Cond.sameMethod y.cls owner y.name y.desc).before a0 Z = true) (w7 : (Jvm.Cond.declares ⟨owner, y.name, y.desc⟩).before a0 Z = true) (hy : owner ≠ "java/lang/invoke/MethodHandle" ∧ owner ≠ "java/lang/invoke/VarHandle") (w3 : (Jvm.Cond.selects Cn y y').before a0 Z = true) (w4 : (Jvm.Cond.instanceMethod y').before a0 Z = true) (w5 : (Jvm.Cond.code y' bytes' maxL' ret').before a0 Z = true) (w6 : (Jvm.Cond.initialized y'.cls).before a0 Z = true)
    {a : Addr} (E : Exa Z h a Cn) (C : own_C l Z y' bytes' maxL' ret' [] rm W' (.ref a :: argsL).toArray h Q') (hWW : ∀ a ∈ W', a ∈ W ∨ hs.size ≤ a) (pd : parseMethodDescriptor y.desc = some ⟨ps, rt⟩) (hlen : argsL.length = ps.length) (hsz : Ls.size = maxL) (hst : st = argsL.reverse ++ .ref a :: rest)
    (hd : decode bytes pc = .ok (.invokevirtual index, 3)) (hfr : rm.frames + 1 ≤ R.frames) (hlo : (rest.map fun v => v.category).sum + (maxL' + 11) + rm.locals ≤ R.locals) (hc : cells + rm.cells ≤ R.cells) (hsl : slots + rm.slots ≤ R.slots)
    (f : ∀ T' h' v, own_S Z hs W own bytes maxL ret nm p l e R s m args below meth c T' h' (cells + rm.cells) (slots + rm.slots) → Keep h h' W' → Q' v h' → own_F p e below s Z hs W k n Q (T'.setTop (mkF m (pc + 3) Ls (v.toList ++ rest)))) : own_F p e below s Z hs W k n Q (T.setTop (mkF m pc Ls st)) := by
  have S' := S
  obtain ⟨G, locs, X, N, e0, K⟩ := S
  obtain ⟨cq, kq, qa, qb, qc⟩ := isOf S'.hZ e0 E
  obtain ⟨v, _, ⟨T', L', k', n'⟩, -, X', ⟨Lc, hQ, h1, h2, h3⟩, st⟩ := X.virtualBackUp S'.hx (x := y) (y := y') S'.hown (mvT S'.hZ w1) (mvT S'.hZ w2) (mvT S'.hZ w7) hy (mvT S'.hZ w3) (mvT S'.hZ w4) (backOf (W := (rest.map fun v => v.category).sum) (Q := fun v hh L => Fr Z.heap.size L ∧ Keep h hh W' ∧ Q' v hh) C S'.hZ w5 w6 hfr hlo) qa qc (g := mkF m pc Ls st) rfl (hsz.trans S'.hml.symm) (Steps.refl _) (argsL := argsL) (rest := rest) (lenOf pd hlen) hst (by show 2 * 0 + _ ≤ _; omega) (S'.dec hd) (fun _ _ => ⟨rfl, e0, hc, hsl⟩)
  dsimp only [Pt.U, Pt.locs, Pt.cells, Pt.slots] at X' h1 h2 h3 st hQ
  subst h1 h2 h3
  obtain ⟨N', K', q⟩ := hQ
  exact own_F.to st (f T' T'.heap v ⟨G, _, X', Fr.app N N', rfl, K.trans K' hWW⟩ K' q)
/-! casts and tests of classes -/
theorem own_cast (S : own_S Z hs W own bytes maxL ret nm p l e R s m args below meth c T h cells slots) {Kn : String} {a : Addr} (w : (Jvm.Cond.classLink own index Kn).before a0 Z = true) (F : Ins Z h a Kn true) (hd : decode bytes pc = .ok (.checkcast index, 3))
    (f : ∀ T', own_S Z hs W own bytes maxL ret nm p l e R s m args below meth c T' h cells slots → own_F p e below s Z hs W k n Q (T'.setTop (mkF m (pc + 3) Ls (.ref a :: rest)))) : own_F p e below s Z hs W k n Q (T.setTop (mkF m pc Ls (.ref a :: rest))) := by
  have S' := S
  obtain ⟨G, locs, X, N, e0, K⟩ := S
  obtain ⟨T', X', e', st⟩ := castY X S'.hx S'.hZ S'.hown w e0 F (g := mkF m pc Ls (.ref a :: rest)) rfl rfl (S'.dec hd)
  exact own_F.of st (f T' ⟨G, locs, X', N, e', K⟩)
theorem own_inst (S : own_S Z hs W own bytes maxL ret nm p l e R s m args below meth c T h cells slots) {Kn : String} {a : Addr} (w : (Jvm.Cond.classLink own index Kn).before a0 Z = true) (F : Ins Z h a Kn true) (hd : decode bytes pc = .ok (.instanceof index, 3))
    (f : ∀ T', own_S Z hs W own bytes maxL ret nm p l e R s m args below meth c T' h cells slots → own_F p e below s Z hs W k n Q (T'.setTop (mkF m (pc + 3) Ls (.int (1 : Int32) :: rest)))) : own_F p e below s Z hs W k n Q (T.setTop (mkF m pc Ls (.ref a :: rest))) := by
  have S' := S
  obtain ⟨G, locs, X, N, e0, K⟩ := S
  obtain ⟨T', X', e', st⟩ := instY X S'.hx S'.hZ S'.hown w e0 F (g := mkF m pc Ls (.ref a :: rest)) rfl rfl (S'.dec hd)
  exact own_F.of st (f T' ⟨G, locs, X', N, e', K⟩)

theorem own_instN (S : own_S Z hs W own bytes maxL ret nm p l e R s m args below meth c T h cells slots) {Kn Cn : String} {a : Addr} (w : (Jvm.Cond.classLink own index Kn).before a0 Z = true) (E : Exa Z h a Cn) (F : ∃ c t, Z.vm.findClass Cn = some c ∧ Z.vm.findClass Kn = some t ∧ Z.vm.assignable c t = false) (hd : decode bytes pc = .ok (.instanceof index, 3))
    (f : ∀ T', own_S Z hs W own bytes maxL ret nm p l e R s m args below meth c T' h cells slots → own_F p e below s Z hs W k n Q (T'.setTop (mkF m (pc + 3) Ls (.int (0 : Int32) :: rest)))) : own_F p e below s Z hs W k n Q (T.setTop (mkF m pc Ls (.ref a :: rest))) := by
  have S' := S
  obtain ⟨G, locs, X, N, e0, K⟩ := S
  obtain ⟨T', X', e', st⟩ := instNo X S'.hx S'.hZ S'.hown w e0 E F (g := mkF m pc Ls (.ref a :: rest)) rfl rfl (S'.dec hd)
  exact own_F.of st (f T' ⟨G, locs, X', N, e', K⟩)
theorem own_inst0 (S : own_S Z hs W own bytes maxL ret nm p l e R s m args below meth c T h cells slots) (hd : decode bytes pc = .ok (.instanceof index, 3))
    (f : own_F p e below s Z hs W k n Q (T.setTop (mkF m (pc + 3) Ls (.int (0 : Int32) :: rest)))) : own_F p e below s Z hs W k n Q (T.setTop (mkF m pc Ls (.null :: rest))) := by
  obtain ⟨locs, X, -⟩ := S.2
  exact own_F.of (X.instanceofNull S.hx (g := mkF m pc Ls (.null :: rest)) rfl rfl (S.dec hd)) f
theorem own_cast0 (S : own_S Z hs W own bytes maxL ret nm p l e R s m args below meth c T h cells slots) (hd : decode bytes pc = .ok (.checkcast index, 3))
    (f : own_F p e below s Z hs W k n Q (T.setTop (mkF m (pc + 3) Ls (.null :: rest)))) : own_F p e below s Z hs W k n Q (T.setTop (mkF m pc Ls (.null :: rest))) := by
  obtain ⟨locs, X, -⟩ := S.2
  exact own_F.of (X.checkcastNull S.hx (g := mkF m pc Ls (.null :: rest)) rfl rfl (S.dec hd)) f
theorem own_NSroot {O Kn : String} {i : Nat} (w : (Jvm.Cond.noSuperclass O).before a0 Z = true) (wk : (Jvm.Cond.instantiable Kn i).before a0 Z = true) (hn : O ≠ Kn) : NS Z O Kn := by
  obtain ⟨cO, kO, h1, h2, h3, -⟩ := Cond.noSuperclass_spec w
  obtain ⟨t, kt, g1, -⟩ := Cond.instantiable_spec wk
  refine ⟨cO, t, h1, g1, fun fuel => ?_⟩
  cases fuel with
  | zero => rfl
  | succ f => simp [Vm.isSubclassAux, ids_ne h1 g1 hn, h2, h3]
theorem own_NSno {Cn Sn Kn : String} {i : Nat} (w : (Jvm.Cond.superclass Cn Sn).before a0 Z = true) (wk : (Jvm.Cond.instantiable Kn i).before a0 Z = true) (q : NS Z Cn Kn) (hn : Cn ≠ Kn) : ∃ c t, Z.vm.findClass Cn = some c ∧ Z.vm.findClass Kn = some t ∧ Z.vm.assignable c t = false := by
  obtain ⟨cC, t, h0, g0, n3⟩ := q
  obtain ⟨p, kC, kp, h1, h2, h3, h4, h5, -, h7⟩ := Cond.superclass_spec h0 w
  obtain ⟨t', kt, g1, g2, g3, g4, -⟩ := Cond.instantiable_spec wk
  cases g0.symm.trans g1
  have g5 : kt.isInterface = false := by simp only [Bool.or_eq_false_iff] at g4; exact g4.1
  refine ⟨cC, t, h0, g0, ?_⟩
  show Z.vm.assignableAux (255 + 1) cC t = false
  simp [Vm.assignableAux, ids_ne h0 g0 hn, h2, g2, h5, g3, g5, Vm.isSubclass, n3]

/-! more single steps -/
theorem own_irem (S : own_S Z hs W own bytes maxL ret nm p l e R s m args below meth c T h cells slots) {x y : Int32} {t : State} (hd : decode bytes pc = .ok (.irem, 1)) (hy : y ≠ 0) (k : Steps p.tables e below (T.setTop (mkF m (pc + 1) Ls (.int (x % y) :: rest))) t) : Steps p.tables e below (T.setTop (mkF m pc Ls (.int y :: .int x :: rest))) t := by
  obtain ⟨locs, X, -⟩ := S.2
  exact iremM X S.hx (g := mkF m pc Ls (.int y :: .int x :: rest)) rfl (S.dec hd) rfl hy k
theorem own_lrem (S : own_S Z hs W own bytes maxL ret nm p l e R s m args below meth c T h cells slots) {x y : Int64} {t : State} (hd : decode bytes pc = .ok (.lrem, 1)) (hy : y ≠ 0) (k : Steps p.tables e below (T.setTop (mkF m (pc + 1) Ls (.long (x % y) :: rest))) t) : Steps p.tables e below (T.setTop (mkF m pc Ls (.long y :: .long x :: rest))) t := by
  have q : x - x / y * y = x % y := lrem_mod x y
  exact XS.lrem S.here S.hx (g := mkF m pc Ls (.long y :: .long x :: rest)) rfl (S.dec hd) rfl hy (by rw [q]; exact k)
theorem own_ldcI (S : own_S Z hs W own bytes maxL ret nm p l e R s m args below meth c T h cells slots) {i : Nat} {v : Int32} (w : (Jvm.Cond.constant own i v).before a0 Z = true) (hd : decode bytes pc = .ok (.ldc i, 2)) (f : own_F p e below s Z hs W k n Q (T.setTop (mkF m (pc + 2) Ls (.int v :: st)))) : own_F p e below s Z hs W k n Q (T.setTop (mkF m pc Ls st)) := by
  obtain ⟨locs, X, -⟩ := S.2
  exact own_F.of (X.ldcInt S.hx S.hown (mvT S.hZ w) (g := mkF m pc Ls st) rfl (S.dec hd)) f
theorem own_ldcIw (S : own_S Z hs W own bytes maxL ret nm p l e R s m args below meth c T h cells slots) {i : Nat} {v : Int32} (w : (Jvm.Cond.constant own i v).before a0 Z = true) (hd : decode bytes pc = .ok (.ldc_w i, 3)) (f : own_F p e below s Z hs W k n Q (T.setTop (mkF m (pc + 3) Ls (.int v :: st)))) : own_F p e below s Z hs W k n Q (T.setTop (mkF m pc Ls st)) := by
  obtain ⟨locs, X, -⟩ := S.2
  exact own_F.of (X.ldcwInt S.hx S.hown (mvT S.hZ w) (g := mkF m pc Ls st) rfl (S.dec hd)) f
theorem own_ldcJ (S : own_S Z hs W own bytes maxL ret nm p l e R s m args below meth c T h cells slots) {i : Nat} {v : Int64} (w : (Jvm.Cond.constantLong own i v).before a0 Z = true) (hd : decode bytes pc = .ok (.ldc2_w i, 3)) (f : own_F p e below s Z hs W k n Q (T.setTop (mkF m (pc + 3) Ls (.long v :: st)))) : own_F p e below s Z hs W k n Q (T.setTop (mkF m pc Ls st)) := by
  obtain ⟨locs, X, -⟩ := S.2
  exact own_F.of (X.ldc2Long S.hx S.hown (mvT S.hZ w) (g := mkF m pc Ls st) rfl (S.dec hd)) f
theorem own_ldcD (S : own_S Z hs W own bytes maxL ret nm p l e R s m args below meth c T h cells slots) {i : Nat} {v : UInt64} (w : (Jvm.Cond.constantDouble own i v).before a0 Z = true) (hd : decode bytes pc = .ok (.ldc2_w i, 3)) (f : own_F p e below s Z hs W k n Q (T.setTop (mkF m (pc + 3) Ls (.double v :: st)))) : own_F p e below s Z hs W k n Q (T.setTop (mkF m pc Ls st)) := by
  obtain ⟨locs, X, -⟩ := S.2
  exact own_F.of (X.ldc2DoubleC S.hx S.hown (mvT S.hZ w) (g := mkF m pc Ls st) rfl (S.dec hd)) f
theorem own_tsw (S : own_S Z hs W own bytes maxL ret nm p l e R s m args below meth c T h cells slots) {dflt low high : Int} {offs : Array Int} {len : Nat} {i : Int32} (v o : Int) (pc' : Nat) (hd : decode bytes pc = .ok (.tableswitch dflt low high offs, len)) (hv : i.toInt = v) (hin : ¬ (v < low ∨ v > high)) (hoff : offs[(v - low).toNat]? = some o) (ho : 0 ≤ (pc : Int) + o) (hp : ((pc : Int) + o).toNat = pc')
    (f : own_F p e below s Z hs W k n Q (T.setTop (mkF m pc' Ls rest))) : own_F p e below s Z hs W k n Q (T.setTop (mkF m pc Ls (.int i :: rest))) := by
  subst hv
  exact own_F.of (fun _ => XS.tswIn S.here S.hx (g := mkF m pc Ls (.int i :: rest)) rfl (pc0 := pc) (pc' := pc') rfl (S.dec hd) rfl hin hoff ho hp) f
theorem own_narR {ty : FieldType} {v : Value} (ht : ty.isReference = true) (hv : v.isRef = true) : narrow ty v = v := by cases v <;> simp [Value.isRef] at hv <;> cases ty <;> simp [FieldType.isReference] at ht <;> rfl
theorem own_fitR {ty : FieldType} {v : Value} (ht : ty.isReference = true) (hv : v.isRef = true) : fits ty v = true := by cases v <;> simp [Value.isRef] at hv <;> cases ty <;> simp [FieldType.isReference] at ht <;> rfl

/-! from the case's words to facts of the start -/
theorem own_extRefl (h : Heap) : Ext h h := ⟨Nat.le_refl _, fun _ _ q => q⟩
theorem own_sta {C fn d K : String} (hx : (Jvm.Cond.exactly (.static C fn d) K).value a0 Z none Z [] = some true) (w1 : (Jvm.Cond.initialized C).before a0 Z = true) (w2 : (Jvm.Cond.laysStatic C fn d).before a0 Z = true) :
    ∃ a, (Term.static C fn d).eval a0 Z none [] Z = some (.ref a) ∧ Sta Z Z.heap C fn d (.ref a) ∧ Exa Z Z.heap a K := by
  obtain ⟨a, ev⟩ := exa_v hx
  exact ⟨a, ev, Sta.start ev (Or.inr ⟨w1, w2⟩), Exa.start ev hx⟩
theorem own_fldI {t : Term} {C fn d : String} {a : Addr} {v : Int32} (ev : t.eval a0 Z none [] Z = some (.ref a)) (hx : (Jvm.Cond.eq (.field t C fn d) (.int v)).value a0 Z none Z [] = some true) : Fld Z Z.heap a C fn d (.int v) := by
  obtain ⟨x, y, h1, h2, -⟩ := cmp_v (Or.inl hx)
  have h2' : y = .int v := by simpa [Term.eval] using h2.symm
  subst h2'
  have h3 : x = .int v := by
    simp only [Jvm.Cond.value, h1, h2] at hx
    cases x <;> simp at hx
    rw [hx]
  subst h3
  refine Fld.start ?_
  simpa [Term.eval, ev] using h1
end OwnPrelude
/-! OWN: arrays by their whole contents -/
section OwnArrays
variable {Z : State} {hs : Heap} {W : List Addr} {own : String} {bytes : ByteArray} {maxL : Nat} {ret : Option FieldType} {nm : String}
  {p : Program} {l : Launch} {e : Env} {R : Room} {s : State} {m : MethodId} {args : Array Value} {below : List Frame} {meth : Method} {c : Code}
  {T : State} {h h' : Heap} {cells slots : Nat} {k n : Nat} {Q : Option Value → Heap → Prop} {a0 : Array Value} {pc : Nat} {Ls : Array Slot} {st rest : List Value} {a b : Addr} {ty : FieldType} {vs : List Value} {v : Value} {j x : Int32}

def own_A (Z : State) (h : Heap) (a : Addr) (ty : FieldType) (vs : List Value) : Prop := ∃ cl : Cell, Arr Z h a cl ty ∧ cl.slots.toList = vs ∧ vs.length < 2 ^ 31
theorem own_A.lt (F : own_A Z h a ty vs) : a < h.size := by obtain ⟨_, A, -⟩ := F; exact A.lt
theorem own_A.ext (F : own_A Z h a ty vs) (E : Ext h h') : own_A Z h' a ty vs := by obtain ⟨cl, A, r⟩ := F; exact ⟨cl, A.ext E, r⟩
theorem own_A.other {sl : Nat} {w : Value} (F : own_A Z h b ty vs) (Wt : Wr h h' a sl w) (q : b ≠ a) : own_A Z h' b ty vs := by obtain ⟨cl, A, r⟩ := F; exact ⟨cl, A.other Wt q, r⟩
theorem own_A.keep {ws : List Addr} (F : own_A Z h a ty vs) (K : Keep h h' ws) (q : a ∉ ws) : own_A Z h' a ty vs := by obtain ⟨cl, A, r⟩ := F; exact ⟨cl, ⟨K.2.1 a cl A.1 q, A.2⟩, r⟩
theorem own_A.set {i : Nat} (F : own_A Z h a ty vs) (Wt : Wr h h' a i v) : own_A Z h' a ty (vs.set i v) := by
  obtain ⟨cl, A, r1, r2⟩ := F
  subst r1
  refine ⟨cl.setSlot i v, A.same Wt, ?_, by simpa using r2⟩
  simp [Cell.setSlot]
theorem own_A.inb {cl : Cell} {vs : List Value} (r1 : cl.slots.toList = vs) (h0 : ¬ j < 0) (hv : j.toNatClampNeg < vs.length) : ¬ (j < 0 ∨ cl.slots.size ≤ j.toNatClampNeg) := by
  rintro (q | q)
  · exact h0 q
  · subst r1; simp at hv; omega
theorem own_A.get {cl : Cell} {vs : List Value} {i : Nat} (r1 : cl.slots.toList = vs) (hv : vs[i]? = some v) : cl.slots[i]? = some v := by subst r1; simpa using hv
theorem own_A.ix {i : Nat} (hv : vs[i]? = some v) : i < vs.length := (List.getElem?_eq_some_iff.mp hv).1
theorem own_len (S : own_S Z hs W own bytes maxL ret nm p l e R s m args below meth c T h cells slots) (F : own_A Z h a ty vs) (hd : decode bytes pc = .ok (.arraylength, 1))
    (f : own_F p e below s Z hs W k n Q (T.setTop (mkF m (pc + 1) Ls (.int vs.length.toInt32 :: rest)))) : own_F p e below s Z hs W k n Q (T.setTop (mkF m pc Ls (.ref a :: rest))) := by
  have S' := S
  obtain ⟨G, locs, X, N, e0, K⟩ := S
  obtain ⟨cl, A, r1, r2⟩ := F
  have q : cl.slots.size = vs.length := by rw [← r1]; simp
  rw [← q] at f
  exact own_F.of (fun t => X.arraylength S'.hx (by rw [e0]; exact A.1) (State.isArrayOf_alike S'.hZ.alike A.2.1) (g := mkF m pc Ls (.ref a :: rest)) rfl rfl (S'.dec hd) t) f
theorem own_iald (S : own_S Z hs W own bytes maxL ret nm p l e R s m args below meth c T h cells slots) (F : own_A Z h a .int vs) (h0 : ¬ j < 0) (hv : vs[j.toNatClampNeg]? = some v) (hd : decode bytes pc = .ok (.iaload, 1))
    (f : own_F p e below s Z hs W k n Q (T.setTop (mkF m (pc + 1) Ls (v :: rest)))) : own_F p e below s Z hs W k n Q (T.setTop (mkF m pc Ls (.int j :: .ref a :: rest))) := by
  have S' := S
  obtain ⟨G, locs, X, N, e0, K⟩ := S
  obtain ⟨cl, A, r1, r2⟩ := F
  exact own_F.of (fun t => X.iaload S'.hx (by rw [e0]; exact A.1) (State.isArrayOf_alike S'.hZ.alike A.2.1) A.2.2 (own_A.inb r1 h0 (own_A.ix hv)) (own_A.get r1 hv) (g := mkF m pc Ls (.int j :: .ref a :: rest)) rfl rfl (S'.dec hd) t) f
theorem own_lald (S : own_S Z hs W own bytes maxL ret nm p l e R s m args below meth c T h cells slots) (F : own_A Z h a .long vs) (h0 : ¬ j < 0) (hv : vs[j.toNatClampNeg]? = some v) (hd : decode bytes pc = .ok (.laload, 1))
    (f : own_F p e below s Z hs W k n Q (T.setTop (mkF m (pc + 1) Ls (v :: rest)))) : own_F p e below s Z hs W k n Q (T.setTop (mkF m pc Ls (.int j :: .ref a :: rest))) := by
  have S' := S
  obtain ⟨G, locs, X, N, e0, K⟩ := S
  obtain ⟨cl, A, r1, r2⟩ := F
  exact own_F.of (fun t => X.laload S'.hx (by rw [e0]; exact A.1) (State.isArrayOf_alike S'.hZ.alike A.2.1) A.2.2 (own_A.inb r1 h0 (own_A.ix hv)) (own_A.get r1 hv) (g := mkF m pc Ls (.int j :: .ref a :: rest)) rfl rfl (S'.dec hd) t) f
theorem own_cald (S : own_S Z hs W own bytes maxL ret nm p l e R s m args below meth c T h cells slots) (F : own_A Z h a .char vs) (h0 : ¬ j < 0) (hv : vs[j.toNatClampNeg]? = some v) (hd : decode bytes pc = .ok (.caload, 1))
    (f : own_F p e below s Z hs W k n Q (T.setTop (mkF m (pc + 1) Ls (v :: rest)))) : own_F p e below s Z hs W k n Q (T.setTop (mkF m pc Ls (.int j :: .ref a :: rest))) := by
  have S' := S
  obtain ⟨G, locs, X, N, e0, K⟩ := S
  obtain ⟨cl, A, r1, r2⟩ := F
  exact own_F.of (fun t => X.caload S'.hx (by rw [e0]; exact A.1) (State.isArrayOf_alike S'.hZ.alike A.2.1) A.2.2 (own_A.inb r1 h0 (own_A.ix hv)) (own_A.get r1 hv) (g := mkF m pc Ls (.int j :: .ref a :: rest)) rfl rfl (S'.dec hd) t) f
theorem own_bald (S : own_S Z hs W own bytes maxL ret nm p l e R s m args below meth c T h cells slots) (F : own_A Z h a .byte vs) (h0 : ¬ j < 0) (hv : vs[j.toNatClampNeg]? = some v) (hd : decode bytes pc = .ok (.baload, 1))
    (f : own_F p e below s Z hs W k n Q (T.setTop (mkF m (pc + 1) Ls (v :: rest)))) : own_F p e below s Z hs W k n Q (T.setTop (mkF m pc Ls (.int j :: .ref a :: rest))) := by
  have S' := S
  obtain ⟨G, locs, X, N, e0, K⟩ := S
  obtain ⟨cl, A, r1, r2⟩ := F
  exact own_F.of (fun t => X.baloadBytes S'.hx (by rw [e0]; exact A.1) (State.isArrayOf_alike S'.hZ.alike A.2.1) A.2.2 (own_A.inb r1 h0 (own_A.ix hv)) (own_A.get r1 hv) (g := mkF m pc Ls (.int j :: .ref a :: rest)) rfl rfl (S'.dec hd) t) f
theorem own_zald (S : own_S Z hs W own bytes maxL ret nm p l e R s m args below meth c T h cells slots) (F : own_A Z h a .boolean vs) (h0 : ¬ j < 0) (hv : vs[j.toNatClampNeg]? = some v) (hd : decode bytes pc = .ok (.baload, 1))
    (f : own_F p e below s Z hs W k n Q (T.setTop (mkF m (pc + 1) Ls (v :: rest)))) : own_F p e below s Z hs W k n Q (T.setTop (mkF m pc Ls (.int j :: .ref a :: rest))) := by
  have S' := S
  obtain ⟨G, locs, X, N, e0, K⟩ := S
  obtain ⟨cl, A, r1, r2⟩ := F
  exact own_F.of (fun t => X.baloadBooleans S'.hx (by rw [e0]; exact A.1) (State.isArrayOf_alike S'.hZ.alike A.2.1) A.2.2 (own_A.inb r1 h0 (own_A.ix hv)) (own_A.get r1 hv) (g := mkF m pc Ls (.int j :: .ref a :: rest)) rfl rfl (S'.dec hd) t) f
theorem own_aald (S : own_S Z hs W own bytes maxL ret nm p l e R s m args below meth c T h cells slots) (F : own_A Z h a ty vs) (hty : ty.isReference = true) (h0 : ¬ j < 0) (hv : vs[j.toNatClampNeg]? = some v) (hd : decode bytes pc = .ok (.aaload, 1))
    (f : own_F p e below s Z hs W k n Q (T.setTop (mkF m (pc + 1) Ls (v :: rest)))) : own_F p e below s Z hs W k n Q (T.setTop (mkF m pc Ls (.int j :: .ref a :: rest))) := by
  have S' := S
  obtain ⟨G, locs, X, N, e0, K⟩ := S
  obtain ⟨cl, A, r1, r2⟩ := F
  exact own_F.of (fun t => X.aaload S'.hx (by rw [e0]; exact A.1) (State.isArrayOf_alike S'.hZ.alike A.2.1) hty A.2.2 (own_A.inb r1 h0 (own_A.ix hv)) (own_A.get r1 hv) (g := mkF m pc Ls (.int j :: .ref a :: rest)) rfl rfl (S'.dec hd) t) f
theorem own_ist (S : own_S Z hs W own bytes maxL ret nm p l e R s m args below meth c T h cells slots) (F : own_A Z h a .int vs) (h0 : ¬ j < 0) (hv : j.toNatClampNeg < vs.length) (hd : decode bytes pc = .ok (.iastore, 1)) (ok : a ∈ W ∨ hs.size ≤ a)
    (f : ∀ T' h', own_S Z hs W own bytes maxL ret nm p l e R s m args below meth c T' h' cells slots → Wr h h' a j.toNatClampNeg (.int x) → own_A Z h' a .int (vs.set j.toNatClampNeg (.int x)) → own_F p e below s Z hs W k n Q (T'.setTop (mkF m (pc + 1) Ls rest))) : own_F p e below s Z hs W k n Q (T.setTop (mkF m pc Ls (.int x :: .int j :: .ref a :: rest))) := by
  have S' := S; have F' := F
  obtain ⟨G, locs, X, N, e0, K⟩ := S
  obtain ⟨cl, A, r1, r2⟩ := F
  obtain ⟨T', h', X', e', Wt, stp⟩ := stI X S'.hx S'.hZ e0 A (own_A.inb r1 h0 hv) (g := mkF m pc Ls (.int x :: .int j :: .ref a :: rest)) rfl rfl (S'.dec hd)
  exact own_F.of stp (f T' h' ⟨G, _, X', Fr.snoc X' N (S'.may ok), e', K.wr Wt ok⟩ Wt (F'.set Wt))
theorem own_jst {x : Int64} (S : own_S Z hs W own bytes maxL ret nm p l e R s m args below meth c T h cells slots) (F : own_A Z h a .long vs) (h0 : ¬ j < 0) (hv : j.toNatClampNeg < vs.length) (hd : decode bytes pc = .ok (.lastore, 1)) (ok : a ∈ W ∨ hs.size ≤ a)
    (f : ∀ T' h', own_S Z hs W own bytes maxL ret nm p l e R s m args below meth c T' h' cells slots → Wr h h' a j.toNatClampNeg (.long x) → own_A Z h' a .long (vs.set j.toNatClampNeg (.long x)) → own_F p e below s Z hs W k n Q (T'.setTop (mkF m (pc + 1) Ls rest))) : own_F p e below s Z hs W k n Q (T.setTop (mkF m pc Ls (.long x :: .int j :: .ref a :: rest))) := by
  have S' := S; have F' := F
  obtain ⟨G, locs, X, N, e0, K⟩ := S
  obtain ⟨cl, A, r1, r2⟩ := F
  obtain ⟨T', h', X', e', Wt, stp⟩ := stJ X S'.hx S'.hZ e0 A (own_A.inb r1 h0 hv) (g := mkF m pc Ls (.long x :: .int j :: .ref a :: rest)) rfl rfl (S'.dec hd)
  exact own_F.of stp (f T' h' ⟨G, _, X', Fr.snoc X' N (S'.may ok), e', K.wr Wt ok⟩ Wt (F'.set Wt))
theorem own_cst (S : own_S Z hs W own bytes maxL ret nm p l e R s m args below meth c T h cells slots) (F : own_A Z h a .char vs) (h0 : ¬ j < 0) (hv : j.toNatClampNeg < vs.length) (hd : decode bytes pc = .ok (.castore, 1)) (ok : a ∈ W ∨ hs.size ≤ a)
    (f : ∀ T' h', own_S Z hs W own bytes maxL ret nm p l e R s m args below meth c T' h' cells slots → Wr h h' a j.toNatClampNeg (.int (nar .char x)) → own_A Z h' a .char (vs.set j.toNatClampNeg (.int (nar .char x))) → own_F p e below s Z hs W k n Q (T'.setTop (mkF m (pc + 1) Ls rest))) : own_F p e below s Z hs W k n Q (T.setTop (mkF m pc Ls (.int x :: .int j :: .ref a :: rest))) := by
  have S' := S; have F' := F
  obtain ⟨G, locs, X, N, e0, K⟩ := S
  obtain ⟨cl, A, r1, r2⟩ := F
  obtain ⟨T', h', X', e', Wt, stp⟩ := stC X S'.hx S'.hZ e0 A (own_A.inb r1 h0 hv) (g := mkF m pc Ls (.int x :: .int j :: .ref a :: rest)) rfl rfl (S'.dec hd)
  exact own_F.of stp (f T' h' ⟨G, _, X', Fr.snoc X' N (S'.may ok), e', K.wr Wt ok⟩ Wt (F'.set Wt))
theorem own_bst (S : own_S Z hs W own bytes maxL ret nm p l e R s m args below meth c T h cells slots) (F : own_A Z h a .byte vs) (h0 : ¬ j < 0) (hv : j.toNatClampNeg < vs.length) (hd : decode bytes pc = .ok (.bastore, 1)) (ok : a ∈ W ∨ hs.size ≤ a)
    (f : ∀ T' h', own_S Z hs W own bytes maxL ret nm p l e R s m args below meth c T' h' cells slots → Wr h h' a j.toNatClampNeg (.int (nar .byte x)) → own_A Z h' a .byte (vs.set j.toNatClampNeg (.int (nar .byte x))) → own_F p e below s Z hs W k n Q (T'.setTop (mkF m (pc + 1) Ls rest))) : own_F p e below s Z hs W k n Q (T.setTop (mkF m pc Ls (.int x :: .int j :: .ref a :: rest))) := by
  have S' := S; have F' := F
  obtain ⟨G, locs, X, N, e0, K⟩ := S
  obtain ⟨cl, A, r1, r2⟩ := F
  obtain ⟨T', h', X', e', Wt, stp⟩ := stB X S'.hx S'.hZ e0 A (own_A.inb r1 h0 hv) (g := mkF m pc Ls (.int x :: .int j :: .ref a :: rest)) rfl rfl (S'.dec hd)
  exact own_F.of stp (f T' h' ⟨G, _, X', Fr.snoc X' N (S'.may ok), e', K.wr Wt ok⟩ Wt (F'.set Wt))
theorem own_zst (S : own_S Z hs W own bytes maxL ret nm p l e R s m args below meth c T h cells slots) (F : own_A Z h a .boolean vs) (h0 : ¬ j < 0) (hv : j.toNatClampNeg < vs.length) (hd : decode bytes pc = .ok (.bastore, 1)) (ok : a ∈ W ∨ hs.size ≤ a)
    (f : ∀ T' h', own_S Z hs W own bytes maxL ret nm p l e R s m args below meth c T' h' cells slots → Wr h h' a j.toNatClampNeg (.int (nar .boolean x)) → own_A Z h' a .boolean (vs.set j.toNatClampNeg (.int (nar .boolean x))) → own_F p e below s Z hs W k n Q (T'.setTop (mkF m (pc + 1) Ls rest))) : own_F p e below s Z hs W k n Q (T.setTop (mkF m pc Ls (.int x :: .int j :: .ref a :: rest))) := by
  have S' := S; have F' := F
  obtain ⟨G, locs, X, N, e0, K⟩ := S
  obtain ⟨cl, A, r1, r2⟩ := F
  obtain ⟨T', h', X', e', Wt, stp⟩ := stZ X S'.hx S'.hZ e0 A (own_A.inb r1 h0 hv) (g := mkF m pc Ls (.int x :: .int j :: .ref a :: rest)) rfl rfl (S'.dec hd)
  exact own_F.of stp (f T' h' ⟨G, _, X', Fr.snoc X' N (S'.may ok), e', K.wr Wt ok⟩ Wt (F'.set Wt))
theorem own_newP (S : own_S Z hs W own bytes maxL ret nm p l e R s m args below meth c T h cells slots) {aty : ArrayType} {z : Int32} (w : (Jvm.Cond.arrayClass (newarray.typeOf aty)).before a0 Z = true) (hd : decode bytes pc = .ok (.newarray aty, 2)) (hz : ¬ z < 0) {cap : Nat} (hcap : z.toNatClampNeg ≤ cap) (hb : cap * 8 ≤ 536870912) (hc : cells + 1 ≤ R.cells) (hl : slots + cap ≤ R.slots)
    (f : ∀ T' h' a, a = h.size → own_S Z hs W own bytes maxL ret nm p l e R s m args below meth c T' h' (cells + 1) (slots + cap) → Ext h h' → own_A Z h' a (newarray.typeOf aty) (List.replicate z.toNatClampNeg (defaultValue (newarray.typeOf aty))) → own_F p e below s Z hs W k n Q (T'.setTop (mkF m (pc + 2) Ls (.ref a :: rest)))) : own_F p e below s Z hs W k n Q (T.setTop (mkF m pc Ls (.int z :: rest))) := by
  have S' := S
  obtain ⟨G, locs, X, N, e0, K⟩ := S
  obtain ⟨T', h', cA, X', e', E, A, stp⟩ := newP X S'.hx S'.hZ w e0 (g := mkF m pc Ls (.int z :: rest)) rfl (S'.dec hd) rfl hz hcap hb hc hl
  refine own_F.of stp (f T' h' _ rfl ⟨G, _, X', N, e', K.ext E⟩ E ⟨_, A, by simp [newA], ?_⟩)
  have := (back32 hz).2
  simpa using this
/-- an array that stands at the start -/
theorem own_A.start {t : Term} {z : Int32} (ev : t.eval a0 Z none [] Z = some (.ref a)) (hx : (Jvm.Cond.arrayOf t ty).value a0 Z none Z [] = some true) (hl : (Jvm.Cond.eq (.length t) (.int z)).value a0 Z none Z [] = some true) : ∃ cl : Cell, Arr Z Z.heap a cl ty ∧ cl.slots.size < 2 ^ 31 ∧ cl.slots.size.toInt32 = z ∧ Z.arrayAt? a = some cl := by
  obtain ⟨cl, A⟩ := Arr.start ev hx
  have q := A.fin (Vm.Alike.refl _)
  refine ⟨cl, A, ?_, ?_, q⟩
  all_goals
    obtain ⟨u, w, h1, h2, -⟩ := cmp_v (Or.inl hl)
    have h1' : (if cl.slots.size < 2 ^ 31 then some (Value.int cl.slots.size.toInt32) else none) = some u := by simpa [Term.eval, ev, q] using h1
    by_cases g : cl.slots.size < 2 ^ 31
    · first
        | exact g
        | (have e1 : u = .int cl.slots.size.toInt32 := by simpa [g] using h1'.symm
           have e2 : w = .int z := by simpa [Term.eval] using h2.symm
           subst e1 e2
           exact gotT (Cond.eq_ints h1 h2) hl)
    · simp [g] at h1'
end OwnArrays
/-! OWN: the caches of boxes -/
section OwnBoxes
variable {Z : State} {hs : Heap} {W : List Addr} {own : String} {bytes : ByteArray} {maxL : Nat} {ret : Option FieldType} {nm : String}
  {p : Program} {l : Launch} {e : Env} {R : Room} {s : State} {m : MethodId} {args : Array Value} {below : List Frame} {meth : Method} {c : Code}
  {T : State} {h : Heap} {cells slots : Nat} {k n : Nat} {Q : Option Value → Heap → Prop} {a0 : Array Value} {pc : Nat} {Ls : Array Slot} {st rest : List Value} {a : Addr} {j z : Int32} {K d : String} {val : Int32 → Value} {cl : Cell}
theorem own_bxald (S : own_S Z hs W own bytes maxL ret nm p l e R s m args below meth c T h cells slots) (B : Bxs Z a cl K d z val) (h0 : ¬ j < 0) (h1 : j < z) (hd : decode bytes pc = .ok (.aaload, 1))
    (f : ∀ box, Exa Z Z.heap box K → Fld Z Z.heap box K "value" d (val j) → own_F p e below s Z hs W k n Q (T.setTop (mkF m (pc + 1) Ls (.ref box :: rest)))) : own_F p e below s Z hs W k n Q (T.setTop (mkF m pc Ls (.int j :: .ref a :: rest))) := by
  have S' := S
  obtain ⟨G, locs, X, N, e0, Kp⟩ := S
  obtain ⟨A, q1, q2⟩ := B.ext S'.old
  have hin := inb_of (j := j) q1 ⟨h0, h1⟩
  obtain ⟨box, r1, r2, r3⟩ := B.2.2.2 j hin
  exact own_F.of (fun t => X.aaload S'.hx (by rw [e0]; exact A.1) (State.isArrayOf_alike S'.hZ.alike A.2.1) rfl A.2.2 hin r1 (g := mkF m pc Ls (.int j :: .ref a :: rest)) rfl rfl (S'.dec hd) t) (f box r2 r3)
theorem own_staI {C fn dd : String} {v : Int32} (hx : (Jvm.Cond.eq (.static C fn dd) (.int v)).value a0 Z none Z [] = some true) (wi : (Jvm.Cond.initializedFor C fn dd).before a0 Z = true ∨ ((Jvm.Cond.initialized C).before a0 Z = true ∧ (Jvm.Cond.laysStatic C fn dd).before a0 Z = true)) : Sta Z Z.heap C fn dd (.int v) :=
  Sta.start (eqv_i rfl hx) wi
theorem own_sub_at {i : Nat} {v : Int32} (h0 : ¬ j < 0) : (Term.sub (.index 0) (.int v)).eval a0 Z none [j.toNatClampNeg] Z = some (.int (j - v)) := by
  have h1 : (Term.index 0).eval a0 Z none [j.toNatClampNeg] Z = some (.int j) := idx_at h0
  simp only [Term.eval] at h1
  simp only [Term.eval]
  rw [h1]; rfl
end OwnBoxes

theorem own_w {a0 : Array Value} {Z : State} (hw : ∀ d ∈ tables_1, d.before a0 Z = true) {d : Jvm.Cond} (i : Nat) (q : tables_1[i]? = some d) : d.before a0 Z = true := hw _ (List.mem_of_getElem? q)

theorem own_mayN {Z : State} {hs : Heap} {W : List Addr} {own : String} {bytes : ByteArray} {maxL : Nat} {ret : Option FieldType} {nm : String} {p : Program} {l : Launch} {e : Env} {R : Room} {s : State} {m : MethodId} {args : Array Value} {below : List Frame} {meth : Method} {c : Code} {T : State} {h : Heap} {cells slots : Nat}
    (S : own_S Z hs W own bytes maxL ret nm p l e R s m args below meth c T h cells slots) {a : Addr} (q : a ∈ W ∨ hs.size ≤ a) : Z.heap.size ≤ a := S.may q

def own_eq (x y : Int32) : Int32 := if x = y then 1 else 0
theorem own_m255 (x : Int32) : ¬ (255 : Int32) < nar .char ((x &&& 255).toUInt32.toUInt16.toUInt32.toInt32) ∧ ¬ (255 : Int32) < (x &&& 255).toUInt32.toUInt16.toUInt32.toInt32 := by
  have h := c_and x 255 (by decide)
  have e : (255 : Int32).toInt = 255 := rfl
  have q : ¬ (255 : Int32) < x &&& 255 := by rw [Int32.lt_iff_toInt_lt]; omega
  have n : nar .char ((x &&& 255).toUInt32.toUInt16.toUInt32.toInt32) = (x &&& 255).toUInt32.toUInt16.toUInt32.toInt32 := Value.int.inj (XT.narrow_c _)
  rw [n, i2c_mask]
  exact ⟨q, q⟩

theorem d9_0 : decode jdk_18_method_1_code 0 = .ok (.aload_n 0, 1) := by decide +kernel
theorem d9_1 : decode jdk_18_method_1_code 1 = .ok (.invokespecial 1, 3) := by decide +kernel
theorem d9_4 : decode jdk_18_method_1_code 4 = .ok (.return_, 1) := by decide +kernel
theorem pn9 : plainFor (⟨"java/lang/Number", "<init>", "()V"⟩ : MethodName) = true := plainFor_of_name (by first | (simp [plainName, overriddenIn]; done) | decide +kernel)
set_option maxRecDepth 65536 in
set_option maxHeartbeats 40000000 in
theorem own_NumInit (l : Launch) (Z : State) (a0 : Array Value) (hw : ∀ d ∈ tables_1, d.before a0 Z = true) (a1 : Addr) (h0 : Heap) (hO : Ext Z.heap h0) :
    own_C l Z (⟨"java/lang/Number", "<init>", "()V"⟩ : MethodName) jdk_18_method_1_code 1 none [] ({ frames := 1, cells := 0, slots := 0, locals := 12 } : Room) [] #[(.ref a1)] h0 (fun v h => v = none ∧ h0 = h) := by
  refine own_C.of pn9 hO all0 ?_
  intro p e s m below meth c T0 S0
  refine own_F.cast (by first | (simp [entryFrame, mkF, argsToLocals, Value.category]; done) | rfl : entryFrame m #[(.ref a1)] 1 = mkF m 0 #[.val (.ref a1)] []) ?_
  show own_F p e below s Z _ _ _ _ _ (T0.setTop (mkF m 0 #[.val (.ref a1)] []))
  refine own_F.of (fun _ => XS.aloadN S0.here S0.hx rfl (S0.dec d9_0) rfl rfl) ?_
  show own_F p e below s Z _ _ _ _ _ (T0.setTop (mkF m 1 #[.val (.ref a1)] [(.ref a1)]))
  refine own_initO S0 (own_w hw 57 rfl) (own_w hw 15 rfl) (own_w hw 16 rfl) rfl d9_1 (by decide) (Nat.le_of_ble_eq_true rfl) (fun T1 S1 => ?_)
  show own_F p e below s Z _ _ _ _ _ (T1.setTop (mkF m 4 #[.val (.ref a1)] []))
  refine own_retV S1 d9_4 (by decide) (by decide) ?_
  exact ⟨rfl, rfl⟩
theorem d8_0 : decode jdk_33_method_23_code 0 = .ok (.aload_n 0, 1) := by decide +kernel
theorem d8_1 : decode jdk_33_method_23_code 1 = .ok (.invokespecial 202, 3) := by decide +kernel
theorem d8_4 : decode jdk_33_method_23_code 4 = .ok (.aload_n 0, 1) := by decide +kernel
theorem d8_5 : decode jdk_33_method_23_code 5 = .ok (.iload_n 1, 1) := by decide +kernel
theorem d8_6 : decode jdk_33_method_23_code 6 = .ok (.putfield 205, 3) := by decide +kernel
theorem d8_9 : decode jdk_33_method_23_code 9 = .ok (.return_, 1) := by decide +kernel
theorem pn8 : plainFor (⟨"java/lang/Integer", "<init>", "(I)V"⟩ : MethodName) = true := plainFor_of_name (by first | (simp [plainName, overriddenIn]; done) | decide +kernel)
set_option maxRecDepth 65536 in
set_option maxHeartbeats 40000000 in
theorem own_BoxInitI (l : Launch) (Z : State) (a0 : Array Value) (hw : ∀ d ∈ tables_1, d.before a0 Z = true) (a1 : Addr) (p2 : Int32) (x0 : Int32) (h0 : Heap) (hO : Ext Z.heap h0) (ga : Z.heap.size ≤ a1) (E_a1 : Exa Z h0 a1 "java/lang/Integer") (F_value : Fld Z h0 a1 "java/lang/Integer" "value" "I" (.int x0)) :
    own_C l Z (⟨"java/lang/Integer", "<init>", "(I)V"⟩ : MethodName) jdk_33_method_23_code 2 none [] ({ frames := 2, cells := 0, slots := 0, locals := 24 } : Room) [a1] #[(.ref a1), (.int p2)] h0 (fun v h => v = none ∧ Fld Z h a1 "java/lang/Integer" "value" "I" (.int p2)) := by
  refine own_C.of pn8 hO (allS ga all0) ?_
  intro p e s m below meth c T0 S0
  refine own_F.cast (by first | (simp [entryFrame, mkF, argsToLocals, Value.category]; done) | rfl : entryFrame m #[(.ref a1), (.int p2)] 2 = mkF m 0 #[.val (.ref a1), .val (.int p2)] []) ?_
  show own_F p e below s Z _ _ _ _ _ (T0.setTop (mkF m 0 #[.val (.ref a1), .val (.int p2)] []))
  refine own_F.of (fun _ => XS.aloadN S0.here S0.hx rfl (S0.dec d8_0) rfl rfl) ?_
  show own_F p e below s Z _ _ _ _ _ (T0.setTop (mkF m 1 #[.val (.ref a1), .val (.int p2)] [(.ref a1)]))
  refine own_callI S0 (y := (⟨"java/lang/Number", "<init>", "()V"⟩ : MethodName)) rfl (own_w hw 51 rfl) (own_w hw 52 rfl) (own_w hw 55 rfl) (own_w hw 56 rfl) (by decide) (argsL := []) (rest := []) (own_NumInit l Z a0 hw a1 h0 S0.old) all0 (by decide +kernel : parseMethodDescriptor "()V" = some ⟨[], none⟩) rfl rfl rfl d8_1 (by decide) (Nat.le_of_ble_eq_true rfl) (by decide) (by decide) (fun T1 h1 v1 S1 K1 q1 => ?_)
  obtain ⟨rfl, rfl⟩ := q1
  show own_F p e below s Z _ _ _ _ _ (T1.setTop (mkF m 4 #[.val (.ref a1), .val (.int p2)] []))
  refine own_F.of (fun _ => XS.aloadN S1.here S1.hx rfl (S1.dec d8_4) rfl rfl) ?_
  show own_F p e below s Z _ _ _ _ _ (T1.setTop (mkF m 5 #[.val (.ref a1), .val (.int p2)] [(.ref a1)]))
  refine own_F.of (fun _ => XS.iloadN S1.here S1.hx rfl (S1.dec d8_5) rfl) ?_
  show own_F p e below s Z _ _ _ _ _ (T1.setTop (mkF m 6 #[.val (.ref a1), .val (.int p2)] [(.int p2), (.ref a1)]))
  refine own_putF S1 (host := "") (Or.inl (own_w hw 58 rfl)) Via.refl F_value E_a1 (Or.inr ⟨(own_w hw 59 rfl), rfl, rfl⟩) (own_w hw 46 rfl) (ty := .int) (by decide) rfl rfl d8_6 (Or.inl (List.mem_of_getElem? (i := 0) rfl)) (fun T2 h2 S2 W2 => ?_)
  have Fw2 := F_value.same W2
  show own_F p e below s Z _ _ _ _ _ (T2.setTop (mkF m 9 #[.val (.ref a1), .val (.int p2)] []))
  refine own_retV S2 d8_9 (by decide) (by decide) ?_
  exact ⟨rfl, Fw2⟩
theorem d7_0 : decode jdk_33_method_22_code 0 = .ok (.iload_n 0, 1) := by decide +kernel
theorem d7_1 : decode jdk_33_method_22_code 1 = .ok (.bipush (-128), 2) := by decide +kernel
theorem d7_3 : decode jdk_33_method_22_code 3 = .ok (.if_icmp .lt 20, 3) := by decide +kernel
theorem d7_6 : decode jdk_33_method_22_code 6 = .ok (.iload_n 0, 1) := by decide +kernel
theorem d7_7 : decode jdk_33_method_22_code 7 = .ok (.getstatic 191, 3) := by decide +kernel
theorem d7_10 : decode jdk_33_method_22_code 10 = .ok (.if_icmp .gt 13, 3) := by decide +kernel
theorem d7_13 : decode jdk_33_method_22_code 13 = .ok (.getstatic 195, 3) := by decide +kernel
theorem d7_16 : decode jdk_33_method_22_code 16 = .ok (.iload_n 0, 1) := by decide +kernel
theorem d7_17 : decode jdk_33_method_22_code 17 = .ok (.sipush 128, 3) := by decide +kernel
theorem d7_20 : decode jdk_33_method_22_code 20 = .ok (.iadd, 1) := by decide +kernel
theorem d7_21 : decode jdk_33_method_22_code 21 = .ok (.aaload, 1) := by decide +kernel
theorem d7_22 : decode jdk_33_method_22_code 22 = .ok (.areturn, 1) := by decide +kernel
theorem d7_23 : decode jdk_33_method_22_code 23 = .ok (.new 1, 3) := by decide +kernel
theorem d7_26 : decode jdk_33_method_22_code 26 = .ok (.dup, 1) := by decide +kernel
theorem d7_27 : decode jdk_33_method_22_code 27 = .ok (.iload_n 0, 1) := by decide +kernel
theorem d7_28 : decode jdk_33_method_22_code 28 = .ok (.invokespecial 199, 3) := by decide +kernel
theorem d7_31 : decode jdk_33_method_22_code 31 = .ok (.areturn, 1) := by decide +kernel
theorem pn7 : plainFor (⟨"java/lang/Integer", "valueOf", "(I)Ljava/lang/Integer;"⟩ : MethodName) = true := plainFor_of_name (by first | (simp [plainName, overriddenIn]; done) | decide +kernel)
theorem own_eqFI {Z : State} {h : Heap} {a : Addr} {x y : Int32} (q : x = y) (F : Fld Z h a "java/lang/Integer" "value" "I" (.int x)) : Fld Z h a "java/lang/Integer" "value" "I" (.int y) := q ▸ F
theorem own_bxI0 {x : Int32} (h1 : ¬ x < -128) (h2 : ¬ 127 < x) : ¬ x + 128 < 0 ∧ x + 128 < 256 ∧ x + 128 - 128 = x := by
  have a1 := c_iadd x 128
  rw [Int32.lt_iff_toInt_lt] at h1 h2
  have e1 : (128 : Int32).toInt = 128 := rfl
  have e2 : (-128 : Int32).toInt = -128 := rfl
  have e3 : (127 : Int32).toInt = 127 := rfl
  have e4 : (256 : Int32).toInt = 256 := rfl
  have e5 : (0 : Int32).toInt = 0 := rfl
  have r1 := rng32 x
  have r2 := rng32 (x + 128)
  refine ⟨?_, ?_, ?_⟩
  · rw [Int32.lt_iff_toInt_lt]; omega
  · rw [Int32.lt_iff_toInt_lt]; omega
  · exact Int32.add_sub_cancel x 128
set_option maxRecDepth 65536 in
set_option maxHeartbeats 40000000 in
theorem own_vOfI (l : Launch) (Z : State) (a0 : Array Value) (hw : ∀ d ∈ tables_1, d.before a0 Z = true) (p1 : Int32) (aC : Addr) (clC : Cell) (h0 : Heap) (hO : Ext Z.heap h0) (SHi : Sta Z Z.heap "java/lang/Integer$IntegerCache" "high" "I" (.int 127)) (SCa : Sta Z Z.heap "java/lang/Integer$IntegerCache" "cache" "[Ljava/lang/Integer;" (.ref aC)) (BX : Bxs Z aC clC "java/lang/Integer" "I" 256 (fun j => .int (j - 128))) :
    own_C l Z (⟨"java/lang/Integer", "valueOf", "(I)Ljava/lang/Integer;"⟩ : MethodName) jdk_33_method_22_code 1 (some (.object "java/lang/Integer")) [] ({ frames := 3, cells := 1, slots := 1, locals := 42 } : Room) [] #[(.int p1)] h0 (fun v h => ∃ b, v = some (.ref b) ∧ Exa Z h b "java/lang/Integer" ∧ Fld Z h b "java/lang/Integer" "value" "I" (.int p1)) := by
  refine own_C.of pn7 hO all0 ?_
  intro p e s m below meth c T0 S0
  refine own_F.cast (by first | (simp [entryFrame, mkF, argsToLocals, Value.category]; done) | rfl : entryFrame m #[(.int p1)] 1 = mkF m 0 #[.val (.int p1)] []) ?_
  show own_F p e below s Z _ _ _ _ _ (T0.setTop (mkF m 0 #[.val (.int p1)] []))
  refine own_F.of (fun _ => XS.iloadN S0.here S0.hx rfl (S0.dec d7_0) rfl) ?_
  show own_F p e below s Z _ _ _ _ _ (T0.setTop (mkF m 1 #[.val (.int p1)] [(.int p1)]))
  refine own_F.of (fun _ => XS.bipush S0.here S0.hx rfl (S0.dec d7_1)) ?_
  show own_F p e below s Z _ _ _ _ _ (T0.setTop (mkF m 3 #[.val (.int p1)] [(.int (-128 : Int32)), (.int p1)]))
  refine own_icmp S0 23 d7_3 (by decide) (by decide) (fun (hc3_1 : p1 < (-128 : Int32)) => ?_) (fun (hc3_1 : ¬ (p1 < (-128 : Int32))) => ?_)
  · show own_F p e below s Z _ _ _ _ _ (T0.setTop (mkF m 23 #[.val (.int p1)] []))
    refine own_new S0 (own_w hw 45 rfl) (own_w hw 46 rfl) (own_w hw 41 rfl) d7_23 (by decide) (by decide) (fun T2 h2 b2 g2 S2 E2 A2 D2 => ?_)
    have F2_value : Fld Z h2 b2 "java/lang/Integer" "value" "I" (.int (0 : Int32)) := (D2 (Or.inr (own_w hw 59 rfl)) (ty := .int) (by decide))
    show own_F p e below s Z _ _ _ _ _ (T2.setTop (mkF m 26 #[.val (.int p1)] [(.ref b2)]))
    refine own_F.of (fun _ => XS.dup S2.here S2.hx rfl (S2.dec d7_26) rfl rfl) ?_
    show own_F p e below s Z _ _ _ _ _ (T2.setTop (mkF m 27 #[.val (.int p1)] [(.ref b2), (.ref b2)]))
    refine own_F.of (fun _ => XS.iloadN S2.here S2.hx rfl (S2.dec d7_27) rfl) ?_
    show own_F p e below s Z _ _ _ _ _ (T2.setTop (mkF m 28 #[.val (.int p1)] [(.int p1), (.ref b2), (.ref b2)]))
    refine own_callI S2 (y := (⟨"java/lang/Integer", "<init>", "(I)V"⟩ : MethodName)) rfl (own_w hw 47 rfl) (own_w hw 48 rfl) (own_w hw 41 rfl) (own_w hw 50 rfl) (by decide) (argsL := [(.int p1)]) (rest := [(.ref b2)]) (own_BoxInitI l Z a0 hw b2 p1 _ h2 S2.old (own_mayN S2 (Or.inr (by rw [g2]; exact S0.size))) A2 F2_value) (allS (Or.inr (by rw [g2]; exact S0.size)) all0) (by decide +kernel : parseMethodDescriptor "(I)V" = some ⟨[.int], none⟩) rfl rfl rfl d7_28 (by decide) (Nat.le_of_ble_eq_true rfl) (by decide) (by decide) (fun T3 h3 v3 S3 K3 q3 => ?_)
    obtain ⟨rfl, F3⟩ := q3
    show own_F p e below s Z _ _ _ _ _ (T3.setTop (mkF m 31 #[.val (.int p1)] [(.ref b2)]))
    have f4 := (A2.keep K3)
    refine own_retA S3 rfl rfl d7_31 (by decide) (by decide) ?_
    exact ⟨_, rfl, f4, F3⟩
  · show own_F p e below s Z _ _ _ _ _ (T0.setTop (mkF m 6 #[.val (.int p1)] []))
    refine own_F.of (fun _ => XS.iloadN S0.here S0.hx rfl (S0.dec d7_6) rfl) ?_
    show own_F p e below s Z _ _ _ _ _ (T0.setTop (mkF m 7 #[.val (.int p1)] [(.int p1)]))
    refine own_getS S0 (host := "") (Or.inl (own_w hw 43 rfl)) Via.refl (SHi.ext S0.old) d7_7 (fun T5 S5 => ?_)
    show own_F p e below s Z _ _ _ _ _ (T5.setTop (mkF m 10 #[.val (.int p1)] [(.int (127 : Int32)), (.int p1)]))
    refine own_icmp S5 23 d7_10 (by decide) (by decide) (fun (hc10_6 : (127 : Int32) < p1) => ?_) (fun (hc10_6 : ¬ ((127 : Int32) < p1)) => ?_)
    · show own_F p e below s Z _ _ _ _ _ (T5.setTop (mkF m 23 #[.val (.int p1)] []))
      refine own_new S5 (own_w hw 45 rfl) (own_w hw 46 rfl) (own_w hw 41 rfl) d7_23 (by decide) (by decide) (fun T7 h7 b7 g7 S7 E7 A7 D7 => ?_)
      have F7_value : Fld Z h7 b7 "java/lang/Integer" "value" "I" (.int (0 : Int32)) := (D7 (Or.inr (own_w hw 59 rfl)) (ty := .int) (by decide))
      show own_F p e below s Z _ _ _ _ _ (T7.setTop (mkF m 26 #[.val (.int p1)] [(.ref b7)]))
      refine own_F.of (fun _ => XS.dup S7.here S7.hx rfl (S7.dec d7_26) rfl rfl) ?_
      show own_F p e below s Z _ _ _ _ _ (T7.setTop (mkF m 27 #[.val (.int p1)] [(.ref b7), (.ref b7)]))
      refine own_F.of (fun _ => XS.iloadN S7.here S7.hx rfl (S7.dec d7_27) rfl) ?_
      show own_F p e below s Z _ _ _ _ _ (T7.setTop (mkF m 28 #[.val (.int p1)] [(.int p1), (.ref b7), (.ref b7)]))
      refine own_callI S7 (y := (⟨"java/lang/Integer", "<init>", "(I)V"⟩ : MethodName)) rfl (own_w hw 47 rfl) (own_w hw 48 rfl) (own_w hw 41 rfl) (own_w hw 50 rfl) (by decide) (argsL := [(.int p1)]) (rest := [(.ref b7)]) (own_BoxInitI l Z a0 hw b7 p1 _ h7 S7.old (own_mayN S7 (Or.inr (by rw [g7]; exact S5.size))) A7 F7_value) (allS (Or.inr (by rw [g7]; exact S5.size)) all0) (by decide +kernel : parseMethodDescriptor "(I)V" = some ⟨[.int], none⟩) rfl rfl rfl d7_28 (by decide) (Nat.le_of_ble_eq_true rfl) (by decide) (by decide) (fun T8 h8 v8 S8 K8 q8 => ?_)
      obtain ⟨rfl, F8⟩ := q8
      show own_F p e below s Z _ _ _ _ _ (T8.setTop (mkF m 31 #[.val (.int p1)] [(.ref b7)]))
      have f9 := (A7.keep K8)
      refine own_retA S8 rfl rfl d7_31 (by decide) (by decide) ?_
      exact ⟨_, rfl, f9, F8⟩
    · show own_F p e below s Z _ _ _ _ _ (T5.setTop (mkF m 13 #[.val (.int p1)] []))
      refine own_getS S5 (host := "") (Or.inl (own_w hw 127 rfl)) Via.refl (SCa.ext S5.old) d7_13 (fun T10 S10 => ?_)
      show own_F p e below s Z _ _ _ _ _ (T10.setTop (mkF m 16 #[.val (.int p1)] [(.ref aC)]))
      refine own_F.of (fun _ => XS.iloadN S10.here S10.hx rfl (S10.dec d7_16) rfl) ?_
      show own_F p e below s Z _ _ _ _ _ (T10.setTop (mkF m 17 #[.val (.int p1)] [(.int p1), (.ref aC)]))
      refine own_F.of (fun _ => XS.sipush S10.here S10.hx rfl (S10.dec d7_17)) ?_
      show own_F p e below s Z _ _ _ _ _ (T10.setTop (mkF m 20 #[.val (.int p1)] [(.int (128 : Int32)), (.int p1), (.ref aC)]))
      refine own_F.of (fun _ => XS.iadd S10.here S10.hx rfl (S10.dec d7_20) rfl) ?_
      show own_F p e below s Z _ _ _ _ _ (T10.setTop (mkF m 21 #[.val (.int p1)] [(.int (p1 + (128 : Int32))), (.ref aC)]))
      refine own_bxald S10 BX (own_bxI0 hc3_1 hc10_6).1 (own_bxI0 hc3_1 hc10_6).2.1 d7_21 (fun b11 X11 F11 => ?_)
      show own_F p e below s Z _ _ _ _ _ (T10.setTop (mkF m 22 #[.val (.int p1)] [(.ref b11)]))
      refine own_retA S10 rfl rfl d7_22 (by decide) (by decide) ?_
      exact ⟨_, rfl, X11.ext S10.old, own_eqFI (own_bxI0 hc3_1 hc10_6).2.2 (F11.ext S10.old)⟩
theorem d22_0 : decode jdk_35_method_26_code 0 = .ok (.aload_n 0, 1) := by decide +kernel
theorem d22_1 : decode jdk_35_method_26_code 1 = .ok (.invokespecial 270, 3) := by decide +kernel
theorem d22_4 : decode jdk_35_method_26_code 4 = .ok (.aload_n 0, 1) := by decide +kernel
theorem d22_5 : decode jdk_35_method_26_code 5 = .ok (.lload_n 1, 1) := by decide +kernel
theorem d22_6 : decode jdk_35_method_26_code 6 = .ok (.putfield 273, 3) := by decide +kernel
theorem d22_9 : decode jdk_35_method_26_code 9 = .ok (.return_, 1) := by decide +kernel
theorem pn22 : plainFor (⟨"java/lang/Long", "<init>", "(J)V"⟩ : MethodName) = true := plainFor_of_name (by first | (simp [plainName, overriddenIn]; done) | decide +kernel)
set_option maxRecDepth 65536 in
set_option maxHeartbeats 40000000 in
theorem own_BoxInitJ (l : Launch) (Z : State) (a0 : Array Value) (hw : ∀ d ∈ tables_1, d.before a0 Z = true) (a1 : Addr) (p2 : Int64) (x0 : Int64) (h0 : Heap) (hO : Ext Z.heap h0) (ga : Z.heap.size ≤ a1) (E_a1 : Exa Z h0 a1 "java/lang/Long") (F_value : Fld Z h0 a1 "java/lang/Long" "value" "J" (.long x0)) :
    own_C l Z (⟨"java/lang/Long", "<init>", "(J)V"⟩ : MethodName) jdk_35_method_26_code 3 none [] ({ frames := 2, cells := 0, slots := 0, locals := 24 } : Room) [a1] #[(.ref a1), (.long p2)] h0 (fun v h => v = none ∧ Fld Z h a1 "java/lang/Long" "value" "J" (.long p2)) := by
  refine own_C.of pn22 hO (allS ga all0) ?_
  intro p e s m below meth c T0 S0
  refine own_F.cast (by first | (simp [entryFrame, mkF, argsToLocals, Value.category]; done) | rfl : entryFrame m #[(.ref a1), (.long p2)] 3 = mkF m 0 #[.val (.ref a1), .val (.long p2), .second] []) ?_
  show own_F p e below s Z _ _ _ _ _ (T0.setTop (mkF m 0 #[.val (.ref a1), .val (.long p2), .second] []))
  refine own_F.of (fun _ => XS.aloadN S0.here S0.hx rfl (S0.dec d22_0) rfl rfl) ?_
  show own_F p e below s Z _ _ _ _ _ (T0.setTop (mkF m 1 #[.val (.ref a1), .val (.long p2), .second] [(.ref a1)]))
  refine own_callI S0 (y := (⟨"java/lang/Number", "<init>", "()V"⟩ : MethodName)) rfl (own_w hw 134 rfl) (own_w hw 52 rfl) (own_w hw 55 rfl) (own_w hw 56 rfl) (by decide) (argsL := []) (rest := []) (own_NumInit l Z a0 hw a1 h0 S0.old) all0 (by decide +kernel : parseMethodDescriptor "()V" = some ⟨[], none⟩) rfl rfl rfl d22_1 (by decide) (Nat.le_of_ble_eq_true rfl) (by decide) (by decide) (fun T1 h1 v1 S1 K1 q1 => ?_)
  obtain ⟨rfl, rfl⟩ := q1
  show own_F p e below s Z _ _ _ _ _ (T1.setTop (mkF m 4 #[.val (.ref a1), .val (.long p2), .second] []))
  refine own_F.of (fun _ => XS.aloadN S1.here S1.hx rfl (S1.dec d22_4) rfl rfl) ?_
  show own_F p e below s Z _ _ _ _ _ (T1.setTop (mkF m 5 #[.val (.ref a1), .val (.long p2), .second] [(.ref a1)]))
  refine own_F.of (fun _ => XS.lloadN S1.here S1.hx rfl (S1.dec d22_5) rfl) ?_
  show own_F p e below s Z _ _ _ _ _ (T1.setTop (mkF m 6 #[.val (.ref a1), .val (.long p2), .second] [(.long p2), (.ref a1)]))
  refine own_putF S1 (host := "") (Or.inl (own_w hw 136 rfl)) Via.refl F_value E_a1 (Or.inr ⟨(own_w hw 137 rfl), rfl, rfl⟩) (own_w hw 129 rfl) (ty := .long) (by decide) rfl rfl d22_6 (Or.inl (List.mem_of_getElem? (i := 0) rfl)) (fun T2 h2 S2 W2 => ?_)
  have Fw2 := F_value.same W2
  show own_F p e below s Z _ _ _ _ _ (T2.setTop (mkF m 9 #[.val (.ref a1), .val (.long p2), .second] []))
  refine own_retV S2 d22_9 (by decide) (by decide) ?_
  exact ⟨rfl, Fw2⟩
theorem d6_0 : decode jdk_35_method_24_code 0 = .ok (.sipush 128, 3) := by decide +kernel
theorem d6_3 : decode jdk_35_method_24_code 3 = .ok (.istore_n 2, 1) := by decide +kernel
theorem d6_4 : decode jdk_35_method_24_code 4 = .ok (.lload_n 0, 1) := by decide +kernel
theorem d6_5 : decode jdk_35_method_24_code 5 = .ok (.ldc2_w 230, 3) := by decide +kernel
theorem d6_8 : decode jdk_35_method_24_code 8 = .ok (.lcmp, 1) := by decide +kernel
theorem d6_9 : decode jdk_35_method_24_code 9 = .ok (.ifCond .lt 22, 3) := by decide +kernel
theorem d6_12 : decode jdk_35_method_24_code 12 = .ok (.lload_n 0, 1) := by decide +kernel
theorem d6_13 : decode jdk_35_method_24_code 13 = .ok (.ldc2_w 232, 3) := by decide +kernel
theorem d6_16 : decode jdk_35_method_24_code 16 = .ok (.lcmp, 1) := by decide +kernel
theorem d6_17 : decode jdk_35_method_24_code 17 = .ok (.ifCond .gt 14, 3) := by decide +kernel
theorem d6_20 : decode jdk_35_method_24_code 20 = .ok (.getstatic 234, 3) := by decide +kernel
theorem d6_23 : decode jdk_35_method_24_code 23 = .ok (.lload_n 0, 1) := by decide +kernel
theorem d6_24 : decode jdk_35_method_24_code 24 = .ok (.l2i, 1) := by decide +kernel
theorem d6_25 : decode jdk_35_method_24_code 25 = .ok (.sipush 128, 3) := by decide +kernel
theorem d6_28 : decode jdk_35_method_24_code 28 = .ok (.iadd, 1) := by decide +kernel
theorem d6_29 : decode jdk_35_method_24_code 29 = .ok (.aaload, 1) := by decide +kernel
theorem d6_30 : decode jdk_35_method_24_code 30 = .ok (.areturn, 1) := by decide +kernel
theorem d6_31 : decode jdk_35_method_24_code 31 = .ok (.new 1, 3) := by decide +kernel
theorem d6_34 : decode jdk_35_method_24_code 34 = .ok (.dup, 1) := by decide +kernel
theorem d6_35 : decode jdk_35_method_24_code 35 = .ok (.lload_n 0, 1) := by decide +kernel
theorem d6_36 : decode jdk_35_method_24_code 36 = .ok (.invokespecial 240, 3) := by decide +kernel
theorem d6_39 : decode jdk_35_method_24_code 39 = .ok (.areturn, 1) := by decide +kernel
theorem pn6 : plainFor (⟨"java/lang/Long", "valueOf", "(J)Ljava/lang/Long;"⟩ : MethodName) = true := plainFor_of_name (by first | (simp [plainName, overriddenIn]; done) | decide +kernel)
theorem own_eqFJ {Z : State} {h : Heap} {a : Addr} {x y : Int64} (q : x = y) (F : Fld Z h a "java/lang/Long" "value" "J" (.long x)) : Fld Z h a "java/lang/Long" "value" "J" (.long y) := q ▸ F
theorem own_bxJ0 {x : Int64} (h1 : ¬ lcmpW x (-128) < 0) (h2 : ¬ 0 < lcmpW x 127) : ¬ x.toInt32 + 128 < 0 ∧ x.toInt32 + 128 < 256 ∧ (x.toInt32 + 128 - 128).toInt64 = x := by
  rw [lw_lt, Int64.lt_iff_toInt_lt] at h1
  rw [lw_gt, Int64.lt_iff_toInt_lt] at h2
  have e1 : (128 : Int32).toInt = 128 := rfl
  have e2 : (-128 : Int64).toInt = -128 := rfl
  have e3 : (127 : Int64).toInt = 127 := rfl
  have e4 : (256 : Int32).toInt = 256 := rfl
  have e5 : (0 : Int32).toInt = 0 := rfl
  have a1 := c_iadd x.toInt32 128
  have a2 := c_l2i x
  have r1 := rng32 x.toInt32
  have r2 := rng32 (x.toInt32 + 128)
  refine ⟨?_, ?_, ?_⟩
  · rw [Int32.lt_iff_toInt_lt]; omega
  · rw [Int32.lt_iff_toInt_lt]; omega
  · rw [Int32.add_sub_cancel]; apply Int64.toInt_inj.mp; rw [c_i2l]; omega
set_option maxRecDepth 65536 in
set_option maxHeartbeats 40000000 in
theorem own_vOfJ (l : Launch) (Z : State) (a0 : Array Value) (hw : ∀ d ∈ tables_1, d.before a0 Z = true) (p1 : Int64) (aC : Addr) (clC : Cell) (h0 : Heap) (hO : Ext Z.heap h0) (SCa : Sta Z Z.heap "java/lang/Long$LongCache" "cache" "[Ljava/lang/Long;" (.ref aC)) (BX : Bxs Z aC clC "java/lang/Long" "J" 256 (fun j => .long (j - 128).toInt64)) :
    own_C l Z (⟨"java/lang/Long", "valueOf", "(J)Ljava/lang/Long;"⟩ : MethodName) jdk_35_method_24_code 3 (some (.object "java/lang/Long")) [] ({ frames := 3, cells := 1, slots := 1, locals := 44 } : Room) [] #[(.long p1)] h0 (fun v h => ∃ b, v = some (.ref b) ∧ Exa Z h b "java/lang/Long" ∧ Fld Z h b "java/lang/Long" "value" "J" (.long p1)) := by
  refine own_C.of pn6 hO all0 ?_
  intro p e s m below meth c T0 S0
  refine own_F.cast (by first | (simp [entryFrame, mkF, argsToLocals, Value.category]; done) | rfl : entryFrame m #[(.long p1)] 3 = mkF m 0 #[.val (.long p1), .second, .unset] []) ?_
  show own_F p e below s Z _ _ _ _ _ (T0.setTop (mkF m 0 #[.val (.long p1), .second, .unset] []))
  refine own_F.of (fun _ => XS.sipush S0.here S0.hx rfl (S0.dec d6_0)) ?_
  show own_F p e below s Z _ _ _ _ _ (T0.setTop (mkF m 3 #[.val (.long p1), .second, .unset] [(.int (128 : Int32))]))
  refine own_F.of (fun _ => XS.istoreN S0.here S0.hx rfl (S0.dec d6_3) rfl (l' := #[.val (.long p1), .second, .val (.int (128 : Int32))]) rfl) ?_
  show own_F p e below s Z _ _ _ _ _ (T0.setTop (mkF m 4 #[.val (.long p1), .second, .val (.int (128 : Int32))] []))
  refine own_F.of (fun _ => XS.lloadN S0.here S0.hx rfl (S0.dec d6_4) rfl) ?_
  show own_F p e below s Z _ _ _ _ _ (T0.setTop (mkF m 5 #[.val (.long p1), .second, .val (.int (128 : Int32))] [(.long p1)]))
  refine own_ldcJ S0 (own_w hw 30 rfl) d6_5 ?_
  show own_F p e below s Z _ _ _ _ _ (T0.setTop (mkF m 8 #[.val (.long p1), .second, .val (.int (128 : Int32))] [(.long (-128 : Int64)), (.long p1)]))
  refine own_F.of (fun _ => XS.lcmp S0.here S0.hx rfl (S0.dec d6_8) rfl) ?_
  show own_F p e below s Z _ _ _ _ _ (T0.setTop (mkF m 9 #[.val (.long p1), .second, .val (.int (128 : Int32))] [(.int (lcmpW p1 (-128 : Int64)))]))
  refine own_if S0 31 d6_9 (by decide) (by decide) (fun (hc9_1 : (lcmpW p1 (-128 : Int64)) < (0 : Int32)) => ?_) (fun (hc9_1 : ¬ ((lcmpW p1 (-128 : Int64)) < (0 : Int32))) => ?_)
  · show own_F p e below s Z _ _ _ _ _ (T0.setTop (mkF m 31 #[.val (.long p1), .second, .val (.int (128 : Int32))] []))
    refine own_new S0 (own_w hw 128 rfl) (own_w hw 129 rfl) (own_w hw 28 rfl) d6_31 (by decide) (by decide) (fun T2 h2 b2 g2 S2 E2 A2 D2 => ?_)
    have F2_value : Fld Z h2 b2 "java/lang/Long" "value" "J" (.long (0 : Int64)) := (D2 (Or.inr (own_w hw 137 rfl)) (ty := .long) (by decide))
    show own_F p e below s Z _ _ _ _ _ (T2.setTop (mkF m 34 #[.val (.long p1), .second, .val (.int (128 : Int32))] [(.ref b2)]))
    refine own_F.of (fun _ => XS.dup S2.here S2.hx rfl (S2.dec d6_34) rfl rfl) ?_
    show own_F p e below s Z _ _ _ _ _ (T2.setTop (mkF m 35 #[.val (.long p1), .second, .val (.int (128 : Int32))] [(.ref b2), (.ref b2)]))
    refine own_F.of (fun _ => XS.lloadN S2.here S2.hx rfl (S2.dec d6_35) rfl) ?_
    show own_F p e below s Z _ _ _ _ _ (T2.setTop (mkF m 36 #[.val (.long p1), .second, .val (.int (128 : Int32))] [(.long p1), (.ref b2), (.ref b2)]))
    refine own_callI S2 (y := (⟨"java/lang/Long", "<init>", "(J)V"⟩ : MethodName)) rfl (own_w hw 130 rfl) (own_w hw 131 rfl) (own_w hw 28 rfl) (own_w hw 133 rfl) (by decide) (argsL := [(.long p1)]) (rest := [(.ref b2)]) (own_BoxInitJ l Z a0 hw b2 p1 _ h2 S2.old (own_mayN S2 (Or.inr (by rw [g2]; exact S0.size))) A2 F2_value) (allS (Or.inr (by rw [g2]; exact S0.size)) all0) (by decide +kernel : parseMethodDescriptor "(J)V" = some ⟨[.long], none⟩) rfl rfl rfl d6_36 (by decide) (Nat.le_of_ble_eq_true rfl) (by decide) (by decide) (fun T3 h3 v3 S3 K3 q3 => ?_)
    obtain ⟨rfl, F3⟩ := q3
    show own_F p e below s Z _ _ _ _ _ (T3.setTop (mkF m 39 #[.val (.long p1), .second, .val (.int (128 : Int32))] [(.ref b2)]))
    have f4 := (A2.keep K3)
    refine own_retA S3 rfl rfl d6_39 (by decide) (by decide) ?_
    exact ⟨_, rfl, f4, F3⟩
  · show own_F p e below s Z _ _ _ _ _ (T0.setTop (mkF m 12 #[.val (.long p1), .second, .val (.int (128 : Int32))] []))
    refine own_F.of (fun _ => XS.lloadN S0.here S0.hx rfl (S0.dec d6_12) rfl) ?_
    show own_F p e below s Z _ _ _ _ _ (T0.setTop (mkF m 13 #[.val (.long p1), .second, .val (.int (128 : Int32))] [(.long p1)]))
    refine own_ldcJ S0 (own_w hw 31 rfl) d6_13 ?_
    show own_F p e below s Z _ _ _ _ _ (T0.setTop (mkF m 16 #[.val (.long p1), .second, .val (.int (128 : Int32))] [(.long (127 : Int64)), (.long p1)]))
    refine own_F.of (fun _ => XS.lcmp S0.here S0.hx rfl (S0.dec d6_16) rfl) ?_
    show own_F p e below s Z _ _ _ _ _ (T0.setTop (mkF m 17 #[.val (.long p1), .second, .val (.int (128 : Int32))] [(.int (lcmpW p1 (127 : Int64)))]))
    refine own_if S0 31 d6_17 (by decide) (by decide) (fun (hc17_5 : (0 : Int32) < (lcmpW p1 (127 : Int64))) => ?_) (fun (hc17_5 : ¬ ((0 : Int32) < (lcmpW p1 (127 : Int64)))) => ?_)
    · show own_F p e below s Z _ _ _ _ _ (T0.setTop (mkF m 31 #[.val (.long p1), .second, .val (.int (128 : Int32))] []))
      refine own_new S0 (own_w hw 128 rfl) (own_w hw 129 rfl) (own_w hw 28 rfl) d6_31 (by decide) (by decide) (fun T6 h6 b6 g6 S6 E6 A6 D6 => ?_)
      have F6_value : Fld Z h6 b6 "java/lang/Long" "value" "J" (.long (0 : Int64)) := (D6 (Or.inr (own_w hw 137 rfl)) (ty := .long) (by decide))
      show own_F p e below s Z _ _ _ _ _ (T6.setTop (mkF m 34 #[.val (.long p1), .second, .val (.int (128 : Int32))] [(.ref b6)]))
      refine own_F.of (fun _ => XS.dup S6.here S6.hx rfl (S6.dec d6_34) rfl rfl) ?_
      show own_F p e below s Z _ _ _ _ _ (T6.setTop (mkF m 35 #[.val (.long p1), .second, .val (.int (128 : Int32))] [(.ref b6), (.ref b6)]))
      refine own_F.of (fun _ => XS.lloadN S6.here S6.hx rfl (S6.dec d6_35) rfl) ?_
      show own_F p e below s Z _ _ _ _ _ (T6.setTop (mkF m 36 #[.val (.long p1), .second, .val (.int (128 : Int32))] [(.long p1), (.ref b6), (.ref b6)]))
      refine own_callI S6 (y := (⟨"java/lang/Long", "<init>", "(J)V"⟩ : MethodName)) rfl (own_w hw 130 rfl) (own_w hw 131 rfl) (own_w hw 28 rfl) (own_w hw 133 rfl) (by decide) (argsL := [(.long p1)]) (rest := [(.ref b6)]) (own_BoxInitJ l Z a0 hw b6 p1 _ h6 S6.old (own_mayN S6 (Or.inr (by rw [g6]; exact S0.size))) A6 F6_value) (allS (Or.inr (by rw [g6]; exact S0.size)) all0) (by decide +kernel : parseMethodDescriptor "(J)V" = some ⟨[.long], none⟩) rfl rfl rfl d6_36 (by decide) (Nat.le_of_ble_eq_true rfl) (by decide) (by decide) (fun T7 h7 v7 S7 K7 q7 => ?_)
      obtain ⟨rfl, F7⟩ := q7
      show own_F p e below s Z _ _ _ _ _ (T7.setTop (mkF m 39 #[.val (.long p1), .second, .val (.int (128 : Int32))] [(.ref b6)]))
      have f8 := (A6.keep K7)
      refine own_retA S7 rfl rfl d6_39 (by decide) (by decide) ?_
      exact ⟨_, rfl, f8, F7⟩
    · show own_F p e below s Z _ _ _ _ _ (T0.setTop (mkF m 20 #[.val (.long p1), .second, .val (.int (128 : Int32))] []))
      refine own_getS S0 (host := "") (Or.inl (own_w hw 32 rfl)) Via.refl (SCa.ext S0.old) d6_20 (fun T9 S9 => ?_)
      show own_F p e below s Z _ _ _ _ _ (T9.setTop (mkF m 23 #[.val (.long p1), .second, .val (.int (128 : Int32))] [(.ref aC)]))
      refine own_F.of (fun _ => XS.lloadN S9.here S9.hx rfl (S9.dec d6_23) rfl) ?_
      show own_F p e below s Z _ _ _ _ _ (T9.setTop (mkF m 24 #[.val (.long p1), .second, .val (.int (128 : Int32))] [(.long p1), (.ref aC)]))
      refine own_F.of (fun _ => XS.l2i S9.here S9.hx rfl (S9.dec d6_24) rfl) ?_
      show own_F p e below s Z _ _ _ _ _ (T9.setTop (mkF m 25 #[.val (.long p1), .second, .val (.int (128 : Int32))] [(.int (p1.toInt32)), (.ref aC)]))
      refine own_F.of (fun _ => XS.sipush S9.here S9.hx rfl (S9.dec d6_25)) ?_
      show own_F p e below s Z _ _ _ _ _ (T9.setTop (mkF m 28 #[.val (.long p1), .second, .val (.int (128 : Int32))] [(.int (128 : Int32)), (.int (p1.toInt32)), (.ref aC)]))
      refine own_F.of (fun _ => XS.iadd S9.here S9.hx rfl (S9.dec d6_28) rfl) ?_
      show own_F p e below s Z _ _ _ _ _ (T9.setTop (mkF m 29 #[.val (.long p1), .second, .val (.int (128 : Int32))] [(.int ((p1.toInt32) + (128 : Int32))), (.ref aC)]))
      refine own_bxald S9 BX (own_bxJ0 hc9_1 hc17_5).1 (own_bxJ0 hc9_1 hc17_5).2.1 d6_29 (fun b10 X10 F10 => ?_)
      show own_F p e below s Z _ _ _ _ _ (T9.setTop (mkF m 30 #[.val (.long p1), .second, .val (.int (128 : Int32))] [(.ref b10)]))
      refine own_retA S9 rfl rfl d6_30 (by decide) (by decide) ?_
      exact ⟨_, rfl, X10.ext S9.old, own_eqFJ (own_bxJ0 hc9_1 hc17_5).2.2 (F10.ext S9.old)⟩
theorem own_neA {Z : State} {h : Heap} {a b : Addr} {C : String} {k : Nat} {a0 : Array Value} {ty : FieldType} {vs : List Value} (E : Exa Z h a C) (wi : (Jvm.Cond.instantiable C k).before a0 Z = true) (A : own_A Z h b ty vs) : a ≠ b := by
  obtain ⟨cl, Ar, -⟩ := A
  exact ne_arr E wi Ar

theorem d13_0 : decode jdk_52_method_21_code 0 = .ok (.iconst 0, 1) := by decide +kernel
theorem d13_1 : decode jdk_52_method_21_code 1 = .ok (.istore 5, 2) := by decide +kernel
theorem d13_3 : decode jdk_52_method_21_code 3 = .ok (.iload 5, 2) := by decide +kernel
theorem d13_5 : decode jdk_52_method_21_code 5 = .ok (.iload 4, 2) := by decide +kernel
theorem d13_7 : decode jdk_52_method_21_code 7 = .ok (.if_icmp .ge 37, 3) := by decide +kernel
theorem d13_10 : decode jdk_52_method_21_code 10 = .ok (.aload_n 0, 1) := by decide +kernel
theorem d13_11 : decode jdk_52_method_21_code 11 = .ok (.iload_n 1, 1) := by decide +kernel
theorem d13_12 : decode jdk_52_method_21_code 12 = .ok (.caload, 1) := by decide +kernel
theorem d13_13 : decode jdk_52_method_21_code 13 = .ok (.istore 6, 2) := by decide +kernel
theorem d13_15 : decode jdk_52_method_21_code 15 = .ok (.iload 6, 2) := by decide +kernel
theorem d13_17 : decode jdk_52_method_21_code 17 = .ok (.sipush 255, 3) := by decide +kernel
theorem d13_20 : decode jdk_52_method_21_code 20 = .ok (.if_icmp .le 6, 3) := by decide +kernel
theorem d13_23 : decode jdk_52_method_21_code 23 = .ok (.iload 5, 2) := by decide +kernel
theorem d13_25 : decode jdk_52_method_21_code 25 = .ok (.ireturn, 1) := by decide +kernel
theorem d13_26 : decode jdk_52_method_21_code 26 = .ok (.aload_n 2, 1) := by decide +kernel
theorem d13_27 : decode jdk_52_method_21_code 27 = .ok (.iload_n 3, 1) := by decide +kernel
theorem d13_28 : decode jdk_52_method_21_code 28 = .ok (.iload 6, 2) := by decide +kernel
theorem d13_30 : decode jdk_52_method_21_code 30 = .ok (.i2b, 1) := by decide +kernel
theorem d13_31 : decode jdk_52_method_21_code 31 = .ok (.bastore, 1) := by decide +kernel
theorem d13_32 : decode jdk_52_method_21_code 32 = .ok (.iinc 1 1, 3) := by decide +kernel
theorem d13_35 : decode jdk_52_method_21_code 35 = .ok (.iinc 3 1, 3) := by decide +kernel
theorem d13_38 : decode jdk_52_method_21_code 38 = .ok (.iinc 5 1, 3) := by decide +kernel
theorem d13_41 : decode jdk_52_method_21_code 41 = .ok (.goto (-38), 3) := by decide +kernel
theorem d13_44 : decode jdk_52_method_21_code 44 = .ok (.iload 4, 2) := by decide +kernel
theorem d13_46 : decode jdk_52_method_21_code 46 = .ok (.ireturn, 1) := by decide +kernel
theorem pn13 : plainFor (⟨"java/lang/StringUTF16", "compress", "([CI[BII)I"⟩ : MethodName) = true := plainFor_of_name (by first | (simp [plainName, overriddenIn]; done) | decide +kernel)
set_option maxRecDepth 65536 in
set_option maxHeartbeats 40000000 in
theorem own_cmpI2 (l : Launch) (Z : State) (a0 : Array Value) (hw : ∀ d ∈ tables_1, d.before a0 Z = true) (aC aB : Addr) (x1 x2 : Int32) (h0 : Heap) (hO : Ext Z.heap h0) (hp1 : ¬ 255 < x1) (hp2 : ¬ 255 < x2) (AC : own_A Z h0 aC .char [(.int x1), (.int x2)]) (AB : own_A Z h0 aB .byte [(.int (0 : Int32)), (.int (0 : Int32))]) (gB : Z.heap.size ≤ aB) (nCB : aC ≠ aB) :
    own_C l Z (⟨"java/lang/StringUTF16", "compress", "([CI[BII)I"⟩ : MethodName) jdk_52_method_21_code 7 (some .int) [] ({ frames := 0, cells := 0, slots := 0, locals := 0 } : Room) [aB] #[(.ref aC), (.int (0 : Int32)), (.ref aB), (.int (0 : Int32)), (.int (2 : Int32))] h0 (fun v h => v = some (.int (2 : Int32)) ∧ own_A Z h aB .byte [(.int (nar .byte (x1.toInt8.toInt32))), (.int (nar .byte (x2.toInt8.toInt32)))]) := by
  refine own_C.of pn13 hO (allS gB all0) ?_
  intro p e s m below meth c T0 S0
  refine own_F.cast (by first | (simp [entryFrame, mkF, argsToLocals, Value.category]; done) | rfl : entryFrame m #[(.ref aC), (.int (0 : Int32)), (.ref aB), (.int (0 : Int32)), (.int (2 : Int32))] 7 = mkF m 0 #[.val (.ref aC), .val (.int (0 : Int32)), .val (.ref aB), .val (.int (0 : Int32)), .val (.int (2 : Int32)), .unset, .unset] []) ?_
  show own_F p e below s Z _ _ _ _ _ (T0.setTop (mkF m 0 #[.val (.ref aC), .val (.int (0 : Int32)), .val (.ref aB), .val (.int (0 : Int32)), .val (.int (2 : Int32)), .unset, .unset] []))
  refine own_F.of (fun _ => XS.iconst S0.here S0.hx rfl (S0.dec d13_0)) ?_
  show own_F p e below s Z _ _ _ _ _ (T0.setTop (mkF m 1 #[.val (.ref aC), .val (.int (0 : Int32)), .val (.ref aB), .val (.int (0 : Int32)), .val (.int (2 : Int32)), .unset, .unset] [(.int (0 : Int32))]))
  refine own_F.of (fun _ => XS.istore S0.here S0.hx rfl (S0.dec d13_1) rfl (l' := #[.val (.ref aC), .val (.int (0 : Int32)), .val (.ref aB), .val (.int (0 : Int32)), .val (.int (2 : Int32)), .val (.int (0 : Int32)), .unset]) rfl) ?_
  show own_F p e below s Z _ _ _ _ _ (T0.setTop (mkF m 3 #[.val (.ref aC), .val (.int (0 : Int32)), .val (.ref aB), .val (.int (0 : Int32)), .val (.int (2 : Int32)), .val (.int (0 : Int32)), .unset] []))
  refine own_F.of (fun _ => XS.iload S0.here S0.hx rfl (S0.dec d13_3) rfl) ?_
  show own_F p e below s Z _ _ _ _ _ (T0.setTop (mkF m 5 #[.val (.ref aC), .val (.int (0 : Int32)), .val (.ref aB), .val (.int (0 : Int32)), .val (.int (2 : Int32)), .val (.int (0 : Int32)), .unset] [(.int (0 : Int32))]))
  refine own_F.of (fun _ => XS.iload S0.here S0.hx rfl (S0.dec d13_5) rfl) ?_
  show own_F p e below s Z _ _ _ _ _ (T0.setTop (mkF m 7 #[.val (.ref aC), .val (.int (0 : Int32)), .val (.ref aB), .val (.int (0 : Int32)), .val (.int (2 : Int32)), .val (.int (0 : Int32)), .unset] [(.int (2 : Int32)), (.int (0 : Int32))]))
  refine own_icmp S0 44 d13_7 (by decide) (by decide) (fun (hc7_1 : ¬ ((0 : Int32) < (2 : Int32))) => False.elim (absurd hc7_1 (by decide))) (fun (hc7_1 : (0 : Int32) < (2 : Int32)) => ?_)
  show own_F p e below s Z _ _ _ _ _ (T0.setTop (mkF m 10 #[.val (.ref aC), .val (.int (0 : Int32)), .val (.ref aB), .val (.int (0 : Int32)), .val (.int (2 : Int32)), .val (.int (0 : Int32)), .unset] []))
  refine own_F.of (fun _ => XS.aloadN S0.here S0.hx rfl (S0.dec d13_10) rfl rfl) ?_
  show own_F p e below s Z _ _ _ _ _ (T0.setTop (mkF m 11 #[.val (.ref aC), .val (.int (0 : Int32)), .val (.ref aB), .val (.int (0 : Int32)), .val (.int (2 : Int32)), .val (.int (0 : Int32)), .unset] [(.ref aC)]))
  refine own_F.of (fun _ => XS.iloadN S0.here S0.hx rfl (S0.dec d13_11) rfl) ?_
  show own_F p e below s Z _ _ _ _ _ (T0.setTop (mkF m 12 #[.val (.ref aC), .val (.int (0 : Int32)), .val (.ref aB), .val (.int (0 : Int32)), .val (.int (2 : Int32)), .val (.int (0 : Int32)), .unset] [(.int (0 : Int32)), (.ref aC)]))
  refine own_cald S0 AC (by decide) rfl d13_12 ?_
  show own_F p e below s Z _ _ _ _ _ (T0.setTop (mkF m 13 #[.val (.ref aC), .val (.int (0 : Int32)), .val (.ref aB), .val (.int (0 : Int32)), .val (.int (2 : Int32)), .val (.int (0 : Int32)), .unset] [(.int x1)]))
  refine own_F.of (fun _ => XS.istore S0.here S0.hx rfl (S0.dec d13_13) rfl (l' := #[.val (.ref aC), .val (.int (0 : Int32)), .val (.ref aB), .val (.int (0 : Int32)), .val (.int (2 : Int32)), .val (.int (0 : Int32)), .val (.int x1)]) rfl) ?_
  show own_F p e below s Z _ _ _ _ _ (T0.setTop (mkF m 15 #[.val (.ref aC), .val (.int (0 : Int32)), .val (.ref aB), .val (.int (0 : Int32)), .val (.int (2 : Int32)), .val (.int (0 : Int32)), .val (.int x1)] []))
  refine own_F.of (fun _ => XS.iload S0.here S0.hx rfl (S0.dec d13_15) rfl) ?_
  show own_F p e below s Z _ _ _ _ _ (T0.setTop (mkF m 17 #[.val (.ref aC), .val (.int (0 : Int32)), .val (.ref aB), .val (.int (0 : Int32)), .val (.int (2 : Int32)), .val (.int (0 : Int32)), .val (.int x1)] [(.int x1)]))
  refine own_F.of (fun _ => XS.sipush S0.here S0.hx rfl (S0.dec d13_17)) ?_
  show own_F p e below s Z _ _ _ _ _ (T0.setTop (mkF m 20 #[.val (.ref aC), .val (.int (0 : Int32)), .val (.ref aB), .val (.int (0 : Int32)), .val (.int (2 : Int32)), .val (.int (0 : Int32)), .val (.int x1)] [(.int (255 : Int32)), (.int x1)]))
  refine own_icmp S0 26 d13_20 (by decide) (by decide) (fun (hc20_2 : ¬ ((255 : Int32) < x1)) => ?_) (fun (hc20_2 : (255 : Int32) < x1) => False.elim (hp1 hc20_2))
  show own_F p e below s Z _ _ _ _ _ (T0.setTop (mkF m 26 #[.val (.ref aC), .val (.int (0 : Int32)), .val (.ref aB), .val (.int (0 : Int32)), .val (.int (2 : Int32)), .val (.int (0 : Int32)), .val (.int x1)] []))
  refine own_F.of (fun _ => XS.aloadN S0.here S0.hx rfl (S0.dec d13_26) rfl rfl) ?_
  show own_F p e below s Z _ _ _ _ _ (T0.setTop (mkF m 27 #[.val (.ref aC), .val (.int (0 : Int32)), .val (.ref aB), .val (.int (0 : Int32)), .val (.int (2 : Int32)), .val (.int (0 : Int32)), .val (.int x1)] [(.ref aB)]))
  refine own_F.of (fun _ => XS.iloadN S0.here S0.hx rfl (S0.dec d13_27) rfl) ?_
  show own_F p e below s Z _ _ _ _ _ (T0.setTop (mkF m 28 #[.val (.ref aC), .val (.int (0 : Int32)), .val (.ref aB), .val (.int (0 : Int32)), .val (.int (2 : Int32)), .val (.int (0 : Int32)), .val (.int x1)] [(.int (0 : Int32)), (.ref aB)]))
  refine own_F.of (fun _ => XS.iload S0.here S0.hx rfl (S0.dec d13_28) rfl) ?_
  show own_F p e below s Z _ _ _ _ _ (T0.setTop (mkF m 30 #[.val (.ref aC), .val (.int (0 : Int32)), .val (.ref aB), .val (.int (0 : Int32)), .val (.int (2 : Int32)), .val (.int (0 : Int32)), .val (.int x1)] [(.int x1), (.int (0 : Int32)), (.ref aB)]))
  refine own_F.of (fun _ => XS.i2b S0.here S0.hx rfl (S0.dec d13_30) rfl) ?_
  show own_F p e below s Z _ _ _ _ _ (T0.setTop (mkF m 31 #[.val (.ref aC), .val (.int (0 : Int32)), .val (.ref aB), .val (.int (0 : Int32)), .val (.int (2 : Int32)), .val (.int (0 : Int32)), .val (.int x1)] [(.int (x1.toInt8.toInt32)), (.int (0 : Int32)), (.ref aB)]))
  refine own_bst S0 AB (by decide) (Nat.le_of_ble_eq_true rfl) d13_31 (Or.inl (List.mem_of_getElem? (i := 0) rfl)) (fun T3 h3 S3 W3 A3 => ?_)
  have V4 : own_A Z h3 aB .byte [(.int (nar .byte (x1.toInt8.toInt32))), (.int (0 : Int32))] := A3
  show own_F p e below s Z _ _ _ _ _ (T3.setTop (mkF m 32 #[.val (.ref aC), .val (.int (0 : Int32)), .val (.ref aB), .val (.int (0 : Int32)), .val (.int (2 : Int32)), .val (.int (0 : Int32)), .val (.int x1)] []))
  refine own_F.of (fun _ => XS.iinc S3.here S3.hx rfl (S3.dec d13_32) rfl (l' := #[.val (.ref aC), .val (.int (1 : Int32)), .val (.ref aB), .val (.int (0 : Int32)), .val (.int (2 : Int32)), .val (.int (0 : Int32)), .val (.int x1)]) rfl) ?_
  show own_F p e below s Z _ _ _ _ _ (T3.setTop (mkF m 35 #[.val (.ref aC), .val (.int (1 : Int32)), .val (.ref aB), .val (.int (0 : Int32)), .val (.int (2 : Int32)), .val (.int (0 : Int32)), .val (.int x1)] []))
  refine own_F.of (fun _ => XS.iinc S3.here S3.hx rfl (S3.dec d13_35) rfl (l' := #[.val (.ref aC), .val (.int (1 : Int32)), .val (.ref aB), .val (.int (1 : Int32)), .val (.int (2 : Int32)), .val (.int (0 : Int32)), .val (.int x1)]) rfl) ?_
  show own_F p e below s Z _ _ _ _ _ (T3.setTop (mkF m 38 #[.val (.ref aC), .val (.int (1 : Int32)), .val (.ref aB), .val (.int (1 : Int32)), .val (.int (2 : Int32)), .val (.int (0 : Int32)), .val (.int x1)] []))
  refine own_F.of (fun _ => XS.iinc S3.here S3.hx rfl (S3.dec d13_38) rfl (l' := #[.val (.ref aC), .val (.int (1 : Int32)), .val (.ref aB), .val (.int (1 : Int32)), .val (.int (2 : Int32)), .val (.int (1 : Int32)), .val (.int x1)]) rfl) ?_
  show own_F p e below s Z _ _ _ _ _ (T3.setTop (mkF m 41 #[.val (.ref aC), .val (.int (1 : Int32)), .val (.ref aB), .val (.int (1 : Int32)), .val (.int (2 : Int32)), .val (.int (1 : Int32)), .val (.int x1)] []))
  refine own_F.of (fun _ => XS.goto S3.here S3.hx rfl (pc0 := 41) (pc' := 3) rfl (S3.dec d13_41) (by decide) (by decide)) ?_
  show own_F p e below s Z _ _ _ _ _ (T3.setTop (mkF m 3 #[.val (.ref aC), .val (.int (1 : Int32)), .val (.ref aB), .val (.int (1 : Int32)), .val (.int (2 : Int32)), .val (.int (1 : Int32)), .val (.int x1)] []))
  refine own_F.of (fun _ => XS.iload S3.here S3.hx rfl (S3.dec d13_3) rfl) ?_
  show own_F p e below s Z _ _ _ _ _ (T3.setTop (mkF m 5 #[.val (.ref aC), .val (.int (1 : Int32)), .val (.ref aB), .val (.int (1 : Int32)), .val (.int (2 : Int32)), .val (.int (1 : Int32)), .val (.int x1)] [(.int (1 : Int32))]))
  refine own_F.of (fun _ => XS.iload S3.here S3.hx rfl (S3.dec d13_5) rfl) ?_
  show own_F p e below s Z _ _ _ _ _ (T3.setTop (mkF m 7 #[.val (.ref aC), .val (.int (1 : Int32)), .val (.ref aB), .val (.int (1 : Int32)), .val (.int (2 : Int32)), .val (.int (1 : Int32)), .val (.int x1)] [(.int (2 : Int32)), (.int (1 : Int32))]))
  refine own_icmp S3 44 d13_7 (by decide) (by decide) (fun (hc7_5 : ¬ ((1 : Int32) < (2 : Int32))) => False.elim (absurd hc7_5 (by decide))) (fun (hc7_5 : (1 : Int32) < (2 : Int32)) => ?_)
  show own_F p e below s Z _ _ _ _ _ (T3.setTop (mkF m 10 #[.val (.ref aC), .val (.int (1 : Int32)), .val (.ref aB), .val (.int (1 : Int32)), .val (.int (2 : Int32)), .val (.int (1 : Int32)), .val (.int x1)] []))
  refine own_F.of (fun _ => XS.aloadN S3.here S3.hx rfl (S3.dec d13_10) rfl rfl) ?_
  show own_F p e below s Z _ _ _ _ _ (T3.setTop (mkF m 11 #[.val (.ref aC), .val (.int (1 : Int32)), .val (.ref aB), .val (.int (1 : Int32)), .val (.int (2 : Int32)), .val (.int (1 : Int32)), .val (.int x1)] [(.ref aC)]))
  refine own_F.of (fun _ => XS.iloadN S3.here S3.hx rfl (S3.dec d13_11) rfl) ?_
  show own_F p e below s Z _ _ _ _ _ (T3.setTop (mkF m 12 #[.val (.ref aC), .val (.int (1 : Int32)), .val (.ref aB), .val (.int (1 : Int32)), .val (.int (2 : Int32)), .val (.int (1 : Int32)), .val (.int x1)] [(.int (1 : Int32)), (.ref aC)]))
  have f6 := (AC.other W3 nCB)
  refine own_cald S3 f6 (by decide) rfl d13_12 ?_
  show own_F p e below s Z _ _ _ _ _ (T3.setTop (mkF m 13 #[.val (.ref aC), .val (.int (1 : Int32)), .val (.ref aB), .val (.int (1 : Int32)), .val (.int (2 : Int32)), .val (.int (1 : Int32)), .val (.int x1)] [(.int x2)]))
  refine own_F.of (fun _ => XS.istore S3.here S3.hx rfl (S3.dec d13_13) rfl (l' := #[.val (.ref aC), .val (.int (1 : Int32)), .val (.ref aB), .val (.int (1 : Int32)), .val (.int (2 : Int32)), .val (.int (1 : Int32)), .val (.int x2)]) rfl) ?_
  show own_F p e below s Z _ _ _ _ _ (T3.setTop (mkF m 15 #[.val (.ref aC), .val (.int (1 : Int32)), .val (.ref aB), .val (.int (1 : Int32)), .val (.int (2 : Int32)), .val (.int (1 : Int32)), .val (.int x2)] []))
  refine own_F.of (fun _ => XS.iload S3.here S3.hx rfl (S3.dec d13_15) rfl) ?_
  show own_F p e below s Z _ _ _ _ _ (T3.setTop (mkF m 17 #[.val (.ref aC), .val (.int (1 : Int32)), .val (.ref aB), .val (.int (1 : Int32)), .val (.int (2 : Int32)), .val (.int (1 : Int32)), .val (.int x2)] [(.int x2)]))
  refine own_F.of (fun _ => XS.sipush S3.here S3.hx rfl (S3.dec d13_17)) ?_
  show own_F p e below s Z _ _ _ _ _ (T3.setTop (mkF m 20 #[.val (.ref aC), .val (.int (1 : Int32)), .val (.ref aB), .val (.int (1 : Int32)), .val (.int (2 : Int32)), .val (.int (1 : Int32)), .val (.int x2)] [(.int (255 : Int32)), (.int x2)]))
  refine own_icmp S3 26 d13_20 (by decide) (by decide) (fun (hc20_7 : ¬ ((255 : Int32) < x2)) => ?_) (fun (hc20_7 : (255 : Int32) < x2) => False.elim (hp2 hc20_7))
  show own_F p e below s Z _ _ _ _ _ (T3.setTop (mkF m 26 #[.val (.ref aC), .val (.int (1 : Int32)), .val (.ref aB), .val (.int (1 : Int32)), .val (.int (2 : Int32)), .val (.int (1 : Int32)), .val (.int x2)] []))
  refine own_F.of (fun _ => XS.aloadN S3.here S3.hx rfl (S3.dec d13_26) rfl rfl) ?_
  show own_F p e below s Z _ _ _ _ _ (T3.setTop (mkF m 27 #[.val (.ref aC), .val (.int (1 : Int32)), .val (.ref aB), .val (.int (1 : Int32)), .val (.int (2 : Int32)), .val (.int (1 : Int32)), .val (.int x2)] [(.ref aB)]))
  refine own_F.of (fun _ => XS.iloadN S3.here S3.hx rfl (S3.dec d13_27) rfl) ?_
  show own_F p e below s Z _ _ _ _ _ (T3.setTop (mkF m 28 #[.val (.ref aC), .val (.int (1 : Int32)), .val (.ref aB), .val (.int (1 : Int32)), .val (.int (2 : Int32)), .val (.int (1 : Int32)), .val (.int x2)] [(.int (1 : Int32)), (.ref aB)]))
  refine own_F.of (fun _ => XS.iload S3.here S3.hx rfl (S3.dec d13_28) rfl) ?_
  show own_F p e below s Z _ _ _ _ _ (T3.setTop (mkF m 30 #[.val (.ref aC), .val (.int (1 : Int32)), .val (.ref aB), .val (.int (1 : Int32)), .val (.int (2 : Int32)), .val (.int (1 : Int32)), .val (.int x2)] [(.int x2), (.int (1 : Int32)), (.ref aB)]))
  refine own_F.of (fun _ => XS.i2b S3.here S3.hx rfl (S3.dec d13_30) rfl) ?_
  show own_F p e below s Z _ _ _ _ _ (T3.setTop (mkF m 31 #[.val (.ref aC), .val (.int (1 : Int32)), .val (.ref aB), .val (.int (1 : Int32)), .val (.int (2 : Int32)), .val (.int (1 : Int32)), .val (.int x2)] [(.int (x2.toInt8.toInt32)), (.int (1 : Int32)), (.ref aB)]))
  refine own_bst S3 V4 (by decide) (Nat.le_of_ble_eq_true rfl) d13_31 (Or.inl (List.mem_of_getElem? (i := 0) rfl)) (fun T8 h8 S8 W8 A8 => ?_)
  have V9 : own_A Z h8 aB .byte [(.int (nar .byte (x1.toInt8.toInt32))), (.int (nar .byte (x2.toInt8.toInt32)))] := A8
  show own_F p e below s Z _ _ _ _ _ (T8.setTop (mkF m 32 #[.val (.ref aC), .val (.int (1 : Int32)), .val (.ref aB), .val (.int (1 : Int32)), .val (.int (2 : Int32)), .val (.int (1 : Int32)), .val (.int x2)] []))
  refine own_F.of (fun _ => XS.iinc S8.here S8.hx rfl (S8.dec d13_32) rfl (l' := #[.val (.ref aC), .val (.int (2 : Int32)), .val (.ref aB), .val (.int (1 : Int32)), .val (.int (2 : Int32)), .val (.int (1 : Int32)), .val (.int x2)]) rfl) ?_
  show own_F p e below s Z _ _ _ _ _ (T8.setTop (mkF m 35 #[.val (.ref aC), .val (.int (2 : Int32)), .val (.ref aB), .val (.int (1 : Int32)), .val (.int (2 : Int32)), .val (.int (1 : Int32)), .val (.int x2)] []))
  refine own_F.of (fun _ => XS.iinc S8.here S8.hx rfl (S8.dec d13_35) rfl (l' := #[.val (.ref aC), .val (.int (2 : Int32)), .val (.ref aB), .val (.int (2 : Int32)), .val (.int (2 : Int32)), .val (.int (1 : Int32)), .val (.int x2)]) rfl) ?_
  show own_F p e below s Z _ _ _ _ _ (T8.setTop (mkF m 38 #[.val (.ref aC), .val (.int (2 : Int32)), .val (.ref aB), .val (.int (2 : Int32)), .val (.int (2 : Int32)), .val (.int (1 : Int32)), .val (.int x2)] []))
  refine own_F.of (fun _ => XS.iinc S8.here S8.hx rfl (S8.dec d13_38) rfl (l' := #[.val (.ref aC), .val (.int (2 : Int32)), .val (.ref aB), .val (.int (2 : Int32)), .val (.int (2 : Int32)), .val (.int (2 : Int32)), .val (.int x2)]) rfl) ?_
  show own_F p e below s Z _ _ _ _ _ (T8.setTop (mkF m 41 #[.val (.ref aC), .val (.int (2 : Int32)), .val (.ref aB), .val (.int (2 : Int32)), .val (.int (2 : Int32)), .val (.int (2 : Int32)), .val (.int x2)] []))
  refine own_F.of (fun _ => XS.goto S8.here S8.hx rfl (pc0 := 41) (pc' := 3) rfl (S8.dec d13_41) (by decide) (by decide)) ?_
  show own_F p e below s Z _ _ _ _ _ (T8.setTop (mkF m 3 #[.val (.ref aC), .val (.int (2 : Int32)), .val (.ref aB), .val (.int (2 : Int32)), .val (.int (2 : Int32)), .val (.int (2 : Int32)), .val (.int x2)] []))
  refine own_F.of (fun _ => XS.iload S8.here S8.hx rfl (S8.dec d13_3) rfl) ?_
  show own_F p e below s Z _ _ _ _ _ (T8.setTop (mkF m 5 #[.val (.ref aC), .val (.int (2 : Int32)), .val (.ref aB), .val (.int (2 : Int32)), .val (.int (2 : Int32)), .val (.int (2 : Int32)), .val (.int x2)] [(.int (2 : Int32))]))
  refine own_F.of (fun _ => XS.iload S8.here S8.hx rfl (S8.dec d13_5) rfl) ?_
  show own_F p e below s Z _ _ _ _ _ (T8.setTop (mkF m 7 #[.val (.ref aC), .val (.int (2 : Int32)), .val (.ref aB), .val (.int (2 : Int32)), .val (.int (2 : Int32)), .val (.int (2 : Int32)), .val (.int x2)] [(.int (2 : Int32)), (.int (2 : Int32))]))
  refine own_icmp S8 44 d13_7 (by decide) (by decide) (fun (hc7_10 : ¬ ((2 : Int32) < (2 : Int32))) => ?_) (fun (hc7_10 : (2 : Int32) < (2 : Int32)) => False.elim (absurd hc7_10 (by decide)))
  show own_F p e below s Z _ _ _ _ _ (T8.setTop (mkF m 44 #[.val (.ref aC), .val (.int (2 : Int32)), .val (.ref aB), .val (.int (2 : Int32)), .val (.int (2 : Int32)), .val (.int (2 : Int32)), .val (.int x2)] []))
  refine own_F.of (fun _ => XS.iload S8.here S8.hx rfl (S8.dec d13_44) rfl) ?_
  show own_F p e below s Z _ _ _ _ _ (T8.setTop (mkF m 46 #[.val (.ref aC), .val (.int (2 : Int32)), .val (.ref aB), .val (.int (2 : Int32)), .val (.int (2 : Int32)), .val (.int (2 : Int32)), .val (.int x2)] [(.int (2 : Int32))]))
  refine own_retI S8 d13_46 (by decide) (by decide) ?_
  exact ⟨rfl, V9⟩
theorem d12_0 : decode jdk_52_method_16_code 0 = .ok (.iload_n 2, 1) := by decide +kernel
theorem d12_1 : decode jdk_52_method_16_code 1 = .ok (.newarray .byte, 2) := by decide +kernel
theorem d12_3 : decode jdk_52_method_16_code 3 = .ok (.astore_n 3, 1) := by decide +kernel
theorem d12_4 : decode jdk_52_method_16_code 4 = .ok (.aload_n 0, 1) := by decide +kernel
theorem d12_5 : decode jdk_52_method_16_code 5 = .ok (.iload_n 1, 1) := by decide +kernel
theorem d12_6 : decode jdk_52_method_16_code 6 = .ok (.aload_n 3, 1) := by decide +kernel
theorem d12_7 : decode jdk_52_method_16_code 7 = .ok (.iconst 0, 1) := by decide +kernel
theorem d12_8 : decode jdk_52_method_16_code 8 = .ok (.iload_n 2, 1) := by decide +kernel
theorem d12_9 : decode jdk_52_method_16_code 9 = .ok (.invokestatic 115, 3) := by decide +kernel
theorem d12_12 : decode jdk_52_method_16_code 12 = .ok (.istore 4, 2) := by decide +kernel
theorem d12_14 : decode jdk_52_method_16_code 14 = .ok (.iload 4, 2) := by decide +kernel
theorem d12_16 : decode jdk_52_method_16_code 16 = .ok (.iload_n 2, 1) := by decide +kernel
theorem d12_17 : decode jdk_52_method_16_code 17 = .ok (.if_icmp .eq 40, 3) := by decide +kernel
theorem d12_20 : decode jdk_52_method_16_code 20 = .ok (.aload_n 0, 1) := by decide +kernel
theorem d12_21 : decode jdk_52_method_16_code 21 = .ok (.iload_n 1, 1) := by decide +kernel
theorem d12_22 : decode jdk_52_method_16_code 22 = .ok (.iload_n 2, 1) := by decide +kernel
theorem d12_23 : decode jdk_52_method_16_code 23 = .ok (.invokestatic 119, 3) := by decide +kernel
theorem d12_26 : decode jdk_52_method_16_code 26 = .ok (.astore 5, 2) := by decide +kernel
theorem d12_28 : decode jdk_52_method_16_code 28 = .ok (.aload 5, 2) := by decide +kernel
theorem d12_30 : decode jdk_52_method_16_code 30 = .ok (.iload 4, 2) := by decide +kernel
theorem d12_32 : decode jdk_52_method_16_code 32 = .ok (.invokestatic 71, 3) := by decide +kernel
theorem d12_35 : decode jdk_52_method_16_code 35 = .ok (.sipush 255, 3) := by decide +kernel
theorem d12_38 : decode jdk_52_method_16_code 38 = .ok (.if_icmp .gt 16, 3) := by decide +kernel
theorem d12_41 : decode jdk_52_method_16_code 41 = .ok (.aload 5, 2) := by decide +kernel
theorem d12_43 : decode jdk_52_method_16_code 43 = .ok (.iconst 0, 1) := by decide +kernel
theorem d12_44 : decode jdk_52_method_16_code 44 = .ok (.aload_n 3, 1) := by decide +kernel
theorem d12_45 : decode jdk_52_method_16_code 45 = .ok (.iconst 0, 1) := by decide +kernel
theorem d12_46 : decode jdk_52_method_16_code 46 = .ok (.iload_n 2, 1) := by decide +kernel
theorem d12_47 : decode jdk_52_method_16_code 47 = .ok (.invokestatic 123, 3) := by decide +kernel
theorem d12_50 : decode jdk_52_method_16_code 50 = .ok (.iload_n 2, 1) := by decide +kernel
theorem d12_51 : decode jdk_52_method_16_code 51 = .ok (.if_icmp .eq 6, 3) := by decide +kernel
theorem d12_54 : decode jdk_52_method_16_code 54 = .ok (.aload 5, 2) := by decide +kernel
theorem d12_56 : decode jdk_52_method_16_code 56 = .ok (.areturn, 1) := by decide +kernel
theorem d12_57 : decode jdk_52_method_16_code 57 = .ok (.aload_n 3, 1) := by decide +kernel
theorem d12_58 : decode jdk_52_method_16_code 58 = .ok (.areturn, 1) := by decide +kernel
theorem pn12 : plainFor (⟨"java/lang/StringUTF16", "compress", "([CII)[B"⟩ : MethodName) = true := plainFor_of_name (by first | (simp [plainName, overriddenIn]; done) | decide +kernel)
set_option maxRecDepth 65536 in
set_option maxHeartbeats 40000000 in
theorem own_cmp2 (l : Launch) (Z : State) (a0 : Array Value) (hw : ∀ d ∈ tables_1, d.before a0 Z = true) (aC : Addr) (x1 x2 : Int32) (h0 : Heap) (hO : Ext Z.heap h0) (hp1 : ¬ 255 < x1) (hp2 : ¬ 255 < x2) (AC : own_A Z h0 aC .char [(.int x1), (.int x2)]) :
    own_C l Z (⟨"java/lang/StringUTF16", "compress", "([CII)[B"⟩ : MethodName) jdk_52_method_16_code 6 (some (.array .byte)) [] ({ frames := 1, cells := 1, slots := 2, locals := 18 } : Room) [] #[(.ref aC), (.int (0 : Int32)), (.int (2 : Int32))] h0 (fun v h => ∃ b, v = some (.ref b) ∧ own_A Z h b .byte [(.int (nar .byte (x1.toInt8.toInt32))), (.int (nar .byte (x2.toInt8.toInt32)))]) := by
  refine own_C.of pn12 hO all0 ?_
  intro p e s m below meth c T0 S0
  refine own_F.cast (by first | (simp [entryFrame, mkF, argsToLocals, Value.category]; done) | rfl : entryFrame m #[(.ref aC), (.int (0 : Int32)), (.int (2 : Int32))] 6 = mkF m 0 #[.val (.ref aC), .val (.int (0 : Int32)), .val (.int (2 : Int32)), .unset, .unset, .unset] []) ?_
  show own_F p e below s Z _ _ _ _ _ (T0.setTop (mkF m 0 #[.val (.ref aC), .val (.int (0 : Int32)), .val (.int (2 : Int32)), .unset, .unset, .unset] []))
  refine own_F.of (fun _ => XS.iloadN S0.here S0.hx rfl (S0.dec d12_0) rfl) ?_
  show own_F p e below s Z _ _ _ _ _ (T0.setTop (mkF m 1 #[.val (.ref aC), .val (.int (0 : Int32)), .val (.int (2 : Int32)), .unset, .unset, .unset] [(.int (2 : Int32))]))
  refine own_newP S0 (own_w hw 78 rfl) d12_1 (by decide) (cap := 2) (by decide) (by decide) (by decide) (by decide) (fun T1 h1 b1 g1 S1 E1 A1 => ?_)
  have V2 : own_A Z h1 b1 .byte [(.int (0 : Int32)), (.int (0 : Int32))] := A1
  show own_F p e below s Z _ _ _ _ _ (T1.setTop (mkF m 3 #[.val (.ref aC), .val (.int (0 : Int32)), .val (.int (2 : Int32)), .unset, .unset, .unset] [(.ref b1)]))
  refine own_F.of (fun _ => XS.astoreN S1.here S1.hx rfl (S1.dec d12_3) rfl rfl (l' := #[.val (.ref aC), .val (.int (0 : Int32)), .val (.int (2 : Int32)), .val (.ref b1), .unset, .unset]) rfl) ?_
  show own_F p e below s Z _ _ _ _ _ (T1.setTop (mkF m 4 #[.val (.ref aC), .val (.int (0 : Int32)), .val (.int (2 : Int32)), .val (.ref b1), .unset, .unset] []))
  refine own_F.of (fun _ => XS.aloadN S1.here S1.hx rfl (S1.dec d12_4) rfl rfl) ?_
  show own_F p e below s Z _ _ _ _ _ (T1.setTop (mkF m 5 #[.val (.ref aC), .val (.int (0 : Int32)), .val (.int (2 : Int32)), .val (.ref b1), .unset, .unset] [(.ref aC)]))
  refine own_F.of (fun _ => XS.iloadN S1.here S1.hx rfl (S1.dec d12_5) rfl) ?_
  show own_F p e below s Z _ _ _ _ _ (T1.setTop (mkF m 6 #[.val (.ref aC), .val (.int (0 : Int32)), .val (.int (2 : Int32)), .val (.ref b1), .unset, .unset] [(.int (0 : Int32)), (.ref aC)]))
  refine own_F.of (fun _ => XS.aloadN S1.here S1.hx rfl (S1.dec d12_6) rfl rfl) ?_
  show own_F p e below s Z _ _ _ _ _ (T1.setTop (mkF m 7 #[.val (.ref aC), .val (.int (0 : Int32)), .val (.int (2 : Int32)), .val (.ref b1), .unset, .unset] [(.ref b1), (.int (0 : Int32)), (.ref aC)]))
  refine own_F.of (fun _ => XS.iconst S1.here S1.hx rfl (S1.dec d12_7)) ?_
  show own_F p e below s Z _ _ _ _ _ (T1.setTop (mkF m 8 #[.val (.ref aC), .val (.int (0 : Int32)), .val (.int (2 : Int32)), .val (.ref b1), .unset, .unset] [(.int (0 : Int32)), (.ref b1), (.int (0 : Int32)), (.ref aC)]))
  refine own_F.of (fun _ => XS.iloadN S1.here S1.hx rfl (S1.dec d12_8) rfl) ?_
  show own_F p e below s Z _ _ _ _ _ (T1.setTop (mkF m 9 #[.val (.ref aC), .val (.int (0 : Int32)), .val (.int (2 : Int32)), .val (.ref b1), .unset, .unset] [(.int (2 : Int32)), (.int (0 : Int32)), (.ref b1), (.int (0 : Int32)), (.ref aC)]))
  have f3 := (AC.ext E1)
  refine own_callS S1 (y := (⟨"java/lang/StringUTF16", "compress", "([CI[BII)I"⟩ : MethodName)) (own_w hw 79 rfl) (own_w hw 80 rfl) (own_w hw 76 rfl) (own_w hw 81 rfl) (by decide) (argsL := [(.ref aC), (.int (0 : Int32)), (.ref b1), (.int (0 : Int32)), (.int (2 : Int32))]) (rest := []) (own_cmpI2 l Z a0 hw aC b1 x1 x2 h1 S1.old hp1 hp2 f3 V2 (own_mayN S1 (Or.inr (by rw [g1]; exact S0.size))) (Nat.ne_of_lt (by rw [g1]; exact (AC).lt))) (allS (Or.inr (by rw [g1]; exact S0.size)) all0) (by decide +kernel : parseMethodDescriptor "([CI[BII)I" = some ⟨[(.array .char), .int, (.array .byte), .int, .int], some .int⟩) rfl rfl rfl d12_9 (by decide) (Nat.le_of_ble_eq_true rfl) (by decide) (by decide) (fun T4 h4 v4 S4 K4 q4 => ?_)
  obtain ⟨rfl, F4⟩ := q4
  have V5 : own_A Z h4 b1 .byte [(.int (nar .byte (x1.toInt8.toInt32))), (.int (nar .byte (x2.toInt8.toInt32)))] := F4
  show own_F p e below s Z _ _ _ _ _ (T4.setTop (mkF m 12 #[.val (.ref aC), .val (.int (0 : Int32)), .val (.int (2 : Int32)), .val (.ref b1), .unset, .unset] [(.int (2 : Int32))]))
  refine own_F.of (fun _ => XS.istore S4.here S4.hx rfl (S4.dec d12_12) rfl (l' := #[.val (.ref aC), .val (.int (0 : Int32)), .val (.int (2 : Int32)), .val (.ref b1), .val (.int (2 : Int32)), .unset]) rfl) ?_
  show own_F p e below s Z _ _ _ _ _ (T4.setTop (mkF m 14 #[.val (.ref aC), .val (.int (0 : Int32)), .val (.int (2 : Int32)), .val (.ref b1), .val (.int (2 : Int32)), .unset] []))
  refine own_F.of (fun _ => XS.iload S4.here S4.hx rfl (S4.dec d12_14) rfl) ?_
  show own_F p e below s Z _ _ _ _ _ (T4.setTop (mkF m 16 #[.val (.ref aC), .val (.int (0 : Int32)), .val (.int (2 : Int32)), .val (.ref b1), .val (.int (2 : Int32)), .unset] [(.int (2 : Int32))]))
  refine own_F.of (fun _ => XS.iloadN S4.here S4.hx rfl (S4.dec d12_16) rfl) ?_
  show own_F p e below s Z _ _ _ _ _ (T4.setTop (mkF m 17 #[.val (.ref aC), .val (.int (0 : Int32)), .val (.int (2 : Int32)), .val (.ref b1), .val (.int (2 : Int32)), .unset] [(.int (2 : Int32)), (.int (2 : Int32))]))
  refine own_icmp S4 57 d12_17 (by decide) (by decide) (fun (hc17_6 : (2 : Int32) = (2 : Int32)) => ?_) (fun (hc17_6 : ¬ ((2 : Int32) = (2 : Int32))) => False.elim (absurd hc17_6 (by decide)))
  show own_F p e below s Z _ _ _ _ _ (T4.setTop (mkF m 57 #[.val (.ref aC), .val (.int (0 : Int32)), .val (.int (2 : Int32)), .val (.ref b1), .val (.int (2 : Int32)), .unset] []))
  refine own_F.of (fun _ => XS.aloadN S4.here S4.hx rfl (S4.dec d12_57) rfl rfl) ?_
  show own_F p e below s Z _ _ _ _ _ (T4.setTop (mkF m 58 #[.val (.ref aC), .val (.int (0 : Int32)), .val (.int (2 : Int32)), .val (.ref b1), .val (.int (2 : Int32)), .unset] [(.ref b1)]))
  refine own_retA S4 rfl rfl d12_58 (by decide) (by decide) ?_
  exact ⟨_, rfl, V5⟩
theorem d14_0 : decode jdk_52_method_15_code 0 = .ok (.iload_n 1, 1) := by decide +kernel
theorem d14_1 : decode jdk_52_method_15_code 1 = .ok (.aload_n 0, 1) := by decide +kernel
theorem d14_2 : decode jdk_52_method_15_code 2 = .ok (.arraylength, 1) := by decide +kernel
theorem d14_3 : decode jdk_52_method_15_code 3 = .ok (.isub, 1) := by decide +kernel
theorem d14_4 : decode jdk_52_method_15_code 4 = .ok (.bipush 31, 2) := by decide +kernel
theorem d14_6 : decode jdk_52_method_15_code 6 = .ok (.iushr, 1) := by decide +kernel
theorem d14_7 : decode jdk_52_method_15_code 7 = .ok (.i2b, 1) := by decide +kernel
theorem d14_8 : decode jdk_52_method_15_code 8 = .ok (.ireturn, 1) := by decide +kernel
theorem pn14 : plainFor (⟨"java/lang/StringUTF16", "coderFromArrayLen", "([BI)B"⟩ : MethodName) = true := plainFor_of_name (by first | (simp [plainName, overriddenIn]; done) | decide +kernel)
set_option maxRecDepth 65536 in
set_option maxHeartbeats 40000000 in
theorem own_cod2 (l : Launch) (Z : State) (a0 : Array Value) (hw : ∀ d ∈ tables_1, d.before a0 Z = true) (aB : Addr) (x1 x2 : Int32) (h0 : Heap) (hO : Ext Z.heap h0) (AB : own_A Z h0 aB .byte [(.int (nar .byte (x1.toInt8.toInt32))), (.int (nar .byte (x2.toInt8.toInt32)))]) :
    own_C l Z (⟨"java/lang/StringUTF16", "coderFromArrayLen", "([BI)B"⟩ : MethodName) jdk_52_method_15_code 2 (some .byte) [] ({ frames := 0, cells := 0, slots := 0, locals := 0 } : Room) [] #[(.ref aB), (.int (2 : Int32))] h0 (fun v h => v = some (.int 0) ∧ h0 = h) := by
  refine own_C.of pn14 hO all0 ?_
  intro p e s m below meth c T0 S0
  refine own_F.cast (by first | (simp [entryFrame, mkF, argsToLocals, Value.category]; done) | rfl : entryFrame m #[(.ref aB), (.int (2 : Int32))] 2 = mkF m 0 #[.val (.ref aB), .val (.int (2 : Int32))] []) ?_
  show own_F p e below s Z _ _ _ _ _ (T0.setTop (mkF m 0 #[.val (.ref aB), .val (.int (2 : Int32))] []))
  refine own_F.of (fun _ => XS.iloadN S0.here S0.hx rfl (S0.dec d14_0) rfl) ?_
  show own_F p e below s Z _ _ _ _ _ (T0.setTop (mkF m 1 #[.val (.ref aB), .val (.int (2 : Int32))] [(.int (2 : Int32))]))
  refine own_F.of (fun _ => XS.aloadN S0.here S0.hx rfl (S0.dec d14_1) rfl rfl) ?_
  show own_F p e below s Z _ _ _ _ _ (T0.setTop (mkF m 2 #[.val (.ref aB), .val (.int (2 : Int32))] [(.ref aB), (.int (2 : Int32))]))
  refine own_len S0 AB d14_2 ?_
  show own_F p e below s Z _ _ _ _ _ (T0.setTop (mkF m 3 #[.val (.ref aB), .val (.int (2 : Int32))] [(.int (2 : Int32)), (.int (2 : Int32))]))
  refine own_F.of (fun _ => XS.isub S0.here S0.hx rfl (S0.dec d14_3) rfl) ?_
  show own_F p e below s Z _ _ _ _ _ (T0.setTop (mkF m 4 #[.val (.ref aB), .val (.int (2 : Int32))] [(.int (0 : Int32))]))
  refine own_F.of (fun _ => XS.bipush S0.here S0.hx rfl (S0.dec d14_4)) ?_
  show own_F p e below s Z _ _ _ _ _ (T0.setTop (mkF m 6 #[.val (.ref aB), .val (.int (2 : Int32))] [(.int (31 : Int32)), (.int (0 : Int32))]))
  refine own_F.of (fun _ => XS.iushr S0.here S0.hx rfl (S0.dec d14_6) rfl) ?_
  show own_F p e below s Z _ _ _ _ _ (T0.setTop (mkF m 7 #[.val (.ref aB), .val (.int (2 : Int32))] [(.int (0 : Int32))]))
  refine own_F.of (fun _ => XS.i2b S0.here S0.hx rfl (S0.dec d14_7) rfl) ?_
  show own_F p e below s Z _ _ _ _ _ (T0.setTop (mkF m 8 #[.val (.ref aB), .val (.int (2 : Int32))] [(.int (0 : Int32))]))
  refine own_retZ S0 (by simp) d14_8 (by decide) (by decide) ?_
  exact ⟨rfl, rfl⟩
theorem d11_0 : decode jdk_42_method_149_code 0 = .ok (.aload_n 0, 1) := by decide +kernel
theorem d11_1 : decode jdk_42_method_149_code 1 = .ok (.invokespecial 1, 3) := by decide +kernel
theorem d11_4 : decode jdk_42_method_149_code 4 = .ok (.iload_n 3, 1) := by decide +kernel
theorem d11_5 : decode jdk_42_method_149_code 5 = .ok (.ifCond .ne 22, 3) := by decide +kernel
theorem d11_8 : decode jdk_42_method_149_code 8 = .ok (.aload_n 0, 1) := by decide +kernel
theorem d11_9 : decode jdk_42_method_149_code 9 = .ok (.ldc 7, 2) := by decide +kernel
theorem d11_11 : decode jdk_42_method_149_code 11 = .ok (.getfield 9, 3) := by decide +kernel
theorem d11_14 : decode jdk_42_method_149_code 14 = .ok (.putfield 9, 3) := by decide +kernel
theorem d11_17 : decode jdk_42_method_149_code 17 = .ok (.aload_n 0, 1) := by decide +kernel
theorem d11_18 : decode jdk_42_method_149_code 18 = .ok (.ldc 7, 2) := by decide +kernel
theorem d11_20 : decode jdk_42_method_149_code 20 = .ok (.getfield 15, 3) := by decide +kernel
theorem d11_23 : decode jdk_42_method_149_code 23 = .ok (.putfield 15, 3) := by decide +kernel
theorem d11_26 : decode jdk_42_method_149_code 26 = .ok (.return_, 1) := by decide +kernel
theorem d11_27 : decode jdk_42_method_149_code 27 = .ok (.getstatic 38, 3) := by decide +kernel
theorem d11_30 : decode jdk_42_method_149_code 30 = .ok (.ifCond .eq 28, 3) := by decide +kernel
theorem d11_33 : decode jdk_42_method_149_code 33 = .ok (.aload_n 1, 1) := by decide +kernel
theorem d11_34 : decode jdk_42_method_149_code 34 = .ok (.iload_n 2, 1) := by decide +kernel
theorem d11_35 : decode jdk_42_method_149_code 35 = .ok (.iload_n 3, 1) := by decide +kernel
theorem d11_36 : decode jdk_42_method_149_code 36 = .ok (.invokestatic 177, 3) := by decide +kernel
theorem d11_39 : decode jdk_42_method_149_code 39 = .ok (.astore 5, 2) := by decide +kernel
theorem d11_41 : decode jdk_42_method_149_code 41 = .ok (.aload_n 0, 1) := by decide +kernel
theorem d11_42 : decode jdk_42_method_149_code 42 = .ok (.aload 5, 2) := by decide +kernel
theorem d11_44 : decode jdk_42_method_149_code 44 = .ok (.iload_n 3, 1) := by decide +kernel
theorem d11_45 : decode jdk_42_method_149_code 45 = .ok (.invokestatic 47, 3) := by decide +kernel
theorem d11_48 : decode jdk_42_method_149_code 48 = .ok (.putfield 15, 3) := by decide +kernel
theorem d11_51 : decode jdk_42_method_149_code 51 = .ok (.aload_n 0, 1) := by decide +kernel
theorem d11_52 : decode jdk_42_method_149_code 52 = .ok (.aload 5, 2) := by decide +kernel
theorem d11_54 : decode jdk_42_method_149_code 54 = .ok (.putfield 9, 3) := by decide +kernel
theorem d11_57 : decode jdk_42_method_149_code 57 = .ok (.return_, 1) := by decide +kernel
theorem d11_58 : decode jdk_42_method_149_code 58 = .ok (.aload_n 0, 1) := by decide +kernel
theorem d11_59 : decode jdk_42_method_149_code 59 = .ok (.iconst 1, 1) := by decide +kernel
theorem d11_60 : decode jdk_42_method_149_code 60 = .ok (.putfield 15, 3) := by decide +kernel
theorem d11_63 : decode jdk_42_method_149_code 63 = .ok (.aload_n 0, 1) := by decide +kernel
theorem d11_64 : decode jdk_42_method_149_code 64 = .ok (.aload_n 1, 1) := by decide +kernel
theorem d11_65 : decode jdk_42_method_149_code 65 = .ok (.iload_n 2, 1) := by decide +kernel
theorem d11_66 : decode jdk_42_method_149_code 66 = .ok (.iload_n 3, 1) := by decide +kernel
theorem d11_67 : decode jdk_42_method_149_code 67 = .ok (.invokestatic 180, 3) := by decide +kernel
theorem d11_70 : decode jdk_42_method_149_code 70 = .ok (.putfield 9, 3) := by decide +kernel
theorem d11_73 : decode jdk_42_method_149_code 73 = .ok (.return_, 1) := by decide +kernel
theorem pn11 : plainFor (⟨"java/lang/String", "<init>", "([CIILjava/lang/Void;)V"⟩ : MethodName) = true := plainFor_of_name (by first | (simp [plainName, overriddenIn]; done) | decide +kernel)
set_option maxRecDepth 65536 in
set_option maxHeartbeats 40000000 in
theorem own_strV2 (l : Launch) (Z : State) (a0 : Array Value) (hw : ∀ d ∈ tables_1, d.before a0 Z = true) (a1 aC : Addr) (x1 x2 : Int32) (zc : Int32) (h0 : Heap) (hO : Ext Z.heap h0) (SZ : Sta Z Z.heap "java/lang/String" "COMPACT_STRINGS" "Z" (.int zc)) (hz : ¬ zc = 0) (hp1 : ¬ 255 < x1) (hp2 : ¬ 255 < x2) (ga : Z.heap.size ≤ a1) (E_a1 : Exa Z h0 a1 "java/lang/String") (F_value : Fld Z h0 a1 "java/lang/String" "value" "[B" .null) (F_coder : Fld Z h0 a1 "java/lang/String" "coder" "B" (.int 0)) (AC : own_A Z h0 aC .char [(.int x1), (.int x2)]) :
    own_C l Z (⟨"java/lang/String", "<init>", "([CIILjava/lang/Void;)V"⟩ : MethodName) jdk_42_method_149_code 6 none [] ({ frames := 2, cells := 1, slots := 2, locals := 35 } : Room) [a1] #[(.ref a1), (.ref aC), (.int (0 : Int32)), (.int (2 : Int32)), .null] h0 (fun v h => v = none ∧ ∃ b, Fld Z h a1 "java/lang/String" "value" "[B" (.ref b) ∧ Fld Z h a1 "java/lang/String" "coder" "B" (.int 0) ∧ own_A Z h b .byte [(.int (nar .byte (x1.toInt8.toInt32))), (.int (nar .byte (x2.toInt8.toInt32)))]) := by
  refine own_C.of pn11 hO (allS ga all0) ?_
  intro p e s m below meth c T0 S0
  refine own_F.cast (by first | (simp [entryFrame, mkF, argsToLocals, Value.category]; done) | rfl : entryFrame m #[(.ref a1), (.ref aC), (.int (0 : Int32)), (.int (2 : Int32)), .null] 6 = mkF m 0 #[.val (.ref a1), .val (.ref aC), .val (.int (0 : Int32)), .val (.int (2 : Int32)), .val .null, .unset] []) ?_
  show own_F p e below s Z _ _ _ _ _ (T0.setTop (mkF m 0 #[.val (.ref a1), .val (.ref aC), .val (.int (0 : Int32)), .val (.int (2 : Int32)), .val .null, .unset] []))
  refine own_F.of (fun _ => XS.aloadN S0.here S0.hx rfl (S0.dec d11_0) rfl rfl) ?_
  show own_F p e below s Z _ _ _ _ _ (T0.setTop (mkF m 1 #[.val (.ref a1), .val (.ref aC), .val (.int (0 : Int32)), .val (.int (2 : Int32)), .val .null, .unset] [(.ref a1)]))
  refine own_initO S0 (own_w hw 72 rfl) (own_w hw 15 rfl) (own_w hw 16 rfl) rfl d11_1 (by decide) (Nat.le_of_ble_eq_true rfl) (fun T1 S1 => ?_)
  show own_F p e below s Z _ _ _ _ _ (T1.setTop (mkF m 4 #[.val (.ref a1), .val (.ref aC), .val (.int (0 : Int32)), .val (.int (2 : Int32)), .val .null, .unset] []))
  refine own_F.of (fun _ => XS.iloadN S1.here S1.hx rfl (S1.dec d11_4) rfl) ?_
  show own_F p e below s Z _ _ _ _ _ (T1.setTop (mkF m 5 #[.val (.ref a1), .val (.ref aC), .val (.int (0 : Int32)), .val (.int (2 : Int32)), .val .null, .unset] [(.int (2 : Int32))]))
  refine own_if S1 27 d11_5 (by decide) (by decide) (fun (hc5_2 : ¬ ((2 : Int32) = (0 : Int32))) => ?_) (fun (hc5_2 : (2 : Int32) = (0 : Int32)) => False.elim (absurd hc5_2 (by decide)))
  show own_F p e below s Z _ _ _ _ _ (T1.setTop (mkF m 27 #[.val (.ref a1), .val (.ref aC), .val (.int (0 : Int32)), .val (.int (2 : Int32)), .val .null, .unset] []))
  refine own_getS S1 (host := "") (Or.inl (own_w hw 73 rfl)) Via.refl (SZ.ext S1.old) d11_27 (fun T3 S3 => ?_)
  show own_F p e below s Z _ _ _ _ _ (T3.setTop (mkF m 30 #[.val (.ref a1), .val (.ref aC), .val (.int (0 : Int32)), .val (.int (2 : Int32)), .val .null, .unset] [(.int zc)]))
  refine own_if S3 58 d11_30 (by decide) (by decide) (fun (hc30_4 : zc = (0 : Int32)) => False.elim (hz hc30_4)) (fun (hc30_4 : ¬ (zc = (0 : Int32))) => ?_)
  show own_F p e below s Z _ _ _ _ _ (T3.setTop (mkF m 33 #[.val (.ref a1), .val (.ref aC), .val (.int (0 : Int32)), .val (.int (2 : Int32)), .val .null, .unset] []))
  refine own_F.of (fun _ => XS.aloadN S3.here S3.hx rfl (S3.dec d11_33) rfl rfl) ?_
  show own_F p e below s Z _ _ _ _ _ (T3.setTop (mkF m 34 #[.val (.ref a1), .val (.ref aC), .val (.int (0 : Int32)), .val (.int (2 : Int32)), .val .null, .unset] [(.ref aC)]))
  refine own_F.of (fun _ => XS.iloadN S3.here S3.hx rfl (S3.dec d11_34) rfl) ?_
  show own_F p e below s Z _ _ _ _ _ (T3.setTop (mkF m 35 #[.val (.ref a1), .val (.ref aC), .val (.int (0 : Int32)), .val (.int (2 : Int32)), .val .null, .unset] [(.int (0 : Int32)), (.ref aC)]))
  refine own_F.of (fun _ => XS.iloadN S3.here S3.hx rfl (S3.dec d11_35) rfl) ?_
  show own_F p e below s Z _ _ _ _ _ (T3.setTop (mkF m 36 #[.val (.ref a1), .val (.ref aC), .val (.int (0 : Int32)), .val (.int (2 : Int32)), .val .null, .unset] [(.int (2 : Int32)), (.int (0 : Int32)), (.ref aC)]))
  refine own_callS S3 (y := (⟨"java/lang/StringUTF16", "compress", "([CII)[B"⟩ : MethodName)) (own_w hw 74 rfl) (own_w hw 75 rfl) (own_w hw 76 rfl) (own_w hw 77 rfl) (by decide) (argsL := [(.ref aC), (.int (0 : Int32)), (.int (2 : Int32))]) (rest := []) (own_cmp2 l Z a0 hw aC x1 x2 h0 S3.old hp1 hp2 AC) all0 (by decide +kernel : parseMethodDescriptor "([CII)[B" = some ⟨[(.array .char), .int, .int], some (.array .byte)⟩) rfl rfl rfl d11_36 (by decide) (Nat.le_of_ble_eq_true rfl) (by decide) (by decide) (fun T5 h5 v5 S5 K5 q5 => ?_)
  obtain ⟨b5, rfl, F5⟩ := q5
  have V6 : own_A Z h5 b5 .byte [(.int (nar .byte (x1.toInt8.toInt32))), (.int (nar .byte (x2.toInt8.toInt32)))] := F5
  have f7 := (E_a1.keep K5)
  have nB5 := own_neA f7 (own_w hw 63 rfl) F5
  show own_F p e below s Z _ _ _ _ _ (T5.setTop (mkF m 39 #[.val (.ref a1), .val (.ref aC), .val (.int (0 : Int32)), .val (.int (2 : Int32)), .val .null, .unset] [(.ref b5)]))
  refine own_F.of (fun _ => XS.astore S5.here S5.hx rfl (S5.dec d11_39) rfl rfl (l' := #[.val (.ref a1), .val (.ref aC), .val (.int (0 : Int32)), .val (.int (2 : Int32)), .val .null, .val (.ref b5)]) rfl) ?_
  show own_F p e below s Z _ _ _ _ _ (T5.setTop (mkF m 41 #[.val (.ref a1), .val (.ref aC), .val (.int (0 : Int32)), .val (.int (2 : Int32)), .val .null, .val (.ref b5)] []))
  refine own_F.of (fun _ => XS.aloadN S5.here S5.hx rfl (S5.dec d11_41) rfl rfl) ?_
  show own_F p e below s Z _ _ _ _ _ (T5.setTop (mkF m 42 #[.val (.ref a1), .val (.ref aC), .val (.int (0 : Int32)), .val (.int (2 : Int32)), .val .null, .val (.ref b5)] [(.ref a1)]))
  refine own_F.of (fun _ => XS.aload S5.here S5.hx rfl (S5.dec d11_42) rfl rfl) ?_
  show own_F p e below s Z _ _ _ _ _ (T5.setTop (mkF m 44 #[.val (.ref a1), .val (.ref aC), .val (.int (0 : Int32)), .val (.int (2 : Int32)), .val .null, .val (.ref b5)] [(.ref b5), (.ref a1)]))
  refine own_F.of (fun _ => XS.iloadN S5.here S5.hx rfl (S5.dec d11_44) rfl) ?_
  show own_F p e below s Z _ _ _ _ _ (T5.setTop (mkF m 45 #[.val (.ref a1), .val (.ref aC), .val (.int (0 : Int32)), .val (.int (2 : Int32)), .val .null, .val (.ref b5)] [(.int (2 : Int32)), (.ref b5), (.ref a1)]))
  refine own_callS S5 (y := (⟨"java/lang/StringUTF16", "coderFromArrayLen", "([BI)B"⟩ : MethodName)) (own_w hw 82 rfl) (own_w hw 83 rfl) (own_w hw 76 rfl) (own_w hw 84 rfl) (by decide) (argsL := [(.ref b5), (.int (2 : Int32))]) (rest := [(.ref a1)]) (own_cod2 l Z a0 hw b5 x1 x2 h5 S5.old V6) all0 (by decide +kernel : parseMethodDescriptor "([BI)B" = some ⟨[(.array .byte), .int], some .byte⟩) rfl rfl rfl d11_45 (by decide) (Nat.le_of_ble_eq_true rfl) (by decide) (by decide) (fun T8 h8 v8 S8 K8 q8 => ?_)
  obtain ⟨rfl, rfl⟩ := q8
  show own_F p e below s Z _ _ _ _ _ (T8.setTop (mkF m 48 #[.val (.ref a1), .val (.ref aC), .val (.int (0 : Int32)), .val (.int (2 : Int32)), .val .null, .val (.ref b5)] [(.int (0 : Int32)), (.ref a1)]))
  have f9 := (F_coder.keep K5 nin0)
  refine own_putF S8 (host := "") (Or.inl (own_w hw 85 rfl)) Via.refl f9 f7 (Or.inr ⟨(own_w hw 86 rfl), rfl, rfl⟩) (own_w hw 63 rfl) (ty := .byte) (by decide) rfl rfl d11_48 (Or.inl (List.mem_of_getElem? (i := 0) rfl)) (fun T10 h10 S10 W10 => ?_)
  have Fw10 := f9.same W10
  show own_F p e below s Z _ _ _ _ _ (T10.setTop (mkF m 51 #[.val (.ref a1), .val (.ref aC), .val (.int (0 : Int32)), .val (.int (2 : Int32)), .val .null, .val (.ref b5)] []))
  refine own_F.of (fun _ => XS.aloadN S10.here S10.hx rfl (S10.dec d11_51) rfl rfl) ?_
  show own_F p e below s Z _ _ _ _ _ (T10.setTop (mkF m 52 #[.val (.ref a1), .val (.ref aC), .val (.int (0 : Int32)), .val (.int (2 : Int32)), .val .null, .val (.ref b5)] [(.ref a1)]))
  refine own_F.of (fun _ => XS.aload S10.here S10.hx rfl (S10.dec d11_52) rfl rfl) ?_
  show own_F p e below s Z _ _ _ _ _ (T10.setTop (mkF m 54 #[.val (.ref a1), .val (.ref aC), .val (.int (0 : Int32)), .val (.int (2 : Int32)), .val .null, .val (.ref b5)] [(.ref b5), (.ref a1)]))
  have f11 := ((F_value.keep K5 nin0).other W10 (Or.inr (slot_ne (C := "java/lang/String") (Or.inr (own_w hw 88 rfl)) (Or.inr (own_w hw 86 rfl)) (by decide) (t := (.array .byte)) (t' := .byte) (by decide) (by decide))))
  have f12 := (f7.wr W10)
  refine own_putF S10 (host := "") (Or.inl (own_w hw 87 rfl)) Via.refl f11 f12 (Or.inr ⟨(own_w hw 88 rfl), rfl, rfl⟩) (own_w hw 63 rfl) (ty := (.array .byte)) (by decide) rfl rfl d11_54 (Or.inl (List.mem_of_getElem? (i := 0) rfl)) (fun T13 h13 S13 W13 => ?_)
  have Fw13 := f11.same W13
  show own_F p e below s Z _ _ _ _ _ (T13.setTop (mkF m 57 #[.val (.ref a1), .val (.ref aC), .val (.int (0 : Int32)), .val (.int (2 : Int32)), .val .null, .val (.ref b5)] []))
  have f14 := (Fw10.other W13 (Or.inr (slot_ne (C := "java/lang/String") (Or.inr (own_w hw 86 rfl)) (Or.inr (own_w hw 88 rfl)) (by decide) (t := .byte) (t' := (.array .byte)) (by decide) (by decide))))
  have f15 := ((V6.other W10 (Ne.symm nB5)).other W13 (Ne.symm nB5))
  refine own_retV S13 d11_57 (by decide) (by decide) ?_
  exact ⟨rfl, _, Fw13, f14, f15⟩
theorem d10_0 : decode jdk_42_method_3_code 0 = .ok (.aload_n 0, 1) := by decide +kernel
theorem d10_1 : decode jdk_42_method_3_code 1 = .ok (.aload_n 1, 1) := by decide +kernel
theorem d10_2 : decode jdk_42_method_3_code 2 = .ok (.iconst 0, 1) := by decide +kernel
theorem d10_3 : decode jdk_42_method_3_code 3 = .ok (.aload_n 1, 1) := by decide +kernel
theorem d10_4 : decode jdk_42_method_3_code 4 = .ok (.arraylength, 1) := by decide +kernel
theorem d10_5 : decode jdk_42_method_3_code 5 = .ok (.aconst_null, 1) := by decide +kernel
theorem d10_6 : decode jdk_42_method_3_code 6 = .ok (.invokespecial 27, 3) := by decide +kernel
theorem d10_9 : decode jdk_42_method_3_code 9 = .ok (.return_, 1) := by decide +kernel
theorem pn10 : plainFor (⟨"java/lang/String", "<init>", "([C)V"⟩ : MethodName) = true := plainFor_of_name (by first | (simp [plainName, overriddenIn]; done) | decide +kernel)
set_option maxRecDepth 65536 in
set_option maxHeartbeats 40000000 in
theorem own_strC2 (l : Launch) (Z : State) (a0 : Array Value) (hw : ∀ d ∈ tables_1, d.before a0 Z = true) (a1 aC : Addr) (x1 x2 : Int32) (zc : Int32) (h0 : Heap) (hO : Ext Z.heap h0) (SZ : Sta Z Z.heap "java/lang/String" "COMPACT_STRINGS" "Z" (.int zc)) (hz : ¬ zc = 0) (hp1 : ¬ 255 < x1) (hp2 : ¬ 255 < x2) (ga : Z.heap.size ≤ a1) (E_a1 : Exa Z h0 a1 "java/lang/String") (F_value : Fld Z h0 a1 "java/lang/String" "value" "[B" .null) (F_coder : Fld Z h0 a1 "java/lang/String" "coder" "B" (.int 0)) (AC : own_A Z h0 aC .char [(.int x1), (.int x2)]) :
    own_C l Z (⟨"java/lang/String", "<init>", "([C)V"⟩ : MethodName) jdk_42_method_3_code 2 none [] ({ frames := 3, cells := 1, slots := 2, locals := 52 } : Room) [a1] #[(.ref a1), (.ref aC)] h0 (fun v h => v = none ∧ ∃ b, Fld Z h a1 "java/lang/String" "value" "[B" (.ref b) ∧ Fld Z h a1 "java/lang/String" "coder" "B" (.int 0) ∧ own_A Z h b .byte [(.int (nar .byte (x1.toInt8.toInt32))), (.int (nar .byte (x2.toInt8.toInt32)))]) := by
  refine own_C.of pn10 hO (allS ga all0) ?_
  intro p e s m below meth c T0 S0
  refine own_F.cast (by first | (simp [entryFrame, mkF, argsToLocals, Value.category]; done) | rfl : entryFrame m #[(.ref a1), (.ref aC)] 2 = mkF m 0 #[.val (.ref a1), .val (.ref aC)] []) ?_
  show own_F p e below s Z _ _ _ _ _ (T0.setTop (mkF m 0 #[.val (.ref a1), .val (.ref aC)] []))
  refine own_F.of (fun _ => XS.aloadN S0.here S0.hx rfl (S0.dec d10_0) rfl rfl) ?_
  show own_F p e below s Z _ _ _ _ _ (T0.setTop (mkF m 1 #[.val (.ref a1), .val (.ref aC)] [(.ref a1)]))
  refine own_F.of (fun _ => XS.aloadN S0.here S0.hx rfl (S0.dec d10_1) rfl rfl) ?_
  show own_F p e below s Z _ _ _ _ _ (T0.setTop (mkF m 2 #[.val (.ref a1), .val (.ref aC)] [(.ref aC), (.ref a1)]))
  refine own_F.of (fun _ => XS.iconst S0.here S0.hx rfl (S0.dec d10_2)) ?_
  show own_F p e below s Z _ _ _ _ _ (T0.setTop (mkF m 3 #[.val (.ref a1), .val (.ref aC)] [(.int (0 : Int32)), (.ref aC), (.ref a1)]))
  refine own_F.of (fun _ => XS.aloadN S0.here S0.hx rfl (S0.dec d10_3) rfl rfl) ?_
  show own_F p e below s Z _ _ _ _ _ (T0.setTop (mkF m 4 #[.val (.ref a1), .val (.ref aC)] [(.ref aC), (.int (0 : Int32)), (.ref aC), (.ref a1)]))
  refine own_len S0 AC d10_4 ?_
  show own_F p e below s Z _ _ _ _ _ (T0.setTop (mkF m 5 #[.val (.ref a1), .val (.ref aC)] [(.int (2 : Int32)), (.int (0 : Int32)), (.ref aC), (.ref a1)]))
  refine own_F.of (fun _ => XS.aconstNull S0.here S0.hx rfl (S0.dec d10_5)) ?_
  show own_F p e below s Z _ _ _ _ _ (T0.setTop (mkF m 6 #[.val (.ref a1), .val (.ref aC)] [.null, (.int (2 : Int32)), (.int (0 : Int32)), (.ref aC), (.ref a1)]))
  refine own_callI S0 (y := (⟨"java/lang/String", "<init>", "([CIILjava/lang/Void;)V"⟩ : MethodName)) rfl (own_w hw 68 rfl) (own_w hw 69 rfl) (own_w hw 64 rfl) (own_w hw 71 rfl) (by decide) (argsL := [(.ref aC), (.int (0 : Int32)), (.int (2 : Int32)), .null]) (rest := []) (own_strV2 l Z a0 hw a1 aC x1 x2 zc h0 S0.old SZ hz hp1 hp2 ga E_a1 F_value F_coder AC) (allS (Or.inl (List.mem_of_getElem? (i := 0) rfl)) all0) (by decide +kernel : parseMethodDescriptor "([CIILjava/lang/Void;)V" = some ⟨[(.array .char), .int, .int, (.object "java/lang/Void")], none⟩) rfl rfl rfl d10_6 (by decide) (Nat.le_of_ble_eq_true rfl) (by decide) (by decide) (fun T1 h1 v1 S1 K1 q1 => ?_)
  obtain ⟨rfl, F1⟩ := q1
  show own_F p e below s Z _ _ _ _ _ (T1.setTop (mkF m 9 #[.val (.ref a1), .val (.ref aC)] []))
  refine own_retV S1 d10_9 (by decide) (by decide) ?_
  exact ⟨rfl, F1⟩
theorem d17_0 : decode jdk_43_method_3_code 0 = .ok (.iload_n 0, 1) := by decide +kernel
theorem d17_1 : decode jdk_43_method_3_code 1 = .ok (.sipush 255, 3) := by decide +kernel
theorem d17_4 : decode jdk_43_method_3_code 4 = .ok (.if_icmp .gt 7, 3) := by decide +kernel
theorem d17_7 : decode jdk_43_method_3_code 7 = .ok (.iconst 1, 1) := by decide +kernel
theorem d17_8 : decode jdk_43_method_3_code 8 = .ok (.goto 4, 3) := by decide +kernel
theorem d17_11 : decode jdk_43_method_3_code 11 = .ok (.iconst 0, 1) := by decide +kernel
theorem d17_12 : decode jdk_43_method_3_code 12 = .ok (.ireturn, 1) := by decide +kernel
theorem pn17 : plainFor (⟨"java/lang/StringLatin1", "canEncode", "(C)Z"⟩ : MethodName) = true := plainFor_of_name (by first | (simp [plainName, overriddenIn]; done) | decide +kernel)
set_option maxRecDepth 65536 in
set_option maxHeartbeats 40000000 in
theorem own_canEnc (l : Launch) (Z : State) (a0 : Array Value) (hw : ∀ d ∈ tables_1, d.before a0 Z = true) (x1 : Int32) (h0 : Heap) (hO : Ext Z.heap h0) (hp1 : ¬ 255 < x1) :
    own_C l Z (⟨"java/lang/StringLatin1", "canEncode", "(C)Z"⟩ : MethodName) jdk_43_method_3_code 1 (some .boolean) [] ({ frames := 0, cells := 0, slots := 0, locals := 0 } : Room) [] #[(.int x1)] h0 (fun v h => v = some (.int 1) ∧ h0 = h) := by
  refine own_C.of pn17 hO all0 ?_
  intro p e s m below meth c T0 S0
  refine own_F.cast (by first | (simp [entryFrame, mkF, argsToLocals, Value.category]; done) | rfl : entryFrame m #[(.int x1)] 1 = mkF m 0 #[.val (.int x1)] []) ?_
  show own_F p e below s Z _ _ _ _ _ (T0.setTop (mkF m 0 #[.val (.int x1)] []))
  refine own_F.of (fun _ => XS.iloadN S0.here S0.hx rfl (S0.dec d17_0) rfl) ?_
  show own_F p e below s Z _ _ _ _ _ (T0.setTop (mkF m 1 #[.val (.int x1)] [(.int x1)]))
  refine own_F.of (fun _ => XS.sipush S0.here S0.hx rfl (S0.dec d17_1)) ?_
  show own_F p e below s Z _ _ _ _ _ (T0.setTop (mkF m 4 #[.val (.int x1)] [(.int (255 : Int32)), (.int x1)]))
  refine own_icmp S0 11 d17_4 (by decide) (by decide) (fun (hc4_1 : (255 : Int32) < x1) => False.elim (hp1 hc4_1)) (fun (hc4_1 : ¬ ((255 : Int32) < x1)) => ?_)
  show own_F p e below s Z _ _ _ _ _ (T0.setTop (mkF m 7 #[.val (.int x1)] []))
  refine own_F.of (fun _ => XS.iconst S0.here S0.hx rfl (S0.dec d17_7)) ?_
  show own_F p e below s Z _ _ _ _ _ (T0.setTop (mkF m 8 #[.val (.int x1)] [(.int (1 : Int32))]))
  refine own_F.of (fun _ => XS.goto S0.here S0.hx rfl (pc0 := 8) (pc' := 12) rfl (S0.dec d17_8) (by decide) (by decide)) ?_
  show own_F p e below s Z _ _ _ _ _ (T0.setTop (mkF m 12 #[.val (.int x1)] [(.int (1 : Int32))]))
  refine own_retZ S0 (by simp) d17_12 (by decide) (by decide) ?_
  exact ⟨rfl, rfl⟩
theorem d18_0 : decode jdk_43_method_46_code 0 = .ok (.iconst 1, 1) := by decide +kernel
theorem d18_1 : decode jdk_43_method_46_code 1 = .ok (.newarray .byte, 2) := by decide +kernel
theorem d18_3 : decode jdk_43_method_46_code 3 = .ok (.dup, 1) := by decide +kernel
theorem d18_4 : decode jdk_43_method_46_code 4 = .ok (.iconst 0, 1) := by decide +kernel
theorem d18_5 : decode jdk_43_method_46_code 5 = .ok (.iload_n 0, 1) := by decide +kernel
theorem d18_6 : decode jdk_43_method_46_code 6 = .ok (.i2b, 1) := by decide +kernel
theorem d18_7 : decode jdk_43_method_46_code 7 = .ok (.bastore, 1) := by decide +kernel
theorem d18_8 : decode jdk_43_method_46_code 8 = .ok (.areturn, 1) := by decide +kernel
theorem pn18 : plainFor (⟨"java/lang/StringLatin1", "toBytes", "(C)[B"⟩ : MethodName) = true := plainFor_of_name (by first | (simp [plainName, overriddenIn]; done) | decide +kernel)
set_option maxRecDepth 65536 in
set_option maxHeartbeats 40000000 in
theorem own_toB (l : Launch) (Z : State) (a0 : Array Value) (hw : ∀ d ∈ tables_1, d.before a0 Z = true) (x1 : Int32) (h0 : Heap) (hO : Ext Z.heap h0) :
    own_C l Z (⟨"java/lang/StringLatin1", "toBytes", "(C)[B"⟩ : MethodName) jdk_43_method_46_code 1 (some (.array .byte)) [] ({ frames := 0, cells := 1, slots := 1, locals := 0 } : Room) [] #[(.int x1)] h0 (fun v h => ∃ b, v = some (.ref b) ∧ own_A Z h b .byte [(.int (nar .byte (x1.toInt8.toInt32)))]) := by
  refine own_C.of pn18 hO all0 ?_
  intro p e s m below meth c T0 S0
  refine own_F.cast (by first | (simp [entryFrame, mkF, argsToLocals, Value.category]; done) | rfl : entryFrame m #[(.int x1)] 1 = mkF m 0 #[.val (.int x1)] []) ?_
  show own_F p e below s Z _ _ _ _ _ (T0.setTop (mkF m 0 #[.val (.int x1)] []))
  refine own_F.of (fun _ => XS.iconst S0.here S0.hx rfl (S0.dec d18_0)) ?_
  show own_F p e below s Z _ _ _ _ _ (T0.setTop (mkF m 1 #[.val (.int x1)] [(.int (1 : Int32))]))
  refine own_newP S0 (own_w hw 78 rfl) d18_1 (by decide) (cap := 1) (by decide) (by decide) (by decide) (by decide) (fun T1 h1 b1 g1 S1 E1 A1 => ?_)
  have V2 : own_A Z h1 b1 .byte [(.int (0 : Int32))] := A1
  show own_F p e below s Z _ _ _ _ _ (T1.setTop (mkF m 3 #[.val (.int x1)] [(.ref b1)]))
  refine own_F.of (fun _ => XS.dup S1.here S1.hx rfl (S1.dec d18_3) rfl rfl) ?_
  show own_F p e below s Z _ _ _ _ _ (T1.setTop (mkF m 4 #[.val (.int x1)] [(.ref b1), (.ref b1)]))
  refine own_F.of (fun _ => XS.iconst S1.here S1.hx rfl (S1.dec d18_4)) ?_
  show own_F p e below s Z _ _ _ _ _ (T1.setTop (mkF m 5 #[.val (.int x1)] [(.int (0 : Int32)), (.ref b1), (.ref b1)]))
  refine own_F.of (fun _ => XS.iloadN S1.here S1.hx rfl (S1.dec d18_5) rfl) ?_
  show own_F p e below s Z _ _ _ _ _ (T1.setTop (mkF m 6 #[.val (.int x1)] [(.int x1), (.int (0 : Int32)), (.ref b1), (.ref b1)]))
  refine own_F.of (fun _ => XS.i2b S1.here S1.hx rfl (S1.dec d18_6) rfl) ?_
  show own_F p e below s Z _ _ _ _ _ (T1.setTop (mkF m 7 #[.val (.int x1)] [(.int (x1.toInt8.toInt32)), (.int (0 : Int32)), (.ref b1), (.ref b1)]))
  refine own_bst S1 V2 (by decide) (Nat.le_of_ble_eq_true rfl) d18_7 (Or.inr (by rw [g1]; exact S0.size)) (fun T3 h3 S3 W3 A3 => ?_)
  have V4 : own_A Z h3 b1 .byte [(.int (nar .byte (x1.toInt8.toInt32)))] := A3
  show own_F p e below s Z _ _ _ _ _ (T3.setTop (mkF m 8 #[.val (.int x1)] [(.ref b1)]))
  refine own_retA S3 rfl rfl d18_8 (by decide) (by decide) ?_
  exact ⟨_, rfl, V4⟩
theorem d19_0 : decode jdk_42_method_151_code 0 = .ok (.aload_n 0, 1) := by decide +kernel
theorem d19_1 : decode jdk_42_method_151_code 1 = .ok (.invokespecial 1, 3) := by decide +kernel
theorem d19_4 : decode jdk_42_method_151_code 4 = .ok (.aload_n 0, 1) := by decide +kernel
theorem d19_5 : decode jdk_42_method_151_code 5 = .ok (.aload_n 1, 1) := by decide +kernel
theorem d19_6 : decode jdk_42_method_151_code 6 = .ok (.putfield 9, 3) := by decide +kernel
theorem d19_9 : decode jdk_42_method_151_code 9 = .ok (.aload_n 0, 1) := by decide +kernel
theorem d19_10 : decode jdk_42_method_151_code 10 = .ok (.iload_n 2, 1) := by decide +kernel
theorem d19_11 : decode jdk_42_method_151_code 11 = .ok (.putfield 15, 3) := by decide +kernel
theorem d19_14 : decode jdk_42_method_151_code 14 = .ok (.return_, 1) := by decide +kernel
theorem pn19 : plainFor (⟨"java/lang/String", "<init>", "([BB)V"⟩ : MethodName) = true := plainFor_of_name (by first | (simp [plainName, overriddenIn]; done) | decide +kernel)
set_option maxRecDepth 65536 in
set_option maxHeartbeats 40000000 in
theorem own_strB (l : Launch) (Z : State) (a0 : Array Value) (hw : ∀ d ∈ tables_1, d.before a0 Z = true) (a1 aB : Addr) (h0 : Heap) (hO : Ext Z.heap h0) (ga : Z.heap.size ≤ a1) (E_a1 : Exa Z h0 a1 "java/lang/String") (F_value : Fld Z h0 a1 "java/lang/String" "value" "[B" .null) (F_coder : Fld Z h0 a1 "java/lang/String" "coder" "B" (.int 0)) :
    own_C l Z (⟨"java/lang/String", "<init>", "([BB)V"⟩ : MethodName) jdk_42_method_151_code 3 none [] ({ frames := 1, cells := 0, slots := 0, locals := 12 } : Room) [a1] #[(.ref a1), (.ref aB), (.int (0 : Int32))] h0 (fun v h => v = none ∧ Fld Z h a1 "java/lang/String" "value" "[B" (.ref aB) ∧ Fld Z h a1 "java/lang/String" "coder" "B" (.int 0)) := by
  refine own_C.of pn19 hO (allS ga all0) ?_
  intro p e s m below meth c T0 S0
  refine own_F.cast (by first | (simp [entryFrame, mkF, argsToLocals, Value.category]; done) | rfl : entryFrame m #[(.ref a1), (.ref aB), (.int (0 : Int32))] 3 = mkF m 0 #[.val (.ref a1), .val (.ref aB), .val (.int (0 : Int32))] []) ?_
  show own_F p e below s Z _ _ _ _ _ (T0.setTop (mkF m 0 #[.val (.ref a1), .val (.ref aB), .val (.int (0 : Int32))] []))
  refine own_F.of (fun _ => XS.aloadN S0.here S0.hx rfl (S0.dec d19_0) rfl rfl) ?_
  show own_F p e below s Z _ _ _ _ _ (T0.setTop (mkF m 1 #[.val (.ref a1), .val (.ref aB), .val (.int (0 : Int32))] [(.ref a1)]))
  refine own_initO S0 (own_w hw 72 rfl) (own_w hw 15 rfl) (own_w hw 16 rfl) rfl d19_1 (by decide) (Nat.le_of_ble_eq_true rfl) (fun T1 S1 => ?_)
  show own_F p e below s Z _ _ _ _ _ (T1.setTop (mkF m 4 #[.val (.ref a1), .val (.ref aB), .val (.int (0 : Int32))] []))
  refine own_F.of (fun _ => XS.aloadN S1.here S1.hx rfl (S1.dec d19_4) rfl rfl) ?_
  show own_F p e below s Z _ _ _ _ _ (T1.setTop (mkF m 5 #[.val (.ref a1), .val (.ref aB), .val (.int (0 : Int32))] [(.ref a1)]))
  refine own_F.of (fun _ => XS.aloadN S1.here S1.hx rfl (S1.dec d19_5) rfl rfl) ?_
  show own_F p e below s Z _ _ _ _ _ (T1.setTop (mkF m 6 #[.val (.ref a1), .val (.ref aB), .val (.int (0 : Int32))] [(.ref aB), (.ref a1)]))
  refine own_putF S1 (host := "") (Or.inl (own_w hw 87 rfl)) Via.refl F_value E_a1 (Or.inr ⟨(own_w hw 88 rfl), rfl, rfl⟩) (own_w hw 63 rfl) (ty := (.array .byte)) (by decide) rfl rfl d19_6 (Or.inl (List.mem_of_getElem? (i := 0) rfl)) (fun T2 h2 S2 W2 => ?_)
  have Fw2 := F_value.same W2
  show own_F p e below s Z _ _ _ _ _ (T2.setTop (mkF m 9 #[.val (.ref a1), .val (.ref aB), .val (.int (0 : Int32))] []))
  refine own_F.of (fun _ => XS.aloadN S2.here S2.hx rfl (S2.dec d19_9) rfl rfl) ?_
  show own_F p e below s Z _ _ _ _ _ (T2.setTop (mkF m 10 #[.val (.ref a1), .val (.ref aB), .val (.int (0 : Int32))] [(.ref a1)]))
  refine own_F.of (fun _ => XS.iloadN S2.here S2.hx rfl (S2.dec d19_10) rfl) ?_
  show own_F p e below s Z _ _ _ _ _ (T2.setTop (mkF m 11 #[.val (.ref a1), .val (.ref aB), .val (.int (0 : Int32))] [(.int (0 : Int32)), (.ref a1)]))
  have f3 := (F_coder.other W2 (Or.inr (slot_ne (C := "java/lang/String") (Or.inr (own_w hw 86 rfl)) (Or.inr (own_w hw 88 rfl)) (by decide) (t := .byte) (t' := (.array .byte)) (by decide) (by decide))))
  have f4 := (E_a1.wr W2)
  refine own_putF S2 (host := "") (Or.inl (own_w hw 85 rfl)) Via.refl f3 f4 (Or.inr ⟨(own_w hw 86 rfl), rfl, rfl⟩) (own_w hw 63 rfl) (ty := .byte) (by decide) rfl rfl d19_11 (Or.inl (List.mem_of_getElem? (i := 0) rfl)) (fun T5 h5 S5 W5 => ?_)
  have Fw5 := f3.same W5
  show own_F p e below s Z _ _ _ _ _ (T5.setTop (mkF m 14 #[.val (.ref a1), .val (.ref aB), .val (.int (0 : Int32))] []))
  have f6 := (Fw2.other W5 (Or.inr (slot_ne (C := "java/lang/String") (Or.inr (own_w hw 88 rfl)) (Or.inr (own_w hw 86 rfl)) (by decide) (t := (.array .byte)) (t' := .byte) (by decide) (by decide))))
  refine own_retV S5 d19_14 (by decide) (by decide) ?_
  exact ⟨rfl, f6, Fw5⟩
theorem d16_0 : decode jdk_42_method_139_code 0 = .ok (.getstatic 38, 3) := by decide +kernel
theorem d16_3 : decode jdk_42_method_139_code 3 = .ok (.ifCond .eq 23, 3) := by decide +kernel
theorem d16_6 : decode jdk_42_method_139_code 6 = .ok (.iload_n 0, 1) := by decide +kernel
theorem d16_7 : decode jdk_42_method_139_code 7 = .ok (.invokestatic 1015, 3) := by decide +kernel
theorem d16_10 : decode jdk_42_method_139_code 10 = .ok (.ifCond .eq 16, 3) := by decide +kernel
theorem d16_13 : decode jdk_42_method_139_code 13 = .ok (.new 10, 3) := by decide +kernel
theorem d16_16 : decode jdk_42_method_139_code 16 = .ok (.dup, 1) := by decide +kernel
theorem d16_17 : decode jdk_42_method_139_code 17 = .ok (.iload_n 0, 1) := by decide +kernel
theorem d16_18 : decode jdk_42_method_139_code 18 = .ok (.invokestatic 1018, 3) := by decide +kernel
theorem d16_21 : decode jdk_42_method_139_code 21 = .ok (.iconst 0, 1) := by decide +kernel
theorem d16_22 : decode jdk_42_method_139_code 22 = .ok (.invokespecial 209, 3) := by decide +kernel
theorem d16_25 : decode jdk_42_method_139_code 25 = .ok (.areturn, 1) := by decide +kernel
theorem d16_26 : decode jdk_42_method_139_code 26 = .ok (.new 10, 3) := by decide +kernel
theorem d16_29 : decode jdk_42_method_139_code 29 = .ok (.dup, 1) := by decide +kernel
theorem d16_30 : decode jdk_42_method_139_code 30 = .ok (.iload_n 0, 1) := by decide +kernel
theorem d16_31 : decode jdk_42_method_139_code 31 = .ok (.invokestatic 1021, 3) := by decide +kernel
theorem d16_34 : decode jdk_42_method_139_code 34 = .ok (.iconst 1, 1) := by decide +kernel
theorem d16_35 : decode jdk_42_method_139_code 35 = .ok (.invokespecial 209, 3) := by decide +kernel
theorem d16_38 : decode jdk_42_method_139_code 38 = .ok (.areturn, 1) := by decide +kernel
theorem pn16 : plainFor (⟨"java/lang/String", "valueOf", "(C)Ljava/lang/String;"⟩ : MethodName) = true := plainFor_of_name (by first | (simp [plainName, overriddenIn]; done) | decide +kernel)
set_option maxRecDepth 65536 in
set_option maxHeartbeats 40000000 in
theorem own_vOfC (l : Launch) (Z : State) (a0 : Array Value) (hw : ∀ d ∈ tables_1, d.before a0 Z = true) (x1 zc : Int32) (h0 : Heap) (hO : Ext Z.heap h0) (SZ : Sta Z Z.heap "java/lang/String" "COMPACT_STRINGS" "Z" (.int zc)) (hz : ¬ zc = 0) (hp1 : ¬ 255 < x1) :
    own_C l Z (⟨"java/lang/String", "valueOf", "(C)Ljava/lang/String;"⟩ : MethodName) jdk_42_method_139_code 1 (some (.object "java/lang/String")) [] ({ frames := 2, cells := 2, slots := 5, locals := 27 } : Room) [] #[(.int x1)] h0 (fun v h => ∃ b, v = some (.ref b) ∧ Exa Z h b "java/lang/String") := by
  refine own_C.of pn16 hO all0 ?_
  intro p e s m below meth c T0 S0
  refine own_F.cast (by first | (simp [entryFrame, mkF, argsToLocals, Value.category]; done) | rfl : entryFrame m #[(.int x1)] 1 = mkF m 0 #[.val (.int x1)] []) ?_
  show own_F p e below s Z _ _ _ _ _ (T0.setTop (mkF m 0 #[.val (.int x1)] []))
  refine own_getS S0 (host := "") (Or.inl (own_w hw 73 rfl)) Via.refl (SZ.ext S0.old) d16_0 (fun T1 S1 => ?_)
  show own_F p e below s Z _ _ _ _ _ (T1.setTop (mkF m 3 #[.val (.int x1)] [(.int zc)]))
  refine own_if S1 26 d16_3 (by decide) (by decide) (fun (hc3_2 : zc = (0 : Int32)) => False.elim (hz hc3_2)) (fun (hc3_2 : ¬ (zc = (0 : Int32))) => ?_)
  show own_F p e below s Z _ _ _ _ _ (T1.setTop (mkF m 6 #[.val (.int x1)] []))
  refine own_F.of (fun _ => XS.iloadN S1.here S1.hx rfl (S1.dec d16_6) rfl) ?_
  show own_F p e below s Z _ _ _ _ _ (T1.setTop (mkF m 7 #[.val (.int x1)] [(.int x1)]))
  refine own_callS S1 (y := (⟨"java/lang/StringLatin1", "canEncode", "(C)Z"⟩ : MethodName)) (own_w hw 98 rfl) (own_w hw 99 rfl) (own_w hw 100 rfl) (own_w hw 101 rfl) (by decide) (argsL := [(.int x1)]) (rest := []) (own_canEnc l Z a0 hw x1 h0 S1.old hp1) all0 (by decide +kernel : parseMethodDescriptor "(C)Z" = some ⟨[.char], some .boolean⟩) rfl rfl rfl d16_7 (by decide) (Nat.le_of_ble_eq_true rfl) (by decide) (by decide) (fun T3 h3 v3 S3 K3 q3 => ?_)
  obtain ⟨rfl, rfl⟩ := q3
  show own_F p e below s Z _ _ _ _ _ (T3.setTop (mkF m 10 #[.val (.int x1)] [(.int (1 : Int32))]))
  refine own_if S3 26 d16_10 (by decide) (by decide) (fun (hc10_4 : (1 : Int32) = (0 : Int32)) => False.elim (absurd hc10_4 (by decide))) (fun (hc10_4 : ¬ ((1 : Int32) = (0 : Int32))) => ?_)
  show own_F p e below s Z _ _ _ _ _ (T3.setTop (mkF m 13 #[.val (.int x1)] []))
  refine own_new S3 (own_w hw 102 rfl) (own_w hw 63 rfl) (own_w hw 64 rfl) d16_13 (by decide) (by decide) (fun T5 h5 b5 g5 S5 E5 A5 D5 => ?_)
  have F5_coder : Fld Z h5 b5 "java/lang/String" "coder" "B" (.int (0 : Int32)) := (D5 (Or.inr (own_w hw 86 rfl)) (ty := .byte) (by decide))
  have F5_value : Fld Z h5 b5 "java/lang/String" "value" "[B" .null := (D5 (Or.inr (own_w hw 88 rfl)) (ty := (.array .byte)) (by decide))
  show own_F p e below s Z _ _ _ _ _ (T5.setTop (mkF m 16 #[.val (.int x1)] [(.ref b5)]))
  refine own_F.of (fun _ => XS.dup S5.here S5.hx rfl (S5.dec d16_16) rfl rfl) ?_
  show own_F p e below s Z _ _ _ _ _ (T5.setTop (mkF m 17 #[.val (.int x1)] [(.ref b5), (.ref b5)]))
  refine own_F.of (fun _ => XS.iloadN S5.here S5.hx rfl (S5.dec d16_17) rfl) ?_
  show own_F p e below s Z _ _ _ _ _ (T5.setTop (mkF m 18 #[.val (.int x1)] [(.int x1), (.ref b5), (.ref b5)]))
  refine own_callS S5 (y := (⟨"java/lang/StringLatin1", "toBytes", "(C)[B"⟩ : MethodName)) (own_w hw 103 rfl) (own_w hw 104 rfl) (own_w hw 100 rfl) (own_w hw 105 rfl) (by decide) (argsL := [(.int x1)]) (rest := [(.ref b5), (.ref b5)]) (own_toB l Z a0 hw x1 h5 S5.old) all0 (by decide +kernel : parseMethodDescriptor "(C)[B" = some ⟨[.char], some (.array .byte)⟩) rfl rfl rfl d16_18 (by decide) (Nat.le_of_ble_eq_true rfl) (by decide) (by decide) (fun T6 h6 v6 S6 K6 q6 => ?_)
  obtain ⟨b6, rfl, F6⟩ := q6
  show own_F p e below s Z _ _ _ _ _ (T6.setTop (mkF m 21 #[.val (.int x1)] [(.ref b6), (.ref b5), (.ref b5)]))
  refine own_F.of (fun _ => XS.iconst S6.here S6.hx rfl (S6.dec d16_21)) ?_
  show own_F p e below s Z _ _ _ _ _ (T6.setTop (mkF m 22 #[.val (.int x1)] [(.int (0 : Int32)), (.ref b6), (.ref b5), (.ref b5)]))
  have f7 := (A5.keep K6)
  have f8 := (F5_value.keep K6 nin0)
  have f9 := (F5_coder.keep K6 nin0)
  refine own_callI S6 (y := (⟨"java/lang/String", "<init>", "([BB)V"⟩ : MethodName)) rfl (own_w hw 106 rfl) (own_w hw 107 rfl) (own_w hw 64 rfl) (own_w hw 108 rfl) (by decide) (argsL := [(.ref b6), (.int (0 : Int32))]) (rest := [(.ref b5)]) (own_strB l Z a0 hw b5 b6 h6 S6.old (own_mayN S6 (Or.inr (by rw [g5]; exact S3.size))) f7 f8 f9) (allS (Or.inr (by rw [g5]; exact S3.size)) all0) (by decide +kernel : parseMethodDescriptor "([BB)V" = some ⟨[(.array .byte), .byte], none⟩) rfl rfl rfl d16_22 (by decide) (Nat.le_of_ble_eq_true rfl) (by decide) (by decide) (fun T10 h10 v10 S10 K10 q10 => ?_)
  obtain ⟨rfl, -, -⟩ := q10
  show own_F p e below s Z _ _ _ _ _ (T10.setTop (mkF m 25 #[.val (.int x1)] [(.ref b5)]))
  have f11 := (f7.keep K10)
  refine own_retA S10 rfl rfl d16_25 (by decide) (by decide) ?_
  exact ⟨_, rfl, f11⟩
theorem d3_0 : decode prog_101_method_1_code 0 = .ok (.aload_n 0, 1) := by decide +kernel
theorem d3_1 : decode prog_101_method_1_code 1 = .ok (.invokespecial 1, 3) := by decide +kernel
theorem d3_4 : decode prog_101_method_1_code 4 = .ok (.return_, 1) := by decide +kernel
theorem pn3 : plainFor (⟨"com/example/manysort/manysort/language/Term", "<init>", "()V"⟩ : MethodName) = true := plainFor_of_name (by first | (simp [plainName, overriddenIn]; done) | decide +kernel)
set_option maxRecDepth 65536 in
set_option maxHeartbeats 40000000 in
theorem own_TermInit (l : Launch) (Z : State) (a0 : Array Value) (hw : ∀ d ∈ tables_1, d.before a0 Z = true) (a1 : Addr) (h0 : Heap) (hO : Ext Z.heap h0) :
    own_C l Z (⟨"com/example/manysort/manysort/language/Term", "<init>", "()V"⟩ : MethodName) prog_101_method_1_code 1 none [] ({ frames := 1, cells := 0, slots := 0, locals := 12 } : Room) [] #[(.ref a1)] h0 (fun v h => v = none ∧ h0 = h) := by
  refine own_C.of pn3 hO all0 ?_
  intro p e s m below meth c T0 S0
  refine own_F.cast (by first | (simp [entryFrame, mkF, argsToLocals, Value.category]; done) | rfl : entryFrame m #[(.ref a1)] 1 = mkF m 0 #[.val (.ref a1)] []) ?_
  show own_F p e below s Z _ _ _ _ _ (T0.setTop (mkF m 0 #[.val (.ref a1)] []))
  refine own_F.of (fun _ => XS.aloadN S0.here S0.hx rfl (S0.dec d3_0) rfl rfl) ?_
  show own_F p e below s Z _ _ _ _ _ (T0.setTop (mkF m 1 #[.val (.ref a1)] [(.ref a1)]))
  refine own_initO S0 (own_w hw 14 rfl) (own_w hw 15 rfl) (own_w hw 16 rfl) rfl d3_1 (by decide) (Nat.le_of_ble_eq_true rfl) (fun T1 S1 => ?_)
  show own_F p e below s Z _ _ _ _ _ (T1.setTop (mkF m 4 #[.val (.ref a1)] []))
  refine own_retV S1 d3_4 (by decide) (by decide) ?_
  exact ⟨rfl, rfl⟩
theorem d2_0 : decode prog_63_method_2_code 0 = .ok (.aload_n 0, 1) := by decide +kernel
theorem d2_1 : decode prog_63_method_2_code 1 = .ok (.invokespecial 7, 3) := by decide +kernel
theorem d2_4 : decode prog_63_method_2_code 4 = .ok (.aload_n 0, 1) := by decide +kernel
theorem d2_5 : decode prog_63_method_2_code 5 = .ok (.iload_n 1, 1) := by decide +kernel
theorem d2_6 : decode prog_63_method_2_code 6 = .ok (.putfield 12, 3) := by decide +kernel
theorem d2_9 : decode prog_63_method_2_code 9 = .ok (.aload_n 0, 1) := by decide +kernel
theorem d2_10 : decode prog_63_method_2_code 10 = .ok (.aload_n 2, 1) := by decide +kernel
theorem d2_11 : decode prog_63_method_2_code 11 = .ok (.putfield 16, 3) := by decide +kernel
theorem d2_14 : decode prog_63_method_2_code 14 = .ok (.return_, 1) := by decide +kernel
theorem pn2 : plainFor (⟨"com/example/manysort/manysort/language/NaturalNumber", "<init>", "(ILjava/lang/String;)V"⟩ : MethodName) = true := plainFor_of_name (by first | (simp [plainName, overriddenIn]; done) | decide +kernel)
set_option maxRecDepth 65536 in
set_option maxHeartbeats 40000000 in
theorem own_NN2 (l : Launch) (Z : State) (a0 : Array Value) (hw : ∀ d ∈ tables_1, d.before a0 Z = true) (a1 : Addr) (p2 : Int32) (v3 : Value) (h0 : Heap) (hO : Ext Z.heap h0) (hv : v3.isRef = true) (ga : Z.heap.size ≤ a1) (E_a1 : Exa Z h0 a1 "com/example/manysort/manysort/language/NaturalNumber") (F_value : Fld Z h0 a1 "com/example/manysort/manysort/language/NaturalNumber" "value" "I" (.int 0)) (F_written : Fld Z h0 a1 "com/example/manysort/manysort/language/NaturalNumber" "written" "Ljava/lang/String;" .null) :
    own_C l Z (⟨"com/example/manysort/manysort/language/NaturalNumber", "<init>", "(ILjava/lang/String;)V"⟩ : MethodName) prog_63_method_2_code 3 none [] ({ frames := 2, cells := 0, slots := 0, locals := 24 } : Room) [a1] #[(.ref a1), (.int p2), v3] h0 (fun v h => v = none ∧ Fld Z h a1 "com/example/manysort/manysort/language/NaturalNumber" "value" "I" (.int p2)) := by
  refine own_C.of pn2 hO (allS ga all0) ?_
  intro p e s m below meth c T0 S0
  refine own_F.cast (by rcases XT.refc hv with rfl | ⟨_, rfl⟩ <;> first | (simp [entryFrame, mkF, argsToLocals, Value.category]; done) | rfl : entryFrame m #[(.ref a1), (.int p2), v3] 3 = mkF m 0 #[.val (.ref a1), .val (.int p2), .val v3] []) ?_
  show own_F p e below s Z _ _ _ _ _ (T0.setTop (mkF m 0 #[.val (.ref a1), .val (.int p2), .val v3] []))
  refine own_F.of (fun _ => XS.aloadN S0.here S0.hx rfl (S0.dec d2_0) rfl rfl) ?_
  show own_F p e below s Z _ _ _ _ _ (T0.setTop (mkF m 1 #[.val (.ref a1), .val (.int p2), .val v3] [(.ref a1)]))
  refine own_callI S0 (y := (⟨"com/example/manysort/manysort/language/Term", "<init>", "()V"⟩ : MethodName)) rfl (own_w hw 9 rfl) (own_w hw 10 rfl) (own_w hw 12 rfl) (own_w hw 13 rfl) (by decide) (argsL := []) (rest := []) (own_TermInit l Z a0 hw a1 h0 S0.old) all0 (by decide +kernel : parseMethodDescriptor "()V" = some ⟨[], none⟩) rfl rfl rfl d2_1 (by decide) (Nat.le_of_ble_eq_true rfl) (by decide) (by decide) (fun T1 h1 v1 S1 K1 q1 => ?_)
  obtain ⟨rfl, rfl⟩ := q1
  show own_F p e below s Z _ _ _ _ _ (T1.setTop (mkF m 4 #[.val (.ref a1), .val (.int p2), .val v3] []))
  refine own_F.of (fun _ => XS.aloadN S1.here S1.hx rfl (S1.dec d2_4) rfl rfl) ?_
  show own_F p e below s Z _ _ _ _ _ (T1.setTop (mkF m 5 #[.val (.ref a1), .val (.int p2), .val v3] [(.ref a1)]))
  refine own_F.of (fun _ => XS.iloadN S1.here S1.hx rfl (S1.dec d2_5) rfl) ?_
  show own_F p e below s Z _ _ _ _ _ (T1.setTop (mkF m 6 #[.val (.ref a1), .val (.int p2), .val v3] [(.int p2), (.ref a1)]))
  refine own_putF S1 (host := "") (Or.inl (own_w hw 17 rfl)) Via.refl F_value E_a1 (Or.inr ⟨(own_w hw 18 rfl), rfl, rfl⟩) (own_w hw 1 rfl) (ty := .int) (by decide) rfl rfl d2_6 (Or.inl (List.mem_of_getElem? (i := 0) rfl)) (fun T2 h2 S2 W2 => ?_)
  have Fw2 := F_value.same W2
  show own_F p e below s Z _ _ _ _ _ (T2.setTop (mkF m 9 #[.val (.ref a1), .val (.int p2), .val v3] []))
  refine own_F.of (fun _ => XS.aloadN S2.here S2.hx rfl (S2.dec d2_9) rfl rfl) ?_
  show own_F p e below s Z _ _ _ _ _ (T2.setTop (mkF m 10 #[.val (.ref a1), .val (.int p2), .val v3] [(.ref a1)]))
  refine own_F.of (fun _ => XS.aloadN S2.here S2.hx rfl (S2.dec d2_10) rfl hv) ?_
  show own_F p e below s Z _ _ _ _ _ (T2.setTop (mkF m 11 #[.val (.ref a1), .val (.int p2), .val v3] [v3, (.ref a1)]))
  have f3 := (F_written.other W2 (Or.inr (slot_ne (C := "com/example/manysort/manysort/language/NaturalNumber") (Or.inr (own_w hw 20 rfl)) (Or.inr (own_w hw 18 rfl)) (by decide) (t := (.object "java/lang/String")) (t' := .int) (by decide) (by decide))))
  have f4 := (E_a1.wr W2)
  refine own_putF S2 (host := "") (Or.inl (own_w hw 19 rfl)) Via.refl f3 f4 (Or.inr ⟨(own_w hw 20 rfl), rfl, rfl⟩) (own_w hw 1 rfl) (ty := (.object "java/lang/String")) (by decide) (own_narR (by decide) hv) (own_fitR (by decide) hv) d2_11 (Or.inl (List.mem_of_getElem? (i := 0) rfl)) (fun T5 h5 S5 W5 => ?_)
  have Fw5 := f3.same W5
  show own_F p e below s Z _ _ _ _ _ (T5.setTop (mkF m 14 #[.val (.ref a1), .val (.int p2), .val v3] []))
  have f6 := (Fw2.other W5 (Or.inr (slot_ne (C := "com/example/manysort/manysort/language/NaturalNumber") (Or.inr (own_w hw 18 rfl)) (Or.inr (own_w hw 20 rfl)) (by decide) (t := .int) (t' := (.object "java/lang/String")) (by decide) (by decide))))
  refine own_retV S5 d2_14 (by decide) (by decide) ?_
  exact ⟨rfl, f6⟩
theorem d1_0 : decode prog_63_method_1_code 0 = .ok (.aload_n 0, 1) := by decide +kernel
theorem d1_1 : decode prog_63_method_1_code 1 = .ok (.iload_n 1, 1) := by decide +kernel
theorem d1_2 : decode prog_63_method_1_code 2 = .ok (.aconst_null, 1) := by decide +kernel
theorem d1_3 : decode prog_63_method_1_code 3 = .ok (.invokespecial 1, 3) := by decide +kernel
theorem d1_6 : decode prog_63_method_1_code 6 = .ok (.return_, 1) := by decide +kernel
theorem pn1 : plainFor (⟨"com/example/manysort/manysort/language/NaturalNumber", "<init>", "(I)V"⟩ : MethodName) = true := plainFor_of_name (by first | (simp [plainName, overriddenIn]; done) | decide +kernel)
set_option maxRecDepth 65536 in
set_option maxHeartbeats 40000000 in
theorem own_NN1 (l : Launch) (Z : State) (a0 : Array Value) (hw : ∀ d ∈ tables_1, d.before a0 Z = true) (a1 : Addr) (p2 : Int32) (h0 : Heap) (hO : Ext Z.heap h0) (ga : Z.heap.size ≤ a1) (E_a1 : Exa Z h0 a1 "com/example/manysort/manysort/language/NaturalNumber") (F_value : Fld Z h0 a1 "com/example/manysort/manysort/language/NaturalNumber" "value" "I" (.int 0)) (F_written : Fld Z h0 a1 "com/example/manysort/manysort/language/NaturalNumber" "written" "Ljava/lang/String;" .null) :
    own_C l Z (⟨"com/example/manysort/manysort/language/NaturalNumber", "<init>", "(I)V"⟩ : MethodName) prog_63_method_1_code 2 none [] ({ frames := 3, cells := 0, slots := 0, locals := 38 } : Room) [a1] #[(.ref a1), (.int p2)] h0 (fun v h => v = none ∧ Fld Z h a1 "com/example/manysort/manysort/language/NaturalNumber" "value" "I" (.int p2)) := by
  refine own_C.of pn1 hO (allS ga all0) ?_
  intro p e s m below meth c T0 S0
  refine own_F.cast (by first | (simp [entryFrame, mkF, argsToLocals, Value.category]; done) | rfl : entryFrame m #[(.ref a1), (.int p2)] 2 = mkF m 0 #[.val (.ref a1), .val (.int p2)] []) ?_
  show own_F p e below s Z _ _ _ _ _ (T0.setTop (mkF m 0 #[.val (.ref a1), .val (.int p2)] []))
  refine own_F.of (fun _ => XS.aloadN S0.here S0.hx rfl (S0.dec d1_0) rfl rfl) ?_
  show own_F p e below s Z _ _ _ _ _ (T0.setTop (mkF m 1 #[.val (.ref a1), .val (.int p2)] [(.ref a1)]))
  refine own_F.of (fun _ => XS.iloadN S0.here S0.hx rfl (S0.dec d1_1) rfl) ?_
  show own_F p e below s Z _ _ _ _ _ (T0.setTop (mkF m 2 #[.val (.ref a1), .val (.int p2)] [(.int p2), (.ref a1)]))
  refine own_F.of (fun _ => XS.aconstNull S0.here S0.hx rfl (S0.dec d1_2)) ?_
  show own_F p e below s Z _ _ _ _ _ (T0.setTop (mkF m 3 #[.val (.ref a1), .val (.int p2)] [.null, (.int p2), (.ref a1)]))
  refine own_callI S0 (y := (⟨"com/example/manysort/manysort/language/NaturalNumber", "<init>", "(ILjava/lang/String;)V"⟩ : MethodName)) rfl (own_w hw 6 rfl) (own_w hw 7 rfl) (own_w hw 2 rfl) (own_w hw 8 rfl) (by decide) (argsL := [(.int p2), .null]) (rest := []) (own_NN2 l Z a0 hw a1 p2 .null h0 S0.old rfl ga E_a1 F_value F_written) (allS (Or.inl (List.mem_of_getElem? (i := 0) rfl)) all0) (by decide +kernel : parseMethodDescriptor "(ILjava/lang/String;)V" = some ⟨[.int, (.object "java/lang/String")], none⟩) rfl rfl rfl d1_3 (by decide) (Nat.le_of_ble_eq_true rfl) (by decide) (by decide) (fun T1 h1 v1 S1 K1 q1 => ?_)
  obtain ⟨rfl, F1⟩ := q1
  show own_F p e below s Z _ _ _ _ _ (T1.setTop (mkF m 6 #[.val (.ref a1), .val (.int p2)] []))
  refine own_retV S1 d1_6 (by decide) (by decide) ?_
  exact ⟨rfl, F1⟩
theorem d15_0 : decode prog_63_method_3_code 0 = .ok (.new 2, 3) := by decide +kernel
theorem d15_3 : decode prog_63_method_3_code 3 = .ok (.dup, 1) := by decide +kernel
theorem d15_4 : decode prog_63_method_3_code 4 = .ok (.iload_n 1, 1) := by decide +kernel
theorem d15_5 : decode prog_63_method_3_code 5 = .ok (.aload_n 0, 1) := by decide +kernel
theorem d15_6 : decode prog_63_method_3_code 6 = .ok (.invokespecial 1, 3) := by decide +kernel
theorem d15_9 : decode prog_63_method_3_code 9 = .ok (.areturn, 1) := by decide +kernel
theorem pn15 : plainFor (⟨"com/example/manysort/manysort/language/NaturalNumber", "aboveMaxint", "(Ljava/lang/String;I)Lcom/example/manysort/manysort/language/NaturalNumber;"⟩ : MethodName) = true := plainFor_of_name (by first | (simp [plainName, overriddenIn]; done) | decide +kernel)
set_option maxRecDepth 65536 in
set_option maxHeartbeats 40000000 in
theorem own_above (l : Launch) (Z : State) (a0 : Array Value) (hw : ∀ d ∈ tables_1, d.before a0 Z = true) (s1 : Addr) (p2 : Int32) (h0 : Heap) (hO : Ext Z.heap h0) :
    own_C l Z (⟨"com/example/manysort/manysort/language/NaturalNumber", "aboveMaxint", "(Ljava/lang/String;I)Lcom/example/manysort/manysort/language/NaturalNumber;"⟩ : MethodName) prog_63_method_3_code 2 (some (.object "com/example/manysort/manysort/language/NaturalNumber")) [] ({ frames := 3, cells := 1, slots := 2, locals := 39 } : Room) [] #[(.ref s1), (.int p2)] h0 (fun v h => ∃ b, v = some (.ref b) ∧ Exa Z h b "com/example/manysort/manysort/language/NaturalNumber" ∧ Fld Z h b "com/example/manysort/manysort/language/NaturalNumber" "value" "I" (.int p2)) := by
  refine own_C.of pn15 hO all0 ?_
  intro p e s m below meth c T0 S0
  refine own_F.cast (by first | (simp [entryFrame, mkF, argsToLocals, Value.category]; done) | rfl : entryFrame m #[(.ref s1), (.int p2)] 2 = mkF m 0 #[.val (.ref s1), .val (.int p2)] []) ?_
  show own_F p e below s Z _ _ _ _ _ (T0.setTop (mkF m 0 #[.val (.ref s1), .val (.int p2)] []))
  refine own_new S0 (own_w hw 34 rfl) (own_w hw 1 rfl) (own_w hw 2 rfl) d15_0 (by decide) (by decide) (fun T1 h1 b1 g1 S1 E1 A1 D1 => ?_)
  have F1_value : Fld Z h1 b1 "com/example/manysort/manysort/language/NaturalNumber" "value" "I" (.int (0 : Int32)) := (D1 (Or.inr (own_w hw 18 rfl)) (ty := .int) (by decide))
  have F1_written : Fld Z h1 b1 "com/example/manysort/manysort/language/NaturalNumber" "written" "Ljava/lang/String;" .null := (D1 (Or.inr (own_w hw 20 rfl)) (ty := (.object "java/lang/String")) (by decide))
  show own_F p e below s Z _ _ _ _ _ (T1.setTop (mkF m 3 #[.val (.ref s1), .val (.int p2)] [(.ref b1)]))
  refine own_F.of (fun _ => XS.dup S1.here S1.hx rfl (S1.dec d15_3) rfl rfl) ?_
  show own_F p e below s Z _ _ _ _ _ (T1.setTop (mkF m 4 #[.val (.ref s1), .val (.int p2)] [(.ref b1), (.ref b1)]))
  refine own_F.of (fun _ => XS.iloadN S1.here S1.hx rfl (S1.dec d15_4) rfl) ?_
  show own_F p e below s Z _ _ _ _ _ (T1.setTop (mkF m 5 #[.val (.ref s1), .val (.int p2)] [(.int p2), (.ref b1), (.ref b1)]))
  refine own_F.of (fun _ => XS.aloadN S1.here S1.hx rfl (S1.dec d15_5) rfl rfl) ?_
  show own_F p e below s Z _ _ _ _ _ (T1.setTop (mkF m 6 #[.val (.ref s1), .val (.int p2)] [(.ref s1), (.int p2), (.ref b1), (.ref b1)]))
  refine own_callI S1 (y := (⟨"com/example/manysort/manysort/language/NaturalNumber", "<init>", "(ILjava/lang/String;)V"⟩ : MethodName)) rfl (own_w hw 6 rfl) (own_w hw 7 rfl) (own_w hw 2 rfl) (own_w hw 8 rfl) (by decide) (argsL := [(.int p2), (.ref s1)]) (rest := [(.ref b1)]) (own_NN2 l Z a0 hw b1 p2 (.ref s1) h1 S1.old rfl (own_mayN S1 (Or.inr (by rw [g1]; exact S0.size))) A1 F1_value F1_written) (allS (Or.inr (by rw [g1]; exact S0.size)) all0) (by decide +kernel : parseMethodDescriptor "(ILjava/lang/String;)V" = some ⟨[.int, (.object "java/lang/String")], none⟩) rfl rfl rfl d15_6 (by decide) (Nat.le_of_ble_eq_true rfl) (by decide) (by decide) (fun T2 h2 v2 S2 K2 q2 => ?_)
  obtain ⟨rfl, F2⟩ := q2
  show own_F p e below s Z _ _ _ _ _ (T2.setTop (mkF m 9 #[.val (.ref s1), .val (.int p2)] [(.ref b1)]))
  have f3 := (A1.keep K2)
  refine own_retA S2 rfl rfl d15_9 (by decide) (by decide) ?_
  exact ⟨_, rfl, f3, F2⟩
theorem d21_0 : decode prog_24_method_1_code 0 = .ok (.aload_n 0, 1) := by decide +kernel
theorem d21_1 : decode prog_24_method_1_code 1 = .ok (.invokespecial 1, 3) := by decide +kernel
theorem d21_4 : decode prog_24_method_1_code 4 = .ok (.aload_n 0, 1) := by decide +kernel
theorem d21_5 : decode prog_24_method_1_code 5 = .ok (.aload_n 1, 1) := by decide +kernel
theorem d21_6 : decode prog_24_method_1_code 6 = .ok (.putfield 7, 3) := by decide +kernel
theorem d21_9 : decode prog_24_method_1_code 9 = .ok (.return_, 1) := by decide +kernel
theorem pn21 : plainFor (⟨"com/example/manysort/manysort/language/Constant", "<init>", "(Ljava/lang/String;)V"⟩ : MethodName) = true := plainFor_of_name (by first | (simp [plainName, overriddenIn]; done) | decide +kernel)
set_option maxRecDepth 65536 in
set_option maxHeartbeats 40000000 in
theorem own_ConInit (l : Launch) (Z : State) (a0 : Array Value) (hw : ∀ d ∈ tables_1, d.before a0 Z = true) (a1 s2 : Addr) (h0 : Heap) (hO : Ext Z.heap h0) (ga : Z.heap.size ≤ a1) (E_a1 : Exa Z h0 a1 "com/example/manysort/manysort/language/Constant") (F_name : Fld Z h0 a1 "com/example/manysort/manysort/language/Constant" "name" "Ljava/lang/String;" .null) :
    own_C l Z (⟨"com/example/manysort/manysort/language/Constant", "<init>", "(Ljava/lang/String;)V"⟩ : MethodName) prog_24_method_1_code 2 none [] ({ frames := 2, cells := 0, slots := 0, locals := 24 } : Room) [a1] #[(.ref a1), (.ref s2)] h0 (fun v h => v = none) := by
  refine own_C.of pn21 hO (allS ga all0) ?_
  intro p e s m below meth c T0 S0
  refine own_F.cast (by first | (simp [entryFrame, mkF, argsToLocals, Value.category]; done) | rfl : entryFrame m #[(.ref a1), (.ref s2)] 2 = mkF m 0 #[.val (.ref a1), .val (.ref s2)] []) ?_
  show own_F p e below s Z _ _ _ _ _ (T0.setTop (mkF m 0 #[.val (.ref a1), .val (.ref s2)] []))
  refine own_F.of (fun _ => XS.aloadN S0.here S0.hx rfl (S0.dec d21_0) rfl rfl) ?_
  show own_F p e below s Z _ _ _ _ _ (T0.setTop (mkF m 1 #[.val (.ref a1), .val (.ref s2)] [(.ref a1)]))
  refine own_callI S0 (y := (⟨"com/example/manysort/manysort/language/Term", "<init>", "()V"⟩ : MethodName)) rfl (own_w hw 123 rfl) (own_w hw 10 rfl) (own_w hw 12 rfl) (own_w hw 13 rfl) (by decide) (argsL := []) (rest := []) (own_TermInit l Z a0 hw a1 h0 S0.old) all0 (by decide +kernel : parseMethodDescriptor "()V" = some ⟨[], none⟩) rfl rfl rfl d21_1 (by decide) (Nat.le_of_ble_eq_true rfl) (by decide) (by decide) (fun T1 h1 v1 S1 K1 q1 => ?_)
  obtain ⟨rfl, rfl⟩ := q1
  show own_F p e below s Z _ _ _ _ _ (T1.setTop (mkF m 4 #[.val (.ref a1), .val (.ref s2)] []))
  refine own_F.of (fun _ => XS.aloadN S1.here S1.hx rfl (S1.dec d21_4) rfl rfl) ?_
  show own_F p e below s Z _ _ _ _ _ (T1.setTop (mkF m 5 #[.val (.ref a1), .val (.ref s2)] [(.ref a1)]))
  refine own_F.of (fun _ => XS.aloadN S1.here S1.hx rfl (S1.dec d21_5) rfl rfl) ?_
  show own_F p e below s Z _ _ _ _ _ (T1.setTop (mkF m 6 #[.val (.ref a1), .val (.ref s2)] [(.ref s2), (.ref a1)]))
  refine own_putF S1 (host := "") (Or.inl (own_w hw 124 rfl)) Via.refl F_name E_a1 (Or.inr ⟨(own_w hw 125 rfl), rfl, rfl⟩) (own_w hw 118 rfl) (ty := (.object "java/lang/String")) (by decide) rfl rfl d21_6 (Or.inl (List.mem_of_getElem? (i := 0) rfl)) (fun T2 h2 S2 W2 => ?_)
  have Fw2 := F_name.same W2
  show own_F p e below s Z _ _ _ _ _ (T2.setTop (mkF m 9 #[.val (.ref a1), .val (.ref s2)] []))
  refine own_retV S2 d21_9 (by decide) (by decide) ?_
  rfl
theorem d20_0 : decode prog_108_method_1_code 0 = .ok (.aload_n 0, 1) := by decide +kernel
theorem d20_1 : decode prog_108_method_1_code 1 = .ok (.invokespecial 1, 3) := by decide +kernel
theorem d20_4 : decode prog_108_method_1_code 4 = .ok (.aload_n 0, 1) := by decide +kernel
theorem d20_5 : decode prog_108_method_1_code 5 = .ok (.aload_n 1, 1) := by decide +kernel
theorem d20_6 : decode prog_108_method_1_code 6 = .ok (.putfield 7, 3) := by decide +kernel
theorem d20_9 : decode prog_108_method_1_code 9 = .ok (.return_, 1) := by decide +kernel
theorem pn20 : plainFor (⟨"com/example/manysort/manysort/language/Variable", "<init>", "(Ljava/lang/String;)V"⟩ : MethodName) = true := plainFor_of_name (by first | (simp [plainName, overriddenIn]; done) | decide +kernel)
set_option maxRecDepth 65536 in
set_option maxHeartbeats 40000000 in
theorem own_VarInit (l : Launch) (Z : State) (a0 : Array Value) (hw : ∀ d ∈ tables_1, d.before a0 Z = true) (a1 s2 : Addr) (h0 : Heap) (hO : Ext Z.heap h0) (ga : Z.heap.size ≤ a1) (E_a1 : Exa Z h0 a1 "com/example/manysort/manysort/language/Variable") (F_name : Fld Z h0 a1 "com/example/manysort/manysort/language/Variable" "name" "Ljava/lang/String;" .null) :
    own_C l Z (⟨"com/example/manysort/manysort/language/Variable", "<init>", "(Ljava/lang/String;)V"⟩ : MethodName) prog_108_method_1_code 2 none [] ({ frames := 2, cells := 0, slots := 0, locals := 24 } : Room) [a1] #[(.ref a1), (.ref s2)] h0 (fun v h => v = none) := by
  refine own_C.of pn20 hO (allS ga all0) ?_
  intro p e s m below meth c T0 S0
  refine own_F.cast (by first | (simp [entryFrame, mkF, argsToLocals, Value.category]; done) | rfl : entryFrame m #[(.ref a1), (.ref s2)] 2 = mkF m 0 #[.val (.ref a1), .val (.ref s2)] []) ?_
  show own_F p e below s Z _ _ _ _ _ (T0.setTop (mkF m 0 #[.val (.ref a1), .val (.ref s2)] []))
  refine own_F.of (fun _ => XS.aloadN S0.here S0.hx rfl (S0.dec d20_0) rfl rfl) ?_
  show own_F p e below s Z _ _ _ _ _ (T0.setTop (mkF m 1 #[.val (.ref a1), .val (.ref s2)] [(.ref a1)]))
  refine own_callI S0 (y := (⟨"com/example/manysort/manysort/language/Term", "<init>", "()V"⟩ : MethodName)) rfl (own_w hw 112 rfl) (own_w hw 10 rfl) (own_w hw 12 rfl) (own_w hw 13 rfl) (by decide) (argsL := []) (rest := []) (own_TermInit l Z a0 hw a1 h0 S0.old) all0 (by decide +kernel : parseMethodDescriptor "()V" = some ⟨[], none⟩) rfl rfl rfl d20_1 (by decide) (Nat.le_of_ble_eq_true rfl) (by decide) (by decide) (fun T1 h1 v1 S1 K1 q1 => ?_)
  obtain ⟨rfl, rfl⟩ := q1
  show own_F p e below s Z _ _ _ _ _ (T1.setTop (mkF m 4 #[.val (.ref a1), .val (.ref s2)] []))
  refine own_F.of (fun _ => XS.aloadN S1.here S1.hx rfl (S1.dec d20_4) rfl rfl) ?_
  show own_F p e below s Z _ _ _ _ _ (T1.setTop (mkF m 5 #[.val (.ref a1), .val (.ref s2)] [(.ref a1)]))
  refine own_F.of (fun _ => XS.aloadN S1.here S1.hx rfl (S1.dec d20_5) rfl rfl) ?_
  show own_F p e below s Z _ _ _ _ _ (T1.setTop (mkF m 6 #[.val (.ref a1), .val (.ref s2)] [(.ref s2), (.ref a1)]))
  refine own_putF S1 (host := "") (Or.inl (own_w hw 113 rfl)) Via.refl F_name E_a1 (Or.inr ⟨(own_w hw 114 rfl), rfl, rfl⟩) (own_w hw 93 rfl) (ty := (.object "java/lang/String")) (by decide) rfl rfl d20_6 (Or.inl (List.mem_of_getElem? (i := 0) rfl)) (fun T2 h2 S2 W2 => ?_)
  have Fw2 := F_name.same W2
  show own_F p e below s Z _ _ _ _ _ (T2.setTop (mkF m 9 #[.val (.ref a1), .val (.ref s2)] []))
  refine own_retV S2 d20_9 (by decide) (by decide) ?_
  rfl
theorem d5_0 : decode prog_63_method_11_code 0 = .ok (.aload_n 1, 1) := by decide +kernel
theorem d5_1 : decode prog_63_method_11_code 1 = .ok (.instanceof 2, 3) := by decide +kernel
theorem d5_4 : decode prog_63_method_11_code 4 = .ok (.ifCond .eq 21, 3) := by decide +kernel
theorem d5_7 : decode prog_63_method_11_code 7 = .ok (.aload_n 1, 1) := by decide +kernel
theorem d5_8 : decode prog_63_method_11_code 8 = .ok (.checkcast 2, 3) := by decide +kernel
theorem d5_11 : decode prog_63_method_11_code 11 = .ok (.getfield 12, 3) := by decide +kernel
theorem d5_14 : decode prog_63_method_11_code 14 = .ok (.aload_n 0, 1) := by decide +kernel
theorem d5_15 : decode prog_63_method_11_code 15 = .ok (.getfield 12, 3) := by decide +kernel
theorem d5_18 : decode prog_63_method_11_code 18 = .ok (.if_icmp .ne 7, 3) := by decide +kernel
theorem d5_21 : decode prog_63_method_11_code 21 = .ok (.iconst 1, 1) := by decide +kernel
theorem d5_22 : decode prog_63_method_11_code 22 = .ok (.goto 4, 3) := by decide +kernel
theorem d5_25 : decode prog_63_method_11_code 25 = .ok (.iconst 0, 1) := by decide +kernel
theorem d5_26 : decode prog_63_method_11_code 26 = .ok (.ireturn, 1) := by decide +kernel
theorem pn5 : plainFor (⟨"com/example/manysort/manysort/language/NaturalNumber", "equals", "(Ljava/lang/Object;)Z"⟩ : MethodName) = true := plainFor_of_name (by first | (simp [plainName, overriddenIn]; done) | decide +kernel)
set_option maxRecDepth 65536 in
set_option maxHeartbeats 40000000 in
theorem own_eqN (l : Launch) (Z : State) (a0 : Array Value) (hw : ∀ d ∈ tables_1, d.before a0 Z = true) (a1 a2 : Addr) (x y : Int32) (h0 : Heap) (hO : Ext Z.heap h0) (F1 : Fld Z h0 a1 "com/example/manysort/manysort/language/NaturalNumber" "value" "I" (.int x)) (E2 : Exa Z h0 a2 "com/example/manysort/manysort/language/NaturalNumber") (F2 : Fld Z h0 a2 "com/example/manysort/manysort/language/NaturalNumber" "value" "I" (.int y)) :
    own_C l Z (⟨"com/example/manysort/manysort/language/NaturalNumber", "equals", "(Ljava/lang/Object;)Z"⟩ : MethodName) prog_63_method_11_code 2 (some .boolean) [] ({ frames := 0, cells := 0, slots := 0, locals := 0 } : Room) [] #[(.ref a1), (.ref a2)] h0 (fun v h => v = some (.int (own_eq y x)) ∧ h0 = h) := by
  refine own_C.of pn5 hO all0 ?_
  intro p e s m below meth c T0 S0
  refine own_F.cast (by first | (simp [entryFrame, mkF, argsToLocals, Value.category]; done) | rfl : entryFrame m #[(.ref a1), (.ref a2)] 2 = mkF m 0 #[.val (.ref a1), .val (.ref a2)] []) ?_
  show own_F p e below s Z _ _ _ _ _ (T0.setTop (mkF m 0 #[.val (.ref a1), .val (.ref a2)] []))
  refine own_F.of (fun _ => XS.aloadN S0.here S0.hx rfl (S0.dec d5_0) rfl rfl) ?_
  show own_F p e below s Z _ _ _ _ _ (T0.setTop (mkF m 1 #[.val (.ref a1), .val (.ref a2)] [(.ref a2)]))
  refine own_inst S0 (own_w hw 34 rfl) (Ins.self E2) d5_1 (fun T1 S1 => ?_)
  show own_F p e below s Z _ _ _ _ _ (T1.setTop (mkF m 4 #[.val (.ref a1), .val (.ref a2)] [(.int (1 : Int32))]))
  refine own_if S1 25 d5_4 (by decide) (by decide) (fun (hc4_2 : (1 : Int32) = (0 : Int32)) => False.elim (absurd hc4_2 (by decide))) (fun (hc4_2 : ¬ ((1 : Int32) = (0 : Int32))) => ?_)
  show own_F p e below s Z _ _ _ _ _ (T1.setTop (mkF m 7 #[.val (.ref a1), .val (.ref a2)] []))
  refine own_F.of (fun _ => XS.aloadN S1.here S1.hx rfl (S1.dec d5_7) rfl rfl) ?_
  show own_F p e below s Z _ _ _ _ _ (T1.setTop (mkF m 8 #[.val (.ref a1), .val (.ref a2)] [(.ref a2)]))
  refine own_cast S1 (own_w hw 34 rfl) (Ins.self E2) d5_8 (fun T3 S3 => ?_)
  show own_F p e below s Z _ _ _ _ _ (T3.setTop (mkF m 11 #[.val (.ref a1), .val (.ref a2)] [(.ref a2)]))
  refine own_getF S3 (host := "") (Or.inl (own_w hw 17 rfl)) Via.refl F2 d5_11 (fun T4 S4 => ?_)
  show own_F p e below s Z _ _ _ _ _ (T4.setTop (mkF m 14 #[.val (.ref a1), .val (.ref a2)] [(.int y)]))
  refine own_F.of (fun _ => XS.aloadN S4.here S4.hx rfl (S4.dec d5_14) rfl rfl) ?_
  show own_F p e below s Z _ _ _ _ _ (T4.setTop (mkF m 15 #[.val (.ref a1), .val (.ref a2)] [(.ref a1), (.int y)]))
  refine own_getF S4 (host := "") (Or.inl (own_w hw 17 rfl)) Via.refl F1 d5_15 (fun T5 S5 => ?_)
  show own_F p e below s Z _ _ _ _ _ (T5.setTop (mkF m 18 #[.val (.ref a1), .val (.ref a2)] [(.int x), (.int y)]))
  refine own_icmp S5 25 d5_18 (by decide) (by decide) (fun (hc18_6 : ¬ (y = x)) => ?_) (fun (hc18_6 : y = x) => ?_)
  · show own_F p e below s Z _ _ _ _ _ (T5.setTop (mkF m 25 #[.val (.ref a1), .val (.ref a2)] []))
    refine own_F.of (fun _ => XS.iconst S5.here S5.hx rfl (S5.dec d5_25)) ?_
    show own_F p e below s Z _ _ _ _ _ (T5.setTop (mkF m 26 #[.val (.ref a1), .val (.ref a2)] [(.int (0 : Int32))]))
    refine own_retZ S5 (by simp) d5_26 (by decide) (by decide) ?_
    have hh : own_eq y x = (0 : Int32) := by simp [own_eq, hc18_6]
    rw [hh]; exact ⟨rfl, rfl⟩
  · show own_F p e below s Z _ _ _ _ _ (T5.setTop (mkF m 21 #[.val (.ref a1), .val (.ref a2)] []))
    refine own_F.of (fun _ => XS.iconst S5.here S5.hx rfl (S5.dec d5_21)) ?_
    show own_F p e below s Z _ _ _ _ _ (T5.setTop (mkF m 22 #[.val (.ref a1), .val (.ref a2)] [(.int (1 : Int32))]))
    refine own_F.of (fun _ => XS.goto S5.here S5.hx rfl (pc0 := 22) (pc' := 26) rfl (S5.dec d5_22) (by decide) (by decide)) ?_
    show own_F p e below s Z _ _ _ _ _ (T5.setTop (mkF m 26 #[.val (.ref a1), .val (.ref a2)] [(.int (1 : Int32))]))
    refine own_retZ S5 (by simp) d5_26 (by decide) (by decide) ?_
    have hh : own_eq y x = (1 : Int32) := by simp [own_eq, hc18_6]
    rw [hh]; exact ⟨rfl, rfl⟩
set_option maxRecDepth 65536 in
set_option maxHeartbeats 40000000 in
theorem own_eq0 (l : Launch) (Z : State) (a0 : Array Value) (hw : ∀ d ∈ tables_1, d.before a0 Z = true) (a1 : Addr) (x : Int32) (h0 : Heap) (hO : Ext Z.heap h0) (F1 : Fld Z h0 a1 "com/example/manysort/manysort/language/NaturalNumber" "value" "I" (.int x)) :
    own_C l Z (⟨"com/example/manysort/manysort/language/NaturalNumber", "equals", "(Ljava/lang/Object;)Z"⟩ : MethodName) prog_63_method_11_code 2 (some .boolean) [] ({ frames := 0, cells := 0, slots := 0, locals := 0 } : Room) [] #[(.ref a1), .null] h0 (fun v h => v = some (.int 0) ∧ h0 = h) := by
  refine own_C.of pn5 hO all0 ?_
  intro p e s m below meth c T0 S0
  refine own_F.cast (by first | (simp [entryFrame, mkF, argsToLocals, Value.category]; done) | rfl : entryFrame m #[(.ref a1), .null] 2 = mkF m 0 #[.val (.ref a1), .val .null] []) ?_
  show own_F p e below s Z _ _ _ _ _ (T0.setTop (mkF m 0 #[.val (.ref a1), .val .null] []))
  refine own_F.of (fun _ => XS.aloadN S0.here S0.hx rfl (S0.dec d5_0) rfl rfl) ?_
  show own_F p e below s Z _ _ _ _ _ (T0.setTop (mkF m 1 #[.val (.ref a1), .val .null] [.null]))
  refine own_inst0 S0 d5_1 ?_
  show own_F p e below s Z _ _ _ _ _ (T0.setTop (mkF m 4 #[.val (.ref a1), .val .null] [(.int (0 : Int32))]))
  refine own_if S0 25 d5_4 (by decide) (by decide) (fun (hc4_1 : (0 : Int32) = (0 : Int32)) => ?_) (fun (hc4_1 : ¬ ((0 : Int32) = (0 : Int32))) => False.elim (absurd hc4_1 (by decide)))
  show own_F p e below s Z _ _ _ _ _ (T0.setTop (mkF m 25 #[.val (.ref a1), .val .null] []))
  refine own_F.of (fun _ => XS.iconst S0.here S0.hx rfl (S0.dec d5_25)) ?_
  show own_F p e below s Z _ _ _ _ _ (T0.setTop (mkF m 26 #[.val (.ref a1), .val .null] [(.int (0 : Int32))]))
  refine own_retZ S0 (by simp) d5_26 (by decide) (by decide) ?_
  exact ⟨rfl, rfl⟩
set_option maxRecDepth 65536 in
set_option maxHeartbeats 40000000 in
theorem own_eqO (l : Launch) (Z : State) (a0 : Array Value) (hw : ∀ d ∈ tables_1, d.before a0 Z = true) (a1 a2 : Addr) (x : Int32) (Cn : String) (h0 : Heap) (hO : Ext Z.heap h0) (F1 : Fld Z h0 a1 "com/example/manysort/manysort/language/NaturalNumber" "value" "I" (.int x)) (E2 : Exa Z h0 a2 Cn) (NI : ∃ c t, Z.vm.findClass Cn = some c ∧ Z.vm.findClass "com/example/manysort/manysort/language/NaturalNumber" = some t ∧ Z.vm.assignable c t = false) :
    own_C l Z (⟨"com/example/manysort/manysort/language/NaturalNumber", "equals", "(Ljava/lang/Object;)Z"⟩ : MethodName) prog_63_method_11_code 2 (some .boolean) [] ({ frames := 0, cells := 0, slots := 0, locals := 0 } : Room) [] #[(.ref a1), (.ref a2)] h0 (fun v h => v = some (.int 0) ∧ h0 = h) := by
  refine own_C.of pn5 hO all0 ?_
  intro p e s m below meth c T0 S0
  refine own_F.cast (by first | (simp [entryFrame, mkF, argsToLocals, Value.category]; done) | rfl : entryFrame m #[(.ref a1), (.ref a2)] 2 = mkF m 0 #[.val (.ref a1), .val (.ref a2)] []) ?_
  show own_F p e below s Z _ _ _ _ _ (T0.setTop (mkF m 0 #[.val (.ref a1), .val (.ref a2)] []))
  refine own_F.of (fun _ => XS.aloadN S0.here S0.hx rfl (S0.dec d5_0) rfl rfl) ?_
  show own_F p e below s Z _ _ _ _ _ (T0.setTop (mkF m 1 #[.val (.ref a1), .val (.ref a2)] [(.ref a2)]))
  refine own_instN S0 (own_w hw 34 rfl) E2 NI d5_1 (fun T1 S1 => ?_)
  show own_F p e below s Z _ _ _ _ _ (T1.setTop (mkF m 4 #[.val (.ref a1), .val (.ref a2)] [(.int (0 : Int32))]))
  refine own_if S1 25 d5_4 (by decide) (by decide) (fun (hc4_2 : (0 : Int32) = (0 : Int32)) => ?_) (fun (hc4_2 : ¬ ((0 : Int32) = (0 : Int32))) => False.elim (absurd hc4_2 (by decide)))
  show own_F p e below s Z _ _ _ _ _ (T1.setTop (mkF m 25 #[.val (.ref a1), .val (.ref a2)] []))
  refine own_F.of (fun _ => XS.iconst S1.here S1.hx rfl (S1.dec d5_25)) ?_
  show own_F p e below s Z _ _ _ _ _ (T1.setTop (mkF m 26 #[.val (.ref a1), .val (.ref a2)] [(.int (0 : Int32))]))
  refine own_retZ S1 (by simp) d5_26 (by decide) (by decide) ?_
  exact ⟨rfl, rfl⟩
theorem pn0 : plainFor x = true := plainFor_of_name (by first | (simp [plainName, overriddenIn]; done) | decide +kernel)
set_option maxRecDepth 65536 in
set_option maxHeartbeats 40000000 in
theorem own_law (l : Launch) (Z : State) (a0 : Array Value) (hw : ∀ d ∈ tables_1, d.before a0 Z = true) (p0 p1 p2 p3 : Int32) (aCI : Addr) (clCI : Cell) (aCJ : Addr) (clCJ : Cell) (zc : Int32) (h0 : Heap) (hO : Ext Z.heap h0) (SHi : Sta Z Z.heap "java/lang/Integer$IntegerCache" "high" "I" (.int 127)) (SCaI : Sta Z Z.heap "java/lang/Integer$IntegerCache" "cache" "[Ljava/lang/Integer;" (.ref aCI)) (BXI : Bxs Z aCI clCI "java/lang/Integer" "I" 256 (fun j => .int (j - 128))) (SCaJ : Sta Z Z.heap "java/lang/Long$LongCache" "cache" "[Ljava/lang/Long;" (.ref aCJ)) (BXJ : Bxs Z aCJ clCJ "java/lang/Long" "J" 256 (fun j => .long (j - 128).toInt64)) (SZ : Sta Z Z.heap "java/lang/String" "COMPACT_STRINGS" "Z" (.int zc)) (hz : ¬ zc = 0) :
    own_C l Z x code maxLocals ret tables_1 room_1 [] #[(.int p0), (.int p1), (.int p2), (.int p3)] h0 (fun v _ => v = some (.int 1)) := by
  refine own_C.of pn0 hO all0 ?_
  intro p e s m below meth c T0 S0
  refine own_F.cast (by first | (simp [entryFrame, mkF, argsToLocals, Value.category, maxLocals]; done) | rfl : entryFrame m #[(.int p0), (.int p1), (.int p2), (.int p3)] maxLocals = mkF m 0 #[.val (.int p0), .val (.int p1), .val (.int p2), .val (.int p3), .unset, .unset, .unset, .unset, .unset, .unset] []) ?_
  show own_F p e below s Z _ _ _ _ _ (T0.setTop (mkF m 0 #[.val (.int p0), .val (.int p1), .val (.int p2), .val (.int p3), .unset, .unset, .unset, .unset, .unset, .unset] []))
  refine own_F.of (fun _ => XS.iloadN S0.here S0.hx rfl (S0.dec at_0) rfl) ?_
  show own_F p e below s Z _ _ _ _ _ (T0.setTop (mkF m 1 #[.val (.int p0), .val (.int p1), .val (.int p2), .val (.int p3), .unset, .unset, .unset, .unset, .unset, .unset] [(.int p2)]))
  refine own_F.of (fun _ => XS.bipush S0.here S0.hx rfl (S0.dec at_1)) ?_
  show own_F p e below s Z _ _ _ _ _ (T0.setTop (mkF m 3 #[.val (.int p0), .val (.int p1), .val (.int p2), .val (.int p3), .unset, .unset, .unset, .unset, .unset, .unset] [(.int (8 : Int32)), (.int p2)]))
  refine own_F.of (fun _ => XS.iand S0.here S0.hx rfl (S0.dec at_3) rfl) ?_
  show own_F p e below s Z _ _ _ _ _ (T0.setTop (mkF m 4 #[.val (.int p0), .val (.int p1), .val (.int p2), .val (.int p3), .unset, .unset, .unset, .unset, .unset, .unset] [(.int (p2 &&& (8 : Int32)))]))
  refine own_if S0 11 at_4 (by decide) (by decide) (fun (hc4_1 : (p2 &&& (8 : Int32)) = (0 : Int32)) => ?_) (fun (hc4_1 : ¬ ((p2 &&& (8 : Int32)) = (0 : Int32))) => ?_)
  · show own_F p e below s Z _ _ _ _ _ (T0.setTop (mkF m 11 #[.val (.int p0), .val (.int p1), .val (.int p2), .val (.int p3), .unset, .unset, .unset, .unset, .unset, .unset] []))
    refine own_F.of (fun _ => XS.iloadN S0.here S0.hx rfl (S0.dec at_11) rfl) ?_
    show own_F p e below s Z _ _ _ _ _ (T0.setTop (mkF m 12 #[.val (.int p0), .val (.int p1), .val (.int p2), .val (.int p3), .unset, .unset, .unset, .unset, .unset, .unset] [(.int p1)]))
    refine own_F.of (fun _ => XS.istore S0.here S0.hx rfl (S0.dec at_12) rfl (l' := #[.val (.int p0), .val (.int p1), .val (.int p2), .val (.int p3), .val (.int p1), .unset, .unset, .unset, .unset, .unset]) rfl) ?_
    show own_F p e below s Z _ _ _ _ _ (T0.setTop (mkF m 14 #[.val (.int p0), .val (.int p1), .val (.int p2), .val (.int p3), .val (.int p1), .unset, .unset, .unset, .unset, .unset] []))
    refine own_new S0 (own_w hw 0 rfl) (own_w hw 1 rfl) (own_w hw 2 rfl) at_14 (by decide) (by decide) (fun T2 h2 b2 g2 S2 E2 A2 D2 => ?_)
    have F2_value : Fld Z h2 b2 "com/example/manysort/manysort/language/NaturalNumber" "value" "I" (.int (0 : Int32)) := (D2 (Or.inr (own_w hw 18 rfl)) (ty := .int) (by decide))
    have F2_written : Fld Z h2 b2 "com/example/manysort/manysort/language/NaturalNumber" "written" "Ljava/lang/String;" .null := (D2 (Or.inr (own_w hw 20 rfl)) (ty := (.object "java/lang/String")) (by decide))
    show own_F p e below s Z _ _ _ _ _ (T2.setTop (mkF m 17 #[.val (.int p0), .val (.int p1), .val (.int p2), .val (.int p3), .val (.int p1), .unset, .unset, .unset, .unset, .unset] [(.ref b2)]))
    refine own_F.of (fun _ => XS.dup S2.here S2.hx rfl (S2.dec at_17) rfl rfl) ?_
    show own_F p e below s Z _ _ _ _ _ (T2.setTop (mkF m 18 #[.val (.int p0), .val (.int p1), .val (.int p2), .val (.int p3), .val (.int p1), .unset, .unset, .unset, .unset, .unset] [(.ref b2), (.ref b2)]))
    refine own_F.of (fun _ => XS.iloadN S2.here S2.hx rfl (S2.dec at_18) rfl) ?_
    show own_F p e below s Z _ _ _ _ _ (T2.setTop (mkF m 19 #[.val (.int p0), .val (.int p1), .val (.int p2), .val (.int p3), .val (.int p1), .unset, .unset, .unset, .unset, .unset] [(.int p0), (.ref b2), (.ref b2)]))
    refine own_callI S2 (y := (⟨"com/example/manysort/manysort/language/NaturalNumber", "<init>", "(I)V"⟩ : MethodName)) rfl (own_w hw 3 rfl) (own_w hw 4 rfl) (own_w hw 2 rfl) (own_w hw 5 rfl) (by decide) (argsL := [(.int p0)]) (rest := [(.ref b2)]) (own_NN1 l Z a0 hw b2 p0 h2 S2.old (own_mayN S2 (Or.inr (by rw [g2]; exact S0.size))) A2 F2_value F2_written) (allS (Or.inr (by rw [g2]; exact S0.size)) all0) (by decide +kernel : parseMethodDescriptor "(I)V" = some ⟨[.int], none⟩) rfl rfl rfl at_19 (by decide) (Nat.le_of_ble_eq_true rfl) (by decide) (by decide) (fun T3 h3 v3 S3 K3 q3 => ?_)
    obtain ⟨rfl, F3⟩ := q3
    show own_F p e below s Z _ _ _ _ _ (T3.setTop (mkF m 22 #[.val (.int p0), .val (.int p1), .val (.int p2), .val (.int p3), .val (.int p1), .unset, .unset, .unset, .unset, .unset] [(.ref b2)]))
    refine own_F.of (fun _ => XS.astore S3.here S3.hx rfl (S3.dec at_22) rfl rfl (l' := #[.val (.int p0), .val (.int p1), .val (.int p2), .val (.int p3), .val (.int p1), .val (.ref b2), .unset, .unset, .unset, .unset]) rfl) ?_
    show own_F p e below s Z _ _ _ _ _ (T3.setTop (mkF m 24 #[.val (.int p0), .val (.int p1), .val (.int p2), .val (.int p3), .val (.int p1), .val (.ref b2), .unset, .unset, .unset, .unset] []))
    refine own_F.of (fun _ => XS.iloadN S3.here S3.hx rfl (S3.dec at_24) rfl) ?_
    show own_F p e below s Z _ _ _ _ _ (T3.setTop (mkF m 25 #[.val (.int p0), .val (.int p1), .val (.int p2), .val (.int p3), .val (.int p1), .val (.ref b2), .unset, .unset, .unset, .unset] [(.int p2)]))
    refine own_F.of (fun _ => XS.bipush S3.here S3.hx rfl (S3.dec at_25)) ?_
    show own_F p e below s Z _ _ _ _ _ (T3.setTop (mkF m 27 #[.val (.int p0), .val (.int p1), .val (.int p2), .val (.int p3), .val (.int p1), .val (.ref b2), .unset, .unset, .unset, .unset] [(.int (7 : Int32)), (.int p2)]))
    refine own_F.of (fun _ => XS.iand S3.here S3.hx rfl (S3.dec at_27) rfl) ?_
    show own_F p e below s Z _ _ _ _ _ (T3.setTop (mkF m 28 #[.val (.int p0), .val (.int p1), .val (.int p2), .val (.int p3), .val (.int p1), .val (.ref b2), .unset, .unset, .unset, .unset] [(.int (p2 &&& (7 : Int32)))]))
    refine own_F.of (fun _ => XS.istore S3.here S3.hx rfl (S3.dec at_28) rfl (l' := #[.val (.int p0), .val (.int p1), .val (.int p2), .val (.int p3), .val (.int p1), .val (.ref b2), .val (.int (p2 &&& (7 : Int32))), .unset, .unset, .unset]) rfl) ?_
    show own_F p e below s Z _ _ _ _ _ (T3.setTop (mkF m 30 #[.val (.int p0), .val (.int p1), .val (.int p2), .val (.int p3), .val (.int p1), .val (.ref b2), .val (.int (p2 &&& (7 : Int32))), .unset, .unset, .unset] []))
    refine own_F.of (fun _ => XS.iload S3.here S3.hx rfl (S3.dec at_30) rfl) ?_
    show own_F p e below s Z _ _ _ _ _ (T3.setTop (mkF m 32 #[.val (.int p0), .val (.int p1), .val (.int p2), .val (.int p3), .val (.int p1), .val (.ref b2), .val (.int (p2 &&& (7 : Int32))), .unset, .unset, .unset] [(.int (p2 &&& (7 : Int32)))]))
    refine own_if S3 62 at_32 (by decide) (by decide) (fun (hc32_4 : ¬ ((p2 &&& (7 : Int32)) = (0 : Int32))) => ?_) (fun (hc32_4 : (p2 &&& (7 : Int32)) = (0 : Int32)) => ?_)
    · show own_F p e below s Z _ _ _ _ _ (T3.setTop (mkF m 62 #[.val (.int p0), .val (.int p1), .val (.int p2), .val (.int p3), .val (.int p1), .val (.ref b2), .val (.int (p2 &&& (7 : Int32))), .unset, .unset, .unset] []))
      refine own_F.of (fun _ => XS.iload S3.here S3.hx rfl (S3.dec at_62) rfl) ?_
      show own_F p e below s Z _ _ _ _ _ (T3.setTop (mkF m 64 #[.val (.int p0), .val (.int p1), .val (.int p2), .val (.int p3), .val (.int p1), .val (.ref b2), .val (.int (p2 &&& (7 : Int32))), .unset, .unset, .unset] [(.int (p2 &&& (7 : Int32)))]))
      refine own_F.of (fun _ => XS.iconst S3.here S3.hx rfl (S3.dec at_64)) ?_
      show own_F p e below s Z _ _ _ _ _ (T3.setTop (mkF m 65 #[.val (.int p0), .val (.int p1), .val (.int p2), .val (.int p3), .val (.int p1), .val (.ref b2), .val (.int (p2 &&& (7 : Int32))), .unset, .unset, .unset] [(.int (1 : Int32)), (.int (p2 &&& (7 : Int32)))]))
      refine own_icmp S3 126 at_65 (by decide) (by decide) (fun (hc65_5 : ¬ ((p2 &&& (7 : Int32)) = (1 : Int32))) => ?_) (fun (hc65_5 : (p2 &&& (7 : Int32)) = (1 : Int32)) => ?_)
      · show own_F p e below s Z _ _ _ _ _ (T3.setTop (mkF m 126 #[.val (.int p0), .val (.int p1), .val (.int p2), .val (.int p3), .val (.int p1), .val (.ref b2), .val (.int (p2 &&& (7 : Int32))), .unset, .unset, .unset] []))
        refine own_F.of (fun _ => XS.iload S3.here S3.hx rfl (S3.dec at_126) rfl) ?_
        show own_F p e below s Z _ _ _ _ _ (T3.setTop (mkF m 128 #[.val (.int p0), .val (.int p1), .val (.int p2), .val (.int p3), .val (.int p1), .val (.ref b2), .val (.int (p2 &&& (7 : Int32))), .unset, .unset, .unset] [(.int (p2 &&& (7 : Int32)))]))
        refine own_F.of (fun _ => XS.iconst S3.here S3.hx rfl (S3.dec at_128)) ?_
        show own_F p e below s Z _ _ _ _ _ (T3.setTop (mkF m 129 #[.val (.int p0), .val (.int p1), .val (.int p2), .val (.int p3), .val (.int p1), .val (.ref b2), .val (.int (p2 &&& (7 : Int32))), .unset, .unset, .unset] [(.int (2 : Int32)), (.int (p2 &&& (7 : Int32)))]))
        refine own_icmp S3 141 at_129 (by decide) (by decide) (fun (hc129_6 : ¬ ((p2 &&& (7 : Int32)) = (2 : Int32))) => ?_) (fun (hc129_6 : (p2 &&& (7 : Int32)) = (2 : Int32)) => ?_)
        · show own_F p e below s Z _ _ _ _ _ (T3.setTop (mkF m 141 #[.val (.int p0), .val (.int p1), .val (.int p2), .val (.int p3), .val (.int p1), .val (.ref b2), .val (.int (p2 &&& (7 : Int32))), .unset, .unset, .unset] []))
          refine own_F.of (fun _ => XS.iload S3.here S3.hx rfl (S3.dec at_141) rfl) ?_
          show own_F p e below s Z _ _ _ _ _ (T3.setTop (mkF m 143 #[.val (.int p0), .val (.int p1), .val (.int p2), .val (.int p3), .val (.int p1), .val (.ref b2), .val (.int (p2 &&& (7 : Int32))), .unset, .unset, .unset] [(.int (p2 &&& (7 : Int32)))]))
          refine own_F.of (fun _ => XS.iconst S3.here S3.hx rfl (S3.dec at_143)) ?_
          show own_F p e below s Z _ _ _ _ _ (T3.setTop (mkF m 144 #[.val (.int p0), .val (.int p1), .val (.int p2), .val (.int p3), .val (.int p1), .val (.ref b2), .val (.int (p2 &&& (7 : Int32))), .unset, .unset, .unset] [(.int (3 : Int32)), (.int (p2 &&& (7 : Int32)))]))
          refine own_icmp S3 159 at_144 (by decide) (by decide) (fun (hc144_7 : ¬ ((p2 &&& (7 : Int32)) = (3 : Int32))) => ?_) (fun (hc144_7 : (p2 &&& (7 : Int32)) = (3 : Int32)) => ?_)
          · show own_F p e below s Z _ _ _ _ _ (T3.setTop (mkF m 159 #[.val (.int p0), .val (.int p1), .val (.int p2), .val (.int p3), .val (.int p1), .val (.ref b2), .val (.int (p2 &&& (7 : Int32))), .unset, .unset, .unset] []))
            refine own_F.of (fun _ => XS.iload S3.here S3.hx rfl (S3.dec at_159) rfl) ?_
            show own_F p e below s Z _ _ _ _ _ (T3.setTop (mkF m 161 #[.val (.int p0), .val (.int p1), .val (.int p2), .val (.int p3), .val (.int p1), .val (.ref b2), .val (.int (p2 &&& (7 : Int32))), .unset, .unset, .unset] [(.int (p2 &&& (7 : Int32)))]))
            refine own_F.of (fun _ => XS.iconst S3.here S3.hx rfl (S3.dec at_161)) ?_
            show own_F p e below s Z _ _ _ _ _ (T3.setTop (mkF m 162 #[.val (.int p0), .val (.int p1), .val (.int p2), .val (.int p3), .val (.int p1), .val (.ref b2), .val (.int (p2 &&& (7 : Int32))), .unset, .unset, .unset] [(.int (4 : Int32)), (.int (p2 &&& (7 : Int32)))]))
            refine own_icmp S3 178 at_162 (by decide) (by decide) (fun (hc162_8 : ¬ ((p2 &&& (7 : Int32)) = (4 : Int32))) => ?_) (fun (hc162_8 : (p2 &&& (7 : Int32)) = (4 : Int32)) => ?_)
            · show own_F p e below s Z _ _ _ _ _ (T3.setTop (mkF m 178 #[.val (.int p0), .val (.int p1), .val (.int p2), .val (.int p3), .val (.int p1), .val (.ref b2), .val (.int (p2 &&& (7 : Int32))), .unset, .unset, .unset] []))
              refine own_F.of (fun _ => XS.iload S3.here S3.hx rfl (S3.dec at_178) rfl) ?_
              show own_F p e below s Z _ _ _ _ _ (T3.setTop (mkF m 180 #[.val (.int p0), .val (.int p1), .val (.int p2), .val (.int p3), .val (.int p1), .val (.ref b2), .val (.int (p2 &&& (7 : Int32))), .unset, .unset, .unset] [(.int (p2 &&& (7 : Int32)))]))
              refine own_F.of (fun _ => XS.iconst S3.here S3.hx rfl (S3.dec at_180)) ?_
              show own_F p e below s Z _ _ _ _ _ (T3.setTop (mkF m 181 #[.val (.int p0), .val (.int p1), .val (.int p2), .val (.int p3), .val (.int p1), .val (.ref b2), .val (.int (p2 &&& (7 : Int32))), .unset, .unset, .unset] [(.int (5 : Int32)), (.int (p2 &&& (7 : Int32)))]))
              refine own_icmp S3 208 at_181 (by decide) (by decide) (fun (hc181_9 : ¬ ((p2 &&& (7 : Int32)) = (5 : Int32))) => ?_) (fun (hc181_9 : (p2 &&& (7 : Int32)) = (5 : Int32)) => ?_)
              · show own_F p e below s Z _ _ _ _ _ (T3.setTop (mkF m 208 #[.val (.int p0), .val (.int p1), .val (.int p2), .val (.int p3), .val (.int p1), .val (.ref b2), .val (.int (p2 &&& (7 : Int32))), .unset, .unset, .unset] []))
                refine own_F.of (fun _ => XS.iload S3.here S3.hx rfl (S3.dec at_208) rfl) ?_
                show own_F p e below s Z _ _ _ _ _ (T3.setTop (mkF m 210 #[.val (.int p0), .val (.int p1), .val (.int p2), .val (.int p3), .val (.int p1), .val (.ref b2), .val (.int (p2 &&& (7 : Int32))), .unset, .unset, .unset] [(.int (p2 &&& (7 : Int32)))]))
                refine own_F.of (fun _ => XS.bipush S3.here S3.hx rfl (S3.dec at_210)) ?_
                show own_F p e below s Z _ _ _ _ _ (T3.setTop (mkF m 212 #[.val (.int p0), .val (.int p1), .val (.int p2), .val (.int p3), .val (.int p1), .val (.ref b2), .val (.int (p2 &&& (7 : Int32))), .unset, .unset, .unset] [(.int (6 : Int32)), (.int (p2 &&& (7 : Int32)))]))
                refine own_icmp S3 239 at_212 (by decide) (by decide) (fun (hc212_10 : ¬ ((p2 &&& (7 : Int32)) = (6 : Int32))) => ?_) (fun (hc212_10 : (p2 &&& (7 : Int32)) = (6 : Int32)) => ?_)
                · show own_F p e below s Z _ _ _ _ _ (T3.setTop (mkF m 239 #[.val (.int p0), .val (.int p1), .val (.int p2), .val (.int p3), .val (.int p1), .val (.ref b2), .val (.int (p2 &&& (7 : Int32))), .unset, .unset, .unset] []))
                  refine own_F.of (fun _ => XS.aload S3.here S3.hx rfl (S3.dec at_239) rfl rfl) ?_
                  show own_F p e below s Z _ _ _ _ _ (T3.setTop (mkF m 241 #[.val (.int p0), .val (.int p1), .val (.int p2), .val (.int p3), .val (.int p1), .val (.ref b2), .val (.int (p2 &&& (7 : Int32))), .unset, .unset, .unset] [(.ref b2)]))
                  refine own_F.of (fun _ => XS.astore S3.here S3.hx rfl (S3.dec at_241) rfl rfl (l' := #[.val (.int p0), .val (.int p1), .val (.int p2), .val (.int p3), .val (.int p1), .val (.ref b2), .val (.int (p2 &&& (7 : Int32))), .val (.ref b2), .unset, .unset]) rfl) ?_
                  show own_F p e below s Z _ _ _ _ _ (T3.setTop (mkF m 243 #[.val (.int p0), .val (.int p1), .val (.int p2), .val (.int p3), .val (.int p1), .val (.ref b2), .val (.int (p2 &&& (7 : Int32))), .val (.ref b2), .unset, .unset] []))
                  refine own_F.of (fun _ => XS.iconst S3.here S3.hx rfl (S3.dec at_243)) ?_
                  show own_F p e below s Z _ _ _ _ _ (T3.setTop (mkF m 244 #[.val (.int p0), .val (.int p1), .val (.int p2), .val (.int p3), .val (.int p1), .val (.ref b2), .val (.int (p2 &&& (7 : Int32))), .val (.ref b2), .unset, .unset] [(.int (1 : Int32))]))
                  refine own_F.of (fun _ => XS.istore S3.here S3.hx rfl (S3.dec at_244) rfl (l' := #[.val (.int p0), .val (.int p1), .val (.int p2), .val (.int p3), .val (.int p1), .val (.ref b2), .val (.int (p2 &&& (7 : Int32))), .val (.ref b2), .val (.int (1 : Int32)), .unset]) rfl) ?_
                  show own_F p e below s Z _ _ _ _ _ (T3.setTop (mkF m 246 #[.val (.int p0), .val (.int p1), .val (.int p2), .val (.int p3), .val (.int p1), .val (.ref b2), .val (.int (p2 &&& (7 : Int32))), .val (.ref b2), .val (.int (1 : Int32)), .unset] []))
                  refine own_F.of (fun _ => XS.aload S3.here S3.hx rfl (S3.dec at_246) rfl rfl) ?_
                  show own_F p e below s Z _ _ _ _ _ (T3.setTop (mkF m 248 #[.val (.int p0), .val (.int p1), .val (.int p2), .val (.int p3), .val (.int p1), .val (.ref b2), .val (.int (p2 &&& (7 : Int32))), .val (.ref b2), .val (.int (1 : Int32)), .unset] [(.ref b2)]))
                  refine own_F.of (fun _ => XS.aload S3.here S3.hx rfl (S3.dec at_248) rfl rfl) ?_
                  show own_F p e below s Z _ _ _ _ _ (T3.setTop (mkF m 250 #[.val (.int p0), .val (.int p1), .val (.int p2), .val (.int p3), .val (.int p1), .val (.ref b2), .val (.int (p2 &&& (7 : Int32))), .val (.ref b2), .val (.int (1 : Int32)), .unset] [(.ref b2), (.ref b2)]))
                  have f11 := (A2.keep K3)
                  refine own_callV S3 (y := (⟨"com/example/manysort/manysort/language/NaturalNumber", "equals", "(Ljava/lang/Object;)Z"⟩ : MethodName)) (y' := (⟨"com/example/manysort/manysort/language/NaturalNumber", "equals", "(Ljava/lang/Object;)Z"⟩ : MethodName)) (own_w hw 21 rfl) (own_w hw 22 rfl) (own_nf S3 (own_w hw 24 rfl)) (own_w hw 24 rfl) (own_w hw 23 rfl) (own_w hw 25 rfl) (own_w hw 2 rfl) (by decide) f11 (argsL := [(.ref b2)]) (rest := []) (own_eqN l Z a0 hw b2 b2 p0 p0 h3 S3.old F3 f11 F3) all0 (by decide +kernel : parseMethodDescriptor "(Ljava/lang/Object;)Z" = some ⟨[(.object "java/lang/Object")], some .boolean⟩) rfl rfl rfl at_250 (by decide) (Nat.le_of_ble_eq_true rfl) (by decide) (by decide) (fun T12 h12 v12 S12 K12 q12 => ?_)
                  obtain ⟨rfl, rfl⟩ := q12
                  show own_F p e below s Z _ _ _ _ _ (T12.setTop (mkF m 253 #[.val (.int p0), .val (.int p1), .val (.int p2), .val (.int p3), .val (.int p1), .val (.ref b2), .val (.int (p2 &&& (7 : Int32))), .val (.ref b2), .val (.int (1 : Int32)), .unset] [(.int (own_eq p0 p0))]))
                  refine own_F.of (fun _ => XS.iload S12.here S12.hx rfl (S12.dec at_253) rfl) ?_
                  show own_F p e below s Z _ _ _ _ _ (T12.setTop (mkF m 255 #[.val (.int p0), .val (.int p1), .val (.int p2), .val (.int p3), .val (.int p1), .val (.ref b2), .val (.int (p2 &&& (7 : Int32))), .val (.ref b2), .val (.int (1 : Int32)), .unset] [(.int (1 : Int32)), (.int (own_eq p0 p0))]))
                  refine own_icmp S12 262 at_255 (by decide) (by decide) (fun (hc255_13 : ¬ ((own_eq p0 p0) = (1 : Int32))) => False.elim (hc255_13 (by simp [own_eq]))) (fun (hc255_13 : (own_eq p0 p0) = (1 : Int32)) => ?_)
                  show own_F p e below s Z _ _ _ _ _ (T12.setTop (mkF m 258 #[.val (.int p0), .val (.int p1), .val (.int p2), .val (.int p3), .val (.int p1), .val (.ref b2), .val (.int (p2 &&& (7 : Int32))), .val (.ref b2), .val (.int (1 : Int32)), .unset] []))
                  refine own_F.of (fun _ => XS.iconst S12.here S12.hx rfl (S12.dec at_258)) ?_
                  show own_F p e below s Z _ _ _ _ _ (T12.setTop (mkF m 259 #[.val (.int p0), .val (.int p1), .val (.int p2), .val (.int p3), .val (.int p1), .val (.ref b2), .val (.int (p2 &&& (7 : Int32))), .val (.ref b2), .val (.int (1 : Int32)), .unset] [(.int (1 : Int32))]))
                  refine own_F.of (fun _ => XS.goto S12.here S12.hx rfl (pc0 := 259) (pc' := 263) rfl (S12.dec at_259) (by decide) (by decide)) ?_
                  show own_F p e below s Z _ _ _ _ _ (T12.setTop (mkF m 263 #[.val (.int p0), .val (.int p1), .val (.int p2), .val (.int p3), .val (.int p1), .val (.ref b2), .val (.int (p2 &&& (7 : Int32))), .val (.ref b2), .val (.int (1 : Int32)), .unset] [(.int (1 : Int32))]))
                  refine own_retZ S12 (by simp) at_263 (by decide) (by decide) ?_
                  rfl
                · show own_F p e below s Z _ _ _ _ _ (T3.setTop (mkF m 215 #[.val (.int p0), .val (.int p1), .val (.int p2), .val (.int p3), .val (.int p1), .val (.ref b2), .val (.int (p2 &&& (7 : Int32))), .unset, .unset, .unset] []))
                  refine own_new S3 (own_w hw 92 rfl) (own_w hw 93 rfl) (own_w hw 94 rfl) at_215 (by decide) (by decide) (fun T14 h14 b14 g14 S14 E14 A14 D14 => ?_)
                  have F14_name : Fld Z h14 b14 "com/example/manysort/manysort/language/Variable" "name" "Ljava/lang/String;" .null := (D14 (Or.inr (own_w hw 114 rfl)) (ty := (.object "java/lang/String")) (by decide))
                  show own_F p e below s Z _ _ _ _ _ (T14.setTop (mkF m 218 #[.val (.int p0), .val (.int p1), .val (.int p2), .val (.int p3), .val (.int p1), .val (.ref b2), .val (.int (p2 &&& (7 : Int32))), .unset, .unset, .unset] [(.ref b14)]))
                  refine own_F.of (fun _ => XS.dup S14.here S14.hx rfl (S14.dec at_218) rfl rfl) ?_
                  show own_F p e below s Z _ _ _ _ _ (T14.setTop (mkF m 219 #[.val (.int p0), .val (.int p1), .val (.int p2), .val (.int p3), .val (.int p1), .val (.ref b2), .val (.int (p2 &&& (7 : Int32))), .unset, .unset, .unset] [(.ref b14), (.ref b14)]))
                  refine own_F.of (fun _ => XS.iloadN S14.here S14.hx rfl (S14.dec at_219) rfl) ?_
                  show own_F p e below s Z _ _ _ _ _ (T14.setTop (mkF m 220 #[.val (.int p0), .val (.int p1), .val (.int p2), .val (.int p3), .val (.int p1), .val (.ref b2), .val (.int (p2 &&& (7 : Int32))), .unset, .unset, .unset] [(.int p3), (.ref b14), (.ref b14)]))
                  refine own_F.of (fun _ => XS.sipush S14.here S14.hx rfl (S14.dec at_220)) ?_
                  show own_F p e below s Z _ _ _ _ _ (T14.setTop (mkF m 223 #[.val (.int p0), .val (.int p1), .val (.int p2), .val (.int p3), .val (.int p1), .val (.ref b2), .val (.int (p2 &&& (7 : Int32))), .unset, .unset, .unset] [(.int (255 : Int32)), (.int p3), (.ref b14), (.ref b14)]))
                  refine own_F.of (fun _ => XS.iand S14.here S14.hx rfl (S14.dec at_223) rfl) ?_
                  show own_F p e below s Z _ _ _ _ _ (T14.setTop (mkF m 224 #[.val (.int p0), .val (.int p1), .val (.int p2), .val (.int p3), .val (.int p1), .val (.ref b2), .val (.int (p2 &&& (7 : Int32))), .unset, .unset, .unset] [(.int (p3 &&& (255 : Int32))), (.ref b14), (.ref b14)]))
                  refine own_F.of (fun _ => XS.i2c S14.here S14.hx rfl (S14.dec at_224) rfl) ?_
                  show own_F p e below s Z _ _ _ _ _ (T14.setTop (mkF m 225 #[.val (.int p0), .val (.int p1), .val (.int p2), .val (.int p3), .val (.int p1), .val (.ref b2), .val (.int (p2 &&& (7 : Int32))), .unset, .unset, .unset] [(.int ((p3 &&& (255 : Int32)).toUInt32.toUInt16.toUInt32.toInt32)), (.ref b14), (.ref b14)]))
                  refine own_callS S14 (y := (⟨"java/lang/String", "valueOf", "(C)Ljava/lang/String;"⟩ : MethodName)) (own_w hw 95 rfl) (own_w hw 96 rfl) (own_w hw 64 rfl) (own_w hw 97 rfl) (by decide) (argsL := [(.int ((p3 &&& (255 : Int32)).toUInt32.toUInt16.toUInt32.toInt32))]) (rest := [(.ref b14), (.ref b14)]) (own_vOfC l Z a0 hw ((p3 &&& (255 : Int32)).toUInt32.toUInt16.toUInt32.toInt32) zc h14 S14.old SZ hz (own_m255 _).2) all0 (by decide +kernel : parseMethodDescriptor "(C)Ljava/lang/String;" = some ⟨[.char], some (.object "java/lang/String")⟩) rfl rfl rfl at_225 (by decide) (Nat.le_of_ble_eq_true rfl) (by decide) (by decide) (fun T15 h15 v15 S15 K15 q15 => ?_)
                  obtain ⟨b15, rfl, X15⟩ := q15
                  show own_F p e below s Z _ _ _ _ _ (T15.setTop (mkF m 228 #[.val (.int p0), .val (.int p1), .val (.int p2), .val (.int p3), .val (.int p1), .val (.ref b2), .val (.int (p2 &&& (7 : Int32))), .unset, .unset, .unset] [(.ref b15), (.ref b14), (.ref b14)]))
                  have f16 := (A14.keep K15)
                  have f17 := (F14_name.keep K15 nin0)
                  refine own_callI S15 (y := (⟨"com/example/manysort/manysort/language/Variable", "<init>", "(Ljava/lang/String;)V"⟩ : MethodName)) rfl (own_w hw 109 rfl) (own_w hw 110 rfl) (own_w hw 94 rfl) (own_w hw 111 rfl) (by decide) (argsL := [(.ref b15)]) (rest := [(.ref b14)]) (own_VarInit l Z a0 hw b14 b15 h15 S15.old (own_mayN S15 (Or.inr (by rw [g14]; exact S3.size))) f16 f17) (allS (Or.inr (by rw [g14]; exact S3.size)) all0) (by decide +kernel : parseMethodDescriptor "(Ljava/lang/String;)V" = some ⟨[(.object "java/lang/String")], none⟩) rfl rfl rfl at_228 (by decide) (Nat.le_of_ble_eq_true rfl) (by decide) (by decide) (fun T18 h18 v18 S18 K18 q18 => ?_)
                  obtain rfl := q18
                  show own_F p e below s Z _ _ _ _ _ (T18.setTop (mkF m 231 #[.val (.int p0), .val (.int p1), .val (.int p2), .val (.int p3), .val (.int p1), .val (.ref b2), .val (.int (p2 &&& (7 : Int32))), .unset, .unset, .unset] [(.ref b14)]))
                  refine own_F.of (fun _ => XS.astore S18.here S18.hx rfl (S18.dec at_231) rfl rfl (l' := #[.val (.int p0), .val (.int p1), .val (.int p2), .val (.int p3), .val (.int p1), .val (.ref b2), .val (.int (p2 &&& (7 : Int32))), .val (.ref b14), .unset, .unset]) rfl) ?_
                  show own_F p e below s Z _ _ _ _ _ (T18.setTop (mkF m 233 #[.val (.int p0), .val (.int p1), .val (.int p2), .val (.int p3), .val (.int p1), .val (.ref b2), .val (.int (p2 &&& (7 : Int32))), .val (.ref b14), .unset, .unset] []))
                  refine own_F.of (fun _ => XS.iconst S18.here S18.hx rfl (S18.dec at_233)) ?_
                  show own_F p e below s Z _ _ _ _ _ (T18.setTop (mkF m 234 #[.val (.int p0), .val (.int p1), .val (.int p2), .val (.int p3), .val (.int p1), .val (.ref b2), .val (.int (p2 &&& (7 : Int32))), .val (.ref b14), .unset, .unset] [(.int (0 : Int32))]))
                  refine own_F.of (fun _ => XS.istore S18.here S18.hx rfl (S18.dec at_234) rfl (l' := #[.val (.int p0), .val (.int p1), .val (.int p2), .val (.int p3), .val (.int p1), .val (.ref b2), .val (.int (p2 &&& (7 : Int32))), .val (.ref b14), .val (.int (0 : Int32)), .unset]) rfl) ?_
                  show own_F p e below s Z _ _ _ _ _ (T18.setTop (mkF m 236 #[.val (.int p0), .val (.int p1), .val (.int p2), .val (.int p3), .val (.int p1), .val (.ref b2), .val (.int (p2 &&& (7 : Int32))), .val (.ref b14), .val (.int (0 : Int32)), .unset] []))
                  refine own_F.of (fun _ => XS.goto S18.here S18.hx rfl (pc0 := 236) (pc' := 246) rfl (S18.dec at_236) (by decide) (by decide)) ?_
                  show own_F p e below s Z _ _ _ _ _ (T18.setTop (mkF m 246 #[.val (.int p0), .val (.int p1), .val (.int p2), .val (.int p3), .val (.int p1), .val (.ref b2), .val (.int (p2 &&& (7 : Int32))), .val (.ref b14), .val (.int (0 : Int32)), .unset] []))
                  refine own_F.of (fun _ => XS.aload S18.here S18.hx rfl (S18.dec at_246) rfl rfl) ?_
                  show own_F p e below s Z _ _ _ _ _ (T18.setTop (mkF m 248 #[.val (.int p0), .val (.int p1), .val (.int p2), .val (.int p3), .val (.int p1), .val (.ref b2), .val (.int (p2 &&& (7 : Int32))), .val (.ref b14), .val (.int (0 : Int32)), .unset] [(.ref b2)]))
                  refine own_F.of (fun _ => XS.aload S18.here S18.hx rfl (S18.dec at_248) rfl rfl) ?_
                  show own_F p e below s Z _ _ _ _ _ (T18.setTop (mkF m 250 #[.val (.int p0), .val (.int p1), .val (.int p2), .val (.int p3), .val (.int p1), .val (.ref b2), .val (.int (p2 &&& (7 : Int32))), .val (.ref b14), .val (.int (0 : Int32)), .unset] [(.ref b14), (.ref b2)]))
                  have f19 := (((F3.ext E14).keep K15 nin0).keep K18 (ninS (Nat.ne_of_lt (by rw [g14]; exact ((A2.keep K3)).lt)) nin0))
                  have f20 := (f16.keep K18)
                  have f22 := ((((A2.keep K3).ext E14).keep K15).keep K18)
                  refine own_callV S18 (y := (⟨"com/example/manysort/manysort/language/NaturalNumber", "equals", "(Ljava/lang/Object;)Z"⟩ : MethodName)) (y' := (⟨"com/example/manysort/manysort/language/NaturalNumber", "equals", "(Ljava/lang/Object;)Z"⟩ : MethodName)) (own_w hw 21 rfl) (own_w hw 22 rfl) (own_nf S18 (own_w hw 24 rfl)) (own_w hw 24 rfl) (own_w hw 23 rfl) (own_w hw 25 rfl) (own_w hw 2 rfl) (by decide) f22 (argsL := [(.ref b14)]) (rest := []) (own_eqO l Z a0 hw b2 b14 p0 _ h18 S18.old f19 f20 (own_NSno (own_w hw 115 rfl) (own_w hw 1 rfl) (NS.step (own_w hw 115 rfl) (NS.step (own_w hw 116 rfl) (own_NSroot (own_w hw 37 rfl) (own_w hw 1 rfl) (by decide)) (by decide)) (by decide)) (by decide))) all0 (by decide +kernel : parseMethodDescriptor "(Ljava/lang/Object;)Z" = some ⟨[(.object "java/lang/Object")], some .boolean⟩) rfl rfl rfl at_250 (by decide) (Nat.le_of_ble_eq_true rfl) (by decide) (by decide) (fun T21 h21 v21 S21 K21 q21 => ?_)
                  obtain ⟨rfl, rfl⟩ := q21
                  show own_F p e below s Z _ _ _ _ _ (T21.setTop (mkF m 253 #[.val (.int p0), .val (.int p1), .val (.int p2), .val (.int p3), .val (.int p1), .val (.ref b2), .val (.int (p2 &&& (7 : Int32))), .val (.ref b14), .val (.int (0 : Int32)), .unset] [(.int (0 : Int32))]))
                  refine own_F.of (fun _ => XS.iload S21.here S21.hx rfl (S21.dec at_253) rfl) ?_
                  show own_F p e below s Z _ _ _ _ _ (T21.setTop (mkF m 255 #[.val (.int p0), .val (.int p1), .val (.int p2), .val (.int p3), .val (.int p1), .val (.ref b2), .val (.int (p2 &&& (7 : Int32))), .val (.ref b14), .val (.int (0 : Int32)), .unset] [(.int (0 : Int32)), (.int (0 : Int32))]))
                  refine own_icmp S21 262 at_255 (by decide) (by decide) (fun (hc255_23 : ¬ ((0 : Int32) = (0 : Int32))) => False.elim (absurd hc255_23 (by decide))) (fun (hc255_23 : (0 : Int32) = (0 : Int32)) => ?_)
                  show own_F p e below s Z _ _ _ _ _ (T21.setTop (mkF m 258 #[.val (.int p0), .val (.int p1), .val (.int p2), .val (.int p3), .val (.int p1), .val (.ref b2), .val (.int (p2 &&& (7 : Int32))), .val (.ref b14), .val (.int (0 : Int32)), .unset] []))
                  refine own_F.of (fun _ => XS.iconst S21.here S21.hx rfl (S21.dec at_258)) ?_
                  show own_F p e below s Z _ _ _ _ _ (T21.setTop (mkF m 259 #[.val (.int p0), .val (.int p1), .val (.int p2), .val (.int p3), .val (.int p1), .val (.ref b2), .val (.int (p2 &&& (7 : Int32))), .val (.ref b14), .val (.int (0 : Int32)), .unset] [(.int (1 : Int32))]))
                  refine own_F.of (fun _ => XS.goto S21.here S21.hx rfl (pc0 := 259) (pc' := 263) rfl (S21.dec at_259) (by decide) (by decide)) ?_
                  show own_F p e below s Z _ _ _ _ _ (T21.setTop (mkF m 263 #[.val (.int p0), .val (.int p1), .val (.int p2), .val (.int p3), .val (.int p1), .val (.ref b2), .val (.int (p2 &&& (7 : Int32))), .val (.ref b14), .val (.int (0 : Int32)), .unset] [(.int (1 : Int32))]))
                  refine own_retZ S21 (by simp) at_263 (by decide) (by decide) ?_
                  rfl
              · show own_F p e below s Z _ _ _ _ _ (T3.setTop (mkF m 184 #[.val (.int p0), .val (.int p1), .val (.int p2), .val (.int p3), .val (.int p1), .val (.ref b2), .val (.int (p2 &&& (7 : Int32))), .unset, .unset, .unset] []))
                refine own_new S3 (own_w hw 117 rfl) (own_w hw 118 rfl) (own_w hw 119 rfl) at_184 (by decide) (by decide) (fun T24 h24 b24 g24 S24 E24 A24 D24 => ?_)
                have F24_name : Fld Z h24 b24 "com/example/manysort/manysort/language/Constant" "name" "Ljava/lang/String;" .null := (D24 (Or.inr (own_w hw 125 rfl)) (ty := (.object "java/lang/String")) (by decide))
                show own_F p e below s Z _ _ _ _ _ (T24.setTop (mkF m 187 #[.val (.int p0), .val (.int p1), .val (.int p2), .val (.int p3), .val (.int p1), .val (.ref b2), .val (.int (p2 &&& (7 : Int32))), .unset, .unset, .unset] [(.ref b24)]))
                refine own_F.of (fun _ => XS.dup S24.here S24.hx rfl (S24.dec at_187) rfl rfl) ?_
                show own_F p e below s Z _ _ _ _ _ (T24.setTop (mkF m 188 #[.val (.int p0), .val (.int p1), .val (.int p2), .val (.int p3), .val (.int p1), .val (.ref b2), .val (.int (p2 &&& (7 : Int32))), .unset, .unset, .unset] [(.ref b24), (.ref b24)]))
                refine own_F.of (fun _ => XS.iloadN S24.here S24.hx rfl (S24.dec at_188) rfl) ?_
                show own_F p e below s Z _ _ _ _ _ (T24.setTop (mkF m 189 #[.val (.int p0), .val (.int p1), .val (.int p2), .val (.int p3), .val (.int p1), .val (.ref b2), .val (.int (p2 &&& (7 : Int32))), .unset, .unset, .unset] [(.int p3), (.ref b24), (.ref b24)]))
                refine own_F.of (fun _ => XS.sipush S24.here S24.hx rfl (S24.dec at_189)) ?_
                show own_F p e below s Z _ _ _ _ _ (T24.setTop (mkF m 192 #[.val (.int p0), .val (.int p1), .val (.int p2), .val (.int p3), .val (.int p1), .val (.ref b2), .val (.int (p2 &&& (7 : Int32))), .unset, .unset, .unset] [(.int (255 : Int32)), (.int p3), (.ref b24), (.ref b24)]))
                refine own_F.of (fun _ => XS.iand S24.here S24.hx rfl (S24.dec at_192) rfl) ?_
                show own_F p e below s Z _ _ _ _ _ (T24.setTop (mkF m 193 #[.val (.int p0), .val (.int p1), .val (.int p2), .val (.int p3), .val (.int p1), .val (.ref b2), .val (.int (p2 &&& (7 : Int32))), .unset, .unset, .unset] [(.int (p3 &&& (255 : Int32))), (.ref b24), (.ref b24)]))
                refine own_F.of (fun _ => XS.i2c S24.here S24.hx rfl (S24.dec at_193) rfl) ?_
                show own_F p e below s Z _ _ _ _ _ (T24.setTop (mkF m 194 #[.val (.int p0), .val (.int p1), .val (.int p2), .val (.int p3), .val (.int p1), .val (.ref b2), .val (.int (p2 &&& (7 : Int32))), .unset, .unset, .unset] [(.int ((p3 &&& (255 : Int32)).toUInt32.toUInt16.toUInt32.toInt32)), (.ref b24), (.ref b24)]))
                refine own_callS S24 (y := (⟨"java/lang/String", "valueOf", "(C)Ljava/lang/String;"⟩ : MethodName)) (own_w hw 95 rfl) (own_w hw 96 rfl) (own_w hw 64 rfl) (own_w hw 97 rfl) (by decide) (argsL := [(.int ((p3 &&& (255 : Int32)).toUInt32.toUInt16.toUInt32.toInt32))]) (rest := [(.ref b24), (.ref b24)]) (own_vOfC l Z a0 hw ((p3 &&& (255 : Int32)).toUInt32.toUInt16.toUInt32.toInt32) zc h24 S24.old SZ hz (own_m255 _).2) all0 (by decide +kernel : parseMethodDescriptor "(C)Ljava/lang/String;" = some ⟨[.char], some (.object "java/lang/String")⟩) rfl rfl rfl at_194 (by decide) (Nat.le_of_ble_eq_true rfl) (by decide) (by decide) (fun T25 h25 v25 S25 K25 q25 => ?_)
                obtain ⟨b25, rfl, X25⟩ := q25
                show own_F p e below s Z _ _ _ _ _ (T25.setTop (mkF m 197 #[.val (.int p0), .val (.int p1), .val (.int p2), .val (.int p3), .val (.int p1), .val (.ref b2), .val (.int (p2 &&& (7 : Int32))), .unset, .unset, .unset] [(.ref b25), (.ref b24), (.ref b24)]))
                have f26 := (A24.keep K25)
                have f27 := (F24_name.keep K25 nin0)
                refine own_callI S25 (y := (⟨"com/example/manysort/manysort/language/Constant", "<init>", "(Ljava/lang/String;)V"⟩ : MethodName)) rfl (own_w hw 120 rfl) (own_w hw 121 rfl) (own_w hw 119 rfl) (own_w hw 122 rfl) (by decide) (argsL := [(.ref b25)]) (rest := [(.ref b24)]) (own_ConInit l Z a0 hw b24 b25 h25 S25.old (own_mayN S25 (Or.inr (by rw [g24]; exact S3.size))) f26 f27) (allS (Or.inr (by rw [g24]; exact S3.size)) all0) (by decide +kernel : parseMethodDescriptor "(Ljava/lang/String;)V" = some ⟨[(.object "java/lang/String")], none⟩) rfl rfl rfl at_197 (by decide) (Nat.le_of_ble_eq_true rfl) (by decide) (by decide) (fun T28 h28 v28 S28 K28 q28 => ?_)
                obtain rfl := q28
                show own_F p e below s Z _ _ _ _ _ (T28.setTop (mkF m 200 #[.val (.int p0), .val (.int p1), .val (.int p2), .val (.int p3), .val (.int p1), .val (.ref b2), .val (.int (p2 &&& (7 : Int32))), .unset, .unset, .unset] [(.ref b24)]))
                refine own_F.of (fun _ => XS.astore S28.here S28.hx rfl (S28.dec at_200) rfl rfl (l' := #[.val (.int p0), .val (.int p1), .val (.int p2), .val (.int p3), .val (.int p1), .val (.ref b2), .val (.int (p2 &&& (7 : Int32))), .val (.ref b24), .unset, .unset]) rfl) ?_
                show own_F p e below s Z _ _ _ _ _ (T28.setTop (mkF m 202 #[.val (.int p0), .val (.int p1), .val (.int p2), .val (.int p3), .val (.int p1), .val (.ref b2), .val (.int (p2 &&& (7 : Int32))), .val (.ref b24), .unset, .unset] []))
                refine own_F.of (fun _ => XS.iconst S28.here S28.hx rfl (S28.dec at_202)) ?_
                show own_F p e below s Z _ _ _ _ _ (T28.setTop (mkF m 203 #[.val (.int p0), .val (.int p1), .val (.int p2), .val (.int p3), .val (.int p1), .val (.ref b2), .val (.int (p2 &&& (7 : Int32))), .val (.ref b24), .unset, .unset] [(.int (0 : Int32))]))
                refine own_F.of (fun _ => XS.istore S28.here S28.hx rfl (S28.dec at_203) rfl (l' := #[.val (.int p0), .val (.int p1), .val (.int p2), .val (.int p3), .val (.int p1), .val (.ref b2), .val (.int (p2 &&& (7 : Int32))), .val (.ref b24), .val (.int (0 : Int32)), .unset]) rfl) ?_
                show own_F p e below s Z _ _ _ _ _ (T28.setTop (mkF m 205 #[.val (.int p0), .val (.int p1), .val (.int p2), .val (.int p3), .val (.int p1), .val (.ref b2), .val (.int (p2 &&& (7 : Int32))), .val (.ref b24), .val (.int (0 : Int32)), .unset] []))
                refine own_F.of (fun _ => XS.goto S28.here S28.hx rfl (pc0 := 205) (pc' := 246) rfl (S28.dec at_205) (by decide) (by decide)) ?_
                show own_F p e below s Z _ _ _ _ _ (T28.setTop (mkF m 246 #[.val (.int p0), .val (.int p1), .val (.int p2), .val (.int p3), .val (.int p1), .val (.ref b2), .val (.int (p2 &&& (7 : Int32))), .val (.ref b24), .val (.int (0 : Int32)), .unset] []))
                refine own_F.of (fun _ => XS.aload S28.here S28.hx rfl (S28.dec at_246) rfl rfl) ?_
                show own_F p e below s Z _ _ _ _ _ (T28.setTop (mkF m 248 #[.val (.int p0), .val (.int p1), .val (.int p2), .val (.int p3), .val (.int p1), .val (.ref b2), .val (.int (p2 &&& (7 : Int32))), .val (.ref b24), .val (.int (0 : Int32)), .unset] [(.ref b2)]))
                refine own_F.of (fun _ => XS.aload S28.here S28.hx rfl (S28.dec at_248) rfl rfl) ?_
                show own_F p e below s Z _ _ _ _ _ (T28.setTop (mkF m 250 #[.val (.int p0), .val (.int p1), .val (.int p2), .val (.int p3), .val (.int p1), .val (.ref b2), .val (.int (p2 &&& (7 : Int32))), .val (.ref b24), .val (.int (0 : Int32)), .unset] [(.ref b24), (.ref b2)]))
                have f29 := (((F3.ext E24).keep K25 nin0).keep K28 (ninS (Nat.ne_of_lt (by rw [g24]; exact ((A2.keep K3)).lt)) nin0))
                have f30 := (f26.keep K28)
                have f32 := ((((A2.keep K3).ext E24).keep K25).keep K28)
                refine own_callV S28 (y := (⟨"com/example/manysort/manysort/language/NaturalNumber", "equals", "(Ljava/lang/Object;)Z"⟩ : MethodName)) (y' := (⟨"com/example/manysort/manysort/language/NaturalNumber", "equals", "(Ljava/lang/Object;)Z"⟩ : MethodName)) (own_w hw 21 rfl) (own_w hw 22 rfl) (own_nf S28 (own_w hw 24 rfl)) (own_w hw 24 rfl) (own_w hw 23 rfl) (own_w hw 25 rfl) (own_w hw 2 rfl) (by decide) f32 (argsL := [(.ref b24)]) (rest := []) (own_eqO l Z a0 hw b2 b24 p0 _ h28 S28.old f29 f30 (own_NSno (own_w hw 126 rfl) (own_w hw 1 rfl) (NS.step (own_w hw 126 rfl) (NS.step (own_w hw 116 rfl) (own_NSroot (own_w hw 37 rfl) (own_w hw 1 rfl) (by decide)) (by decide)) (by decide)) (by decide))) all0 (by decide +kernel : parseMethodDescriptor "(Ljava/lang/Object;)Z" = some ⟨[(.object "java/lang/Object")], some .boolean⟩) rfl rfl rfl at_250 (by decide) (Nat.le_of_ble_eq_true rfl) (by decide) (by decide) (fun T31 h31 v31 S31 K31 q31 => ?_)
                obtain ⟨rfl, rfl⟩ := q31
                show own_F p e below s Z _ _ _ _ _ (T31.setTop (mkF m 253 #[.val (.int p0), .val (.int p1), .val (.int p2), .val (.int p3), .val (.int p1), .val (.ref b2), .val (.int (p2 &&& (7 : Int32))), .val (.ref b24), .val (.int (0 : Int32)), .unset] [(.int (0 : Int32))]))
                refine own_F.of (fun _ => XS.iload S31.here S31.hx rfl (S31.dec at_253) rfl) ?_
                show own_F p e below s Z _ _ _ _ _ (T31.setTop (mkF m 255 #[.val (.int p0), .val (.int p1), .val (.int p2), .val (.int p3), .val (.int p1), .val (.ref b2), .val (.int (p2 &&& (7 : Int32))), .val (.ref b24), .val (.int (0 : Int32)), .unset] [(.int (0 : Int32)), (.int (0 : Int32))]))
                refine own_icmp S31 262 at_255 (by decide) (by decide) (fun (hc255_33 : ¬ ((0 : Int32) = (0 : Int32))) => False.elim (absurd hc255_33 (by decide))) (fun (hc255_33 : (0 : Int32) = (0 : Int32)) => ?_)
                show own_F p e below s Z _ _ _ _ _ (T31.setTop (mkF m 258 #[.val (.int p0), .val (.int p1), .val (.int p2), .val (.int p3), .val (.int p1), .val (.ref b2), .val (.int (p2 &&& (7 : Int32))), .val (.ref b24), .val (.int (0 : Int32)), .unset] []))
                refine own_F.of (fun _ => XS.iconst S31.here S31.hx rfl (S31.dec at_258)) ?_
                show own_F p e below s Z _ _ _ _ _ (T31.setTop (mkF m 259 #[.val (.int p0), .val (.int p1), .val (.int p2), .val (.int p3), .val (.int p1), .val (.ref b2), .val (.int (p2 &&& (7 : Int32))), .val (.ref b24), .val (.int (0 : Int32)), .unset] [(.int (1 : Int32))]))
                refine own_F.of (fun _ => XS.goto S31.here S31.hx rfl (pc0 := 259) (pc' := 263) rfl (S31.dec at_259) (by decide) (by decide)) ?_
                show own_F p e below s Z _ _ _ _ _ (T31.setTop (mkF m 263 #[.val (.int p0), .val (.int p1), .val (.int p2), .val (.int p3), .val (.int p1), .val (.ref b2), .val (.int (p2 &&& (7 : Int32))), .val (.ref b24), .val (.int (0 : Int32)), .unset] [(.int (1 : Int32))]))
                refine own_retZ S31 (by simp) at_263 (by decide) (by decide) ?_
                rfl
            · show own_F p e below s Z _ _ _ _ _ (T3.setTop (mkF m 165 #[.val (.int p0), .val (.int p1), .val (.int p2), .val (.int p3), .val (.int p1), .val (.ref b2), .val (.int (p2 &&& (7 : Int32))), .unset, .unset, .unset] []))
              refine own_F.of (fun _ => XS.iloadN S3.here S3.hx rfl (S3.dec at_165) rfl) ?_
              show own_F p e below s Z _ _ _ _ _ (T3.setTop (mkF m 166 #[.val (.int p0), .val (.int p1), .val (.int p2), .val (.int p3), .val (.int p1), .val (.ref b2), .val (.int (p2 &&& (7 : Int32))), .unset, .unset, .unset] [(.int p0)]))
              refine own_F.of (fun _ => XS.i2l S3.here S3.hx rfl (S3.dec at_166) rfl) ?_
              show own_F p e below s Z _ _ _ _ _ (T3.setTop (mkF m 167 #[.val (.int p0), .val (.int p1), .val (.int p2), .val (.int p3), .val (.int p1), .val (.ref b2), .val (.int (p2 &&& (7 : Int32))), .unset, .unset, .unset] [(.long (p0.toInt64))]))
              refine own_callS S3 (y := (⟨"java/lang/Long", "valueOf", "(J)Ljava/lang/Long;"⟩ : MethodName)) (own_w hw 26 rfl) (own_w hw 27 rfl) (own_w hw 28 rfl) (own_w hw 29 rfl) (by decide) (argsL := [(.long (p0.toInt64))]) (rest := []) (own_vOfJ l Z a0 hw (p0.toInt64) aCJ clCJ h3 S3.old SCaJ BXJ) all0 (by decide +kernel : parseMethodDescriptor "(J)Ljava/lang/Long;" = some ⟨[.long], some (.object "java/lang/Long")⟩) rfl rfl rfl at_167 (by decide) (Nat.le_of_ble_eq_true rfl) (by decide) (by decide) (fun T34 h34 v34 S34 K34 q34 => ?_)
              obtain ⟨b34, rfl, X34, -⟩ := q34
              show own_F p e below s Z _ _ _ _ _ (T34.setTop (mkF m 170 #[.val (.int p0), .val (.int p1), .val (.int p2), .val (.int p3), .val (.int p1), .val (.ref b2), .val (.int (p2 &&& (7 : Int32))), .unset, .unset, .unset] [(.ref b34)]))
              refine own_F.of (fun _ => XS.astore S34.here S34.hx rfl (S34.dec at_170) rfl rfl (l' := #[.val (.int p0), .val (.int p1), .val (.int p2), .val (.int p3), .val (.int p1), .val (.ref b2), .val (.int (p2 &&& (7 : Int32))), .val (.ref b34), .unset, .unset]) rfl) ?_
              show own_F p e below s Z _ _ _ _ _ (T34.setTop (mkF m 172 #[.val (.int p0), .val (.int p1), .val (.int p2), .val (.int p3), .val (.int p1), .val (.ref b2), .val (.int (p2 &&& (7 : Int32))), .val (.ref b34), .unset, .unset] []))
              refine own_F.of (fun _ => XS.iconst S34.here S34.hx rfl (S34.dec at_172)) ?_
              show own_F p e below s Z _ _ _ _ _ (T34.setTop (mkF m 173 #[.val (.int p0), .val (.int p1), .val (.int p2), .val (.int p3), .val (.int p1), .val (.ref b2), .val (.int (p2 &&& (7 : Int32))), .val (.ref b34), .unset, .unset] [(.int (0 : Int32))]))
              refine own_F.of (fun _ => XS.istore S34.here S34.hx rfl (S34.dec at_173) rfl (l' := #[.val (.int p0), .val (.int p1), .val (.int p2), .val (.int p3), .val (.int p1), .val (.ref b2), .val (.int (p2 &&& (7 : Int32))), .val (.ref b34), .val (.int (0 : Int32)), .unset]) rfl) ?_
              show own_F p e below s Z _ _ _ _ _ (T34.setTop (mkF m 175 #[.val (.int p0), .val (.int p1), .val (.int p2), .val (.int p3), .val (.int p1), .val (.ref b2), .val (.int (p2 &&& (7 : Int32))), .val (.ref b34), .val (.int (0 : Int32)), .unset] []))
              refine own_F.of (fun _ => XS.goto S34.here S34.hx rfl (pc0 := 175) (pc' := 246) rfl (S34.dec at_175) (by decide) (by decide)) ?_
              show own_F p e below s Z _ _ _ _ _ (T34.setTop (mkF m 246 #[.val (.int p0), .val (.int p1), .val (.int p2), .val (.int p3), .val (.int p1), .val (.ref b2), .val (.int (p2 &&& (7 : Int32))), .val (.ref b34), .val (.int (0 : Int32)), .unset] []))
              refine own_F.of (fun _ => XS.aload S34.here S34.hx rfl (S34.dec at_246) rfl rfl) ?_
              show own_F p e below s Z _ _ _ _ _ (T34.setTop (mkF m 248 #[.val (.int p0), .val (.int p1), .val (.int p2), .val (.int p3), .val (.int p1), .val (.ref b2), .val (.int (p2 &&& (7 : Int32))), .val (.ref b34), .val (.int (0 : Int32)), .unset] [(.ref b2)]))
              refine own_F.of (fun _ => XS.aload S34.here S34.hx rfl (S34.dec at_248) rfl rfl) ?_
              show own_F p e below s Z _ _ _ _ _ (T34.setTop (mkF m 250 #[.val (.int p0), .val (.int p1), .val (.int p2), .val (.int p3), .val (.int p1), .val (.ref b2), .val (.int (p2 &&& (7 : Int32))), .val (.ref b34), .val (.int (0 : Int32)), .unset] [(.ref b34), (.ref b2)]))
              have f35 := (F3.keep K34 nin0)
              have f37 := ((A2.keep K3).keep K34)
              refine own_callV S34 (y := (⟨"com/example/manysort/manysort/language/NaturalNumber", "equals", "(Ljava/lang/Object;)Z"⟩ : MethodName)) (y' := (⟨"com/example/manysort/manysort/language/NaturalNumber", "equals", "(Ljava/lang/Object;)Z"⟩ : MethodName)) (own_w hw 21 rfl) (own_w hw 22 rfl) (own_nf S34 (own_w hw 24 rfl)) (own_w hw 24 rfl) (own_w hw 23 rfl) (own_w hw 25 rfl) (own_w hw 2 rfl) (by decide) f37 (argsL := [(.ref b34)]) (rest := []) (own_eqO l Z a0 hw b2 b34 p0 _ h34 S34.old f35 X34 (own_NSno (own_w hw 35 rfl) (own_w hw 1 rfl) (NS.step (own_w hw 35 rfl) (NS.step (own_w hw 36 rfl) (own_NSroot (own_w hw 37 rfl) (own_w hw 1 rfl) (by decide)) (by decide)) (by decide)) (by decide))) all0 (by decide +kernel : parseMethodDescriptor "(Ljava/lang/Object;)Z" = some ⟨[(.object "java/lang/Object")], some .boolean⟩) rfl rfl rfl at_250 (by decide) (Nat.le_of_ble_eq_true rfl) (by decide) (by decide) (fun T36 h36 v36 S36 K36 q36 => ?_)
              obtain ⟨rfl, rfl⟩ := q36
              show own_F p e below s Z _ _ _ _ _ (T36.setTop (mkF m 253 #[.val (.int p0), .val (.int p1), .val (.int p2), .val (.int p3), .val (.int p1), .val (.ref b2), .val (.int (p2 &&& (7 : Int32))), .val (.ref b34), .val (.int (0 : Int32)), .unset] [(.int (0 : Int32))]))
              refine own_F.of (fun _ => XS.iload S36.here S36.hx rfl (S36.dec at_253) rfl) ?_
              show own_F p e below s Z _ _ _ _ _ (T36.setTop (mkF m 255 #[.val (.int p0), .val (.int p1), .val (.int p2), .val (.int p3), .val (.int p1), .val (.ref b2), .val (.int (p2 &&& (7 : Int32))), .val (.ref b34), .val (.int (0 : Int32)), .unset] [(.int (0 : Int32)), (.int (0 : Int32))]))
              refine own_icmp S36 262 at_255 (by decide) (by decide) (fun (hc255_38 : ¬ ((0 : Int32) = (0 : Int32))) => False.elim (absurd hc255_38 (by decide))) (fun (hc255_38 : (0 : Int32) = (0 : Int32)) => ?_)
              show own_F p e below s Z _ _ _ _ _ (T36.setTop (mkF m 258 #[.val (.int p0), .val (.int p1), .val (.int p2), .val (.int p3), .val (.int p1), .val (.ref b2), .val (.int (p2 &&& (7 : Int32))), .val (.ref b34), .val (.int (0 : Int32)), .unset] []))
              refine own_F.of (fun _ => XS.iconst S36.here S36.hx rfl (S36.dec at_258)) ?_
              show own_F p e below s Z _ _ _ _ _ (T36.setTop (mkF m 259 #[.val (.int p0), .val (.int p1), .val (.int p2), .val (.int p3), .val (.int p1), .val (.ref b2), .val (.int (p2 &&& (7 : Int32))), .val (.ref b34), .val (.int (0 : Int32)), .unset] [(.int (1 : Int32))]))
              refine own_F.of (fun _ => XS.goto S36.here S36.hx rfl (pc0 := 259) (pc' := 263) rfl (S36.dec at_259) (by decide) (by decide)) ?_
              show own_F p e below s Z _ _ _ _ _ (T36.setTop (mkF m 263 #[.val (.int p0), .val (.int p1), .val (.int p2), .val (.int p3), .val (.int p1), .val (.ref b2), .val (.int (p2 &&& (7 : Int32))), .val (.ref b34), .val (.int (0 : Int32)), .unset] [(.int (1 : Int32))]))
              refine own_retZ S36 (by simp) at_263 (by decide) (by decide) ?_
              rfl
          · show own_F p e below s Z _ _ _ _ _ (T3.setTop (mkF m 147 #[.val (.int p0), .val (.int p1), .val (.int p2), .val (.int p3), .val (.int p1), .val (.ref b2), .val (.int (p2 &&& (7 : Int32))), .unset, .unset, .unset] []))
            refine own_F.of (fun _ => XS.iloadN S3.here S3.hx rfl (S3.dec at_147) rfl) ?_
            show own_F p e below s Z _ _ _ _ _ (T3.setTop (mkF m 148 #[.val (.int p0), .val (.int p1), .val (.int p2), .val (.int p3), .val (.int p1), .val (.ref b2), .val (.int (p2 &&& (7 : Int32))), .unset, .unset, .unset] [(.int p0)]))
            refine own_callS S3 (y := (⟨"java/lang/Integer", "valueOf", "(I)Ljava/lang/Integer;"⟩ : MethodName)) (own_w hw 39 rfl) (own_w hw 40 rfl) (own_w hw 41 rfl) (own_w hw 42 rfl) (by decide) (argsL := [(.int p0)]) (rest := []) (own_vOfI l Z a0 hw p0 aCI clCI h3 S3.old SHi SCaI BXI) all0 (by decide +kernel : parseMethodDescriptor "(I)Ljava/lang/Integer;" = some ⟨[.int], some (.object "java/lang/Integer")⟩) rfl rfl rfl at_148 (by decide) (Nat.le_of_ble_eq_true rfl) (by decide) (by decide) (fun T39 h39 v39 S39 K39 q39 => ?_)
            obtain ⟨b39, rfl, X39, -⟩ := q39
            show own_F p e below s Z _ _ _ _ _ (T39.setTop (mkF m 151 #[.val (.int p0), .val (.int p1), .val (.int p2), .val (.int p3), .val (.int p1), .val (.ref b2), .val (.int (p2 &&& (7 : Int32))), .unset, .unset, .unset] [(.ref b39)]))
            refine own_F.of (fun _ => XS.astore S39.here S39.hx rfl (S39.dec at_151) rfl rfl (l' := #[.val (.int p0), .val (.int p1), .val (.int p2), .val (.int p3), .val (.int p1), .val (.ref b2), .val (.int (p2 &&& (7 : Int32))), .val (.ref b39), .unset, .unset]) rfl) ?_
            show own_F p e below s Z _ _ _ _ _ (T39.setTop (mkF m 153 #[.val (.int p0), .val (.int p1), .val (.int p2), .val (.int p3), .val (.int p1), .val (.ref b2), .val (.int (p2 &&& (7 : Int32))), .val (.ref b39), .unset, .unset] []))
            refine own_F.of (fun _ => XS.iconst S39.here S39.hx rfl (S39.dec at_153)) ?_
            show own_F p e below s Z _ _ _ _ _ (T39.setTop (mkF m 154 #[.val (.int p0), .val (.int p1), .val (.int p2), .val (.int p3), .val (.int p1), .val (.ref b2), .val (.int (p2 &&& (7 : Int32))), .val (.ref b39), .unset, .unset] [(.int (0 : Int32))]))
            refine own_F.of (fun _ => XS.istore S39.here S39.hx rfl (S39.dec at_154) rfl (l' := #[.val (.int p0), .val (.int p1), .val (.int p2), .val (.int p3), .val (.int p1), .val (.ref b2), .val (.int (p2 &&& (7 : Int32))), .val (.ref b39), .val (.int (0 : Int32)), .unset]) rfl) ?_
            show own_F p e below s Z _ _ _ _ _ (T39.setTop (mkF m 156 #[.val (.int p0), .val (.int p1), .val (.int p2), .val (.int p3), .val (.int p1), .val (.ref b2), .val (.int (p2 &&& (7 : Int32))), .val (.ref b39), .val (.int (0 : Int32)), .unset] []))
            refine own_F.of (fun _ => XS.goto S39.here S39.hx rfl (pc0 := 156) (pc' := 246) rfl (S39.dec at_156) (by decide) (by decide)) ?_
            show own_F p e below s Z _ _ _ _ _ (T39.setTop (mkF m 246 #[.val (.int p0), .val (.int p1), .val (.int p2), .val (.int p3), .val (.int p1), .val (.ref b2), .val (.int (p2 &&& (7 : Int32))), .val (.ref b39), .val (.int (0 : Int32)), .unset] []))
            refine own_F.of (fun _ => XS.aload S39.here S39.hx rfl (S39.dec at_246) rfl rfl) ?_
            show own_F p e below s Z _ _ _ _ _ (T39.setTop (mkF m 248 #[.val (.int p0), .val (.int p1), .val (.int p2), .val (.int p3), .val (.int p1), .val (.ref b2), .val (.int (p2 &&& (7 : Int32))), .val (.ref b39), .val (.int (0 : Int32)), .unset] [(.ref b2)]))
            refine own_F.of (fun _ => XS.aload S39.here S39.hx rfl (S39.dec at_248) rfl rfl) ?_
            show own_F p e below s Z _ _ _ _ _ (T39.setTop (mkF m 250 #[.val (.int p0), .val (.int p1), .val (.int p2), .val (.int p3), .val (.int p1), .val (.ref b2), .val (.int (p2 &&& (7 : Int32))), .val (.ref b39), .val (.int (0 : Int32)), .unset] [(.ref b39), (.ref b2)]))
            have f40 := (F3.keep K39 nin0)
            have f42 := ((A2.keep K3).keep K39)
            refine own_callV S39 (y := (⟨"com/example/manysort/manysort/language/NaturalNumber", "equals", "(Ljava/lang/Object;)Z"⟩ : MethodName)) (y' := (⟨"com/example/manysort/manysort/language/NaturalNumber", "equals", "(Ljava/lang/Object;)Z"⟩ : MethodName)) (own_w hw 21 rfl) (own_w hw 22 rfl) (own_nf S39 (own_w hw 24 rfl)) (own_w hw 24 rfl) (own_w hw 23 rfl) (own_w hw 25 rfl) (own_w hw 2 rfl) (by decide) f42 (argsL := [(.ref b39)]) (rest := []) (own_eqO l Z a0 hw b2 b39 p0 _ h39 S39.old f40 X39 (own_NSno (own_w hw 60 rfl) (own_w hw 1 rfl) (NS.step (own_w hw 60 rfl) (NS.step (own_w hw 36 rfl) (own_NSroot (own_w hw 37 rfl) (own_w hw 1 rfl) (by decide)) (by decide)) (by decide)) (by decide))) all0 (by decide +kernel : parseMethodDescriptor "(Ljava/lang/Object;)Z" = some ⟨[(.object "java/lang/Object")], some .boolean⟩) rfl rfl rfl at_250 (by decide) (Nat.le_of_ble_eq_true rfl) (by decide) (by decide) (fun T41 h41 v41 S41 K41 q41 => ?_)
            obtain ⟨rfl, rfl⟩ := q41
            show own_F p e below s Z _ _ _ _ _ (T41.setTop (mkF m 253 #[.val (.int p0), .val (.int p1), .val (.int p2), .val (.int p3), .val (.int p1), .val (.ref b2), .val (.int (p2 &&& (7 : Int32))), .val (.ref b39), .val (.int (0 : Int32)), .unset] [(.int (0 : Int32))]))
            refine own_F.of (fun _ => XS.iload S41.here S41.hx rfl (S41.dec at_253) rfl) ?_
            show own_F p e below s Z _ _ _ _ _ (T41.setTop (mkF m 255 #[.val (.int p0), .val (.int p1), .val (.int p2), .val (.int p3), .val (.int p1), .val (.ref b2), .val (.int (p2 &&& (7 : Int32))), .val (.ref b39), .val (.int (0 : Int32)), .unset] [(.int (0 : Int32)), (.int (0 : Int32))]))
            refine own_icmp S41 262 at_255 (by decide) (by decide) (fun (hc255_43 : ¬ ((0 : Int32) = (0 : Int32))) => False.elim (absurd hc255_43 (by decide))) (fun (hc255_43 : (0 : Int32) = (0 : Int32)) => ?_)
            show own_F p e below s Z _ _ _ _ _ (T41.setTop (mkF m 258 #[.val (.int p0), .val (.int p1), .val (.int p2), .val (.int p3), .val (.int p1), .val (.ref b2), .val (.int (p2 &&& (7 : Int32))), .val (.ref b39), .val (.int (0 : Int32)), .unset] []))
            refine own_F.of (fun _ => XS.iconst S41.here S41.hx rfl (S41.dec at_258)) ?_
            show own_F p e below s Z _ _ _ _ _ (T41.setTop (mkF m 259 #[.val (.int p0), .val (.int p1), .val (.int p2), .val (.int p3), .val (.int p1), .val (.ref b2), .val (.int (p2 &&& (7 : Int32))), .val (.ref b39), .val (.int (0 : Int32)), .unset] [(.int (1 : Int32))]))
            refine own_F.of (fun _ => XS.goto S41.here S41.hx rfl (pc0 := 259) (pc' := 263) rfl (S41.dec at_259) (by decide) (by decide)) ?_
            show own_F p e below s Z _ _ _ _ _ (T41.setTop (mkF m 263 #[.val (.int p0), .val (.int p1), .val (.int p2), .val (.int p3), .val (.int p1), .val (.ref b2), .val (.int (p2 &&& (7 : Int32))), .val (.ref b39), .val (.int (0 : Int32)), .unset] [(.int (1 : Int32))]))
            refine own_retZ S41 (by simp) at_263 (by decide) (by decide) ?_
            rfl
        · show own_F p e below s Z _ _ _ _ _ (T3.setTop (mkF m 132 #[.val (.int p0), .val (.int p1), .val (.int p2), .val (.int p3), .val (.int p1), .val (.ref b2), .val (.int (p2 &&& (7 : Int32))), .unset, .unset, .unset] []))
          refine own_F.of (fun _ => XS.aconstNull S3.here S3.hx rfl (S3.dec at_132)) ?_
          show own_F p e below s Z _ _ _ _ _ (T3.setTop (mkF m 133 #[.val (.int p0), .val (.int p1), .val (.int p2), .val (.int p3), .val (.int p1), .val (.ref b2), .val (.int (p2 &&& (7 : Int32))), .unset, .unset, .unset] [.null]))
          refine own_F.of (fun _ => XS.astore S3.here S3.hx rfl (S3.dec at_133) rfl rfl (l' := #[.val (.int p0), .val (.int p1), .val (.int p2), .val (.int p3), .val (.int p1), .val (.ref b2), .val (.int (p2 &&& (7 : Int32))), .val .null, .unset, .unset]) rfl) ?_
          show own_F p e below s Z _ _ _ _ _ (T3.setTop (mkF m 135 #[.val (.int p0), .val (.int p1), .val (.int p2), .val (.int p3), .val (.int p1), .val (.ref b2), .val (.int (p2 &&& (7 : Int32))), .val .null, .unset, .unset] []))
          refine own_F.of (fun _ => XS.iconst S3.here S3.hx rfl (S3.dec at_135)) ?_
          show own_F p e below s Z _ _ _ _ _ (T3.setTop (mkF m 136 #[.val (.int p0), .val (.int p1), .val (.int p2), .val (.int p3), .val (.int p1), .val (.ref b2), .val (.int (p2 &&& (7 : Int32))), .val .null, .unset, .unset] [(.int (0 : Int32))]))
          refine own_F.of (fun _ => XS.istore S3.here S3.hx rfl (S3.dec at_136) rfl (l' := #[.val (.int p0), .val (.int p1), .val (.int p2), .val (.int p3), .val (.int p1), .val (.ref b2), .val (.int (p2 &&& (7 : Int32))), .val .null, .val (.int (0 : Int32)), .unset]) rfl) ?_
          show own_F p e below s Z _ _ _ _ _ (T3.setTop (mkF m 138 #[.val (.int p0), .val (.int p1), .val (.int p2), .val (.int p3), .val (.int p1), .val (.ref b2), .val (.int (p2 &&& (7 : Int32))), .val .null, .val (.int (0 : Int32)), .unset] []))
          refine own_F.of (fun _ => XS.goto S3.here S3.hx rfl (pc0 := 138) (pc' := 246) rfl (S3.dec at_138) (by decide) (by decide)) ?_
          show own_F p e below s Z _ _ _ _ _ (T3.setTop (mkF m 246 #[.val (.int p0), .val (.int p1), .val (.int p2), .val (.int p3), .val (.int p1), .val (.ref b2), .val (.int (p2 &&& (7 : Int32))), .val .null, .val (.int (0 : Int32)), .unset] []))
          refine own_F.of (fun _ => XS.aload S3.here S3.hx rfl (S3.dec at_246) rfl rfl) ?_
          show own_F p e below s Z _ _ _ _ _ (T3.setTop (mkF m 248 #[.val (.int p0), .val (.int p1), .val (.int p2), .val (.int p3), .val (.int p1), .val (.ref b2), .val (.int (p2 &&& (7 : Int32))), .val .null, .val (.int (0 : Int32)), .unset] [(.ref b2)]))
          refine own_F.of (fun _ => XS.aload S3.here S3.hx rfl (S3.dec at_248) rfl rfl) ?_
          show own_F p e below s Z _ _ _ _ _ (T3.setTop (mkF m 250 #[.val (.int p0), .val (.int p1), .val (.int p2), .val (.int p3), .val (.int p1), .val (.ref b2), .val (.int (p2 &&& (7 : Int32))), .val .null, .val (.int (0 : Int32)), .unset] [.null, (.ref b2)]))
          have f45 := (A2.keep K3)
          refine own_callV S3 (y := (⟨"com/example/manysort/manysort/language/NaturalNumber", "equals", "(Ljava/lang/Object;)Z"⟩ : MethodName)) (y' := (⟨"com/example/manysort/manysort/language/NaturalNumber", "equals", "(Ljava/lang/Object;)Z"⟩ : MethodName)) (own_w hw 21 rfl) (own_w hw 22 rfl) (own_nf S3 (own_w hw 24 rfl)) (own_w hw 24 rfl) (own_w hw 23 rfl) (own_w hw 25 rfl) (own_w hw 2 rfl) (by decide) f45 (argsL := [.null]) (rest := []) (own_eq0 l Z a0 hw b2 p0 h3 S3.old F3) all0 (by decide +kernel : parseMethodDescriptor "(Ljava/lang/Object;)Z" = some ⟨[(.object "java/lang/Object")], some .boolean⟩) rfl rfl rfl at_250 (by decide) (Nat.le_of_ble_eq_true rfl) (by decide) (by decide) (fun T44 h44 v44 S44 K44 q44 => ?_)
          obtain ⟨rfl, rfl⟩ := q44
          show own_F p e below s Z _ _ _ _ _ (T44.setTop (mkF m 253 #[.val (.int p0), .val (.int p1), .val (.int p2), .val (.int p3), .val (.int p1), .val (.ref b2), .val (.int (p2 &&& (7 : Int32))), .val .null, .val (.int (0 : Int32)), .unset] [(.int (0 : Int32))]))
          refine own_F.of (fun _ => XS.iload S44.here S44.hx rfl (S44.dec at_253) rfl) ?_
          show own_F p e below s Z _ _ _ _ _ (T44.setTop (mkF m 255 #[.val (.int p0), .val (.int p1), .val (.int p2), .val (.int p3), .val (.int p1), .val (.ref b2), .val (.int (p2 &&& (7 : Int32))), .val .null, .val (.int (0 : Int32)), .unset] [(.int (0 : Int32)), (.int (0 : Int32))]))
          refine own_icmp S44 262 at_255 (by decide) (by decide) (fun (hc255_46 : ¬ ((0 : Int32) = (0 : Int32))) => False.elim (absurd hc255_46 (by decide))) (fun (hc255_46 : (0 : Int32) = (0 : Int32)) => ?_)
          show own_F p e below s Z _ _ _ _ _ (T44.setTop (mkF m 258 #[.val (.int p0), .val (.int p1), .val (.int p2), .val (.int p3), .val (.int p1), .val (.ref b2), .val (.int (p2 &&& (7 : Int32))), .val .null, .val (.int (0 : Int32)), .unset] []))
          refine own_F.of (fun _ => XS.iconst S44.here S44.hx rfl (S44.dec at_258)) ?_
          show own_F p e below s Z _ _ _ _ _ (T44.setTop (mkF m 259 #[.val (.int p0), .val (.int p1), .val (.int p2), .val (.int p3), .val (.int p1), .val (.ref b2), .val (.int (p2 &&& (7 : Int32))), .val .null, .val (.int (0 : Int32)), .unset] [(.int (1 : Int32))]))
          refine own_F.of (fun _ => XS.goto S44.here S44.hx rfl (pc0 := 259) (pc' := 263) rfl (S44.dec at_259) (by decide) (by decide)) ?_
          show own_F p e below s Z _ _ _ _ _ (T44.setTop (mkF m 263 #[.val (.int p0), .val (.int p1), .val (.int p2), .val (.int p3), .val (.int p1), .val (.ref b2), .val (.int (p2 &&& (7 : Int32))), .val .null, .val (.int (0 : Int32)), .unset] [(.int (1 : Int32))]))
          refine own_retZ S44 (by simp) at_263 (by decide) (by decide) ?_
          rfl
      · show own_F p e below s Z _ _ _ _ _ (T3.setTop (mkF m 68 #[.val (.int p0), .val (.int p1), .val (.int p2), .val (.int p3), .val (.int p1), .val (.ref b2), .val (.int (p2 &&& (7 : Int32))), .unset, .unset, .unset] []))
        refine own_F.of (fun _ => XS.iconst S3.here S3.hx rfl (S3.dec at_68)) ?_
        show own_F p e below s Z _ _ _ _ _ (T3.setTop (mkF m 69 #[.val (.int p0), .val (.int p1), .val (.int p2), .val (.int p3), .val (.int p1), .val (.ref b2), .val (.int (p2 &&& (7 : Int32))), .unset, .unset, .unset] [(.int (2 : Int32))]))
        refine own_newP S3 (own_w hw 61 rfl) at_69 (by decide) (cap := 2) (by decide) (by decide) (by decide) (by decide) (fun T47 h47 b47 g47 S47 E47 A47 => ?_)
        have V48 : own_A Z h47 b47 .char [(.int (0 : Int32)), (.int (0 : Int32))] := A47
        show own_F p e below s Z _ _ _ _ _ (T47.setTop (mkF m 71 #[.val (.int p0), .val (.int p1), .val (.int p2), .val (.int p3), .val (.int p1), .val (.ref b2), .val (.int (p2 &&& (7 : Int32))), .unset, .unset, .unset] [(.ref b47)]))
        refine own_F.of (fun _ => XS.dup S47.here S47.hx rfl (S47.dec at_71) rfl rfl) ?_
        show own_F p e below s Z _ _ _ _ _ (T47.setTop (mkF m 72 #[.val (.int p0), .val (.int p1), .val (.int p2), .val (.int p3), .val (.int p1), .val (.ref b2), .val (.int (p2 &&& (7 : Int32))), .unset, .unset, .unset] [(.ref b47), (.ref b47)]))
        refine own_F.of (fun _ => XS.iconst S47.here S47.hx rfl (S47.dec at_72)) ?_
        show own_F p e below s Z _ _ _ _ _ (T47.setTop (mkF m 73 #[.val (.int p0), .val (.int p1), .val (.int p2), .val (.int p3), .val (.int p1), .val (.ref b2), .val (.int (p2 &&& (7 : Int32))), .unset, .unset, .unset] [(.int (0 : Int32)), (.ref b47), (.ref b47)]))
        refine own_F.of (fun _ => XS.iloadN S47.here S47.hx rfl (S47.dec at_73) rfl) ?_
        show own_F p e below s Z _ _ _ _ _ (T47.setTop (mkF m 74 #[.val (.int p0), .val (.int p1), .val (.int p2), .val (.int p3), .val (.int p1), .val (.ref b2), .val (.int (p2 &&& (7 : Int32))), .unset, .unset, .unset] [(.int p3), (.int (0 : Int32)), (.ref b47), (.ref b47)]))
        refine own_F.of (fun _ => XS.sipush S47.here S47.hx rfl (S47.dec at_74)) ?_
        show own_F p e below s Z _ _ _ _ _ (T47.setTop (mkF m 77 #[.val (.int p0), .val (.int p1), .val (.int p2), .val (.int p3), .val (.int p1), .val (.ref b2), .val (.int (p2 &&& (7 : Int32))), .unset, .unset, .unset] [(.int (255 : Int32)), (.int p3), (.int (0 : Int32)), (.ref b47), (.ref b47)]))
        refine own_F.of (fun _ => XS.iand S47.here S47.hx rfl (S47.dec at_77) rfl) ?_
        show own_F p e below s Z _ _ _ _ _ (T47.setTop (mkF m 78 #[.val (.int p0), .val (.int p1), .val (.int p2), .val (.int p3), .val (.int p1), .val (.ref b2), .val (.int (p2 &&& (7 : Int32))), .unset, .unset, .unset] [(.int (p3 &&& (255 : Int32))), (.int (0 : Int32)), (.ref b47), (.ref b47)]))
        refine own_F.of (fun _ => XS.i2c S47.here S47.hx rfl (S47.dec at_78) rfl) ?_
        show own_F p e below s Z _ _ _ _ _ (T47.setTop (mkF m 79 #[.val (.int p0), .val (.int p1), .val (.int p2), .val (.int p3), .val (.int p1), .val (.ref b2), .val (.int (p2 &&& (7 : Int32))), .unset, .unset, .unset] [(.int ((p3 &&& (255 : Int32)).toUInt32.toUInt16.toUInt32.toInt32)), (.int (0 : Int32)), (.ref b47), (.ref b47)]))
        refine own_cst S47 V48 (by decide) (Nat.le_of_ble_eq_true rfl) at_79 (Or.inr (by rw [g47]; exact S3.size)) (fun T49 h49 S49 W49 A49 => ?_)
        have V50 : own_A Z h49 b47 .char [(.int (nar .char ((p3 &&& (255 : Int32)).toUInt32.toUInt16.toUInt32.toInt32))), (.int (0 : Int32))] := A49
        show own_F p e below s Z _ _ _ _ _ (T49.setTop (mkF m 80 #[.val (.int p0), .val (.int p1), .val (.int p2), .val (.int p3), .val (.int p1), .val (.ref b2), .val (.int (p2 &&& (7 : Int32))), .unset, .unset, .unset] [(.ref b47)]))
        refine own_F.of (fun _ => XS.dup S49.here S49.hx rfl (S49.dec at_80) rfl rfl) ?_
        show own_F p e below s Z _ _ _ _ _ (T49.setTop (mkF m 81 #[.val (.int p0), .val (.int p1), .val (.int p2), .val (.int p3), .val (.int p1), .val (.ref b2), .val (.int (p2 &&& (7 : Int32))), .unset, .unset, .unset] [(.ref b47), (.ref b47)]))
        refine own_F.of (fun _ => XS.iconst S49.here S49.hx rfl (S49.dec at_81)) ?_
        show own_F p e below s Z _ _ _ _ _ (T49.setTop (mkF m 82 #[.val (.int p0), .val (.int p1), .val (.int p2), .val (.int p3), .val (.int p1), .val (.ref b2), .val (.int (p2 &&& (7 : Int32))), .unset, .unset, .unset] [(.int (1 : Int32)), (.ref b47), (.ref b47)]))
        refine own_F.of (fun _ => XS.iloadN S49.here S49.hx rfl (S49.dec at_82) rfl) ?_
        show own_F p e below s Z _ _ _ _ _ (T49.setTop (mkF m 83 #[.val (.int p0), .val (.int p1), .val (.int p2), .val (.int p3), .val (.int p1), .val (.ref b2), .val (.int (p2 &&& (7 : Int32))), .unset, .unset, .unset] [(.int p3), (.int (1 : Int32)), (.ref b47), (.ref b47)]))
        refine own_F.of (fun _ => XS.bipush S49.here S49.hx rfl (S49.dec at_83)) ?_
        show own_F p e below s Z _ _ _ _ _ (T49.setTop (mkF m 85 #[.val (.int p0), .val (.int p1), .val (.int p2), .val (.int p3), .val (.int p1), .val (.ref b2), .val (.int (p2 &&& (7 : Int32))), .unset, .unset, .unset] [(.int (8 : Int32)), (.int p3), (.int (1 : Int32)), (.ref b47), (.ref b47)]))
        refine own_F.of (fun _ => XS.iushr S49.here S49.hx rfl (S49.dec at_85) rfl) ?_
        show own_F p e below s Z _ _ _ _ _ (T49.setTop (mkF m 86 #[.val (.int p0), .val (.int p1), .val (.int p2), .val (.int p3), .val (.int p1), .val (.ref b2), .val (.int (p2 &&& (7 : Int32))), .unset, .unset, .unset] [(.int ((p3.toUInt32 >>> ((8 : Int32) &&& 31).toUInt32).toInt32)), (.int (1 : Int32)), (.ref b47), (.ref b47)]))
        refine own_F.of (fun _ => XS.sipush S49.here S49.hx rfl (S49.dec at_86)) ?_
        show own_F p e below s Z _ _ _ _ _ (T49.setTop (mkF m 89 #[.val (.int p0), .val (.int p1), .val (.int p2), .val (.int p3), .val (.int p1), .val (.ref b2), .val (.int (p2 &&& (7 : Int32))), .unset, .unset, .unset] [(.int (255 : Int32)), (.int ((p3.toUInt32 >>> ((8 : Int32) &&& 31).toUInt32).toInt32)), (.int (1 : Int32)), (.ref b47), (.ref b47)]))
        refine own_F.of (fun _ => XS.iand S49.here S49.hx rfl (S49.dec at_89) rfl) ?_
        show own_F p e below s Z _ _ _ _ _ (T49.setTop (mkF m 90 #[.val (.int p0), .val (.int p1), .val (.int p2), .val (.int p3), .val (.int p1), .val (.ref b2), .val (.int (p2 &&& (7 : Int32))), .unset, .unset, .unset] [(.int (((p3.toUInt32 >>> ((8 : Int32) &&& 31).toUInt32).toInt32) &&& (255 : Int32))), (.int (1 : Int32)), (.ref b47), (.ref b47)]))
        refine own_F.of (fun _ => XS.i2c S49.here S49.hx rfl (S49.dec at_90) rfl) ?_
        show own_F p e below s Z _ _ _ _ _ (T49.setTop (mkF m 91 #[.val (.int p0), .val (.int p1), .val (.int p2), .val (.int p3), .val (.int p1), .val (.ref b2), .val (.int (p2 &&& (7 : Int32))), .unset, .unset, .unset] [(.int ((((p3.toUInt32 >>> ((8 : Int32) &&& 31).toUInt32).toInt32) &&& (255 : Int32)).toUInt32.toUInt16.toUInt32.toInt32)), (.int (1 : Int32)), (.ref b47), (.ref b47)]))
        refine own_cst S49 V50 (by decide) (Nat.le_of_ble_eq_true rfl) at_91 (Or.inr (by rw [g47]; exact S3.size)) (fun T51 h51 S51 W51 A51 => ?_)
        have V52 : own_A Z h51 b47 .char [(.int (nar .char ((p3 &&& (255 : Int32)).toUInt32.toUInt16.toUInt32.toInt32))), (.int (nar .char ((((p3.toUInt32 >>> ((8 : Int32) &&& 31).toUInt32).toInt32) &&& (255 : Int32)).toUInt32.toUInt16.toUInt32.toInt32)))] := A51
        show own_F p e below s Z _ _ _ _ _ (T51.setTop (mkF m 92 #[.val (.int p0), .val (.int p1), .val (.int p2), .val (.int p3), .val (.int p1), .val (.ref b2), .val (.int (p2 &&& (7 : Int32))), .unset, .unset, .unset] [(.ref b47)]))
        refine own_F.of (fun _ => XS.astore S51.here S51.hx rfl (S51.dec at_92) rfl rfl (l' := #[.val (.int p0), .val (.int p1), .val (.int p2), .val (.int p3), .val (.int p1), .val (.ref b2), .val (.int (p2 &&& (7 : Int32))), .unset, .unset, .val (.ref b47)]) rfl) ?_
        show own_F p e below s Z _ _ _ _ _ (T51.setTop (mkF m 94 #[.val (.int p0), .val (.int p1), .val (.int p2), .val (.int p3), .val (.int p1), .val (.ref b2), .val (.int (p2 &&& (7 : Int32))), .unset, .unset, .val (.ref b47)] []))
        refine own_new S51 (own_w hw 62 rfl) (own_w hw 63 rfl) (own_w hw 64 rfl) at_94 (by decide) (by decide) (fun T53 h53 b53 g53 S53 E53 A53 D53 => ?_)
        have F53_coder : Fld Z h53 b53 "java/lang/String" "coder" "B" (.int (0 : Int32)) := (D53 (Or.inr (own_w hw 86 rfl)) (ty := .byte) (by decide))
        have F53_value : Fld Z h53 b53 "java/lang/String" "value" "[B" .null := (D53 (Or.inr (own_w hw 88 rfl)) (ty := (.array .byte)) (by decide))
        show own_F p e below s Z _ _ _ _ _ (T53.setTop (mkF m 97 #[.val (.int p0), .val (.int p1), .val (.int p2), .val (.int p3), .val (.int p1), .val (.ref b2), .val (.int (p2 &&& (7 : Int32))), .unset, .unset, .val (.ref b47)] [(.ref b53)]))
        refine own_F.of (fun _ => XS.dup S53.here S53.hx rfl (S53.dec at_97) rfl rfl) ?_
        show own_F p e below s Z _ _ _ _ _ (T53.setTop (mkF m 98 #[.val (.int p0), .val (.int p1), .val (.int p2), .val (.int p3), .val (.int p1), .val (.ref b2), .val (.int (p2 &&& (7 : Int32))), .unset, .unset, .val (.ref b47)] [(.ref b53), (.ref b53)]))
        refine own_F.of (fun _ => XS.aload S53.here S53.hx rfl (S53.dec at_98) rfl rfl) ?_
        show own_F p e below s Z _ _ _ _ _ (T53.setTop (mkF m 100 #[.val (.int p0), .val (.int p1), .val (.int p2), .val (.int p3), .val (.int p1), .val (.ref b2), .val (.int (p2 &&& (7 : Int32))), .unset, .unset, .val (.ref b47)] [(.ref b47), (.ref b53), (.ref b53)]))
        have f54 := (V52.ext E53)
        refine own_callI S53 (y := (⟨"java/lang/String", "<init>", "([C)V"⟩ : MethodName)) rfl (own_w hw 65 rfl) (own_w hw 66 rfl) (own_w hw 64 rfl) (own_w hw 67 rfl) (by decide) (argsL := [(.ref b47)]) (rest := [(.ref b53)]) (own_strC2 l Z a0 hw b53 b47 (nar .char ((p3 &&& (255 : Int32)).toUInt32.toUInt16.toUInt32.toInt32)) (nar .char ((((p3.toUInt32 >>> ((8 : Int32) &&& 31).toUInt32).toInt32) &&& (255 : Int32)).toUInt32.toUInt16.toUInt32.toInt32)) zc h53 S53.old SZ hz (own_m255 _).1 (own_m255 _).1 (own_mayN S53 (Or.inr (by rw [g53]; exact S51.size))) A53 F53_value F53_coder f54) (allS (Or.inr (by rw [g53]; exact S51.size)) all0) (by decide +kernel : parseMethodDescriptor "([C)V" = some ⟨[(.array .char)], none⟩) rfl rfl rfl at_100 (by decide) (Nat.le_of_ble_eq_true rfl) (by decide) (by decide) (fun T55 h55 v55 S55 K55 q55 => ?_)
        obtain ⟨rfl, -⟩ := q55
        show own_F p e below s Z _ _ _ _ _ (T55.setTop (mkF m 103 #[.val (.int p0), .val (.int p1), .val (.int p2), .val (.int p3), .val (.int p1), .val (.ref b2), .val (.int (p2 &&& (7 : Int32))), .unset, .unset, .val (.ref b47)] [(.ref b53)]))
        refine own_F.of (fun _ => XS.iload S55.here S55.hx rfl (S55.dec at_103) rfl) ?_
        show own_F p e below s Z _ _ _ _ _ (T55.setTop (mkF m 105 #[.val (.int p0), .val (.int p1), .val (.int p2), .val (.int p3), .val (.int p1), .val (.ref b2), .val (.int (p2 &&& (7 : Int32))), .unset, .unset, .val (.ref b47)] [(.int p1), (.ref b53)]))
        refine own_callS S55 (y := (⟨"com/example/manysort/manysort/language/NaturalNumber", "aboveMaxint", "(Ljava/lang/String;I)Lcom/example/manysort/manysort/language/NaturalNumber;"⟩ : MethodName)) (own_w hw 89 rfl) (own_w hw 90 rfl) (own_w hw 2 rfl) (own_w hw 91 rfl) (by decide) (argsL := [(.ref b53), (.int p1)]) (rest := []) (own_above l Z a0 hw b53 p1 h55 S55.old) all0 (by decide +kernel : parseMethodDescriptor "(Ljava/lang/String;I)Lcom/example/manysort/manysort/language/NaturalNumber;" = some ⟨[(.object "java/lang/String"), .int], some (.object "com/example/manysort/manysort/language/NaturalNumber")⟩) rfl rfl rfl at_105 (by decide) (Nat.le_of_ble_eq_true rfl) (by decide) (by decide) (fun T56 h56 v56 S56 K56 q56 => ?_)
        obtain ⟨b56, rfl, X56, F56⟩ := q56
        show own_F p e below s Z _ _ _ _ _ (T56.setTop (mkF m 108 #[.val (.int p0), .val (.int p1), .val (.int p2), .val (.int p3), .val (.int p1), .val (.ref b2), .val (.int (p2 &&& (7 : Int32))), .unset, .unset, .val (.ref b47)] [(.ref b56)]))
        refine own_F.of (fun _ => XS.astore S56.here S56.hx rfl (S56.dec at_108) rfl rfl (l' := #[.val (.int p0), .val (.int p1), .val (.int p2), .val (.int p3), .val (.int p1), .val (.ref b2), .val (.int (p2 &&& (7 : Int32))), .val (.ref b56), .unset, .val (.ref b47)]) rfl) ?_
        show own_F p e below s Z _ _ _ _ _ (T56.setTop (mkF m 110 #[.val (.int p0), .val (.int p1), .val (.int p2), .val (.int p3), .val (.int p1), .val (.ref b2), .val (.int (p2 &&& (7 : Int32))), .val (.ref b56), .unset, .val (.ref b47)] []))
        refine own_F.of (fun _ => XS.iloadN S56.here S56.hx rfl (S56.dec at_110) rfl) ?_
        show own_F p e below s Z _ _ _ _ _ (T56.setTop (mkF m 111 #[.val (.int p0), .val (.int p1), .val (.int p2), .val (.int p3), .val (.int p1), .val (.ref b2), .val (.int (p2 &&& (7 : Int32))), .val (.ref b56), .unset, .val (.ref b47)] [(.int p0)]))
        refine own_F.of (fun _ => XS.iload S56.here S56.hx rfl (S56.dec at_111) rfl) ?_
        show own_F p e below s Z _ _ _ _ _ (T56.setTop (mkF m 113 #[.val (.int p0), .val (.int p1), .val (.int p2), .val (.int p3), .val (.int p1), .val (.ref b2), .val (.int (p2 &&& (7 : Int32))), .val (.ref b56), .unset, .val (.ref b47)] [(.int p1), (.int p0)]))
        refine own_icmp S56 120 at_113 (by decide) (by decide) (fun (hc113_57 : ¬ (p0 = p1)) => ?_) (fun (hc113_57 : p0 = p1) => ?_)
        · show own_F p e below s Z _ _ _ _ _ (T56.setTop (mkF m 120 #[.val (.int p0), .val (.int p1), .val (.int p2), .val (.int p3), .val (.int p1), .val (.ref b2), .val (.int (p2 &&& (7 : Int32))), .val (.ref b56), .unset, .val (.ref b47)] []))
          refine own_F.of (fun _ => XS.iconst S56.here S56.hx rfl (S56.dec at_120)) ?_
          show own_F p e below s Z _ _ _ _ _ (T56.setTop (mkF m 121 #[.val (.int p0), .val (.int p1), .val (.int p2), .val (.int p3), .val (.int p1), .val (.ref b2), .val (.int (p2 &&& (7 : Int32))), .val (.ref b56), .unset, .val (.ref b47)] [(.int (0 : Int32))]))
          refine own_F.of (fun _ => XS.istore S56.here S56.hx rfl (S56.dec at_121) rfl (l' := #[.val (.int p0), .val (.int p1), .val (.int p2), .val (.int p3), .val (.int p1), .val (.ref b2), .val (.int (p2 &&& (7 : Int32))), .val (.ref b56), .val (.int (0 : Int32)), .val (.ref b47)]) rfl) ?_
          show own_F p e below s Z _ _ _ _ _ (T56.setTop (mkF m 123 #[.val (.int p0), .val (.int p1), .val (.int p2), .val (.int p3), .val (.int p1), .val (.ref b2), .val (.int (p2 &&& (7 : Int32))), .val (.ref b56), .val (.int (0 : Int32)), .val (.ref b47)] []))
          refine own_F.of (fun _ => XS.goto S56.here S56.hx rfl (pc0 := 123) (pc' := 246) rfl (S56.dec at_123) (by decide) (by decide)) ?_
          show own_F p e below s Z _ _ _ _ _ (T56.setTop (mkF m 246 #[.val (.int p0), .val (.int p1), .val (.int p2), .val (.int p3), .val (.int p1), .val (.ref b2), .val (.int (p2 &&& (7 : Int32))), .val (.ref b56), .val (.int (0 : Int32)), .val (.ref b47)] []))
          refine own_F.of (fun _ => XS.aload S56.here S56.hx rfl (S56.dec at_246) rfl rfl) ?_
          show own_F p e below s Z _ _ _ _ _ (T56.setTop (mkF m 248 #[.val (.int p0), .val (.int p1), .val (.int p2), .val (.int p3), .val (.int p1), .val (.ref b2), .val (.int (p2 &&& (7 : Int32))), .val (.ref b56), .val (.int (0 : Int32)), .val (.ref b47)] [(.ref b2)]))
          refine own_F.of (fun _ => XS.aload S56.here S56.hx rfl (S56.dec at_248) rfl rfl) ?_
          show own_F p e below s Z _ _ _ _ _ (T56.setTop (mkF m 250 #[.val (.int p0), .val (.int p1), .val (.int p2), .val (.int p3), .val (.int p1), .val (.ref b2), .val (.int (p2 &&& (7 : Int32))), .val (.ref b56), .val (.int (0 : Int32)), .val (.ref b47)] [(.ref b56), (.ref b2)]))
          have f58 := ((((((F3.ext E47).other W49 (Or.inl (Nat.ne_of_lt (by rw [g47]; exact ((A2.keep K3)).lt)))).other W51 (Or.inl (Nat.ne_of_lt (by rw [g47]; exact ((A2.keep K3)).lt)))).ext E53).keep K55 (ninS (Nat.ne_of_lt (by rw [g53]; exact (((((A2.keep K3).ext E47).wr W49).wr W51)).lt)) nin0)).keep K56 nin0)
          have f60 := (((((((A2.keep K3).ext E47).wr W49).wr W51).ext E53).keep K55).keep K56)
          refine own_callV S56 (y := (⟨"com/example/manysort/manysort/language/NaturalNumber", "equals", "(Ljava/lang/Object;)Z"⟩ : MethodName)) (y' := (⟨"com/example/manysort/manysort/language/NaturalNumber", "equals", "(Ljava/lang/Object;)Z"⟩ : MethodName)) (own_w hw 21 rfl) (own_w hw 22 rfl) (own_nf S56 (own_w hw 24 rfl)) (own_w hw 24 rfl) (own_w hw 23 rfl) (own_w hw 25 rfl) (own_w hw 2 rfl) (by decide) f60 (argsL := [(.ref b56)]) (rest := []) (own_eqN l Z a0 hw b2 b56 p0 p1 h56 S56.old f58 X56 F56) all0 (by decide +kernel : parseMethodDescriptor "(Ljava/lang/Object;)Z" = some ⟨[(.object "java/lang/Object")], some .boolean⟩) rfl rfl rfl at_250 (by decide) (Nat.le_of_ble_eq_true rfl) (by decide) (by decide) (fun T59 h59 v59 S59 K59 q59 => ?_)
          obtain ⟨rfl, rfl⟩ := q59
          show own_F p e below s Z _ _ _ _ _ (T59.setTop (mkF m 253 #[.val (.int p0), .val (.int p1), .val (.int p2), .val (.int p3), .val (.int p1), .val (.ref b2), .val (.int (p2 &&& (7 : Int32))), .val (.ref b56), .val (.int (0 : Int32)), .val (.ref b47)] [(.int (own_eq p1 p0))]))
          refine own_F.of (fun _ => XS.iload S59.here S59.hx rfl (S59.dec at_253) rfl) ?_
          show own_F p e below s Z _ _ _ _ _ (T59.setTop (mkF m 255 #[.val (.int p0), .val (.int p1), .val (.int p2), .val (.int p3), .val (.int p1), .val (.ref b2), .val (.int (p2 &&& (7 : Int32))), .val (.ref b56), .val (.int (0 : Int32)), .val (.ref b47)] [(.int (0 : Int32)), (.int (own_eq p1 p0))]))
          refine own_icmp S59 262 at_255 (by decide) (by decide) (fun (hc255_61 : ¬ ((own_eq p1 p0) = (0 : Int32))) => False.elim (hc255_61 (by simp [own_eq, hc113_57, eq_comm]))) (fun (hc255_61 : (own_eq p1 p0) = (0 : Int32)) => ?_)
          show own_F p e below s Z _ _ _ _ _ (T59.setTop (mkF m 258 #[.val (.int p0), .val (.int p1), .val (.int p2), .val (.int p3), .val (.int p1), .val (.ref b2), .val (.int (p2 &&& (7 : Int32))), .val (.ref b56), .val (.int (0 : Int32)), .val (.ref b47)] []))
          refine own_F.of (fun _ => XS.iconst S59.here S59.hx rfl (S59.dec at_258)) ?_
          show own_F p e below s Z _ _ _ _ _ (T59.setTop (mkF m 259 #[.val (.int p0), .val (.int p1), .val (.int p2), .val (.int p3), .val (.int p1), .val (.ref b2), .val (.int (p2 &&& (7 : Int32))), .val (.ref b56), .val (.int (0 : Int32)), .val (.ref b47)] [(.int (1 : Int32))]))
          refine own_F.of (fun _ => XS.goto S59.here S59.hx rfl (pc0 := 259) (pc' := 263) rfl (S59.dec at_259) (by decide) (by decide)) ?_
          show own_F p e below s Z _ _ _ _ _ (T59.setTop (mkF m 263 #[.val (.int p0), .val (.int p1), .val (.int p2), .val (.int p3), .val (.int p1), .val (.ref b2), .val (.int (p2 &&& (7 : Int32))), .val (.ref b56), .val (.int (0 : Int32)), .val (.ref b47)] [(.int (1 : Int32))]))
          refine own_retZ S59 (by simp) at_263 (by decide) (by decide) ?_
          rfl
        · show own_F p e below s Z _ _ _ _ _ (T56.setTop (mkF m 116 #[.val (.int p0), .val (.int p1), .val (.int p2), .val (.int p3), .val (.int p1), .val (.ref b2), .val (.int (p2 &&& (7 : Int32))), .val (.ref b56), .unset, .val (.ref b47)] []))
          refine own_F.of (fun _ => XS.iconst S56.here S56.hx rfl (S56.dec at_116)) ?_
          show own_F p e below s Z _ _ _ _ _ (T56.setTop (mkF m 117 #[.val (.int p0), .val (.int p1), .val (.int p2), .val (.int p3), .val (.int p1), .val (.ref b2), .val (.int (p2 &&& (7 : Int32))), .val (.ref b56), .unset, .val (.ref b47)] [(.int (1 : Int32))]))
          refine own_F.of (fun _ => XS.goto S56.here S56.hx rfl (pc0 := 117) (pc' := 121) rfl (S56.dec at_117) (by decide) (by decide)) ?_
          show own_F p e below s Z _ _ _ _ _ (T56.setTop (mkF m 121 #[.val (.int p0), .val (.int p1), .val (.int p2), .val (.int p3), .val (.int p1), .val (.ref b2), .val (.int (p2 &&& (7 : Int32))), .val (.ref b56), .unset, .val (.ref b47)] [(.int (1 : Int32))]))
          refine own_F.of (fun _ => XS.istore S56.here S56.hx rfl (S56.dec at_121) rfl (l' := #[.val (.int p0), .val (.int p1), .val (.int p2), .val (.int p3), .val (.int p1), .val (.ref b2), .val (.int (p2 &&& (7 : Int32))), .val (.ref b56), .val (.int (1 : Int32)), .val (.ref b47)]) rfl) ?_
          show own_F p e below s Z _ _ _ _ _ (T56.setTop (mkF m 123 #[.val (.int p0), .val (.int p1), .val (.int p2), .val (.int p3), .val (.int p1), .val (.ref b2), .val (.int (p2 &&& (7 : Int32))), .val (.ref b56), .val (.int (1 : Int32)), .val (.ref b47)] []))
          refine own_F.of (fun _ => XS.goto S56.here S56.hx rfl (pc0 := 123) (pc' := 246) rfl (S56.dec at_123) (by decide) (by decide)) ?_
          show own_F p e below s Z _ _ _ _ _ (T56.setTop (mkF m 246 #[.val (.int p0), .val (.int p1), .val (.int p2), .val (.int p3), .val (.int p1), .val (.ref b2), .val (.int (p2 &&& (7 : Int32))), .val (.ref b56), .val (.int (1 : Int32)), .val (.ref b47)] []))
          refine own_F.of (fun _ => XS.aload S56.here S56.hx rfl (S56.dec at_246) rfl rfl) ?_
          show own_F p e below s Z _ _ _ _ _ (T56.setTop (mkF m 248 #[.val (.int p0), .val (.int p1), .val (.int p2), .val (.int p3), .val (.int p1), .val (.ref b2), .val (.int (p2 &&& (7 : Int32))), .val (.ref b56), .val (.int (1 : Int32)), .val (.ref b47)] [(.ref b2)]))
          refine own_F.of (fun _ => XS.aload S56.here S56.hx rfl (S56.dec at_248) rfl rfl) ?_
          show own_F p e below s Z _ _ _ _ _ (T56.setTop (mkF m 250 #[.val (.int p0), .val (.int p1), .val (.int p2), .val (.int p3), .val (.int p1), .val (.ref b2), .val (.int (p2 &&& (7 : Int32))), .val (.ref b56), .val (.int (1 : Int32)), .val (.ref b47)] [(.ref b56), (.ref b2)]))
          have f62 := ((((((F3.ext E47).other W49 (Or.inl (Nat.ne_of_lt (by rw [g47]; exact ((A2.keep K3)).lt)))).other W51 (Or.inl (Nat.ne_of_lt (by rw [g47]; exact ((A2.keep K3)).lt)))).ext E53).keep K55 (ninS (Nat.ne_of_lt (by rw [g53]; exact (((((A2.keep K3).ext E47).wr W49).wr W51)).lt)) nin0)).keep K56 nin0)
          have f64 := (((((((A2.keep K3).ext E47).wr W49).wr W51).ext E53).keep K55).keep K56)
          refine own_callV S56 (y := (⟨"com/example/manysort/manysort/language/NaturalNumber", "equals", "(Ljava/lang/Object;)Z"⟩ : MethodName)) (y' := (⟨"com/example/manysort/manysort/language/NaturalNumber", "equals", "(Ljava/lang/Object;)Z"⟩ : MethodName)) (own_w hw 21 rfl) (own_w hw 22 rfl) (own_nf S56 (own_w hw 24 rfl)) (own_w hw 24 rfl) (own_w hw 23 rfl) (own_w hw 25 rfl) (own_w hw 2 rfl) (by decide) f64 (argsL := [(.ref b56)]) (rest := []) (own_eqN l Z a0 hw b2 b56 p0 p1 h56 S56.old f62 X56 F56) all0 (by decide +kernel : parseMethodDescriptor "(Ljava/lang/Object;)Z" = some ⟨[(.object "java/lang/Object")], some .boolean⟩) rfl rfl rfl at_250 (by decide) (Nat.le_of_ble_eq_true rfl) (by decide) (by decide) (fun T63 h63 v63 S63 K63 q63 => ?_)
          obtain ⟨rfl, rfl⟩ := q63
          show own_F p e below s Z _ _ _ _ _ (T63.setTop (mkF m 253 #[.val (.int p0), .val (.int p1), .val (.int p2), .val (.int p3), .val (.int p1), .val (.ref b2), .val (.int (p2 &&& (7 : Int32))), .val (.ref b56), .val (.int (1 : Int32)), .val (.ref b47)] [(.int (own_eq p1 p0))]))
          refine own_F.of (fun _ => XS.iload S63.here S63.hx rfl (S63.dec at_253) rfl) ?_
          show own_F p e below s Z _ _ _ _ _ (T63.setTop (mkF m 255 #[.val (.int p0), .val (.int p1), .val (.int p2), .val (.int p3), .val (.int p1), .val (.ref b2), .val (.int (p2 &&& (7 : Int32))), .val (.ref b56), .val (.int (1 : Int32)), .val (.ref b47)] [(.int (1 : Int32)), (.int (own_eq p1 p0))]))
          refine own_icmp S63 262 at_255 (by decide) (by decide) (fun (hc255_65 : ¬ ((own_eq p1 p0) = (1 : Int32))) => False.elim (hc255_65 (by simp [own_eq, hc113_57, eq_comm]))) (fun (hc255_65 : (own_eq p1 p0) = (1 : Int32)) => ?_)
          show own_F p e below s Z _ _ _ _ _ (T63.setTop (mkF m 258 #[.val (.int p0), .val (.int p1), .val (.int p2), .val (.int p3), .val (.int p1), .val (.ref b2), .val (.int (p2 &&& (7 : Int32))), .val (.ref b56), .val (.int (1 : Int32)), .val (.ref b47)] []))
          refine own_F.of (fun _ => XS.iconst S63.here S63.hx rfl (S63.dec at_258)) ?_
          show own_F p e below s Z _ _ _ _ _ (T63.setTop (mkF m 259 #[.val (.int p0), .val (.int p1), .val (.int p2), .val (.int p3), .val (.int p1), .val (.ref b2), .val (.int (p2 &&& (7 : Int32))), .val (.ref b56), .val (.int (1 : Int32)), .val (.ref b47)] [(.int (1 : Int32))]))
          refine own_F.of (fun _ => XS.goto S63.here S63.hx rfl (pc0 := 259) (pc' := 263) rfl (S63.dec at_259) (by decide) (by decide)) ?_
          show own_F p e below s Z _ _ _ _ _ (T63.setTop (mkF m 263 #[.val (.int p0), .val (.int p1), .val (.int p2), .val (.int p3), .val (.int p1), .val (.ref b2), .val (.int (p2 &&& (7 : Int32))), .val (.ref b56), .val (.int (1 : Int32)), .val (.ref b47)] [(.int (1 : Int32))]))
          refine own_retZ S63 (by simp) at_263 (by decide) (by decide) ?_
          rfl
    · show own_F p e below s Z _ _ _ _ _ (T3.setTop (mkF m 35 #[.val (.int p0), .val (.int p1), .val (.int p2), .val (.int p3), .val (.int p1), .val (.ref b2), .val (.int (p2 &&& (7 : Int32))), .unset, .unset, .unset] []))
      refine own_new S3 (own_w hw 0 rfl) (own_w hw 1 rfl) (own_w hw 2 rfl) at_35 (by decide) (by decide) (fun T66 h66 b66 g66 S66 E66 A66 D66 => ?_)
      have F66_value : Fld Z h66 b66 "com/example/manysort/manysort/language/NaturalNumber" "value" "I" (.int (0 : Int32)) := (D66 (Or.inr (own_w hw 18 rfl)) (ty := .int) (by decide))
      have F66_written : Fld Z h66 b66 "com/example/manysort/manysort/language/NaturalNumber" "written" "Ljava/lang/String;" .null := (D66 (Or.inr (own_w hw 20 rfl)) (ty := (.object "java/lang/String")) (by decide))
      show own_F p e below s Z _ _ _ _ _ (T66.setTop (mkF m 38 #[.val (.int p0), .val (.int p1), .val (.int p2), .val (.int p3), .val (.int p1), .val (.ref b2), .val (.int (p2 &&& (7 : Int32))), .unset, .unset, .unset] [(.ref b66)]))
      refine own_F.of (fun _ => XS.dup S66.here S66.hx rfl (S66.dec at_38) rfl rfl) ?_
      show own_F p e below s Z _ _ _ _ _ (T66.setTop (mkF m 39 #[.val (.int p0), .val (.int p1), .val (.int p2), .val (.int p3), .val (.int p1), .val (.ref b2), .val (.int (p2 &&& (7 : Int32))), .unset, .unset, .unset] [(.ref b66), (.ref b66)]))
      refine own_F.of (fun _ => XS.iload S66.here S66.hx rfl (S66.dec at_39) rfl) ?_
      show own_F p e below s Z _ _ _ _ _ (T66.setTop (mkF m 41 #[.val (.int p0), .val (.int p1), .val (.int p2), .val (.int p3), .val (.int p1), .val (.ref b2), .val (.int (p2 &&& (7 : Int32))), .unset, .unset, .unset] [(.int p1), (.ref b66), (.ref b66)]))
      refine own_callI S66 (y := (⟨"com/example/manysort/manysort/language/NaturalNumber", "<init>", "(I)V"⟩ : MethodName)) rfl (own_w hw 3 rfl) (own_w hw 4 rfl) (own_w hw 2 rfl) (own_w hw 5 rfl) (by decide) (argsL := [(.int p1)]) (rest := [(.ref b66)]) (own_NN1 l Z a0 hw b66 p1 h66 S66.old (own_mayN S66 (Or.inr (by rw [g66]; exact S3.size))) A66 F66_value F66_written) (allS (Or.inr (by rw [g66]; exact S3.size)) all0) (by decide +kernel : parseMethodDescriptor "(I)V" = some ⟨[.int], none⟩) rfl rfl rfl at_41 (by decide) (Nat.le_of_ble_eq_true rfl) (by decide) (by decide) (fun T67 h67 v67 S67 K67 q67 => ?_)
      obtain ⟨rfl, F67⟩ := q67
      show own_F p e below s Z _ _ _ _ _ (T67.setTop (mkF m 44 #[.val (.int p0), .val (.int p1), .val (.int p2), .val (.int p3), .val (.int p1), .val (.ref b2), .val (.int (p2 &&& (7 : Int32))), .unset, .unset, .unset] [(.ref b66)]))
      refine own_F.of (fun _ => XS.astore S67.here S67.hx rfl (S67.dec at_44) rfl rfl (l' := #[.val (.int p0), .val (.int p1), .val (.int p2), .val (.int p3), .val (.int p1), .val (.ref b2), .val (.int (p2 &&& (7 : Int32))), .val (.ref b66), .unset, .unset]) rfl) ?_
      show own_F p e below s Z _ _ _ _ _ (T67.setTop (mkF m 46 #[.val (.int p0), .val (.int p1), .val (.int p2), .val (.int p3), .val (.int p1), .val (.ref b2), .val (.int (p2 &&& (7 : Int32))), .val (.ref b66), .unset, .unset] []))
      refine own_F.of (fun _ => XS.iloadN S67.here S67.hx rfl (S67.dec at_46) rfl) ?_
      show own_F p e below s Z _ _ _ _ _ (T67.setTop (mkF m 47 #[.val (.int p0), .val (.int p1), .val (.int p2), .val (.int p3), .val (.int p1), .val (.ref b2), .val (.int (p2 &&& (7 : Int32))), .val (.ref b66), .unset, .unset] [(.int p0)]))
      refine own_F.of (fun _ => XS.iload S67.here S67.hx rfl (S67.dec at_47) rfl) ?_
      show own_F p e below s Z _ _ _ _ _ (T67.setTop (mkF m 49 #[.val (.int p0), .val (.int p1), .val (.int p2), .val (.int p3), .val (.int p1), .val (.ref b2), .val (.int (p2 &&& (7 : Int32))), .val (.ref b66), .unset, .unset] [(.int p1), (.int p0)]))
      refine own_icmp S67 56 at_49 (by decide) (by decide) (fun (hc49_68 : ¬ (p0 = p1)) => ?_) (fun (hc49_68 : p0 = p1) => ?_)
      · show own_F p e below s Z _ _ _ _ _ (T67.setTop (mkF m 56 #[.val (.int p0), .val (.int p1), .val (.int p2), .val (.int p3), .val (.int p1), .val (.ref b2), .val (.int (p2 &&& (7 : Int32))), .val (.ref b66), .unset, .unset] []))
        refine own_F.of (fun _ => XS.iconst S67.here S67.hx rfl (S67.dec at_56)) ?_
        show own_F p e below s Z _ _ _ _ _ (T67.setTop (mkF m 57 #[.val (.int p0), .val (.int p1), .val (.int p2), .val (.int p3), .val (.int p1), .val (.ref b2), .val (.int (p2 &&& (7 : Int32))), .val (.ref b66), .unset, .unset] [(.int (0 : Int32))]))
        refine own_F.of (fun _ => XS.istore S67.here S67.hx rfl (S67.dec at_57) rfl (l' := #[.val (.int p0), .val (.int p1), .val (.int p2), .val (.int p3), .val (.int p1), .val (.ref b2), .val (.int (p2 &&& (7 : Int32))), .val (.ref b66), .val (.int (0 : Int32)), .unset]) rfl) ?_
        show own_F p e below s Z _ _ _ _ _ (T67.setTop (mkF m 59 #[.val (.int p0), .val (.int p1), .val (.int p2), .val (.int p3), .val (.int p1), .val (.ref b2), .val (.int (p2 &&& (7 : Int32))), .val (.ref b66), .val (.int (0 : Int32)), .unset] []))
        refine own_F.of (fun _ => XS.goto S67.here S67.hx rfl (pc0 := 59) (pc' := 246) rfl (S67.dec at_59) (by decide) (by decide)) ?_
        show own_F p e below s Z _ _ _ _ _ (T67.setTop (mkF m 246 #[.val (.int p0), .val (.int p1), .val (.int p2), .val (.int p3), .val (.int p1), .val (.ref b2), .val (.int (p2 &&& (7 : Int32))), .val (.ref b66), .val (.int (0 : Int32)), .unset] []))
        refine own_F.of (fun _ => XS.aload S67.here S67.hx rfl (S67.dec at_246) rfl rfl) ?_
        show own_F p e below s Z _ _ _ _ _ (T67.setTop (mkF m 248 #[.val (.int p0), .val (.int p1), .val (.int p2), .val (.int p3), .val (.int p1), .val (.ref b2), .val (.int (p2 &&& (7 : Int32))), .val (.ref b66), .val (.int (0 : Int32)), .unset] [(.ref b2)]))
        refine own_F.of (fun _ => XS.aload S67.here S67.hx rfl (S67.dec at_248) rfl rfl) ?_
        show own_F p e below s Z _ _ _ _ _ (T67.setTop (mkF m 250 #[.val (.int p0), .val (.int p1), .val (.int p2), .val (.int p3), .val (.int p1), .val (.ref b2), .val (.int (p2 &&& (7 : Int32))), .val (.ref b66), .val (.int (0 : Int32)), .unset] [(.ref b66), (.ref b2)]))
        have f69 := ((F3.ext E66).keep K67 (ninS (Nat.ne_of_lt (by rw [g66]; exact ((A2.keep K3)).lt)) nin0))
        have f70 := (A66.keep K67)
        have f72 := (((A2.keep K3).ext E66).keep K67)
        refine own_callV S67 (y := (⟨"com/example/manysort/manysort/language/NaturalNumber", "equals", "(Ljava/lang/Object;)Z"⟩ : MethodName)) (y' := (⟨"com/example/manysort/manysort/language/NaturalNumber", "equals", "(Ljava/lang/Object;)Z"⟩ : MethodName)) (own_w hw 21 rfl) (own_w hw 22 rfl) (own_nf S67 (own_w hw 24 rfl)) (own_w hw 24 rfl) (own_w hw 23 rfl) (own_w hw 25 rfl) (own_w hw 2 rfl) (by decide) f72 (argsL := [(.ref b66)]) (rest := []) (own_eqN l Z a0 hw b2 b66 p0 p1 h67 S67.old f69 f70 F67) all0 (by decide +kernel : parseMethodDescriptor "(Ljava/lang/Object;)Z" = some ⟨[(.object "java/lang/Object")], some .boolean⟩) rfl rfl rfl at_250 (by decide) (Nat.le_of_ble_eq_true rfl) (by decide) (by decide) (fun T71 h71 v71 S71 K71 q71 => ?_)
        obtain ⟨rfl, rfl⟩ := q71
        show own_F p e below s Z _ _ _ _ _ (T71.setTop (mkF m 253 #[.val (.int p0), .val (.int p1), .val (.int p2), .val (.int p3), .val (.int p1), .val (.ref b2), .val (.int (p2 &&& (7 : Int32))), .val (.ref b66), .val (.int (0 : Int32)), .unset] [(.int (own_eq p1 p0))]))
        refine own_F.of (fun _ => XS.iload S71.here S71.hx rfl (S71.dec at_253) rfl) ?_
        show own_F p e below s Z _ _ _ _ _ (T71.setTop (mkF m 255 #[.val (.int p0), .val (.int p1), .val (.int p2), .val (.int p3), .val (.int p1), .val (.ref b2), .val (.int (p2 &&& (7 : Int32))), .val (.ref b66), .val (.int (0 : Int32)), .unset] [(.int (0 : Int32)), (.int (own_eq p1 p0))]))
        refine own_icmp S71 262 at_255 (by decide) (by decide) (fun (hc255_73 : ¬ ((own_eq p1 p0) = (0 : Int32))) => False.elim (hc255_73 (by simp [own_eq, hc49_68, eq_comm]))) (fun (hc255_73 : (own_eq p1 p0) = (0 : Int32)) => ?_)
        show own_F p e below s Z _ _ _ _ _ (T71.setTop (mkF m 258 #[.val (.int p0), .val (.int p1), .val (.int p2), .val (.int p3), .val (.int p1), .val (.ref b2), .val (.int (p2 &&& (7 : Int32))), .val (.ref b66), .val (.int (0 : Int32)), .unset] []))
        refine own_F.of (fun _ => XS.iconst S71.here S71.hx rfl (S71.dec at_258)) ?_
        show own_F p e below s Z _ _ _ _ _ (T71.setTop (mkF m 259 #[.val (.int p0), .val (.int p1), .val (.int p2), .val (.int p3), .val (.int p1), .val (.ref b2), .val (.int (p2 &&& (7 : Int32))), .val (.ref b66), .val (.int (0 : Int32)), .unset] [(.int (1 : Int32))]))
        refine own_F.of (fun _ => XS.goto S71.here S71.hx rfl (pc0 := 259) (pc' := 263) rfl (S71.dec at_259) (by decide) (by decide)) ?_
        show own_F p e below s Z _ _ _ _ _ (T71.setTop (mkF m 263 #[.val (.int p0), .val (.int p1), .val (.int p2), .val (.int p3), .val (.int p1), .val (.ref b2), .val (.int (p2 &&& (7 : Int32))), .val (.ref b66), .val (.int (0 : Int32)), .unset] [(.int (1 : Int32))]))
        refine own_retZ S71 (by simp) at_263 (by decide) (by decide) ?_
        rfl
      · show own_F p e below s Z _ _ _ _ _ (T67.setTop (mkF m 52 #[.val (.int p0), .val (.int p1), .val (.int p2), .val (.int p3), .val (.int p1), .val (.ref b2), .val (.int (p2 &&& (7 : Int32))), .val (.ref b66), .unset, .unset] []))
        refine own_F.of (fun _ => XS.iconst S67.here S67.hx rfl (S67.dec at_52)) ?_
        show own_F p e below s Z _ _ _ _ _ (T67.setTop (mkF m 53 #[.val (.int p0), .val (.int p1), .val (.int p2), .val (.int p3), .val (.int p1), .val (.ref b2), .val (.int (p2 &&& (7 : Int32))), .val (.ref b66), .unset, .unset] [(.int (1 : Int32))]))
        refine own_F.of (fun _ => XS.goto S67.here S67.hx rfl (pc0 := 53) (pc' := 57) rfl (S67.dec at_53) (by decide) (by decide)) ?_
        show own_F p e below s Z _ _ _ _ _ (T67.setTop (mkF m 57 #[.val (.int p0), .val (.int p1), .val (.int p2), .val (.int p3), .val (.int p1), .val (.ref b2), .val (.int (p2 &&& (7 : Int32))), .val (.ref b66), .unset, .unset] [(.int (1 : Int32))]))
        refine own_F.of (fun _ => XS.istore S67.here S67.hx rfl (S67.dec at_57) rfl (l' := #[.val (.int p0), .val (.int p1), .val (.int p2), .val (.int p3), .val (.int p1), .val (.ref b2), .val (.int (p2 &&& (7 : Int32))), .val (.ref b66), .val (.int (1 : Int32)), .unset]) rfl) ?_
        show own_F p e below s Z _ _ _ _ _ (T67.setTop (mkF m 59 #[.val (.int p0), .val (.int p1), .val (.int p2), .val (.int p3), .val (.int p1), .val (.ref b2), .val (.int (p2 &&& (7 : Int32))), .val (.ref b66), .val (.int (1 : Int32)), .unset] []))
        refine own_F.of (fun _ => XS.goto S67.here S67.hx rfl (pc0 := 59) (pc' := 246) rfl (S67.dec at_59) (by decide) (by decide)) ?_
        show own_F p e below s Z _ _ _ _ _ (T67.setTop (mkF m 246 #[.val (.int p0), .val (.int p1), .val (.int p2), .val (.int p3), .val (.int p1), .val (.ref b2), .val (.int (p2 &&& (7 : Int32))), .val (.ref b66), .val (.int (1 : Int32)), .unset] []))
        refine own_F.of (fun _ => XS.aload S67.here S67.hx rfl (S67.dec at_246) rfl rfl) ?_
        show own_F p e below s Z _ _ _ _ _ (T67.setTop (mkF m 248 #[.val (.int p0), .val (.int p1), .val (.int p2), .val (.int p3), .val (.int p1), .val (.ref b2), .val (.int (p2 &&& (7 : Int32))), .val (.ref b66), .val (.int (1 : Int32)), .unset] [(.ref b2)]))
        refine own_F.of (fun _ => XS.aload S67.here S67.hx rfl (S67.dec at_248) rfl rfl) ?_
        show own_F p e below s Z _ _ _ _ _ (T67.setTop (mkF m 250 #[.val (.int p0), .val (.int p1), .val (.int p2), .val (.int p3), .val (.int p1), .val (.ref b2), .val (.int (p2 &&& (7 : Int32))), .val (.ref b66), .val (.int (1 : Int32)), .unset] [(.ref b66), (.ref b2)]))
        have f74 := ((F3.ext E66).keep K67 (ninS (Nat.ne_of_lt (by rw [g66]; exact ((A2.keep K3)).lt)) nin0))
        have f75 := (A66.keep K67)
        have f77 := (((A2.keep K3).ext E66).keep K67)
        refine own_callV S67 (y := (⟨"com/example/manysort/manysort/language/NaturalNumber", "equals", "(Ljava/lang/Object;)Z"⟩ : MethodName)) (y' := (⟨"com/example/manysort/manysort/language/NaturalNumber", "equals", "(Ljava/lang/Object;)Z"⟩ : MethodName)) (own_w hw 21 rfl) (own_w hw 22 rfl) (own_nf S67 (own_w hw 24 rfl)) (own_w hw 24 rfl) (own_w hw 23 rfl) (own_w hw 25 rfl) (own_w hw 2 rfl) (by decide) f77 (argsL := [(.ref b66)]) (rest := []) (own_eqN l Z a0 hw b2 b66 p0 p1 h67 S67.old f74 f75 F67) all0 (by decide +kernel : parseMethodDescriptor "(Ljava/lang/Object;)Z" = some ⟨[(.object "java/lang/Object")], some .boolean⟩) rfl rfl rfl at_250 (by decide) (Nat.le_of_ble_eq_true rfl) (by decide) (by decide) (fun T76 h76 v76 S76 K76 q76 => ?_)
        obtain ⟨rfl, rfl⟩ := q76
        show own_F p e below s Z _ _ _ _ _ (T76.setTop (mkF m 253 #[.val (.int p0), .val (.int p1), .val (.int p2), .val (.int p3), .val (.int p1), .val (.ref b2), .val (.int (p2 &&& (7 : Int32))), .val (.ref b66), .val (.int (1 : Int32)), .unset] [(.int (own_eq p1 p0))]))
        refine own_F.of (fun _ => XS.iload S76.here S76.hx rfl (S76.dec at_253) rfl) ?_
        show own_F p e below s Z _ _ _ _ _ (T76.setTop (mkF m 255 #[.val (.int p0), .val (.int p1), .val (.int p2), .val (.int p3), .val (.int p1), .val (.ref b2), .val (.int (p2 &&& (7 : Int32))), .val (.ref b66), .val (.int (1 : Int32)), .unset] [(.int (1 : Int32)), (.int (own_eq p1 p0))]))
        refine own_icmp S76 262 at_255 (by decide) (by decide) (fun (hc255_78 : ¬ ((own_eq p1 p0) = (1 : Int32))) => False.elim (hc255_78 (by simp [own_eq, hc49_68, eq_comm]))) (fun (hc255_78 : (own_eq p1 p0) = (1 : Int32)) => ?_)
        show own_F p e below s Z _ _ _ _ _ (T76.setTop (mkF m 258 #[.val (.int p0), .val (.int p1), .val (.int p2), .val (.int p3), .val (.int p1), .val (.ref b2), .val (.int (p2 &&& (7 : Int32))), .val (.ref b66), .val (.int (1 : Int32)), .unset] []))
        refine own_F.of (fun _ => XS.iconst S76.here S76.hx rfl (S76.dec at_258)) ?_
        show own_F p e below s Z _ _ _ _ _ (T76.setTop (mkF m 259 #[.val (.int p0), .val (.int p1), .val (.int p2), .val (.int p3), .val (.int p1), .val (.ref b2), .val (.int (p2 &&& (7 : Int32))), .val (.ref b66), .val (.int (1 : Int32)), .unset] [(.int (1 : Int32))]))
        refine own_F.of (fun _ => XS.goto S76.here S76.hx rfl (pc0 := 259) (pc' := 263) rfl (S76.dec at_259) (by decide) (by decide)) ?_
        show own_F p e below s Z _ _ _ _ _ (T76.setTop (mkF m 263 #[.val (.int p0), .val (.int p1), .val (.int p2), .val (.int p3), .val (.int p1), .val (.ref b2), .val (.int (p2 &&& (7 : Int32))), .val (.ref b66), .val (.int (1 : Int32)), .unset] [(.int (1 : Int32))]))
        refine own_retZ S76 (by simp) at_263 (by decide) (by decide) ?_
        rfl
  · show own_F p e below s Z _ _ _ _ _ (T0.setTop (mkF m 7 #[.val (.int p0), .val (.int p1), .val (.int p2), .val (.int p3), .unset, .unset, .unset, .unset, .unset, .unset] []))
    refine own_F.of (fun _ => XS.iloadN S0.here S0.hx rfl (S0.dec at_7) rfl) ?_
    show own_F p e below s Z _ _ _ _ _ (T0.setTop (mkF m 8 #[.val (.int p0), .val (.int p1), .val (.int p2), .val (.int p3), .unset, .unset, .unset, .unset, .unset, .unset] [(.int p0)]))
    refine own_F.of (fun _ => XS.goto S0.here S0.hx rfl (pc0 := 8) (pc' := 12) rfl (S0.dec at_8) (by decide) (by decide)) ?_
    show own_F p e below s Z _ _ _ _ _ (T0.setTop (mkF m 12 #[.val (.int p0), .val (.int p1), .val (.int p2), .val (.int p3), .unset, .unset, .unset, .unset, .unset, .unset] [(.int p0)]))
    refine own_F.of (fun _ => XS.istore S0.here S0.hx rfl (S0.dec at_12) rfl (l' := #[.val (.int p0), .val (.int p1), .val (.int p2), .val (.int p3), .val (.int p0), .unset, .unset, .unset, .unset, .unset]) rfl) ?_
    show own_F p e below s Z _ _ _ _ _ (T0.setTop (mkF m 14 #[.val (.int p0), .val (.int p1), .val (.int p2), .val (.int p3), .val (.int p0), .unset, .unset, .unset, .unset, .unset] []))
    refine own_new S0 (own_w hw 0 rfl) (own_w hw 1 rfl) (own_w hw 2 rfl) at_14 (by decide) (by decide) (fun T79 h79 b79 g79 S79 E79 A79 D79 => ?_)
    have F79_value : Fld Z h79 b79 "com/example/manysort/manysort/language/NaturalNumber" "value" "I" (.int (0 : Int32)) := (D79 (Or.inr (own_w hw 18 rfl)) (ty := .int) (by decide))
    have F79_written : Fld Z h79 b79 "com/example/manysort/manysort/language/NaturalNumber" "written" "Ljava/lang/String;" .null := (D79 (Or.inr (own_w hw 20 rfl)) (ty := (.object "java/lang/String")) (by decide))
    show own_F p e below s Z _ _ _ _ _ (T79.setTop (mkF m 17 #[.val (.int p0), .val (.int p1), .val (.int p2), .val (.int p3), .val (.int p0), .unset, .unset, .unset, .unset, .unset] [(.ref b79)]))
    refine own_F.of (fun _ => XS.dup S79.here S79.hx rfl (S79.dec at_17) rfl rfl) ?_
    show own_F p e below s Z _ _ _ _ _ (T79.setTop (mkF m 18 #[.val (.int p0), .val (.int p1), .val (.int p2), .val (.int p3), .val (.int p0), .unset, .unset, .unset, .unset, .unset] [(.ref b79), (.ref b79)]))
    refine own_F.of (fun _ => XS.iloadN S79.here S79.hx rfl (S79.dec at_18) rfl) ?_
    show own_F p e below s Z _ _ _ _ _ (T79.setTop (mkF m 19 #[.val (.int p0), .val (.int p1), .val (.int p2), .val (.int p3), .val (.int p0), .unset, .unset, .unset, .unset, .unset] [(.int p0), (.ref b79), (.ref b79)]))
    refine own_callI S79 (y := (⟨"com/example/manysort/manysort/language/NaturalNumber", "<init>", "(I)V"⟩ : MethodName)) rfl (own_w hw 3 rfl) (own_w hw 4 rfl) (own_w hw 2 rfl) (own_w hw 5 rfl) (by decide) (argsL := [(.int p0)]) (rest := [(.ref b79)]) (own_NN1 l Z a0 hw b79 p0 h79 S79.old (own_mayN S79 (Or.inr (by rw [g79]; exact S0.size))) A79 F79_value F79_written) (allS (Or.inr (by rw [g79]; exact S0.size)) all0) (by decide +kernel : parseMethodDescriptor "(I)V" = some ⟨[.int], none⟩) rfl rfl rfl at_19 (by decide) (Nat.le_of_ble_eq_true rfl) (by decide) (by decide) (fun T80 h80 v80 S80 K80 q80 => ?_)
    obtain ⟨rfl, F80⟩ := q80
    show own_F p e below s Z _ _ _ _ _ (T80.setTop (mkF m 22 #[.val (.int p0), .val (.int p1), .val (.int p2), .val (.int p3), .val (.int p0), .unset, .unset, .unset, .unset, .unset] [(.ref b79)]))
    refine own_F.of (fun _ => XS.astore S80.here S80.hx rfl (S80.dec at_22) rfl rfl (l' := #[.val (.int p0), .val (.int p1), .val (.int p2), .val (.int p3), .val (.int p0), .val (.ref b79), .unset, .unset, .unset, .unset]) rfl) ?_
    show own_F p e below s Z _ _ _ _ _ (T80.setTop (mkF m 24 #[.val (.int p0), .val (.int p1), .val (.int p2), .val (.int p3), .val (.int p0), .val (.ref b79), .unset, .unset, .unset, .unset] []))
    refine own_F.of (fun _ => XS.iloadN S80.here S80.hx rfl (S80.dec at_24) rfl) ?_
    show own_F p e below s Z _ _ _ _ _ (T80.setTop (mkF m 25 #[.val (.int p0), .val (.int p1), .val (.int p2), .val (.int p3), .val (.int p0), .val (.ref b79), .unset, .unset, .unset, .unset] [(.int p2)]))
    refine own_F.of (fun _ => XS.bipush S80.here S80.hx rfl (S80.dec at_25)) ?_
    show own_F p e below s Z _ _ _ _ _ (T80.setTop (mkF m 27 #[.val (.int p0), .val (.int p1), .val (.int p2), .val (.int p3), .val (.int p0), .val (.ref b79), .unset, .unset, .unset, .unset] [(.int (7 : Int32)), (.int p2)]))
    refine own_F.of (fun _ => XS.iand S80.here S80.hx rfl (S80.dec at_27) rfl) ?_
    show own_F p e below s Z _ _ _ _ _ (T80.setTop (mkF m 28 #[.val (.int p0), .val (.int p1), .val (.int p2), .val (.int p3), .val (.int p0), .val (.ref b79), .unset, .unset, .unset, .unset] [(.int (p2 &&& (7 : Int32)))]))
    refine own_F.of (fun _ => XS.istore S80.here S80.hx rfl (S80.dec at_28) rfl (l' := #[.val (.int p0), .val (.int p1), .val (.int p2), .val (.int p3), .val (.int p0), .val (.ref b79), .val (.int (p2 &&& (7 : Int32))), .unset, .unset, .unset]) rfl) ?_
    show own_F p e below s Z _ _ _ _ _ (T80.setTop (mkF m 30 #[.val (.int p0), .val (.int p1), .val (.int p2), .val (.int p3), .val (.int p0), .val (.ref b79), .val (.int (p2 &&& (7 : Int32))), .unset, .unset, .unset] []))
    refine own_F.of (fun _ => XS.iload S80.here S80.hx rfl (S80.dec at_30) rfl) ?_
    show own_F p e below s Z _ _ _ _ _ (T80.setTop (mkF m 32 #[.val (.int p0), .val (.int p1), .val (.int p2), .val (.int p3), .val (.int p0), .val (.ref b79), .val (.int (p2 &&& (7 : Int32))), .unset, .unset, .unset] [(.int (p2 &&& (7 : Int32)))]))
    refine own_if S80 62 at_32 (by decide) (by decide) (fun (hc32_81 : ¬ ((p2 &&& (7 : Int32)) = (0 : Int32))) => ?_) (fun (hc32_81 : (p2 &&& (7 : Int32)) = (0 : Int32)) => ?_)
    · show own_F p e below s Z _ _ _ _ _ (T80.setTop (mkF m 62 #[.val (.int p0), .val (.int p1), .val (.int p2), .val (.int p3), .val (.int p0), .val (.ref b79), .val (.int (p2 &&& (7 : Int32))), .unset, .unset, .unset] []))
      refine own_F.of (fun _ => XS.iload S80.here S80.hx rfl (S80.dec at_62) rfl) ?_
      show own_F p e below s Z _ _ _ _ _ (T80.setTop (mkF m 64 #[.val (.int p0), .val (.int p1), .val (.int p2), .val (.int p3), .val (.int p0), .val (.ref b79), .val (.int (p2 &&& (7 : Int32))), .unset, .unset, .unset] [(.int (p2 &&& (7 : Int32)))]))
      refine own_F.of (fun _ => XS.iconst S80.here S80.hx rfl (S80.dec at_64)) ?_
      show own_F p e below s Z _ _ _ _ _ (T80.setTop (mkF m 65 #[.val (.int p0), .val (.int p1), .val (.int p2), .val (.int p3), .val (.int p0), .val (.ref b79), .val (.int (p2 &&& (7 : Int32))), .unset, .unset, .unset] [(.int (1 : Int32)), (.int (p2 &&& (7 : Int32)))]))
      refine own_icmp S80 126 at_65 (by decide) (by decide) (fun (hc65_82 : ¬ ((p2 &&& (7 : Int32)) = (1 : Int32))) => ?_) (fun (hc65_82 : (p2 &&& (7 : Int32)) = (1 : Int32)) => ?_)
      · show own_F p e below s Z _ _ _ _ _ (T80.setTop (mkF m 126 #[.val (.int p0), .val (.int p1), .val (.int p2), .val (.int p3), .val (.int p0), .val (.ref b79), .val (.int (p2 &&& (7 : Int32))), .unset, .unset, .unset] []))
        refine own_F.of (fun _ => XS.iload S80.here S80.hx rfl (S80.dec at_126) rfl) ?_
        show own_F p e below s Z _ _ _ _ _ (T80.setTop (mkF m 128 #[.val (.int p0), .val (.int p1), .val (.int p2), .val (.int p3), .val (.int p0), .val (.ref b79), .val (.int (p2 &&& (7 : Int32))), .unset, .unset, .unset] [(.int (p2 &&& (7 : Int32)))]))
        refine own_F.of (fun _ => XS.iconst S80.here S80.hx rfl (S80.dec at_128)) ?_
        show own_F p e below s Z _ _ _ _ _ (T80.setTop (mkF m 129 #[.val (.int p0), .val (.int p1), .val (.int p2), .val (.int p3), .val (.int p0), .val (.ref b79), .val (.int (p2 &&& (7 : Int32))), .unset, .unset, .unset] [(.int (2 : Int32)), (.int (p2 &&& (7 : Int32)))]))
        refine own_icmp S80 141 at_129 (by decide) (by decide) (fun (hc129_83 : ¬ ((p2 &&& (7 : Int32)) = (2 : Int32))) => ?_) (fun (hc129_83 : (p2 &&& (7 : Int32)) = (2 : Int32)) => ?_)
        · show own_F p e below s Z _ _ _ _ _ (T80.setTop (mkF m 141 #[.val (.int p0), .val (.int p1), .val (.int p2), .val (.int p3), .val (.int p0), .val (.ref b79), .val (.int (p2 &&& (7 : Int32))), .unset, .unset, .unset] []))
          refine own_F.of (fun _ => XS.iload S80.here S80.hx rfl (S80.dec at_141) rfl) ?_
          show own_F p e below s Z _ _ _ _ _ (T80.setTop (mkF m 143 #[.val (.int p0), .val (.int p1), .val (.int p2), .val (.int p3), .val (.int p0), .val (.ref b79), .val (.int (p2 &&& (7 : Int32))), .unset, .unset, .unset] [(.int (p2 &&& (7 : Int32)))]))
          refine own_F.of (fun _ => XS.iconst S80.here S80.hx rfl (S80.dec at_143)) ?_
          show own_F p e below s Z _ _ _ _ _ (T80.setTop (mkF m 144 #[.val (.int p0), .val (.int p1), .val (.int p2), .val (.int p3), .val (.int p0), .val (.ref b79), .val (.int (p2 &&& (7 : Int32))), .unset, .unset, .unset] [(.int (3 : Int32)), (.int (p2 &&& (7 : Int32)))]))
          refine own_icmp S80 159 at_144 (by decide) (by decide) (fun (hc144_84 : ¬ ((p2 &&& (7 : Int32)) = (3 : Int32))) => ?_) (fun (hc144_84 : (p2 &&& (7 : Int32)) = (3 : Int32)) => ?_)
          · show own_F p e below s Z _ _ _ _ _ (T80.setTop (mkF m 159 #[.val (.int p0), .val (.int p1), .val (.int p2), .val (.int p3), .val (.int p0), .val (.ref b79), .val (.int (p2 &&& (7 : Int32))), .unset, .unset, .unset] []))
            refine own_F.of (fun _ => XS.iload S80.here S80.hx rfl (S80.dec at_159) rfl) ?_
            show own_F p e below s Z _ _ _ _ _ (T80.setTop (mkF m 161 #[.val (.int p0), .val (.int p1), .val (.int p2), .val (.int p3), .val (.int p0), .val (.ref b79), .val (.int (p2 &&& (7 : Int32))), .unset, .unset, .unset] [(.int (p2 &&& (7 : Int32)))]))
            refine own_F.of (fun _ => XS.iconst S80.here S80.hx rfl (S80.dec at_161)) ?_
            show own_F p e below s Z _ _ _ _ _ (T80.setTop (mkF m 162 #[.val (.int p0), .val (.int p1), .val (.int p2), .val (.int p3), .val (.int p0), .val (.ref b79), .val (.int (p2 &&& (7 : Int32))), .unset, .unset, .unset] [(.int (4 : Int32)), (.int (p2 &&& (7 : Int32)))]))
            refine own_icmp S80 178 at_162 (by decide) (by decide) (fun (hc162_85 : ¬ ((p2 &&& (7 : Int32)) = (4 : Int32))) => ?_) (fun (hc162_85 : (p2 &&& (7 : Int32)) = (4 : Int32)) => ?_)
            · show own_F p e below s Z _ _ _ _ _ (T80.setTop (mkF m 178 #[.val (.int p0), .val (.int p1), .val (.int p2), .val (.int p3), .val (.int p0), .val (.ref b79), .val (.int (p2 &&& (7 : Int32))), .unset, .unset, .unset] []))
              refine own_F.of (fun _ => XS.iload S80.here S80.hx rfl (S80.dec at_178) rfl) ?_
              show own_F p e below s Z _ _ _ _ _ (T80.setTop (mkF m 180 #[.val (.int p0), .val (.int p1), .val (.int p2), .val (.int p3), .val (.int p0), .val (.ref b79), .val (.int (p2 &&& (7 : Int32))), .unset, .unset, .unset] [(.int (p2 &&& (7 : Int32)))]))
              refine own_F.of (fun _ => XS.iconst S80.here S80.hx rfl (S80.dec at_180)) ?_
              show own_F p e below s Z _ _ _ _ _ (T80.setTop (mkF m 181 #[.val (.int p0), .val (.int p1), .val (.int p2), .val (.int p3), .val (.int p0), .val (.ref b79), .val (.int (p2 &&& (7 : Int32))), .unset, .unset, .unset] [(.int (5 : Int32)), (.int (p2 &&& (7 : Int32)))]))
              refine own_icmp S80 208 at_181 (by decide) (by decide) (fun (hc181_86 : ¬ ((p2 &&& (7 : Int32)) = (5 : Int32))) => ?_) (fun (hc181_86 : (p2 &&& (7 : Int32)) = (5 : Int32)) => ?_)
              · show own_F p e below s Z _ _ _ _ _ (T80.setTop (mkF m 208 #[.val (.int p0), .val (.int p1), .val (.int p2), .val (.int p3), .val (.int p0), .val (.ref b79), .val (.int (p2 &&& (7 : Int32))), .unset, .unset, .unset] []))
                refine own_F.of (fun _ => XS.iload S80.here S80.hx rfl (S80.dec at_208) rfl) ?_
                show own_F p e below s Z _ _ _ _ _ (T80.setTop (mkF m 210 #[.val (.int p0), .val (.int p1), .val (.int p2), .val (.int p3), .val (.int p0), .val (.ref b79), .val (.int (p2 &&& (7 : Int32))), .unset, .unset, .unset] [(.int (p2 &&& (7 : Int32)))]))
                refine own_F.of (fun _ => XS.bipush S80.here S80.hx rfl (S80.dec at_210)) ?_
                show own_F p e below s Z _ _ _ _ _ (T80.setTop (mkF m 212 #[.val (.int p0), .val (.int p1), .val (.int p2), .val (.int p3), .val (.int p0), .val (.ref b79), .val (.int (p2 &&& (7 : Int32))), .unset, .unset, .unset] [(.int (6 : Int32)), (.int (p2 &&& (7 : Int32)))]))
                refine own_icmp S80 239 at_212 (by decide) (by decide) (fun (hc212_87 : ¬ ((p2 &&& (7 : Int32)) = (6 : Int32))) => ?_) (fun (hc212_87 : (p2 &&& (7 : Int32)) = (6 : Int32)) => ?_)
                · show own_F p e below s Z _ _ _ _ _ (T80.setTop (mkF m 239 #[.val (.int p0), .val (.int p1), .val (.int p2), .val (.int p3), .val (.int p0), .val (.ref b79), .val (.int (p2 &&& (7 : Int32))), .unset, .unset, .unset] []))
                  refine own_F.of (fun _ => XS.aload S80.here S80.hx rfl (S80.dec at_239) rfl rfl) ?_
                  show own_F p e below s Z _ _ _ _ _ (T80.setTop (mkF m 241 #[.val (.int p0), .val (.int p1), .val (.int p2), .val (.int p3), .val (.int p0), .val (.ref b79), .val (.int (p2 &&& (7 : Int32))), .unset, .unset, .unset] [(.ref b79)]))
                  refine own_F.of (fun _ => XS.astore S80.here S80.hx rfl (S80.dec at_241) rfl rfl (l' := #[.val (.int p0), .val (.int p1), .val (.int p2), .val (.int p3), .val (.int p0), .val (.ref b79), .val (.int (p2 &&& (7 : Int32))), .val (.ref b79), .unset, .unset]) rfl) ?_
                  show own_F p e below s Z _ _ _ _ _ (T80.setTop (mkF m 243 #[.val (.int p0), .val (.int p1), .val (.int p2), .val (.int p3), .val (.int p0), .val (.ref b79), .val (.int (p2 &&& (7 : Int32))), .val (.ref b79), .unset, .unset] []))
                  refine own_F.of (fun _ => XS.iconst S80.here S80.hx rfl (S80.dec at_243)) ?_
                  show own_F p e below s Z _ _ _ _ _ (T80.setTop (mkF m 244 #[.val (.int p0), .val (.int p1), .val (.int p2), .val (.int p3), .val (.int p0), .val (.ref b79), .val (.int (p2 &&& (7 : Int32))), .val (.ref b79), .unset, .unset] [(.int (1 : Int32))]))
                  refine own_F.of (fun _ => XS.istore S80.here S80.hx rfl (S80.dec at_244) rfl (l' := #[.val (.int p0), .val (.int p1), .val (.int p2), .val (.int p3), .val (.int p0), .val (.ref b79), .val (.int (p2 &&& (7 : Int32))), .val (.ref b79), .val (.int (1 : Int32)), .unset]) rfl) ?_
                  show own_F p e below s Z _ _ _ _ _ (T80.setTop (mkF m 246 #[.val (.int p0), .val (.int p1), .val (.int p2), .val (.int p3), .val (.int p0), .val (.ref b79), .val (.int (p2 &&& (7 : Int32))), .val (.ref b79), .val (.int (1 : Int32)), .unset] []))
                  refine own_F.of (fun _ => XS.aload S80.here S80.hx rfl (S80.dec at_246) rfl rfl) ?_
                  show own_F p e below s Z _ _ _ _ _ (T80.setTop (mkF m 248 #[.val (.int p0), .val (.int p1), .val (.int p2), .val (.int p3), .val (.int p0), .val (.ref b79), .val (.int (p2 &&& (7 : Int32))), .val (.ref b79), .val (.int (1 : Int32)), .unset] [(.ref b79)]))
                  refine own_F.of (fun _ => XS.aload S80.here S80.hx rfl (S80.dec at_248) rfl rfl) ?_
                  show own_F p e below s Z _ _ _ _ _ (T80.setTop (mkF m 250 #[.val (.int p0), .val (.int p1), .val (.int p2), .val (.int p3), .val (.int p0), .val (.ref b79), .val (.int (p2 &&& (7 : Int32))), .val (.ref b79), .val (.int (1 : Int32)), .unset] [(.ref b79), (.ref b79)]))
                  have f88 := (A79.keep K80)
                  refine own_callV S80 (y := (⟨"com/example/manysort/manysort/language/NaturalNumber", "equals", "(Ljava/lang/Object;)Z"⟩ : MethodName)) (y' := (⟨"com/example/manysort/manysort/language/NaturalNumber", "equals", "(Ljava/lang/Object;)Z"⟩ : MethodName)) (own_w hw 21 rfl) (own_w hw 22 rfl) (own_nf S80 (own_w hw 24 rfl)) (own_w hw 24 rfl) (own_w hw 23 rfl) (own_w hw 25 rfl) (own_w hw 2 rfl) (by decide) f88 (argsL := [(.ref b79)]) (rest := []) (own_eqN l Z a0 hw b79 b79 p0 p0 h80 S80.old F80 f88 F80) all0 (by decide +kernel : parseMethodDescriptor "(Ljava/lang/Object;)Z" = some ⟨[(.object "java/lang/Object")], some .boolean⟩) rfl rfl rfl at_250 (by decide) (Nat.le_of_ble_eq_true rfl) (by decide) (by decide) (fun T89 h89 v89 S89 K89 q89 => ?_)
                  obtain ⟨rfl, rfl⟩ := q89
                  show own_F p e below s Z _ _ _ _ _ (T89.setTop (mkF m 253 #[.val (.int p0), .val (.int p1), .val (.int p2), .val (.int p3), .val (.int p0), .val (.ref b79), .val (.int (p2 &&& (7 : Int32))), .val (.ref b79), .val (.int (1 : Int32)), .unset] [(.int (own_eq p0 p0))]))
                  refine own_F.of (fun _ => XS.iload S89.here S89.hx rfl (S89.dec at_253) rfl) ?_
                  show own_F p e below s Z _ _ _ _ _ (T89.setTop (mkF m 255 #[.val (.int p0), .val (.int p1), .val (.int p2), .val (.int p3), .val (.int p0), .val (.ref b79), .val (.int (p2 &&& (7 : Int32))), .val (.ref b79), .val (.int (1 : Int32)), .unset] [(.int (1 : Int32)), (.int (own_eq p0 p0))]))
                  refine own_icmp S89 262 at_255 (by decide) (by decide) (fun (hc255_90 : ¬ ((own_eq p0 p0) = (1 : Int32))) => False.elim (hc255_90 (by simp [own_eq]))) (fun (hc255_90 : (own_eq p0 p0) = (1 : Int32)) => ?_)
                  show own_F p e below s Z _ _ _ _ _ (T89.setTop (mkF m 258 #[.val (.int p0), .val (.int p1), .val (.int p2), .val (.int p3), .val (.int p0), .val (.ref b79), .val (.int (p2 &&& (7 : Int32))), .val (.ref b79), .val (.int (1 : Int32)), .unset] []))
                  refine own_F.of (fun _ => XS.iconst S89.here S89.hx rfl (S89.dec at_258)) ?_
                  show own_F p e below s Z _ _ _ _ _ (T89.setTop (mkF m 259 #[.val (.int p0), .val (.int p1), .val (.int p2), .val (.int p3), .val (.int p0), .val (.ref b79), .val (.int (p2 &&& (7 : Int32))), .val (.ref b79), .val (.int (1 : Int32)), .unset] [(.int (1 : Int32))]))
                  refine own_F.of (fun _ => XS.goto S89.here S89.hx rfl (pc0 := 259) (pc' := 263) rfl (S89.dec at_259) (by decide) (by decide)) ?_
                  show own_F p e below s Z _ _ _ _ _ (T89.setTop (mkF m 263 #[.val (.int p0), .val (.int p1), .val (.int p2), .val (.int p3), .val (.int p0), .val (.ref b79), .val (.int (p2 &&& (7 : Int32))), .val (.ref b79), .val (.int (1 : Int32)), .unset] [(.int (1 : Int32))]))
                  refine own_retZ S89 (by simp) at_263 (by decide) (by decide) ?_
                  rfl
                · show own_F p e below s Z _ _ _ _ _ (T80.setTop (mkF m 215 #[.val (.int p0), .val (.int p1), .val (.int p2), .val (.int p3), .val (.int p0), .val (.ref b79), .val (.int (p2 &&& (7 : Int32))), .unset, .unset, .unset] []))
                  refine own_new S80 (own_w hw 92 rfl) (own_w hw 93 rfl) (own_w hw 94 rfl) at_215 (by decide) (by decide) (fun T91 h91 b91 g91 S91 E91 A91 D91 => ?_)
                  have F91_name : Fld Z h91 b91 "com/example/manysort/manysort/language/Variable" "name" "Ljava/lang/String;" .null := (D91 (Or.inr (own_w hw 114 rfl)) (ty := (.object "java/lang/String")) (by decide))
                  show own_F p e below s Z _ _ _ _ _ (T91.setTop (mkF m 218 #[.val (.int p0), .val (.int p1), .val (.int p2), .val (.int p3), .val (.int p0), .val (.ref b79), .val (.int (p2 &&& (7 : Int32))), .unset, .unset, .unset] [(.ref b91)]))
                  refine own_F.of (fun _ => XS.dup S91.here S91.hx rfl (S91.dec at_218) rfl rfl) ?_
                  show own_F p e below s Z _ _ _ _ _ (T91.setTop (mkF m 219 #[.val (.int p0), .val (.int p1), .val (.int p2), .val (.int p3), .val (.int p0), .val (.ref b79), .val (.int (p2 &&& (7 : Int32))), .unset, .unset, .unset] [(.ref b91), (.ref b91)]))
                  refine own_F.of (fun _ => XS.iloadN S91.here S91.hx rfl (S91.dec at_219) rfl) ?_
                  show own_F p e below s Z _ _ _ _ _ (T91.setTop (mkF m 220 #[.val (.int p0), .val (.int p1), .val (.int p2), .val (.int p3), .val (.int p0), .val (.ref b79), .val (.int (p2 &&& (7 : Int32))), .unset, .unset, .unset] [(.int p3), (.ref b91), (.ref b91)]))
                  refine own_F.of (fun _ => XS.sipush S91.here S91.hx rfl (S91.dec at_220)) ?_
                  show own_F p e below s Z _ _ _ _ _ (T91.setTop (mkF m 223 #[.val (.int p0), .val (.int p1), .val (.int p2), .val (.int p3), .val (.int p0), .val (.ref b79), .val (.int (p2 &&& (7 : Int32))), .unset, .unset, .unset] [(.int (255 : Int32)), (.int p3), (.ref b91), (.ref b91)]))
                  refine own_F.of (fun _ => XS.iand S91.here S91.hx rfl (S91.dec at_223) rfl) ?_
                  show own_F p e below s Z _ _ _ _ _ (T91.setTop (mkF m 224 #[.val (.int p0), .val (.int p1), .val (.int p2), .val (.int p3), .val (.int p0), .val (.ref b79), .val (.int (p2 &&& (7 : Int32))), .unset, .unset, .unset] [(.int (p3 &&& (255 : Int32))), (.ref b91), (.ref b91)]))
                  refine own_F.of (fun _ => XS.i2c S91.here S91.hx rfl (S91.dec at_224) rfl) ?_
                  show own_F p e below s Z _ _ _ _ _ (T91.setTop (mkF m 225 #[.val (.int p0), .val (.int p1), .val (.int p2), .val (.int p3), .val (.int p0), .val (.ref b79), .val (.int (p2 &&& (7 : Int32))), .unset, .unset, .unset] [(.int ((p3 &&& (255 : Int32)).toUInt32.toUInt16.toUInt32.toInt32)), (.ref b91), (.ref b91)]))
                  refine own_callS S91 (y := (⟨"java/lang/String", "valueOf", "(C)Ljava/lang/String;"⟩ : MethodName)) (own_w hw 95 rfl) (own_w hw 96 rfl) (own_w hw 64 rfl) (own_w hw 97 rfl) (by decide) (argsL := [(.int ((p3 &&& (255 : Int32)).toUInt32.toUInt16.toUInt32.toInt32))]) (rest := [(.ref b91), (.ref b91)]) (own_vOfC l Z a0 hw ((p3 &&& (255 : Int32)).toUInt32.toUInt16.toUInt32.toInt32) zc h91 S91.old SZ hz (own_m255 _).2) all0 (by decide +kernel : parseMethodDescriptor "(C)Ljava/lang/String;" = some ⟨[.char], some (.object "java/lang/String")⟩) rfl rfl rfl at_225 (by decide) (Nat.le_of_ble_eq_true rfl) (by decide) (by decide) (fun T92 h92 v92 S92 K92 q92 => ?_)
                  obtain ⟨b92, rfl, X92⟩ := q92
                  show own_F p e below s Z _ _ _ _ _ (T92.setTop (mkF m 228 #[.val (.int p0), .val (.int p1), .val (.int p2), .val (.int p3), .val (.int p0), .val (.ref b79), .val (.int (p2 &&& (7 : Int32))), .unset, .unset, .unset] [(.ref b92), (.ref b91), (.ref b91)]))
                  have f93 := (A91.keep K92)
                  have f94 := (F91_name.keep K92 nin0)
                  refine own_callI S92 (y := (⟨"com/example/manysort/manysort/language/Variable", "<init>", "(Ljava/lang/String;)V"⟩ : MethodName)) rfl (own_w hw 109 rfl) (own_w hw 110 rfl) (own_w hw 94 rfl) (own_w hw 111 rfl) (by decide) (argsL := [(.ref b92)]) (rest := [(.ref b91)]) (own_VarInit l Z a0 hw b91 b92 h92 S92.old (own_mayN S92 (Or.inr (by rw [g91]; exact S80.size))) f93 f94) (allS (Or.inr (by rw [g91]; exact S80.size)) all0) (by decide +kernel : parseMethodDescriptor "(Ljava/lang/String;)V" = some ⟨[(.object "java/lang/String")], none⟩) rfl rfl rfl at_228 (by decide) (Nat.le_of_ble_eq_true rfl) (by decide) (by decide) (fun T95 h95 v95 S95 K95 q95 => ?_)
                  obtain rfl := q95
                  show own_F p e below s Z _ _ _ _ _ (T95.setTop (mkF m 231 #[.val (.int p0), .val (.int p1), .val (.int p2), .val (.int p3), .val (.int p0), .val (.ref b79), .val (.int (p2 &&& (7 : Int32))), .unset, .unset, .unset] [(.ref b91)]))
                  refine own_F.of (fun _ => XS.astore S95.here S95.hx rfl (S95.dec at_231) rfl rfl (l' := #[.val (.int p0), .val (.int p1), .val (.int p2), .val (.int p3), .val (.int p0), .val (.ref b79), .val (.int (p2 &&& (7 : Int32))), .val (.ref b91), .unset, .unset]) rfl) ?_
                  show own_F p e below s Z _ _ _ _ _ (T95.setTop (mkF m 233 #[.val (.int p0), .val (.int p1), .val (.int p2), .val (.int p3), .val (.int p0), .val (.ref b79), .val (.int (p2 &&& (7 : Int32))), .val (.ref b91), .unset, .unset] []))
                  refine own_F.of (fun _ => XS.iconst S95.here S95.hx rfl (S95.dec at_233)) ?_
                  show own_F p e below s Z _ _ _ _ _ (T95.setTop (mkF m 234 #[.val (.int p0), .val (.int p1), .val (.int p2), .val (.int p3), .val (.int p0), .val (.ref b79), .val (.int (p2 &&& (7 : Int32))), .val (.ref b91), .unset, .unset] [(.int (0 : Int32))]))
                  refine own_F.of (fun _ => XS.istore S95.here S95.hx rfl (S95.dec at_234) rfl (l' := #[.val (.int p0), .val (.int p1), .val (.int p2), .val (.int p3), .val (.int p0), .val (.ref b79), .val (.int (p2 &&& (7 : Int32))), .val (.ref b91), .val (.int (0 : Int32)), .unset]) rfl) ?_
                  show own_F p e below s Z _ _ _ _ _ (T95.setTop (mkF m 236 #[.val (.int p0), .val (.int p1), .val (.int p2), .val (.int p3), .val (.int p0), .val (.ref b79), .val (.int (p2 &&& (7 : Int32))), .val (.ref b91), .val (.int (0 : Int32)), .unset] []))
                  refine own_F.of (fun _ => XS.goto S95.here S95.hx rfl (pc0 := 236) (pc' := 246) rfl (S95.dec at_236) (by decide) (by decide)) ?_
                  show own_F p e below s Z _ _ _ _ _ (T95.setTop (mkF m 246 #[.val (.int p0), .val (.int p1), .val (.int p2), .val (.int p3), .val (.int p0), .val (.ref b79), .val (.int (p2 &&& (7 : Int32))), .val (.ref b91), .val (.int (0 : Int32)), .unset] []))
                  refine own_F.of (fun _ => XS.aload S95.here S95.hx rfl (S95.dec at_246) rfl rfl) ?_
                  show own_F p e below s Z _ _ _ _ _ (T95.setTop (mkF m 248 #[.val (.int p0), .val (.int p1), .val (.int p2), .val (.int p3), .val (.int p0), .val (.ref b79), .val (.int (p2 &&& (7 : Int32))), .val (.ref b91), .val (.int (0 : Int32)), .unset] [(.ref b79)]))
                  refine own_F.of (fun _ => XS.aload S95.here S95.hx rfl (S95.dec at_248) rfl rfl) ?_
                  show own_F p e below s Z _ _ _ _ _ (T95.setTop (mkF m 250 #[.val (.int p0), .val (.int p1), .val (.int p2), .val (.int p3), .val (.int p0), .val (.ref b79), .val (.int (p2 &&& (7 : Int32))), .val (.ref b91), .val (.int (0 : Int32)), .unset] [(.ref b91), (.ref b79)]))
                  have f96 := (((F80.ext E91).keep K92 nin0).keep K95 (ninS (Nat.ne_of_lt (by rw [g91]; exact ((A79.keep K80)).lt)) nin0))
                  have f97 := (f93.keep K95)
                  have f99 := ((((A79.keep K80).ext E91).keep K92).keep K95)
                  refine own_callV S95 (y := (⟨"com/example/manysort/manysort/language/NaturalNumber", "equals", "(Ljava/lang/Object;)Z"⟩ : MethodName)) (y' := (⟨"com/example/manysort/manysort/language/NaturalNumber", "equals", "(Ljava/lang/Object;)Z"⟩ : MethodName)) (own_w hw 21 rfl) (own_w hw 22 rfl) (own_nf S95 (own_w hw 24 rfl)) (own_w hw 24 rfl) (own_w hw 23 rfl) (own_w hw 25 rfl) (own_w hw 2 rfl) (by decide) f99 (argsL := [(.ref b91)]) (rest := []) (own_eqO l Z a0 hw b79 b91 p0 _ h95 S95.old f96 f97 (own_NSno (own_w hw 115 rfl) (own_w hw 1 rfl) (NS.step (own_w hw 115 rfl) (NS.step (own_w hw 116 rfl) (own_NSroot (own_w hw 37 rfl) (own_w hw 1 rfl) (by decide)) (by decide)) (by decide)) (by decide))) all0 (by decide +kernel : parseMethodDescriptor "(Ljava/lang/Object;)Z" = some ⟨[(.object "java/lang/Object")], some .boolean⟩) rfl rfl rfl at_250 (by decide) (Nat.le_of_ble_eq_true rfl) (by decide) (by decide) (fun T98 h98 v98 S98 K98 q98 => ?_)
                  obtain ⟨rfl, rfl⟩ := q98
                  show own_F p e below s Z _ _ _ _ _ (T98.setTop (mkF m 253 #[.val (.int p0), .val (.int p1), .val (.int p2), .val (.int p3), .val (.int p0), .val (.ref b79), .val (.int (p2 &&& (7 : Int32))), .val (.ref b91), .val (.int (0 : Int32)), .unset] [(.int (0 : Int32))]))
                  refine own_F.of (fun _ => XS.iload S98.here S98.hx rfl (S98.dec at_253) rfl) ?_
                  show own_F p e below s Z _ _ _ _ _ (T98.setTop (mkF m 255 #[.val (.int p0), .val (.int p1), .val (.int p2), .val (.int p3), .val (.int p0), .val (.ref b79), .val (.int (p2 &&& (7 : Int32))), .val (.ref b91), .val (.int (0 : Int32)), .unset] [(.int (0 : Int32)), (.int (0 : Int32))]))
                  refine own_icmp S98 262 at_255 (by decide) (by decide) (fun (hc255_100 : ¬ ((0 : Int32) = (0 : Int32))) => False.elim (absurd hc255_100 (by decide))) (fun (hc255_100 : (0 : Int32) = (0 : Int32)) => ?_)
                  show own_F p e below s Z _ _ _ _ _ (T98.setTop (mkF m 258 #[.val (.int p0), .val (.int p1), .val (.int p2), .val (.int p3), .val (.int p0), .val (.ref b79), .val (.int (p2 &&& (7 : Int32))), .val (.ref b91), .val (.int (0 : Int32)), .unset] []))
                  refine own_F.of (fun _ => XS.iconst S98.here S98.hx rfl (S98.dec at_258)) ?_
                  show own_F p e below s Z _ _ _ _ _ (T98.setTop (mkF m 259 #[.val (.int p0), .val (.int p1), .val (.int p2), .val (.int p3), .val (.int p0), .val (.ref b79), .val (.int (p2 &&& (7 : Int32))), .val (.ref b91), .val (.int (0 : Int32)), .unset] [(.int (1 : Int32))]))
                  refine own_F.of (fun _ => XS.goto S98.here S98.hx rfl (pc0 := 259) (pc' := 263) rfl (S98.dec at_259) (by decide) (by decide)) ?_
                  show own_F p e below s Z _ _ _ _ _ (T98.setTop (mkF m 263 #[.val (.int p0), .val (.int p1), .val (.int p2), .val (.int p3), .val (.int p0), .val (.ref b79), .val (.int (p2 &&& (7 : Int32))), .val (.ref b91), .val (.int (0 : Int32)), .unset] [(.int (1 : Int32))]))
                  refine own_retZ S98 (by simp) at_263 (by decide) (by decide) ?_
                  rfl
              · show own_F p e below s Z _ _ _ _ _ (T80.setTop (mkF m 184 #[.val (.int p0), .val (.int p1), .val (.int p2), .val (.int p3), .val (.int p0), .val (.ref b79), .val (.int (p2 &&& (7 : Int32))), .unset, .unset, .unset] []))
                refine own_new S80 (own_w hw 117 rfl) (own_w hw 118 rfl) (own_w hw 119 rfl) at_184 (by decide) (by decide) (fun T101 h101 b101 g101 S101 E101 A101 D101 => ?_)
                have F101_name : Fld Z h101 b101 "com/example/manysort/manysort/language/Constant" "name" "Ljava/lang/String;" .null := (D101 (Or.inr (own_w hw 125 rfl)) (ty := (.object "java/lang/String")) (by decide))
                show own_F p e below s Z _ _ _ _ _ (T101.setTop (mkF m 187 #[.val (.int p0), .val (.int p1), .val (.int p2), .val (.int p3), .val (.int p0), .val (.ref b79), .val (.int (p2 &&& (7 : Int32))), .unset, .unset, .unset] [(.ref b101)]))
                refine own_F.of (fun _ => XS.dup S101.here S101.hx rfl (S101.dec at_187) rfl rfl) ?_
                show own_F p e below s Z _ _ _ _ _ (T101.setTop (mkF m 188 #[.val (.int p0), .val (.int p1), .val (.int p2), .val (.int p3), .val (.int p0), .val (.ref b79), .val (.int (p2 &&& (7 : Int32))), .unset, .unset, .unset] [(.ref b101), (.ref b101)]))
                refine own_F.of (fun _ => XS.iloadN S101.here S101.hx rfl (S101.dec at_188) rfl) ?_
                show own_F p e below s Z _ _ _ _ _ (T101.setTop (mkF m 189 #[.val (.int p0), .val (.int p1), .val (.int p2), .val (.int p3), .val (.int p0), .val (.ref b79), .val (.int (p2 &&& (7 : Int32))), .unset, .unset, .unset] [(.int p3), (.ref b101), (.ref b101)]))
                refine own_F.of (fun _ => XS.sipush S101.here S101.hx rfl (S101.dec at_189)) ?_
                show own_F p e below s Z _ _ _ _ _ (T101.setTop (mkF m 192 #[.val (.int p0), .val (.int p1), .val (.int p2), .val (.int p3), .val (.int p0), .val (.ref b79), .val (.int (p2 &&& (7 : Int32))), .unset, .unset, .unset] [(.int (255 : Int32)), (.int p3), (.ref b101), (.ref b101)]))
                refine own_F.of (fun _ => XS.iand S101.here S101.hx rfl (S101.dec at_192) rfl) ?_
                show own_F p e below s Z _ _ _ _ _ (T101.setTop (mkF m 193 #[.val (.int p0), .val (.int p1), .val (.int p2), .val (.int p3), .val (.int p0), .val (.ref b79), .val (.int (p2 &&& (7 : Int32))), .unset, .unset, .unset] [(.int (p3 &&& (255 : Int32))), (.ref b101), (.ref b101)]))
                refine own_F.of (fun _ => XS.i2c S101.here S101.hx rfl (S101.dec at_193) rfl) ?_
                show own_F p e below s Z _ _ _ _ _ (T101.setTop (mkF m 194 #[.val (.int p0), .val (.int p1), .val (.int p2), .val (.int p3), .val (.int p0), .val (.ref b79), .val (.int (p2 &&& (7 : Int32))), .unset, .unset, .unset] [(.int ((p3 &&& (255 : Int32)).toUInt32.toUInt16.toUInt32.toInt32)), (.ref b101), (.ref b101)]))
                refine own_callS S101 (y := (⟨"java/lang/String", "valueOf", "(C)Ljava/lang/String;"⟩ : MethodName)) (own_w hw 95 rfl) (own_w hw 96 rfl) (own_w hw 64 rfl) (own_w hw 97 rfl) (by decide) (argsL := [(.int ((p3 &&& (255 : Int32)).toUInt32.toUInt16.toUInt32.toInt32))]) (rest := [(.ref b101), (.ref b101)]) (own_vOfC l Z a0 hw ((p3 &&& (255 : Int32)).toUInt32.toUInt16.toUInt32.toInt32) zc h101 S101.old SZ hz (own_m255 _).2) all0 (by decide +kernel : parseMethodDescriptor "(C)Ljava/lang/String;" = some ⟨[.char], some (.object "java/lang/String")⟩) rfl rfl rfl at_194 (by decide) (Nat.le_of_ble_eq_true rfl) (by decide) (by decide) (fun T102 h102 v102 S102 K102 q102 => ?_)
                obtain ⟨b102, rfl, X102⟩ := q102
                show own_F p e below s Z _ _ _ _ _ (T102.setTop (mkF m 197 #[.val (.int p0), .val (.int p1), .val (.int p2), .val (.int p3), .val (.int p0), .val (.ref b79), .val (.int (p2 &&& (7 : Int32))), .unset, .unset, .unset] [(.ref b102), (.ref b101), (.ref b101)]))
                have f103 := (A101.keep K102)
                have f104 := (F101_name.keep K102 nin0)
                refine own_callI S102 (y := (⟨"com/example/manysort/manysort/language/Constant", "<init>", "(Ljava/lang/String;)V"⟩ : MethodName)) rfl (own_w hw 120 rfl) (own_w hw 121 rfl) (own_w hw 119 rfl) (own_w hw 122 rfl) (by decide) (argsL := [(.ref b102)]) (rest := [(.ref b101)]) (own_ConInit l Z a0 hw b101 b102 h102 S102.old (own_mayN S102 (Or.inr (by rw [g101]; exact S80.size))) f103 f104) (allS (Or.inr (by rw [g101]; exact S80.size)) all0) (by decide +kernel : parseMethodDescriptor "(Ljava/lang/String;)V" = some ⟨[(.object "java/lang/String")], none⟩) rfl rfl rfl at_197 (by decide) (Nat.le_of_ble_eq_true rfl) (by decide) (by decide) (fun T105 h105 v105 S105 K105 q105 => ?_)
                obtain rfl := q105
                show own_F p e below s Z _ _ _ _ _ (T105.setTop (mkF m 200 #[.val (.int p0), .val (.int p1), .val (.int p2), .val (.int p3), .val (.int p0), .val (.ref b79), .val (.int (p2 &&& (7 : Int32))), .unset, .unset, .unset] [(.ref b101)]))
                refine own_F.of (fun _ => XS.astore S105.here S105.hx rfl (S105.dec at_200) rfl rfl (l' := #[.val (.int p0), .val (.int p1), .val (.int p2), .val (.int p3), .val (.int p0), .val (.ref b79), .val (.int (p2 &&& (7 : Int32))), .val (.ref b101), .unset, .unset]) rfl) ?_
                show own_F p e below s Z _ _ _ _ _ (T105.setTop (mkF m 202 #[.val (.int p0), .val (.int p1), .val (.int p2), .val (.int p3), .val (.int p0), .val (.ref b79), .val (.int (p2 &&& (7 : Int32))), .val (.ref b101), .unset, .unset] []))
                refine own_F.of (fun _ => XS.iconst S105.here S105.hx rfl (S105.dec at_202)) ?_
                show own_F p e below s Z _ _ _ _ _ (T105.setTop (mkF m 203 #[.val (.int p0), .val (.int p1), .val (.int p2), .val (.int p3), .val (.int p0), .val (.ref b79), .val (.int (p2 &&& (7 : Int32))), .val (.ref b101), .unset, .unset] [(.int (0 : Int32))]))
                refine own_F.of (fun _ => XS.istore S105.here S105.hx rfl (S105.dec at_203) rfl (l' := #[.val (.int p0), .val (.int p1), .val (.int p2), .val (.int p3), .val (.int p0), .val (.ref b79), .val (.int (p2 &&& (7 : Int32))), .val (.ref b101), .val (.int (0 : Int32)), .unset]) rfl) ?_
                show own_F p e below s Z _ _ _ _ _ (T105.setTop (mkF m 205 #[.val (.int p0), .val (.int p1), .val (.int p2), .val (.int p3), .val (.int p0), .val (.ref b79), .val (.int (p2 &&& (7 : Int32))), .val (.ref b101), .val (.int (0 : Int32)), .unset] []))
                refine own_F.of (fun _ => XS.goto S105.here S105.hx rfl (pc0 := 205) (pc' := 246) rfl (S105.dec at_205) (by decide) (by decide)) ?_
                show own_F p e below s Z _ _ _ _ _ (T105.setTop (mkF m 246 #[.val (.int p0), .val (.int p1), .val (.int p2), .val (.int p3), .val (.int p0), .val (.ref b79), .val (.int (p2 &&& (7 : Int32))), .val (.ref b101), .val (.int (0 : Int32)), .unset] []))
                refine own_F.of (fun _ => XS.aload S105.here S105.hx rfl (S105.dec at_246) rfl rfl) ?_
                show own_F p e below s Z _ _ _ _ _ (T105.setTop (mkF m 248 #[.val (.int p0), .val (.int p1), .val (.int p2), .val (.int p3), .val (.int p0), .val (.ref b79), .val (.int (p2 &&& (7 : Int32))), .val (.ref b101), .val (.int (0 : Int32)), .unset] [(.ref b79)]))
                refine own_F.of (fun _ => XS.aload S105.here S105.hx rfl (S105.dec at_248) rfl rfl) ?_
                show own_F p e below s Z _ _ _ _ _ (T105.setTop (mkF m 250 #[.val (.int p0), .val (.int p1), .val (.int p2), .val (.int p3), .val (.int p0), .val (.ref b79), .val (.int (p2 &&& (7 : Int32))), .val (.ref b101), .val (.int (0 : Int32)), .unset] [(.ref b101), (.ref b79)]))
                have f106 := (((F80.ext E101).keep K102 nin0).keep K105 (ninS (Nat.ne_of_lt (by rw [g101]; exact ((A79.keep K80)).lt)) nin0))
                have f107 := (f103.keep K105)
                have f109 := ((((A79.keep K80).ext E101).keep K102).keep K105)
                refine own_callV S105 (y := (⟨"com/example/manysort/manysort/language/NaturalNumber", "equals", "(Ljava/lang/Object;)Z"⟩ : MethodName)) (y' := (⟨"com/example/manysort/manysort/language/NaturalNumber", "equals", "(Ljava/lang/Object;)Z"⟩ : MethodName)) (own_w hw 21 rfl) (own_w hw 22 rfl) (own_nf S105 (own_w hw 24 rfl)) (own_w hw 24 rfl) (own_w hw 23 rfl) (own_w hw 25 rfl) (own_w hw 2 rfl) (by decide) f109 (argsL := [(.ref b101)]) (rest := []) (own_eqO l Z a0 hw b79 b101 p0 _ h105 S105.old f106 f107 (own_NSno (own_w hw 126 rfl) (own_w hw 1 rfl) (NS.step (own_w hw 126 rfl) (NS.step (own_w hw 116 rfl) (own_NSroot (own_w hw 37 rfl) (own_w hw 1 rfl) (by decide)) (by decide)) (by decide)) (by decide))) all0 (by decide +kernel : parseMethodDescriptor "(Ljava/lang/Object;)Z" = some ⟨[(.object "java/lang/Object")], some .boolean⟩) rfl rfl rfl at_250 (by decide) (Nat.le_of_ble_eq_true rfl) (by decide) (by decide) (fun T108 h108 v108 S108 K108 q108 => ?_)
                obtain ⟨rfl, rfl⟩ := q108
                show own_F p e below s Z _ _ _ _ _ (T108.setTop (mkF m 253 #[.val (.int p0), .val (.int p1), .val (.int p2), .val (.int p3), .val (.int p0), .val (.ref b79), .val (.int (p2 &&& (7 : Int32))), .val (.ref b101), .val (.int (0 : Int32)), .unset] [(.int (0 : Int32))]))
                refine own_F.of (fun _ => XS.iload S108.here S108.hx rfl (S108.dec at_253) rfl) ?_
                show own_F p e below s Z _ _ _ _ _ (T108.setTop (mkF m 255 #[.val (.int p0), .val (.int p1), .val (.int p2), .val (.int p3), .val (.int p0), .val (.ref b79), .val (.int (p2 &&& (7 : Int32))), .val (.ref b101), .val (.int (0 : Int32)), .unset] [(.int (0 : Int32)), (.int (0 : Int32))]))
                refine own_icmp S108 262 at_255 (by decide) (by decide) (fun (hc255_110 : ¬ ((0 : Int32) = (0 : Int32))) => False.elim (absurd hc255_110 (by decide))) (fun (hc255_110 : (0 : Int32) = (0 : Int32)) => ?_)
                show own_F p e below s Z _ _ _ _ _ (T108.setTop (mkF m 258 #[.val (.int p0), .val (.int p1), .val (.int p2), .val (.int p3), .val (.int p0), .val (.ref b79), .val (.int (p2 &&& (7 : Int32))), .val (.ref b101), .val (.int (0 : Int32)), .unset] []))
                refine own_F.of (fun _ => XS.iconst S108.here S108.hx rfl (S108.dec at_258)) ?_
                show own_F p e below s Z _ _ _ _ _ (T108.setTop (mkF m 259 #[.val (.int p0), .val (.int p1), .val (.int p2), .val (.int p3), .val (.int p0), .val (.ref b79), .val (.int (p2 &&& (7 : Int32))), .val (.ref b101), .val (.int (0 : Int32)), .unset] [(.int (1 : Int32))]))
                refine own_F.of (fun _ => XS.goto S108.here S108.hx rfl (pc0 := 259) (pc' := 263) rfl (S108.dec at_259) (by decide) (by decide)) ?_
                show own_F p e below s Z _ _ _ _ _ (T108.setTop (mkF m 263 #[.val (.int p0), .val (.int p1), .val (.int p2), .val (.int p3), .val (.int p0), .val (.ref b79), .val (.int (p2 &&& (7 : Int32))), .val (.ref b101), .val (.int (0 : Int32)), .unset] [(.int (1 : Int32))]))
                refine own_retZ S108 (by simp) at_263 (by decide) (by decide) ?_
                rfl
            · show own_F p e below s Z _ _ _ _ _ (T80.setTop (mkF m 165 #[.val (.int p0), .val (.int p1), .val (.int p2), .val (.int p3), .val (.int p0), .val (.ref b79), .val (.int (p2 &&& (7 : Int32))), .unset, .unset, .unset] []))
              refine own_F.of (fun _ => XS.iloadN S80.here S80.hx rfl (S80.dec at_165) rfl) ?_
              show own_F p e below s Z _ _ _ _ _ (T80.setTop (mkF m 166 #[.val (.int p0), .val (.int p1), .val (.int p2), .val (.int p3), .val (.int p0), .val (.ref b79), .val (.int (p2 &&& (7 : Int32))), .unset, .unset, .unset] [(.int p0)]))
              refine own_F.of (fun _ => XS.i2l S80.here S80.hx rfl (S80.dec at_166) rfl) ?_
              show own_F p e below s Z _ _ _ _ _ (T80.setTop (mkF m 167 #[.val (.int p0), .val (.int p1), .val (.int p2), .val (.int p3), .val (.int p0), .val (.ref b79), .val (.int (p2 &&& (7 : Int32))), .unset, .unset, .unset] [(.long (p0.toInt64))]))
              refine own_callS S80 (y := (⟨"java/lang/Long", "valueOf", "(J)Ljava/lang/Long;"⟩ : MethodName)) (own_w hw 26 rfl) (own_w hw 27 rfl) (own_w hw 28 rfl) (own_w hw 29 rfl) (by decide) (argsL := [(.long (p0.toInt64))]) (rest := []) (own_vOfJ l Z a0 hw (p0.toInt64) aCJ clCJ h80 S80.old SCaJ BXJ) all0 (by decide +kernel : parseMethodDescriptor "(J)Ljava/lang/Long;" = some ⟨[.long], some (.object "java/lang/Long")⟩) rfl rfl rfl at_167 (by decide) (Nat.le_of_ble_eq_true rfl) (by decide) (by decide) (fun T111 h111 v111 S111 K111 q111 => ?_)
              obtain ⟨b111, rfl, X111, -⟩ := q111
              show own_F p e below s Z _ _ _ _ _ (T111.setTop (mkF m 170 #[.val (.int p0), .val (.int p1), .val (.int p2), .val (.int p3), .val (.int p0), .val (.ref b79), .val (.int (p2 &&& (7 : Int32))), .unset, .unset, .unset] [(.ref b111)]))
              refine own_F.of (fun _ => XS.astore S111.here S111.hx rfl (S111.dec at_170) rfl rfl (l' := #[.val (.int p0), .val (.int p1), .val (.int p2), .val (.int p3), .val (.int p0), .val (.ref b79), .val (.int (p2 &&& (7 : Int32))), .val (.ref b111), .unset, .unset]) rfl) ?_
              show own_F p e below s Z _ _ _ _ _ (T111.setTop (mkF m 172 #[.val (.int p0), .val (.int p1), .val (.int p2), .val (.int p3), .val (.int p0), .val (.ref b79), .val (.int (p2 &&& (7 : Int32))), .val (.ref b111), .unset, .unset] []))
              refine own_F.of (fun _ => XS.iconst S111.here S111.hx rfl (S111.dec at_172)) ?_
              show own_F p e below s Z _ _ _ _ _ (T111.setTop (mkF m 173 #[.val (.int p0), .val (.int p1), .val (.int p2), .val (.int p3), .val (.int p0), .val (.ref b79), .val (.int (p2 &&& (7 : Int32))), .val (.ref b111), .unset, .unset] [(.int (0 : Int32))]))
              refine own_F.of (fun _ => XS.istore S111.here S111.hx rfl (S111.dec at_173) rfl (l' := #[.val (.int p0), .val (.int p1), .val (.int p2), .val (.int p3), .val (.int p0), .val (.ref b79), .val (.int (p2 &&& (7 : Int32))), .val (.ref b111), .val (.int (0 : Int32)), .unset]) rfl) ?_
              show own_F p e below s Z _ _ _ _ _ (T111.setTop (mkF m 175 #[.val (.int p0), .val (.int p1), .val (.int p2), .val (.int p3), .val (.int p0), .val (.ref b79), .val (.int (p2 &&& (7 : Int32))), .val (.ref b111), .val (.int (0 : Int32)), .unset] []))
              refine own_F.of (fun _ => XS.goto S111.here S111.hx rfl (pc0 := 175) (pc' := 246) rfl (S111.dec at_175) (by decide) (by decide)) ?_
              show own_F p e below s Z _ _ _ _ _ (T111.setTop (mkF m 246 #[.val (.int p0), .val (.int p1), .val (.int p2), .val (.int p3), .val (.int p0), .val (.ref b79), .val (.int (p2 &&& (7 : Int32))), .val (.ref b111), .val (.int (0 : Int32)), .unset] []))
              refine own_F.of (fun _ => XS.aload S111.here S111.hx rfl (S111.dec at_246) rfl rfl) ?_
              show own_F p e below s Z _ _ _ _ _ (T111.setTop (mkF m 248 #[.val (.int p0), .val (.int p1), .val (.int p2), .val (.int p3), .val (.int p0), .val (.ref b79), .val (.int (p2 &&& (7 : Int32))), .val (.ref b111), .val (.int (0 : Int32)), .unset] [(.ref b79)]))
              refine own_F.of (fun _ => XS.aload S111.here S111.hx rfl (S111.dec at_248) rfl rfl) ?_
              show own_F p e below s Z _ _ _ _ _ (T111.setTop (mkF m 250 #[.val (.int p0), .val (.int p1), .val (.int p2), .val (.int p3), .val (.int p0), .val (.ref b79), .val (.int (p2 &&& (7 : Int32))), .val (.ref b111), .val (.int (0 : Int32)), .unset] [(.ref b111), (.ref b79)]))
              have f112 := (F80.keep K111 nin0)
              have f114 := ((A79.keep K80).keep K111)
              refine own_callV S111 (y := (⟨"com/example/manysort/manysort/language/NaturalNumber", "equals", "(Ljava/lang/Object;)Z"⟩ : MethodName)) (y' := (⟨"com/example/manysort/manysort/language/NaturalNumber", "equals", "(Ljava/lang/Object;)Z"⟩ : MethodName)) (own_w hw 21 rfl) (own_w hw 22 rfl) (own_nf S111 (own_w hw 24 rfl)) (own_w hw 24 rfl) (own_w hw 23 rfl) (own_w hw 25 rfl) (own_w hw 2 rfl) (by decide) f114 (argsL := [(.ref b111)]) (rest := []) (own_eqO l Z a0 hw b79 b111 p0 _ h111 S111.old f112 X111 (own_NSno (own_w hw 35 rfl) (own_w hw 1 rfl) (NS.step (own_w hw 35 rfl) (NS.step (own_w hw 36 rfl) (own_NSroot (own_w hw 37 rfl) (own_w hw 1 rfl) (by decide)) (by decide)) (by decide)) (by decide))) all0 (by decide +kernel : parseMethodDescriptor "(Ljava/lang/Object;)Z" = some ⟨[(.object "java/lang/Object")], some .boolean⟩) rfl rfl rfl at_250 (by decide) (Nat.le_of_ble_eq_true rfl) (by decide) (by decide) (fun T113 h113 v113 S113 K113 q113 => ?_)
              obtain ⟨rfl, rfl⟩ := q113
              show own_F p e below s Z _ _ _ _ _ (T113.setTop (mkF m 253 #[.val (.int p0), .val (.int p1), .val (.int p2), .val (.int p3), .val (.int p0), .val (.ref b79), .val (.int (p2 &&& (7 : Int32))), .val (.ref b111), .val (.int (0 : Int32)), .unset] [(.int (0 : Int32))]))
              refine own_F.of (fun _ => XS.iload S113.here S113.hx rfl (S113.dec at_253) rfl) ?_
              show own_F p e below s Z _ _ _ _ _ (T113.setTop (mkF m 255 #[.val (.int p0), .val (.int p1), .val (.int p2), .val (.int p3), .val (.int p0), .val (.ref b79), .val (.int (p2 &&& (7 : Int32))), .val (.ref b111), .val (.int (0 : Int32)), .unset] [(.int (0 : Int32)), (.int (0 : Int32))]))
              refine own_icmp S113 262 at_255 (by decide) (by decide) (fun (hc255_115 : ¬ ((0 : Int32) = (0 : Int32))) => False.elim (absurd hc255_115 (by decide))) (fun (hc255_115 : (0 : Int32) = (0 : Int32)) => ?_)
              show own_F p e below s Z _ _ _ _ _ (T113.setTop (mkF m 258 #[.val (.int p0), .val (.int p1), .val (.int p2), .val (.int p3), .val (.int p0), .val (.ref b79), .val (.int (p2 &&& (7 : Int32))), .val (.ref b111), .val (.int (0 : Int32)), .unset] []))
              refine own_F.of (fun _ => XS.iconst S113.here S113.hx rfl (S113.dec at_258)) ?_
              show own_F p e below s Z _ _ _ _ _ (T113.setTop (mkF m 259 #[.val (.int p0), .val (.int p1), .val (.int p2), .val (.int p3), .val (.int p0), .val (.ref b79), .val (.int (p2 &&& (7 : Int32))), .val (.ref b111), .val (.int (0 : Int32)), .unset] [(.int (1 : Int32))]))
              refine own_F.of (fun _ => XS.goto S113.here S113.hx rfl (pc0 := 259) (pc' := 263) rfl (S113.dec at_259) (by decide) (by decide)) ?_
              show own_F p e below s Z _ _ _ _ _ (T113.setTop (mkF m 263 #[.val (.int p0), .val (.int p1), .val (.int p2), .val (.int p3), .val (.int p0), .val (.ref b79), .val (.int (p2 &&& (7 : Int32))), .val (.ref b111), .val (.int (0 : Int32)), .unset] [(.int (1 : Int32))]))
              refine own_retZ S113 (by simp) at_263 (by decide) (by decide) ?_
              rfl
          · show own_F p e below s Z _ _ _ _ _ (T80.setTop (mkF m 147 #[.val (.int p0), .val (.int p1), .val (.int p2), .val (.int p3), .val (.int p0), .val (.ref b79), .val (.int (p2 &&& (7 : Int32))), .unset, .unset, .unset] []))
            refine own_F.of (fun _ => XS.iloadN S80.here S80.hx rfl (S80.dec at_147) rfl) ?_
            show own_F p e below s Z _ _ _ _ _ (T80.setTop (mkF m 148 #[.val (.int p0), .val (.int p1), .val (.int p2), .val (.int p3), .val (.int p0), .val (.ref b79), .val (.int (p2 &&& (7 : Int32))), .unset, .unset, .unset] [(.int p0)]))
            refine own_callS S80 (y := (⟨"java/lang/Integer", "valueOf", "(I)Ljava/lang/Integer;"⟩ : MethodName)) (own_w hw 39 rfl) (own_w hw 40 rfl) (own_w hw 41 rfl) (own_w hw 42 rfl) (by decide) (argsL := [(.int p0)]) (rest := []) (own_vOfI l Z a0 hw p0 aCI clCI h80 S80.old SHi SCaI BXI) all0 (by decide +kernel : parseMethodDescriptor "(I)Ljava/lang/Integer;" = some ⟨[.int], some (.object "java/lang/Integer")⟩) rfl rfl rfl at_148 (by decide) (Nat.le_of_ble_eq_true rfl) (by decide) (by decide) (fun T116 h116 v116 S116 K116 q116 => ?_)
            obtain ⟨b116, rfl, X116, -⟩ := q116
            show own_F p e below s Z _ _ _ _ _ (T116.setTop (mkF m 151 #[.val (.int p0), .val (.int p1), .val (.int p2), .val (.int p3), .val (.int p0), .val (.ref b79), .val (.int (p2 &&& (7 : Int32))), .unset, .unset, .unset] [(.ref b116)]))
            refine own_F.of (fun _ => XS.astore S116.here S116.hx rfl (S116.dec at_151) rfl rfl (l' := #[.val (.int p0), .val (.int p1), .val (.int p2), .val (.int p3), .val (.int p0), .val (.ref b79), .val (.int (p2 &&& (7 : Int32))), .val (.ref b116), .unset, .unset]) rfl) ?_
            show own_F p e below s Z _ _ _ _ _ (T116.setTop (mkF m 153 #[.val (.int p0), .val (.int p1), .val (.int p2), .val (.int p3), .val (.int p0), .val (.ref b79), .val (.int (p2 &&& (7 : Int32))), .val (.ref b116), .unset, .unset] []))
            refine own_F.of (fun _ => XS.iconst S116.here S116.hx rfl (S116.dec at_153)) ?_
            show own_F p e below s Z _ _ _ _ _ (T116.setTop (mkF m 154 #[.val (.int p0), .val (.int p1), .val (.int p2), .val (.int p3), .val (.int p0), .val (.ref b79), .val (.int (p2 &&& (7 : Int32))), .val (.ref b116), .unset, .unset] [(.int (0 : Int32))]))
            refine own_F.of (fun _ => XS.istore S116.here S116.hx rfl (S116.dec at_154) rfl (l' := #[.val (.int p0), .val (.int p1), .val (.int p2), .val (.int p3), .val (.int p0), .val (.ref b79), .val (.int (p2 &&& (7 : Int32))), .val (.ref b116), .val (.int (0 : Int32)), .unset]) rfl) ?_
            show own_F p e below s Z _ _ _ _ _ (T116.setTop (mkF m 156 #[.val (.int p0), .val (.int p1), .val (.int p2), .val (.int p3), .val (.int p0), .val (.ref b79), .val (.int (p2 &&& (7 : Int32))), .val (.ref b116), .val (.int (0 : Int32)), .unset] []))
            refine own_F.of (fun _ => XS.goto S116.here S116.hx rfl (pc0 := 156) (pc' := 246) rfl (S116.dec at_156) (by decide) (by decide)) ?_
            show own_F p e below s Z _ _ _ _ _ (T116.setTop (mkF m 246 #[.val (.int p0), .val (.int p1), .val (.int p2), .val (.int p3), .val (.int p0), .val (.ref b79), .val (.int (p2 &&& (7 : Int32))), .val (.ref b116), .val (.int (0 : Int32)), .unset] []))
            refine own_F.of (fun _ => XS.aload S116.here S116.hx rfl (S116.dec at_246) rfl rfl) ?_
            show own_F p e below s Z _ _ _ _ _ (T116.setTop (mkF m 248 #[.val (.int p0), .val (.int p1), .val (.int p2), .val (.int p3), .val (.int p0), .val (.ref b79), .val (.int (p2 &&& (7 : Int32))), .val (.ref b116), .val (.int (0 : Int32)), .unset] [(.ref b79)]))
            refine own_F.of (fun _ => XS.aload S116.here S116.hx rfl (S116.dec at_248) rfl rfl) ?_
            show own_F p e below s Z _ _ _ _ _ (T116.setTop (mkF m 250 #[.val (.int p0), .val (.int p1), .val (.int p2), .val (.int p3), .val (.int p0), .val (.ref b79), .val (.int (p2 &&& (7 : Int32))), .val (.ref b116), .val (.int (0 : Int32)), .unset] [(.ref b116), (.ref b79)]))
            have f117 := (F80.keep K116 nin0)
            have f119 := ((A79.keep K80).keep K116)
            refine own_callV S116 (y := (⟨"com/example/manysort/manysort/language/NaturalNumber", "equals", "(Ljava/lang/Object;)Z"⟩ : MethodName)) (y' := (⟨"com/example/manysort/manysort/language/NaturalNumber", "equals", "(Ljava/lang/Object;)Z"⟩ : MethodName)) (own_w hw 21 rfl) (own_w hw 22 rfl) (own_nf S116 (own_w hw 24 rfl)) (own_w hw 24 rfl) (own_w hw 23 rfl) (own_w hw 25 rfl) (own_w hw 2 rfl) (by decide) f119 (argsL := [(.ref b116)]) (rest := []) (own_eqO l Z a0 hw b79 b116 p0 _ h116 S116.old f117 X116 (own_NSno (own_w hw 60 rfl) (own_w hw 1 rfl) (NS.step (own_w hw 60 rfl) (NS.step (own_w hw 36 rfl) (own_NSroot (own_w hw 37 rfl) (own_w hw 1 rfl) (by decide)) (by decide)) (by decide)) (by decide))) all0 (by decide +kernel : parseMethodDescriptor "(Ljava/lang/Object;)Z" = some ⟨[(.object "java/lang/Object")], some .boolean⟩) rfl rfl rfl at_250 (by decide) (Nat.le_of_ble_eq_true rfl) (by decide) (by decide) (fun T118 h118 v118 S118 K118 q118 => ?_)
            obtain ⟨rfl, rfl⟩ := q118
            show own_F p e below s Z _ _ _ _ _ (T118.setTop (mkF m 253 #[.val (.int p0), .val (.int p1), .val (.int p2), .val (.int p3), .val (.int p0), .val (.ref b79), .val (.int (p2 &&& (7 : Int32))), .val (.ref b116), .val (.int (0 : Int32)), .unset] [(.int (0 : Int32))]))
            refine own_F.of (fun _ => XS.iload S118.here S118.hx rfl (S118.dec at_253) rfl) ?_
            show own_F p e below s Z _ _ _ _ _ (T118.setTop (mkF m 255 #[.val (.int p0), .val (.int p1), .val (.int p2), .val (.int p3), .val (.int p0), .val (.ref b79), .val (.int (p2 &&& (7 : Int32))), .val (.ref b116), .val (.int (0 : Int32)), .unset] [(.int (0 : Int32)), (.int (0 : Int32))]))
            refine own_icmp S118 262 at_255 (by decide) (by decide) (fun (hc255_120 : ¬ ((0 : Int32) = (0 : Int32))) => False.elim (absurd hc255_120 (by decide))) (fun (hc255_120 : (0 : Int32) = (0 : Int32)) => ?_)
            show own_F p e below s Z _ _ _ _ _ (T118.setTop (mkF m 258 #[.val (.int p0), .val (.int p1), .val (.int p2), .val (.int p3), .val (.int p0), .val (.ref b79), .val (.int (p2 &&& (7 : Int32))), .val (.ref b116), .val (.int (0 : Int32)), .unset] []))
            refine own_F.of (fun _ => XS.iconst S118.here S118.hx rfl (S118.dec at_258)) ?_
            show own_F p e below s Z _ _ _ _ _ (T118.setTop (mkF m 259 #[.val (.int p0), .val (.int p1), .val (.int p2), .val (.int p3), .val (.int p0), .val (.ref b79), .val (.int (p2 &&& (7 : Int32))), .val (.ref b116), .val (.int (0 : Int32)), .unset] [(.int (1 : Int32))]))
            refine own_F.of (fun _ => XS.goto S118.here S118.hx rfl (pc0 := 259) (pc' := 263) rfl (S118.dec at_259) (by decide) (by decide)) ?_
            show own_F p e below s Z _ _ _ _ _ (T118.setTop (mkF m 263 #[.val (.int p0), .val (.int p1), .val (.int p2), .val (.int p3), .val (.int p0), .val (.ref b79), .val (.int (p2 &&& (7 : Int32))), .val (.ref b116), .val (.int (0 : Int32)), .unset] [(.int (1 : Int32))]))
            refine own_retZ S118 (by simp) at_263 (by decide) (by decide) ?_
            rfl
        · show own_F p e below s Z _ _ _ _ _ (T80.setTop (mkF m 132 #[.val (.int p0), .val (.int p1), .val (.int p2), .val (.int p3), .val (.int p0), .val (.ref b79), .val (.int (p2 &&& (7 : Int32))), .unset, .unset, .unset] []))
          refine own_F.of (fun _ => XS.aconstNull S80.here S80.hx rfl (S80.dec at_132)) ?_
          show own_F p e below s Z _ _ _ _ _ (T80.setTop (mkF m 133 #[.val (.int p0), .val (.int p1), .val (.int p2), .val (.int p3), .val (.int p0), .val (.ref b79), .val (.int (p2 &&& (7 : Int32))), .unset, .unset, .unset] [.null]))
          refine own_F.of (fun _ => XS.astore S80.here S80.hx rfl (S80.dec at_133) rfl rfl (l' := #[.val (.int p0), .val (.int p1), .val (.int p2), .val (.int p3), .val (.int p0), .val (.ref b79), .val (.int (p2 &&& (7 : Int32))), .val .null, .unset, .unset]) rfl) ?_
          show own_F p e below s Z _ _ _ _ _ (T80.setTop (mkF m 135 #[.val (.int p0), .val (.int p1), .val (.int p2), .val (.int p3), .val (.int p0), .val (.ref b79), .val (.int (p2 &&& (7 : Int32))), .val .null, .unset, .unset] []))
          refine own_F.of (fun _ => XS.iconst S80.here S80.hx rfl (S80.dec at_135)) ?_
          show own_F p e below s Z _ _ _ _ _ (T80.setTop (mkF m 136 #[.val (.int p0), .val (.int p1), .val (.int p2), .val (.int p3), .val (.int p0), .val (.ref b79), .val (.int (p2 &&& (7 : Int32))), .val .null, .unset, .unset] [(.int (0 : Int32))]))
          refine own_F.of (fun _ => XS.istore S80.here S80.hx rfl (S80.dec at_136) rfl (l' := #[.val (.int p0), .val (.int p1), .val (.int p2), .val (.int p3), .val (.int p0), .val (.ref b79), .val (.int (p2 &&& (7 : Int32))), .val .null, .val (.int (0 : Int32)), .unset]) rfl) ?_
          show own_F p e below s Z _ _ _ _ _ (T80.setTop (mkF m 138 #[.val (.int p0), .val (.int p1), .val (.int p2), .val (.int p3), .val (.int p0), .val (.ref b79), .val (.int (p2 &&& (7 : Int32))), .val .null, .val (.int (0 : Int32)), .unset] []))
          refine own_F.of (fun _ => XS.goto S80.here S80.hx rfl (pc0 := 138) (pc' := 246) rfl (S80.dec at_138) (by decide) (by decide)) ?_
          show own_F p e below s Z _ _ _ _ _ (T80.setTop (mkF m 246 #[.val (.int p0), .val (.int p1), .val (.int p2), .val (.int p3), .val (.int p0), .val (.ref b79), .val (.int (p2 &&& (7 : Int32))), .val .null, .val (.int (0 : Int32)), .unset] []))
          refine own_F.of (fun _ => XS.aload S80.here S80.hx rfl (S80.dec at_246) rfl rfl) ?_
          show own_F p e below s Z _ _ _ _ _ (T80.setTop (mkF m 248 #[.val (.int p0), .val (.int p1), .val (.int p2), .val (.int p3), .val (.int p0), .val (.ref b79), .val (.int (p2 &&& (7 : Int32))), .val .null, .val (.int (0 : Int32)), .unset] [(.ref b79)]))
          refine own_F.of (fun _ => XS.aload S80.here S80.hx rfl (S80.dec at_248) rfl rfl) ?_
          show own_F p e below s Z _ _ _ _ _ (T80.setTop (mkF m 250 #[.val (.int p0), .val (.int p1), .val (.int p2), .val (.int p3), .val (.int p0), .val (.ref b79), .val (.int (p2 &&& (7 : Int32))), .val .null, .val (.int (0 : Int32)), .unset] [.null, (.ref b79)]))
          have f122 := (A79.keep K80)
          refine own_callV S80 (y := (⟨"com/example/manysort/manysort/language/NaturalNumber", "equals", "(Ljava/lang/Object;)Z"⟩ : MethodName)) (y' := (⟨"com/example/manysort/manysort/language/NaturalNumber", "equals", "(Ljava/lang/Object;)Z"⟩ : MethodName)) (own_w hw 21 rfl) (own_w hw 22 rfl) (own_nf S80 (own_w hw 24 rfl)) (own_w hw 24 rfl) (own_w hw 23 rfl) (own_w hw 25 rfl) (own_w hw 2 rfl) (by decide) f122 (argsL := [.null]) (rest := []) (own_eq0 l Z a0 hw b79 p0 h80 S80.old F80) all0 (by decide +kernel : parseMethodDescriptor "(Ljava/lang/Object;)Z" = some ⟨[(.object "java/lang/Object")], some .boolean⟩) rfl rfl rfl at_250 (by decide) (Nat.le_of_ble_eq_true rfl) (by decide) (by decide) (fun T121 h121 v121 S121 K121 q121 => ?_)
          obtain ⟨rfl, rfl⟩ := q121
          show own_F p e below s Z _ _ _ _ _ (T121.setTop (mkF m 253 #[.val (.int p0), .val (.int p1), .val (.int p2), .val (.int p3), .val (.int p0), .val (.ref b79), .val (.int (p2 &&& (7 : Int32))), .val .null, .val (.int (0 : Int32)), .unset] [(.int (0 : Int32))]))
          refine own_F.of (fun _ => XS.iload S121.here S121.hx rfl (S121.dec at_253) rfl) ?_
          show own_F p e below s Z _ _ _ _ _ (T121.setTop (mkF m 255 #[.val (.int p0), .val (.int p1), .val (.int p2), .val (.int p3), .val (.int p0), .val (.ref b79), .val (.int (p2 &&& (7 : Int32))), .val .null, .val (.int (0 : Int32)), .unset] [(.int (0 : Int32)), (.int (0 : Int32))]))
          refine own_icmp S121 262 at_255 (by decide) (by decide) (fun (hc255_123 : ¬ ((0 : Int32) = (0 : Int32))) => False.elim (absurd hc255_123 (by decide))) (fun (hc255_123 : (0 : Int32) = (0 : Int32)) => ?_)
          show own_F p e below s Z _ _ _ _ _ (T121.setTop (mkF m 258 #[.val (.int p0), .val (.int p1), .val (.int p2), .val (.int p3), .val (.int p0), .val (.ref b79), .val (.int (p2 &&& (7 : Int32))), .val .null, .val (.int (0 : Int32)), .unset] []))
          refine own_F.of (fun _ => XS.iconst S121.here S121.hx rfl (S121.dec at_258)) ?_
          show own_F p e below s Z _ _ _ _ _ (T121.setTop (mkF m 259 #[.val (.int p0), .val (.int p1), .val (.int p2), .val (.int p3), .val (.int p0), .val (.ref b79), .val (.int (p2 &&& (7 : Int32))), .val .null, .val (.int (0 : Int32)), .unset] [(.int (1 : Int32))]))
          refine own_F.of (fun _ => XS.goto S121.here S121.hx rfl (pc0 := 259) (pc' := 263) rfl (S121.dec at_259) (by decide) (by decide)) ?_
          show own_F p e below s Z _ _ _ _ _ (T121.setTop (mkF m 263 #[.val (.int p0), .val (.int p1), .val (.int p2), .val (.int p3), .val (.int p0), .val (.ref b79), .val (.int (p2 &&& (7 : Int32))), .val .null, .val (.int (0 : Int32)), .unset] [(.int (1 : Int32))]))
          refine own_retZ S121 (by simp) at_263 (by decide) (by decide) ?_
          rfl
      · show own_F p e below s Z _ _ _ _ _ (T80.setTop (mkF m 68 #[.val (.int p0), .val (.int p1), .val (.int p2), .val (.int p3), .val (.int p0), .val (.ref b79), .val (.int (p2 &&& (7 : Int32))), .unset, .unset, .unset] []))
        refine own_F.of (fun _ => XS.iconst S80.here S80.hx rfl (S80.dec at_68)) ?_
        show own_F p e below s Z _ _ _ _ _ (T80.setTop (mkF m 69 #[.val (.int p0), .val (.int p1), .val (.int p2), .val (.int p3), .val (.int p0), .val (.ref b79), .val (.int (p2 &&& (7 : Int32))), .unset, .unset, .unset] [(.int (2 : Int32))]))
        refine own_newP S80 (own_w hw 61 rfl) at_69 (by decide) (cap := 2) (by decide) (by decide) (by decide) (by decide) (fun T124 h124 b124 g124 S124 E124 A124 => ?_)
        have V125 : own_A Z h124 b124 .char [(.int (0 : Int32)), (.int (0 : Int32))] := A124
        show own_F p e below s Z _ _ _ _ _ (T124.setTop (mkF m 71 #[.val (.int p0), .val (.int p1), .val (.int p2), .val (.int p3), .val (.int p0), .val (.ref b79), .val (.int (p2 &&& (7 : Int32))), .unset, .unset, .unset] [(.ref b124)]))
        refine own_F.of (fun _ => XS.dup S124.here S124.hx rfl (S124.dec at_71) rfl rfl) ?_
        show own_F p e below s Z _ _ _ _ _ (T124.setTop (mkF m 72 #[.val (.int p0), .val (.int p1), .val (.int p2), .val (.int p3), .val (.int p0), .val (.ref b79), .val (.int (p2 &&& (7 : Int32))), .unset, .unset, .unset] [(.ref b124), (.ref b124)]))
        refine own_F.of (fun _ => XS.iconst S124.here S124.hx rfl (S124.dec at_72)) ?_
        show own_F p e below s Z _ _ _ _ _ (T124.setTop (mkF m 73 #[.val (.int p0), .val (.int p1), .val (.int p2), .val (.int p3), .val (.int p0), .val (.ref b79), .val (.int (p2 &&& (7 : Int32))), .unset, .unset, .unset] [(.int (0 : Int32)), (.ref b124), (.ref b124)]))
        refine own_F.of (fun _ => XS.iloadN S124.here S124.hx rfl (S124.dec at_73) rfl) ?_
        show own_F p e below s Z _ _ _ _ _ (T124.setTop (mkF m 74 #[.val (.int p0), .val (.int p1), .val (.int p2), .val (.int p3), .val (.int p0), .val (.ref b79), .val (.int (p2 &&& (7 : Int32))), .unset, .unset, .unset] [(.int p3), (.int (0 : Int32)), (.ref b124), (.ref b124)]))
        refine own_F.of (fun _ => XS.sipush S124.here S124.hx rfl (S124.dec at_74)) ?_
        show own_F p e below s Z _ _ _ _ _ (T124.setTop (mkF m 77 #[.val (.int p0), .val (.int p1), .val (.int p2), .val (.int p3), .val (.int p0), .val (.ref b79), .val (.int (p2 &&& (7 : Int32))), .unset, .unset, .unset] [(.int (255 : Int32)), (.int p3), (.int (0 : Int32)), (.ref b124), (.ref b124)]))
        refine own_F.of (fun _ => XS.iand S124.here S124.hx rfl (S124.dec at_77) rfl) ?_
        show own_F p e below s Z _ _ _ _ _ (T124.setTop (mkF m 78 #[.val (.int p0), .val (.int p1), .val (.int p2), .val (.int p3), .val (.int p0), .val (.ref b79), .val (.int (p2 &&& (7 : Int32))), .unset, .unset, .unset] [(.int (p3 &&& (255 : Int32))), (.int (0 : Int32)), (.ref b124), (.ref b124)]))
        refine own_F.of (fun _ => XS.i2c S124.here S124.hx rfl (S124.dec at_78) rfl) ?_
        show own_F p e below s Z _ _ _ _ _ (T124.setTop (mkF m 79 #[.val (.int p0), .val (.int p1), .val (.int p2), .val (.int p3), .val (.int p0), .val (.ref b79), .val (.int (p2 &&& (7 : Int32))), .unset, .unset, .unset] [(.int ((p3 &&& (255 : Int32)).toUInt32.toUInt16.toUInt32.toInt32)), (.int (0 : Int32)), (.ref b124), (.ref b124)]))
        refine own_cst S124 V125 (by decide) (Nat.le_of_ble_eq_true rfl) at_79 (Or.inr (by rw [g124]; exact S80.size)) (fun T126 h126 S126 W126 A126 => ?_)
        have V127 : own_A Z h126 b124 .char [(.int (nar .char ((p3 &&& (255 : Int32)).toUInt32.toUInt16.toUInt32.toInt32))), (.int (0 : Int32))] := A126
        show own_F p e below s Z _ _ _ _ _ (T126.setTop (mkF m 80 #[.val (.int p0), .val (.int p1), .val (.int p2), .val (.int p3), .val (.int p0), .val (.ref b79), .val (.int (p2 &&& (7 : Int32))), .unset, .unset, .unset] [(.ref b124)]))
        refine own_F.of (fun _ => XS.dup S126.here S126.hx rfl (S126.dec at_80) rfl rfl) ?_
        show own_F p e below s Z _ _ _ _ _ (T126.setTop (mkF m 81 #[.val (.int p0), .val (.int p1), .val (.int p2), .val (.int p3), .val (.int p0), .val (.ref b79), .val (.int (p2 &&& (7 : Int32))), .unset, .unset, .unset] [(.ref b124), (.ref b124)]))
        refine own_F.of (fun _ => XS.iconst S126.here S126.hx rfl (S126.dec at_81)) ?_
        show own_F p e below s Z _ _ _ _ _ (T126.setTop (mkF m 82 #[.val (.int p0), .val (.int p1), .val (.int p2), .val (.int p3), .val (.int p0), .val (.ref b79), .val (.int (p2 &&& (7 : Int32))), .unset, .unset, .unset] [(.int (1 : Int32)), (.ref b124), (.ref b124)]))
        refine own_F.of (fun _ => XS.iloadN S126.here S126.hx rfl (S126.dec at_82) rfl) ?_
        show own_F p e below s Z _ _ _ _ _ (T126.setTop (mkF m 83 #[.val (.int p0), .val (.int p1), .val (.int p2), .val (.int p3), .val (.int p0), .val (.ref b79), .val (.int (p2 &&& (7 : Int32))), .unset, .unset, .unset] [(.int p3), (.int (1 : Int32)), (.ref b124), (.ref b124)]))
        refine own_F.of (fun _ => XS.bipush S126.here S126.hx rfl (S126.dec at_83)) ?_
        show own_F p e below s Z _ _ _ _ _ (T126.setTop (mkF m 85 #[.val (.int p0), .val (.int p1), .val (.int p2), .val (.int p3), .val (.int p0), .val (.ref b79), .val (.int (p2 &&& (7 : Int32))), .unset, .unset, .unset] [(.int (8 : Int32)), (.int p3), (.int (1 : Int32)), (.ref b124), (.ref b124)]))
        refine own_F.of (fun _ => XS.iushr S126.here S126.hx rfl (S126.dec at_85) rfl) ?_
        show own_F p e below s Z _ _ _ _ _ (T126.setTop (mkF m 86 #[.val (.int p0), .val (.int p1), .val (.int p2), .val (.int p3), .val (.int p0), .val (.ref b79), .val (.int (p2 &&& (7 : Int32))), .unset, .unset, .unset] [(.int ((p3.toUInt32 >>> ((8 : Int32) &&& 31).toUInt32).toInt32)), (.int (1 : Int32)), (.ref b124), (.ref b124)]))
        refine own_F.of (fun _ => XS.sipush S126.here S126.hx rfl (S126.dec at_86)) ?_
        show own_F p e below s Z _ _ _ _ _ (T126.setTop (mkF m 89 #[.val (.int p0), .val (.int p1), .val (.int p2), .val (.int p3), .val (.int p0), .val (.ref b79), .val (.int (p2 &&& (7 : Int32))), .unset, .unset, .unset] [(.int (255 : Int32)), (.int ((p3.toUInt32 >>> ((8 : Int32) &&& 31).toUInt32).toInt32)), (.int (1 : Int32)), (.ref b124), (.ref b124)]))
        refine own_F.of (fun _ => XS.iand S126.here S126.hx rfl (S126.dec at_89) rfl) ?_
        show own_F p e below s Z _ _ _ _ _ (T126.setTop (mkF m 90 #[.val (.int p0), .val (.int p1), .val (.int p2), .val (.int p3), .val (.int p0), .val (.ref b79), .val (.int (p2 &&& (7 : Int32))), .unset, .unset, .unset] [(.int (((p3.toUInt32 >>> ((8 : Int32) &&& 31).toUInt32).toInt32) &&& (255 : Int32))), (.int (1 : Int32)), (.ref b124), (.ref b124)]))
        refine own_F.of (fun _ => XS.i2c S126.here S126.hx rfl (S126.dec at_90) rfl) ?_
        show own_F p e below s Z _ _ _ _ _ (T126.setTop (mkF m 91 #[.val (.int p0), .val (.int p1), .val (.int p2), .val (.int p3), .val (.int p0), .val (.ref b79), .val (.int (p2 &&& (7 : Int32))), .unset, .unset, .unset] [(.int ((((p3.toUInt32 >>> ((8 : Int32) &&& 31).toUInt32).toInt32) &&& (255 : Int32)).toUInt32.toUInt16.toUInt32.toInt32)), (.int (1 : Int32)), (.ref b124), (.ref b124)]))
        refine own_cst S126 V127 (by decide) (Nat.le_of_ble_eq_true rfl) at_91 (Or.inr (by rw [g124]; exact S80.size)) (fun T128 h128 S128 W128 A128 => ?_)
        have V129 : own_A Z h128 b124 .char [(.int (nar .char ((p3 &&& (255 : Int32)).toUInt32.toUInt16.toUInt32.toInt32))), (.int (nar .char ((((p3.toUInt32 >>> ((8 : Int32) &&& 31).toUInt32).toInt32) &&& (255 : Int32)).toUInt32.toUInt16.toUInt32.toInt32)))] := A128
        show own_F p e below s Z _ _ _ _ _ (T128.setTop (mkF m 92 #[.val (.int p0), .val (.int p1), .val (.int p2), .val (.int p3), .val (.int p0), .val (.ref b79), .val (.int (p2 &&& (7 : Int32))), .unset, .unset, .unset] [(.ref b124)]))
        refine own_F.of (fun _ => XS.astore S128.here S128.hx rfl (S128.dec at_92) rfl rfl (l' := #[.val (.int p0), .val (.int p1), .val (.int p2), .val (.int p3), .val (.int p0), .val (.ref b79), .val (.int (p2 &&& (7 : Int32))), .unset, .unset, .val (.ref b124)]) rfl) ?_
        show own_F p e below s Z _ _ _ _ _ (T128.setTop (mkF m 94 #[.val (.int p0), .val (.int p1), .val (.int p2), .val (.int p3), .val (.int p0), .val (.ref b79), .val (.int (p2 &&& (7 : Int32))), .unset, .unset, .val (.ref b124)] []))
        refine own_new S128 (own_w hw 62 rfl) (own_w hw 63 rfl) (own_w hw 64 rfl) at_94 (by decide) (by decide) (fun T130 h130 b130 g130 S130 E130 A130 D130 => ?_)
        have F130_coder : Fld Z h130 b130 "java/lang/String" "coder" "B" (.int (0 : Int32)) := (D130 (Or.inr (own_w hw 86 rfl)) (ty := .byte) (by decide))
        have F130_value : Fld Z h130 b130 "java/lang/String" "value" "[B" .null := (D130 (Or.inr (own_w hw 88 rfl)) (ty := (.array .byte)) (by decide))
        show own_F p e below s Z _ _ _ _ _ (T130.setTop (mkF m 97 #[.val (.int p0), .val (.int p1), .val (.int p2), .val (.int p3), .val (.int p0), .val (.ref b79), .val (.int (p2 &&& (7 : Int32))), .unset, .unset, .val (.ref b124)] [(.ref b130)]))
        refine own_F.of (fun _ => XS.dup S130.here S130.hx rfl (S130.dec at_97) rfl rfl) ?_
        show own_F p e below s Z _ _ _ _ _ (T130.setTop (mkF m 98 #[.val (.int p0), .val (.int p1), .val (.int p2), .val (.int p3), .val (.int p0), .val (.ref b79), .val (.int (p2 &&& (7 : Int32))), .unset, .unset, .val (.ref b124)] [(.ref b130), (.ref b130)]))
        refine own_F.of (fun _ => XS.aload S130.here S130.hx rfl (S130.dec at_98) rfl rfl) ?_
        show own_F p e below s Z _ _ _ _ _ (T130.setTop (mkF m 100 #[.val (.int p0), .val (.int p1), .val (.int p2), .val (.int p3), .val (.int p0), .val (.ref b79), .val (.int (p2 &&& (7 : Int32))), .unset, .unset, .val (.ref b124)] [(.ref b124), (.ref b130), (.ref b130)]))
        have f131 := (V129.ext E130)
        refine own_callI S130 (y := (⟨"java/lang/String", "<init>", "([C)V"⟩ : MethodName)) rfl (own_w hw 65 rfl) (own_w hw 66 rfl) (own_w hw 64 rfl) (own_w hw 67 rfl) (by decide) (argsL := [(.ref b124)]) (rest := [(.ref b130)]) (own_strC2 l Z a0 hw b130 b124 (nar .char ((p3 &&& (255 : Int32)).toUInt32.toUInt16.toUInt32.toInt32)) (nar .char ((((p3.toUInt32 >>> ((8 : Int32) &&& 31).toUInt32).toInt32) &&& (255 : Int32)).toUInt32.toUInt16.toUInt32.toInt32)) zc h130 S130.old SZ hz (own_m255 _).1 (own_m255 _).1 (own_mayN S130 (Or.inr (by rw [g130]; exact S128.size))) A130 F130_value F130_coder f131) (allS (Or.inr (by rw [g130]; exact S128.size)) all0) (by decide +kernel : parseMethodDescriptor "([C)V" = some ⟨[(.array .char)], none⟩) rfl rfl rfl at_100 (by decide) (Nat.le_of_ble_eq_true rfl) (by decide) (by decide) (fun T132 h132 v132 S132 K132 q132 => ?_)
        obtain ⟨rfl, -⟩ := q132
        show own_F p e below s Z _ _ _ _ _ (T132.setTop (mkF m 103 #[.val (.int p0), .val (.int p1), .val (.int p2), .val (.int p3), .val (.int p0), .val (.ref b79), .val (.int (p2 &&& (7 : Int32))), .unset, .unset, .val (.ref b124)] [(.ref b130)]))
        refine own_F.of (fun _ => XS.iload S132.here S132.hx rfl (S132.dec at_103) rfl) ?_
        show own_F p e below s Z _ _ _ _ _ (T132.setTop (mkF m 105 #[.val (.int p0), .val (.int p1), .val (.int p2), .val (.int p3), .val (.int p0), .val (.ref b79), .val (.int (p2 &&& (7 : Int32))), .unset, .unset, .val (.ref b124)] [(.int p0), (.ref b130)]))
        refine own_callS S132 (y := (⟨"com/example/manysort/manysort/language/NaturalNumber", "aboveMaxint", "(Ljava/lang/String;I)Lcom/example/manysort/manysort/language/NaturalNumber;"⟩ : MethodName)) (own_w hw 89 rfl) (own_w hw 90 rfl) (own_w hw 2 rfl) (own_w hw 91 rfl) (by decide) (argsL := [(.ref b130), (.int p0)]) (rest := []) (own_above l Z a0 hw b130 p0 h132 S132.old) all0 (by decide +kernel : parseMethodDescriptor "(Ljava/lang/String;I)Lcom/example/manysort/manysort/language/NaturalNumber;" = some ⟨[(.object "java/lang/String"), .int], some (.object "com/example/manysort/manysort/language/NaturalNumber")⟩) rfl rfl rfl at_105 (by decide) (Nat.le_of_ble_eq_true rfl) (by decide) (by decide) (fun T133 h133 v133 S133 K133 q133 => ?_)
        obtain ⟨b133, rfl, X133, F133⟩ := q133
        show own_F p e below s Z _ _ _ _ _ (T133.setTop (mkF m 108 #[.val (.int p0), .val (.int p1), .val (.int p2), .val (.int p3), .val (.int p0), .val (.ref b79), .val (.int (p2 &&& (7 : Int32))), .unset, .unset, .val (.ref b124)] [(.ref b133)]))
        refine own_F.of (fun _ => XS.astore S133.here S133.hx rfl (S133.dec at_108) rfl rfl (l' := #[.val (.int p0), .val (.int p1), .val (.int p2), .val (.int p3), .val (.int p0), .val (.ref b79), .val (.int (p2 &&& (7 : Int32))), .val (.ref b133), .unset, .val (.ref b124)]) rfl) ?_
        show own_F p e below s Z _ _ _ _ _ (T133.setTop (mkF m 110 #[.val (.int p0), .val (.int p1), .val (.int p2), .val (.int p3), .val (.int p0), .val (.ref b79), .val (.int (p2 &&& (7 : Int32))), .val (.ref b133), .unset, .val (.ref b124)] []))
        refine own_F.of (fun _ => XS.iloadN S133.here S133.hx rfl (S133.dec at_110) rfl) ?_
        show own_F p e below s Z _ _ _ _ _ (T133.setTop (mkF m 111 #[.val (.int p0), .val (.int p1), .val (.int p2), .val (.int p3), .val (.int p0), .val (.ref b79), .val (.int (p2 &&& (7 : Int32))), .val (.ref b133), .unset, .val (.ref b124)] [(.int p0)]))
        refine own_F.of (fun _ => XS.iload S133.here S133.hx rfl (S133.dec at_111) rfl) ?_
        show own_F p e below s Z _ _ _ _ _ (T133.setTop (mkF m 113 #[.val (.int p0), .val (.int p1), .val (.int p2), .val (.int p3), .val (.int p0), .val (.ref b79), .val (.int (p2 &&& (7 : Int32))), .val (.ref b133), .unset, .val (.ref b124)] [(.int p0), (.int p0)]))
        refine own_icmp S133 120 at_113 (by decide) (by decide) (fun (hc113_134 : ¬ (p0 = p0)) => False.elim (hc113_134 rfl)) (fun (hc113_134 : p0 = p0) => ?_)
        show own_F p e below s Z _ _ _ _ _ (T133.setTop (mkF m 116 #[.val (.int p0), .val (.int p1), .val (.int p2), .val (.int p3), .val (.int p0), .val (.ref b79), .val (.int (p2 &&& (7 : Int32))), .val (.ref b133), .unset, .val (.ref b124)] []))
        refine own_F.of (fun _ => XS.iconst S133.here S133.hx rfl (S133.dec at_116)) ?_
        show own_F p e below s Z _ _ _ _ _ (T133.setTop (mkF m 117 #[.val (.int p0), .val (.int p1), .val (.int p2), .val (.int p3), .val (.int p0), .val (.ref b79), .val (.int (p2 &&& (7 : Int32))), .val (.ref b133), .unset, .val (.ref b124)] [(.int (1 : Int32))]))
        refine own_F.of (fun _ => XS.goto S133.here S133.hx rfl (pc0 := 117) (pc' := 121) rfl (S133.dec at_117) (by decide) (by decide)) ?_
        show own_F p e below s Z _ _ _ _ _ (T133.setTop (mkF m 121 #[.val (.int p0), .val (.int p1), .val (.int p2), .val (.int p3), .val (.int p0), .val (.ref b79), .val (.int (p2 &&& (7 : Int32))), .val (.ref b133), .unset, .val (.ref b124)] [(.int (1 : Int32))]))
        refine own_F.of (fun _ => XS.istore S133.here S133.hx rfl (S133.dec at_121) rfl (l' := #[.val (.int p0), .val (.int p1), .val (.int p2), .val (.int p3), .val (.int p0), .val (.ref b79), .val (.int (p2 &&& (7 : Int32))), .val (.ref b133), .val (.int (1 : Int32)), .val (.ref b124)]) rfl) ?_
        show own_F p e below s Z _ _ _ _ _ (T133.setTop (mkF m 123 #[.val (.int p0), .val (.int p1), .val (.int p2), .val (.int p3), .val (.int p0), .val (.ref b79), .val (.int (p2 &&& (7 : Int32))), .val (.ref b133), .val (.int (1 : Int32)), .val (.ref b124)] []))
        refine own_F.of (fun _ => XS.goto S133.here S133.hx rfl (pc0 := 123) (pc' := 246) rfl (S133.dec at_123) (by decide) (by decide)) ?_
        show own_F p e below s Z _ _ _ _ _ (T133.setTop (mkF m 246 #[.val (.int p0), .val (.int p1), .val (.int p2), .val (.int p3), .val (.int p0), .val (.ref b79), .val (.int (p2 &&& (7 : Int32))), .val (.ref b133), .val (.int (1 : Int32)), .val (.ref b124)] []))
        refine own_F.of (fun _ => XS.aload S133.here S133.hx rfl (S133.dec at_246) rfl rfl) ?_
        show own_F p e below s Z _ _ _ _ _ (T133.setTop (mkF m 248 #[.val (.int p0), .val (.int p1), .val (.int p2), .val (.int p3), .val (.int p0), .val (.ref b79), .val (.int (p2 &&& (7 : Int32))), .val (.ref b133), .val (.int (1 : Int32)), .val (.ref b124)] [(.ref b79)]))
        refine own_F.of (fun _ => XS.aload S133.here S133.hx rfl (S133.dec at_248) rfl rfl) ?_
        show own_F p e below s Z _ _ _ _ _ (T133.setTop (mkF m 250 #[.val (.int p0), .val (.int p1), .val (.int p2), .val (.int p3), .val (.int p0), .val (.ref b79), .val (.int (p2 &&& (7 : Int32))), .val (.ref b133), .val (.int (1 : Int32)), .val (.ref b124)] [(.ref b133), (.ref b79)]))
        have f135 := ((((((F80.ext E124).other W126 (Or.inl (Nat.ne_of_lt (by rw [g124]; exact ((A79.keep K80)).lt)))).other W128 (Or.inl (Nat.ne_of_lt (by rw [g124]; exact ((A79.keep K80)).lt)))).ext E130).keep K132 (ninS (Nat.ne_of_lt (by rw [g130]; exact (((((A79.keep K80).ext E124).wr W126).wr W128)).lt)) nin0)).keep K133 nin0)
        have f137 := (((((((A79.keep K80).ext E124).wr W126).wr W128).ext E130).keep K132).keep K133)
        refine own_callV S133 (y := (⟨"com/example/manysort/manysort/language/NaturalNumber", "equals", "(Ljava/lang/Object;)Z"⟩ : MethodName)) (y' := (⟨"com/example/manysort/manysort/language/NaturalNumber", "equals", "(Ljava/lang/Object;)Z"⟩ : MethodName)) (own_w hw 21 rfl) (own_w hw 22 rfl) (own_nf S133 (own_w hw 24 rfl)) (own_w hw 24 rfl) (own_w hw 23 rfl) (own_w hw 25 rfl) (own_w hw 2 rfl) (by decide) f137 (argsL := [(.ref b133)]) (rest := []) (own_eqN l Z a0 hw b79 b133 p0 p0 h133 S133.old f135 X133 F133) all0 (by decide +kernel : parseMethodDescriptor "(Ljava/lang/Object;)Z" = some ⟨[(.object "java/lang/Object")], some .boolean⟩) rfl rfl rfl at_250 (by decide) (Nat.le_of_ble_eq_true rfl) (by decide) (by decide) (fun T136 h136 v136 S136 K136 q136 => ?_)
        obtain ⟨rfl, rfl⟩ := q136
        show own_F p e below s Z _ _ _ _ _ (T136.setTop (mkF m 253 #[.val (.int p0), .val (.int p1), .val (.int p2), .val (.int p3), .val (.int p0), .val (.ref b79), .val (.int (p2 &&& (7 : Int32))), .val (.ref b133), .val (.int (1 : Int32)), .val (.ref b124)] [(.int (own_eq p0 p0))]))
        refine own_F.of (fun _ => XS.iload S136.here S136.hx rfl (S136.dec at_253) rfl) ?_
        show own_F p e below s Z _ _ _ _ _ (T136.setTop (mkF m 255 #[.val (.int p0), .val (.int p1), .val (.int p2), .val (.int p3), .val (.int p0), .val (.ref b79), .val (.int (p2 &&& (7 : Int32))), .val (.ref b133), .val (.int (1 : Int32)), .val (.ref b124)] [(.int (1 : Int32)), (.int (own_eq p0 p0))]))
        refine own_icmp S136 262 at_255 (by decide) (by decide) (fun (hc255_138 : ¬ ((own_eq p0 p0) = (1 : Int32))) => False.elim (hc255_138 (by simp [own_eq, hc113_134, eq_comm]))) (fun (hc255_138 : (own_eq p0 p0) = (1 : Int32)) => ?_)
        show own_F p e below s Z _ _ _ _ _ (T136.setTop (mkF m 258 #[.val (.int p0), .val (.int p1), .val (.int p2), .val (.int p3), .val (.int p0), .val (.ref b79), .val (.int (p2 &&& (7 : Int32))), .val (.ref b133), .val (.int (1 : Int32)), .val (.ref b124)] []))
        refine own_F.of (fun _ => XS.iconst S136.here S136.hx rfl (S136.dec at_258)) ?_
        show own_F p e below s Z _ _ _ _ _ (T136.setTop (mkF m 259 #[.val (.int p0), .val (.int p1), .val (.int p2), .val (.int p3), .val (.int p0), .val (.ref b79), .val (.int (p2 &&& (7 : Int32))), .val (.ref b133), .val (.int (1 : Int32)), .val (.ref b124)] [(.int (1 : Int32))]))
        refine own_F.of (fun _ => XS.goto S136.here S136.hx rfl (pc0 := 259) (pc' := 263) rfl (S136.dec at_259) (by decide) (by decide)) ?_
        show own_F p e below s Z _ _ _ _ _ (T136.setTop (mkF m 263 #[.val (.int p0), .val (.int p1), .val (.int p2), .val (.int p3), .val (.int p0), .val (.ref b79), .val (.int (p2 &&& (7 : Int32))), .val (.ref b133), .val (.int (1 : Int32)), .val (.ref b124)] [(.int (1 : Int32))]))
        refine own_retZ S136 (by simp) at_263 (by decide) (by decide) ?_
        rfl
    · show own_F p e below s Z _ _ _ _ _ (T80.setTop (mkF m 35 #[.val (.int p0), .val (.int p1), .val (.int p2), .val (.int p3), .val (.int p0), .val (.ref b79), .val (.int (p2 &&& (7 : Int32))), .unset, .unset, .unset] []))
      refine own_new S80 (own_w hw 0 rfl) (own_w hw 1 rfl) (own_w hw 2 rfl) at_35 (by decide) (by decide) (fun T139 h139 b139 g139 S139 E139 A139 D139 => ?_)
      have F139_value : Fld Z h139 b139 "com/example/manysort/manysort/language/NaturalNumber" "value" "I" (.int (0 : Int32)) := (D139 (Or.inr (own_w hw 18 rfl)) (ty := .int) (by decide))
      have F139_written : Fld Z h139 b139 "com/example/manysort/manysort/language/NaturalNumber" "written" "Ljava/lang/String;" .null := (D139 (Or.inr (own_w hw 20 rfl)) (ty := (.object "java/lang/String")) (by decide))
      show own_F p e below s Z _ _ _ _ _ (T139.setTop (mkF m 38 #[.val (.int p0), .val (.int p1), .val (.int p2), .val (.int p3), .val (.int p0), .val (.ref b79), .val (.int (p2 &&& (7 : Int32))), .unset, .unset, .unset] [(.ref b139)]))
      refine own_F.of (fun _ => XS.dup S139.here S139.hx rfl (S139.dec at_38) rfl rfl) ?_
      show own_F p e below s Z _ _ _ _ _ (T139.setTop (mkF m 39 #[.val (.int p0), .val (.int p1), .val (.int p2), .val (.int p3), .val (.int p0), .val (.ref b79), .val (.int (p2 &&& (7 : Int32))), .unset, .unset, .unset] [(.ref b139), (.ref b139)]))
      refine own_F.of (fun _ => XS.iload S139.here S139.hx rfl (S139.dec at_39) rfl) ?_
      show own_F p e below s Z _ _ _ _ _ (T139.setTop (mkF m 41 #[.val (.int p0), .val (.int p1), .val (.int p2), .val (.int p3), .val (.int p0), .val (.ref b79), .val (.int (p2 &&& (7 : Int32))), .unset, .unset, .unset] [(.int p0), (.ref b139), (.ref b139)]))
      refine own_callI S139 (y := (⟨"com/example/manysort/manysort/language/NaturalNumber", "<init>", "(I)V"⟩ : MethodName)) rfl (own_w hw 3 rfl) (own_w hw 4 rfl) (own_w hw 2 rfl) (own_w hw 5 rfl) (by decide) (argsL := [(.int p0)]) (rest := [(.ref b139)]) (own_NN1 l Z a0 hw b139 p0 h139 S139.old (own_mayN S139 (Or.inr (by rw [g139]; exact S80.size))) A139 F139_value F139_written) (allS (Or.inr (by rw [g139]; exact S80.size)) all0) (by decide +kernel : parseMethodDescriptor "(I)V" = some ⟨[.int], none⟩) rfl rfl rfl at_41 (by decide) (Nat.le_of_ble_eq_true rfl) (by decide) (by decide) (fun T140 h140 v140 S140 K140 q140 => ?_)
      obtain ⟨rfl, F140⟩ := q140
      show own_F p e below s Z _ _ _ _ _ (T140.setTop (mkF m 44 #[.val (.int p0), .val (.int p1), .val (.int p2), .val (.int p3), .val (.int p0), .val (.ref b79), .val (.int (p2 &&& (7 : Int32))), .unset, .unset, .unset] [(.ref b139)]))
      refine own_F.of (fun _ => XS.astore S140.here S140.hx rfl (S140.dec at_44) rfl rfl (l' := #[.val (.int p0), .val (.int p1), .val (.int p2), .val (.int p3), .val (.int p0), .val (.ref b79), .val (.int (p2 &&& (7 : Int32))), .val (.ref b139), .unset, .unset]) rfl) ?_
      show own_F p e below s Z _ _ _ _ _ (T140.setTop (mkF m 46 #[.val (.int p0), .val (.int p1), .val (.int p2), .val (.int p3), .val (.int p0), .val (.ref b79), .val (.int (p2 &&& (7 : Int32))), .val (.ref b139), .unset, .unset] []))
      refine own_F.of (fun _ => XS.iloadN S140.here S140.hx rfl (S140.dec at_46) rfl) ?_
      show own_F p e below s Z _ _ _ _ _ (T140.setTop (mkF m 47 #[.val (.int p0), .val (.int p1), .val (.int p2), .val (.int p3), .val (.int p0), .val (.ref b79), .val (.int (p2 &&& (7 : Int32))), .val (.ref b139), .unset, .unset] [(.int p0)]))
      refine own_F.of (fun _ => XS.iload S140.here S140.hx rfl (S140.dec at_47) rfl) ?_
      show own_F p e below s Z _ _ _ _ _ (T140.setTop (mkF m 49 #[.val (.int p0), .val (.int p1), .val (.int p2), .val (.int p3), .val (.int p0), .val (.ref b79), .val (.int (p2 &&& (7 : Int32))), .val (.ref b139), .unset, .unset] [(.int p0), (.int p0)]))
      refine own_icmp S140 56 at_49 (by decide) (by decide) (fun (hc49_141 : ¬ (p0 = p0)) => False.elim (hc49_141 rfl)) (fun (hc49_141 : p0 = p0) => ?_)
      show own_F p e below s Z _ _ _ _ _ (T140.setTop (mkF m 52 #[.val (.int p0), .val (.int p1), .val (.int p2), .val (.int p3), .val (.int p0), .val (.ref b79), .val (.int (p2 &&& (7 : Int32))), .val (.ref b139), .unset, .unset] []))
      refine own_F.of (fun _ => XS.iconst S140.here S140.hx rfl (S140.dec at_52)) ?_
      show own_F p e below s Z _ _ _ _ _ (T140.setTop (mkF m 53 #[.val (.int p0), .val (.int p1), .val (.int p2), .val (.int p3), .val (.int p0), .val (.ref b79), .val (.int (p2 &&& (7 : Int32))), .val (.ref b139), .unset, .unset] [(.int (1 : Int32))]))
      refine own_F.of (fun _ => XS.goto S140.here S140.hx rfl (pc0 := 53) (pc' := 57) rfl (S140.dec at_53) (by decide) (by decide)) ?_
      show own_F p e below s Z _ _ _ _ _ (T140.setTop (mkF m 57 #[.val (.int p0), .val (.int p1), .val (.int p2), .val (.int p3), .val (.int p0), .val (.ref b79), .val (.int (p2 &&& (7 : Int32))), .val (.ref b139), .unset, .unset] [(.int (1 : Int32))]))
      refine own_F.of (fun _ => XS.istore S140.here S140.hx rfl (S140.dec at_57) rfl (l' := #[.val (.int p0), .val (.int p1), .val (.int p2), .val (.int p3), .val (.int p0), .val (.ref b79), .val (.int (p2 &&& (7 : Int32))), .val (.ref b139), .val (.int (1 : Int32)), .unset]) rfl) ?_
      show own_F p e below s Z _ _ _ _ _ (T140.setTop (mkF m 59 #[.val (.int p0), .val (.int p1), .val (.int p2), .val (.int p3), .val (.int p0), .val (.ref b79), .val (.int (p2 &&& (7 : Int32))), .val (.ref b139), .val (.int (1 : Int32)), .unset] []))
      refine own_F.of (fun _ => XS.goto S140.here S140.hx rfl (pc0 := 59) (pc' := 246) rfl (S140.dec at_59) (by decide) (by decide)) ?_
      show own_F p e below s Z _ _ _ _ _ (T140.setTop (mkF m 246 #[.val (.int p0), .val (.int p1), .val (.int p2), .val (.int p3), .val (.int p0), .val (.ref b79), .val (.int (p2 &&& (7 : Int32))), .val (.ref b139), .val (.int (1 : Int32)), .unset] []))
      refine own_F.of (fun _ => XS.aload S140.here S140.hx rfl (S140.dec at_246) rfl rfl) ?_
      show own_F p e below s Z _ _ _ _ _ (T140.setTop (mkF m 248 #[.val (.int p0), .val (.int p1), .val (.int p2), .val (.int p3), .val (.int p0), .val (.ref b79), .val (.int (p2 &&& (7 : Int32))), .val (.ref b139), .val (.int (1 : Int32)), .unset] [(.ref b79)]))
      refine own_F.of (fun _ => XS.aload S140.here S140.hx rfl (S140.dec at_248) rfl rfl) ?_
      show own_F p e below s Z _ _ _ _ _ (T140.setTop (mkF m 250 #[.val (.int p0), .val (.int p1), .val (.int p2), .val (.int p3), .val (.int p0), .val (.ref b79), .val (.int (p2 &&& (7 : Int32))), .val (.ref b139), .val (.int (1 : Int32)), .unset] [(.ref b139), (.ref b79)]))
      have f142 := ((F80.ext E139).keep K140 (ninS (Nat.ne_of_lt (by rw [g139]; exact ((A79.keep K80)).lt)) nin0))
      have f143 := (A139.keep K140)
      have f145 := (((A79.keep K80).ext E139).keep K140)
      refine own_callV S140 (y := (⟨"com/example/manysort/manysort/language/NaturalNumber", "equals", "(Ljava/lang/Object;)Z"⟩ : MethodName)) (y' := (⟨"com/example/manysort/manysort/language/NaturalNumber", "equals", "(Ljava/lang/Object;)Z"⟩ : MethodName)) (own_w hw 21 rfl) (own_w hw 22 rfl) (own_nf S140 (own_w hw 24 rfl)) (own_w hw 24 rfl) (own_w hw 23 rfl) (own_w hw 25 rfl) (own_w hw 2 rfl) (by decide) f145 (argsL := [(.ref b139)]) (rest := []) (own_eqN l Z a0 hw b79 b139 p0 p0 h140 S140.old f142 f143 F140) all0 (by decide +kernel : parseMethodDescriptor "(Ljava/lang/Object;)Z" = some ⟨[(.object "java/lang/Object")], some .boolean⟩) rfl rfl rfl at_250 (by decide) (Nat.le_of_ble_eq_true rfl) (by decide) (by decide) (fun T144 h144 v144 S144 K144 q144 => ?_)
      obtain ⟨rfl, rfl⟩ := q144
      show own_F p e below s Z _ _ _ _ _ (T144.setTop (mkF m 253 #[.val (.int p0), .val (.int p1), .val (.int p2), .val (.int p3), .val (.int p0), .val (.ref b79), .val (.int (p2 &&& (7 : Int32))), .val (.ref b139), .val (.int (1 : Int32)), .unset] [(.int (own_eq p0 p0))]))
      refine own_F.of (fun _ => XS.iload S144.here S144.hx rfl (S144.dec at_253) rfl) ?_
      show own_F p e below s Z _ _ _ _ _ (T144.setTop (mkF m 255 #[.val (.int p0), .val (.int p1), .val (.int p2), .val (.int p3), .val (.int p0), .val (.ref b79), .val (.int (p2 &&& (7 : Int32))), .val (.ref b139), .val (.int (1 : Int32)), .unset] [(.int (1 : Int32)), (.int (own_eq p0 p0))]))
      refine own_icmp S144 262 at_255 (by decide) (by decide) (fun (hc255_146 : ¬ ((own_eq p0 p0) = (1 : Int32))) => False.elim (hc255_146 (by simp [own_eq, hc49_141, eq_comm]))) (fun (hc255_146 : (own_eq p0 p0) = (1 : Int32)) => ?_)
      show own_F p e below s Z _ _ _ _ _ (T144.setTop (mkF m 258 #[.val (.int p0), .val (.int p1), .val (.int p2), .val (.int p3), .val (.int p0), .val (.ref b79), .val (.int (p2 &&& (7 : Int32))), .val (.ref b139), .val (.int (1 : Int32)), .unset] []))
      refine own_F.of (fun _ => XS.iconst S144.here S144.hx rfl (S144.dec at_258)) ?_
      show own_F p e below s Z _ _ _ _ _ (T144.setTop (mkF m 259 #[.val (.int p0), .val (.int p1), .val (.int p2), .val (.int p3), .val (.int p0), .val (.ref b79), .val (.int (p2 &&& (7 : Int32))), .val (.ref b139), .val (.int (1 : Int32)), .unset] [(.int (1 : Int32))]))
      refine own_F.of (fun _ => XS.goto S144.here S144.hx rfl (pc0 := 259) (pc' := 263) rfl (S144.dec at_259) (by decide) (by decide)) ?_
      show own_F p e below s Z _ _ _ _ _ (T144.setTop (mkF m 263 #[.val (.int p0), .val (.int p1), .val (.int p2), .val (.int p3), .val (.int p0), .val (.ref b79), .val (.int (p2 &&& (7 : Int32))), .val (.ref b139), .val (.int (1 : Int32)), .unset] [(.int (1 : Int32))]))
      refine own_retZ S144 (by simp) at_263 (by decide) (by decide) ?_
      rfl
set_option maxRecDepth 65536 in
set_option maxHeartbeats 40000000 in
theorem comes_1 {Post : Tables → Env → Array Value → State → Outcome → State → Prop} (hpost : ∀ tb e args s v u, (limb_1_1.after args s (.returned v) u = true ∧ limb_1_2.after args s (.returned v) u = true ∧ True) → FrameEnd s (.returned v) u (Jvm.fieldLocs frame_1_writes args s ++ Jvm.arrayLocs frame_1_arrays args s ++ Jvm.staticLocs frame_1_statics s) 24 128 → Post tb e args s (.returned v) u) :
    ArmFor flags0 classFile x code maxLocals ret World_1 tables_1 room_1 Calls_1 rest_1 Pre_1 Post := by
  intro l hfl _ _ p e ha hc hk s m args below hf hA hF happ hP
  obtain ⟨hcalls, hrest, hpre⟩ := hP
  obtain ⟨-, -, -, hnamed, -, -, -, hat⟩ := (Spec.applies_iff hf).mp happ
  obtain ⟨hg, hn⟩ := and_e (Cond.before_iff.mp (show (Jvm.Cond.and given_1 narrow_1).before args s = true from hpre))
  obtain ⟨g1, g2⟩ := and_e hg
  obtain ⟨g3, g4⟩ := and_e g2
  obtain ⟨g5, g6⟩ := and_e g4
  obtain ⟨g7, g8⟩ := and_e g6
  obtain ⟨w0, w1, w2, w3, rfl⟩ : ∃ w0 w1 w2 w3 : Value, args = #[w0, w1, w2, w3] := by
    have hs : args.size = 4 := by simpa [Cond.value, given_1] using g1
    obtain ⟨L⟩ := args
    match L, hs with
    | [w0, w1, w2, w3], _ => exact ⟨w0, w1, w2, w3, rfl⟩
  have hw := fun d (hd : d ∈ tables_1) => atoms_spec (ws := Jvm.Cond.code x code maxLocals ret :: tables_1) hat d (List.mem_cons_of_mem _ hd)
  have hfit : Fit s := fun {y c} hc i hi => by
    obtain ⟨ha, rfl⟩ := Array.getElem?_eq_some_iff.mp hc
    have q := List.all_eq_true.mp ((Array.all_eq_true_iff_forall_mem.mp hF) _ (Array.getElem_mem ha)) i (List.mem_range.mpr hi)
    simpa [Array.getElem?_eq_getElem hi] using q
  obtain ⟨hsets, hown0⟩ := atoms_of _ (rest_1_c_eq ▸ (show rest_1_c.before _ s = true from hrest))
  have hr0 := Cond.before_iff.mp hown0
  obtain ⟨i0, ei0⟩ := is_v g3
  obtain rfl : w0 = (.int i0) := Option.some.inj ei0
  obtain ⟨i1, ei1⟩ := is_v g5
  obtain rfl : w1 = (.int i1) := Option.some.inj ei1
  obtain ⟨i2, ei2⟩ := is_v g7
  obtain rfl : w2 = (.int i2) := Option.some.inj ei2
  obtain ⟨i3, ei3⟩ := is_v g8
  obtain rfl : w3 = (.int i3) := Option.some.inj ei3
  have SHi := own_staI (Cond.before_iff.mp (hsets _ (List.mem_of_getElem? (i := 9) rfl))) (Or.inl (hsets _ (List.mem_of_getElem? (i := 7) rfl)))
  have yAI := Cond.before_iff.mp (hsets _ (List.mem_of_getElem? (i := 10) rfl))
  have yLI := Cond.before_iff.mp (hsets _ (List.mem_of_getElem? (i := 12) rfl))
  have yEI := Cond.before_iff.mp (hsets _ (List.mem_of_getElem? (i := 13) rfl))
  obtain ⟨aCI, evCI⟩ := arr_v yAI
  have SCaI := Sta.start evCI (Or.inr ⟨(own_w hw 44 rfl), (hsets _ (List.mem_of_getElem? (i := 8) rfl))⟩)
  obtain ⟨clCI, ArCI, lC1I, lC2I, -⟩ := own_A.start evCI yAI yLI
  have BXI : Bxs s aCI clCI "java/lang/Integer" "I" 256 (fun j => .int (j - 128)) := Bxs.start (fun _ => evCI) ArCI lC1I lC2I (by decide) yEI (fun X j hj hq => eqv_i (own_sub_at (i := 0) hj) hq)
  have yAJ := Cond.before_iff.mp (hsets _ (List.mem_of_getElem? (i := 2) rfl))
  have yLJ := Cond.before_iff.mp (hsets _ (List.mem_of_getElem? (i := 4) rfl))
  have yEJ := Cond.before_iff.mp (hsets _ (List.mem_of_getElem? (i := 5) rfl))
  obtain ⟨aCJ, evCJ⟩ := arr_v yAJ
  have SCaJ := Sta.start evCJ (Or.inl (hsets _ (List.mem_of_getElem? (i := 1) rfl)))
  obtain ⟨clCJ, ArCJ, lC1J, lC2J, -⟩ := own_A.start evCJ yAJ yLJ
  have BXJ : Bxs s aCJ clCJ "java/lang/Long" "J" 256 (fun j => .long (j - 128).toInt64) := Bxs.start (fun _ => evCJ) ArCJ lC1J lC2J (by decide) yEJ (fun X j hj hq => eqv_l (i2l_at (own_sub_at (i := 0) hj)) hq)
  obtain ⟨zc, evz⟩ := is_v (Cond.before_iff.mp (hsets _ (List.mem_of_getElem? (i := 15) rfl)))
  have SZ := Sta.start evz (Or.inl (hsets _ (List.mem_of_getElem? (i := 14) rfl)))
  have hz : ¬ zc = 0 := gotF (Cond.eq_ints evz rfl) (by simpa using not_v (Cond.before_iff.mp (hsets _ (List.mem_of_getElem? (i := 16) rfl))))
  obtain ⟨n, o, h1, h2, h3, _, L, rfl, ⟨N, K, rfl⟩, hq⟩ := own_law l s _ hw i0 i1 i2 i3 aCI clCI aCJ clCJ zc s.heap (own_extRefl _) SHi SCaI BXI SCaJ BXJ SZ hz p e ha hc hk s m _ below hf ((Spec.applies_iff_loose hf).mp happ).1 ⟨rfl, State.Warmed39.refl s, rfl⟩ trivial
  refine ⟨n, _, h1, h2, h3, hpost _ _ _ _ _ _ ⟨Cond.after_iff.mpr rfl, Cond.after_iff.mpr (eq_i res_at (Term.int_eval (1)) rfl), trivial⟩ ⟨hq.1, hq.2.1, (hq.2.2.sift fun y hy => Or.inr (N y hy)).mono (by decide) (by decide)⟩⟩
theorem main_1_1 : Claimed_1_1 := comes_1 fun _ _ _ _ _ _ h hF => ⟨h.1, hF⟩
theorem main_1_2 : Claimed_1_2 := comes_1 fun _ _ _ _ _ _ h hF => ⟨h.2.1, hF⟩
end Jvm.Pilot.@@N@@
namespace Jvm.Pilot.@@N@@
open Jvm Jvm.ClassFile Sem Op Lib Jvm.Free Jvm.Stand Jvm.Pilot.@@N@@.Jvm.D
/-! MADE BY PROGRAM (witnessworld.py) out of the Statement's table words and the real class files: 30 classes; the members and pool entries that the words name. The judged class is class 1, her method 1. -/
namespace start1
open Jvm.ClassFile
def u (s : String) : CpInfo := .utf8 (stringToUtf16 s)
/-- a pool by its gaps: so many unusable entries, then the entry; so many at the end -/
def gap : Nat → List CpInfo → List CpInfo
  | 0, r => r
  | n + 1, r => .unusable :: gap n r
def poolList (es : List (Nat × CpInfo)) (last : Nat) : List CpInfo := es.foldr (fun e r => gap e.1 (e.2 :: r)) (gap last [])
def pool (es : List (Nat × CpInfo)) (last : Nat) : Array CpInfo := ⟨poolList es last⟩
def fileOf (pool : Array CpInfo) (this : Nat) (attrs : Array Attribute := #[]) (ms : Array MethodInfo := #[]) (fl : Nat := 33) (sup : Nat := 0) (ifs : Array Nat := #[]) (fds : Array FieldInfo := #[]) : ClassFile where
  minorVersion := 0
  majorVersion := 65
  constantPool := pool
  accessFlags := fl
  thisClass := this
  superClass := sup
  interfaces := ifs
  fields := fds
  methods := ms
  attributes := attrs
def plain (name : String) (sup : Option ClassId) : Class where
  name := name
  kind := .ordinary
  loader := none
  accessFlags := 33
  super := sup
  interfaces := #[]
  cf := none
  fields := #[]
  methods := #[]
  instanceTypes := #[]
  staticTypes := #[]
  resolved := #[]
  callSites := []
  init := .initialized
  statics := none
  mirror := none

def pool0 : Array CpInfo := pool [(5, u "<init>"), (0, u "()V"), (1, .class_ 10), (1, u "java/lang/Object")] 113

def k0c0 : Code := { maxStack := 0, maxLocals := 1, code := object_method_1_code, exceptionTable := #[], attributes := #[] }
def k0m0 : Method := { name := "<init>", desc := "()V", sig := { parameters := [], returnType := none }, accessFlags := 1, code := some k0c0 }
/-- java/lang/Object -/
def k0 : Class := { plain "java/lang/Object" none with
  accessFlags := 33
  interfaces := #[]
  cf := some (fileOf pool0 8 #[] #[{ accessFlags := 1, nameIndex := 5, descriptorIndex := 6, attributes := #[] }] 33 0 #[] #[])
  fields := #[]
  methods := #[k0m0]
  instanceTypes := #[]
  staticTypes := #[]
  resolved := Array.replicate 124 none
  statics := none }

def pool1 : Array CpInfo := pool [(2, .class_ 4), (1, u "java/lang/Object"), (0, u "<init>"), (0, u "()V"), (0, .class_ 8), (0, u "com/example/manysort/manysort/language/NaturalNumber"), (0, .methodref 7 10), (0, .nameAndType 5 11), (0, u "(I)V"), (0, .class_ 13), (0, u "java/lang/String"), (0, .methodref 12 15), (0, .nameAndType 5 16), (0, u "([C)V"), (0, .methodref 7 18), (0, .nameAndType 19 20), (0, u "aboveMaxint"), (0, u "(Ljava/lang/String;I)Lcom/example/manysort/manysort/language/NaturalNumber;"), (0, .methodref 22 23), (0, .class_ 24), (0, .nameAndType 25 26), (0, u "java/lang/Integer"), (0, u "valueOf"), (0, u "(I)Ljava/lang/Integer;"), (0, .methodref 28 29), (0, .class_ 30), (0, .nameAndType 25 31), (0, u "java/lang/Long"), (0, u "(J)Ljava/lang/Long;"), (0, .class_ 33), (0, u "com/example/manysort/manysort/language/Constant"), (0, .methodref 12 35), (0, .nameAndType 25 36), (0, u "(C)Ljava/lang/String;"), (0, .methodref 32 38), (0, .nameAndType 5 39), (0, u "(Ljava/lang/String;)V"), (0, .class_ 41), (0, u "com/example/manysort/manysort/language/Variable"), (0, .methodref 40 38), (0, .methodref 7 44), (0, .nameAndType 45 46), (0, u "equals"), (0, u "(Ljava/lang/Object;)Z"), (0, .class_ 48), (0, u "com/example/manysort/manysort/language/NaturalNumberEqualsPinLaw"), (2, u "law"), (0, u "(IIII)Z")] 5

def k1m0 : Method := { name := "<init>", desc := "()V", sig := { parameters := [], returnType := none }, accessFlags := 1, code := none }
def k1c1 : Code := { maxStack := 5, maxLocals := 10, code := code, exceptionTable := #[], attributes := #[] }
def k1m1 : Method := { name := "law", desc := "(IIII)Z", sig := { parameters := [.int, .int, .int, .int], returnType := some .boolean }, accessFlags := 9, code := some k1c1 }
/-- com/example/manysort/manysort/language/NaturalNumberEqualsPinLaw -/
def k1 : Class := { plain "com/example/manysort/manysort/language/NaturalNumberEqualsPinLaw" (some 0) with
  accessFlags := 49
  interfaces := #[]
  cf := some (fileOf pool1 47 #[] #[{ accessFlags := 1, nameIndex := 5, descriptorIndex := 6, attributes := #[] }, { accessFlags := 9, nameIndex := 51, descriptorIndex := 52, attributes := #[] }] 49 2 #[] #[])
  fields := #[]
  methods := #[k1m0, k1m1]
  instanceTypes := #[]
  staticTypes := #[]
  resolved := Array.replicate 58 none
  statics := none }

def pool2 : Array CpInfo := pool [(1, .methodref 2 3), (0, .class_ 4), (0, .nameAndType 5 6), (0, u "java/lang/Object"), (0, u "<init>"), (0, u "()V"), (10, .class_ 19), (1, u "com/example/manysort/manysort/language/Term")] 122

def k2c0 : Code := { maxStack := 1, maxLocals := 1, code := prog_101_method_1_code, exceptionTable := #[], attributes := #[] }
def k2m0 : Method := { name := "<init>", desc := "()V", sig := { parameters := [], returnType := none }, accessFlags := 0, code := some k2c0 }
/-- com/example/manysort/manysort/language/Term -/
def k2 : Class := { plain "com/example/manysort/manysort/language/Term" (some 0) with
  accessFlags := 1057
  interfaces := #[]
  cf := some (fileOf pool2 17 #[] #[{ accessFlags := 0, nameIndex := 5, descriptorIndex := 6, attributes := #[] }] 1057 2 #[] #[])
  fields := #[]
  methods := #[k2m0]
  instanceTypes := #[]
  staticTypes := #[]
  resolved := Array.replicate 142 none
  statics := none }

def pool3 : Array CpInfo := pool [(1, .methodref 2 3), (0, .class_ 4), (0, .nameAndType 5 6), (0, u "com/example/manysort/manysort/language/NaturalNumber"), (0, u "<init>"), (0, u "(ILjava/lang/String;)V"), (0, .methodref 8 9), (0, .class_ 10), (0, .nameAndType 5 11), (0, u "com/example/manysort/manysort/language/Term"), (0, u "()V"), (0, .fieldref 2 13), (0, .nameAndType 14 15), (0, u "value"), (0, u "I"), (0, .fieldref 2 17), (0, .nameAndType 18 19), (0, u "written"), (0, u "Ljava/lang/String;"), (25, u "(I)V"), (2, u "aboveMaxint"), (0, u "(Ljava/lang/String;I)Lcom/example/manysort/manysort/language/NaturalNumber;"), (18, u "equals"), (0, u "(Ljava/lang/Object;)Z")] 4

def k3c0 : Code := { maxStack := 3, maxLocals := 2, code := prog_63_method_1_code, exceptionTable := #[], attributes := #[] }
def k3m0 : Method := { name := "<init>", desc := "(I)V", sig := { parameters := [.int], returnType := none }, accessFlags := 0, code := some k3c0 }
def k3c1 : Code := { maxStack := 2, maxLocals := 3, code := prog_63_method_2_code, exceptionTable := #[], attributes := #[] }
def k3m1 : Method := { name := "<init>", desc := "(ILjava/lang/String;)V", sig := { parameters := [.int, (.object "java/lang/String")], returnType := none }, accessFlags := 2, code := some k3c1 }
def k3c2 : Code := { maxStack := 4, maxLocals := 2, code := prog_63_method_3_code, exceptionTable := #[], attributes := #[] }
def k3m2 : Method := { name := "aboveMaxint", desc := "(Ljava/lang/String;I)Lcom/example/manysort/manysort/language/NaturalNumber;", sig := { parameters := [(.object "java/lang/String"), .int], returnType := some (.object "com/example/manysort/manysort/language/NaturalNumber") }, accessFlags := 8, code := some k3c2 }
def k3c3 : Code := { maxStack := 2, maxLocals := 2, code := prog_63_method_11_code, exceptionTable := #[], attributes := #[] }
def k3m3 : Method := { name := "equals", desc := "(Ljava/lang/Object;)Z", sig := { parameters := [(.object "java/lang/Object")], returnType := some .boolean }, accessFlags := 1, code := some k3c3 }
/-- com/example/manysort/manysort/language/NaturalNumber -/
def k3 : Class := { plain "com/example/manysort/manysort/language/NaturalNumber" (some 2) with
  accessFlags := 49
  interfaces := #[]
  cf := some (fileOf pool3 2 #[] #[{ accessFlags := 0, nameIndex := 5, descriptorIndex := 45, attributes := #[] }, { accessFlags := 2, nameIndex := 5, descriptorIndex := 6, attributes := #[] }, { accessFlags := 8, nameIndex := 48, descriptorIndex := 49, attributes := #[] }, { accessFlags := 1, nameIndex := 68, descriptorIndex := 69, attributes := #[] }] 49 8 #[] #[{ accessFlags := 18, nameIndex := 14, descriptorIndex := 15, attributes := #[] }, { accessFlags := 18, nameIndex := 18, descriptorIndex := 19, attributes := #[] }])
  fields := #[{ name := "value", type := .int, accessFlags := 18, slot := 0, constantValue := 0 }, { name := "written", type := (.object "java/lang/String"), accessFlags := 18, slot := 1, constantValue := 0 }]
  methods := #[k3m0, k3m1, k3m2, k3m3]
  instanceTypes := #[.int, (.object "java/lang/String")]
  staticTypes := #[]
  resolved := Array.replicate 74 none
  statics := none }

def pool4 : Array CpInfo := pool [(1, .class_ 2), (0, u "java/io/Serializable"), (0, .class_ 4), (0, u "java/lang/Object")] 2

/-- java/io/Serializable -/
def k4 : Class := { plain "java/io/Serializable" (some 0) with
  accessFlags := 1537
  interfaces := #[]
  cf := some (fileOf pool4 1 #[] #[] 1537 3 #[] #[])
  fields := #[]
  methods := #[]
  instanceTypes := #[]
  staticTypes := #[]
  resolved := Array.replicate 7 none
  statics := none }

def pool5 : Array CpInfo := pool [(1, .methodref 2 3), (0, .class_ 4), (0, .nameAndType 5 6), (0, u "java/lang/Object"), (0, u "<init>"), (0, u "()V"), (1, .class_ 10), (1, u "java/lang/Number"), (2, .class_ 14), (0, u "java/io/Serializable"), (0, u "serialVersionUID"), (0, u "J")] 20

def k5c0 : Code := { maxStack := 1, maxLocals := 1, code := jdk_18_method_1_code, exceptionTable := #[], attributes := #[] }
def k5m0 : Method := { name := "<init>", desc := "()V", sig := { parameters := [], returnType := none }, accessFlags := 1, code := some k5c0 }
/-- java/lang/Number -/
def k5 : Class := { plain "java/lang/Number" (some 0) with
  accessFlags := 1057
  interfaces := #[4]
  cf := some (fileOf pool5 8 #[] #[{ accessFlags := 1, nameIndex := 5, descriptorIndex := 6, attributes := #[] }] 1057 2 #[13] #[{ accessFlags := 26, nameIndex := 15, descriptorIndex := 16, attributes := #[] }])
  fields := #[{ name := "serialVersionUID", type := .long, accessFlags := 26, slot := 0, constantValue := 0 }]
  methods := #[k5m0]
  instanceTypes := #[]
  staticTypes := #[.long]
  resolved := Array.replicate 37 none
  statics := none }

def pool6 : Array CpInfo := pool [(1, .class_ 2), (0, u "java/lang/Comparable"), (0, .class_ 4), (0, u "java/lang/Object")] 7

/-- java/lang/Comparable -/
def k6 : Class := { plain "java/lang/Comparable" (some 0) with
  accessFlags := 1537
  interfaces := #[]
  cf := some (fileOf pool6 1 #[] #[] 1537 3 #[] #[])
  fields := #[]
  methods := #[]
  instanceTypes := #[]
  staticTypes := #[]
  resolved := Array.replicate 12 none
  statics := none }

def pool7 : Array CpInfo := pool [(1, .class_ 2), (0, u "java/lang/constant/Constable"), (0, .class_ 4), (0, u "java/lang/Object")] 6

/-- java/lang/constant/Constable -/
def k7 : Class := { plain "java/lang/constant/Constable" (some 0) with
  accessFlags := 1537
  interfaces := #[]
  cf := some (fileOf pool7 1 #[] #[] 1537 3 #[] #[])
  fields := #[]
  methods := #[]
  instanceTypes := #[]
  staticTypes := #[]
  resolved := Array.replicate 11 none
  statics := none }

def pool8 : Array CpInfo := pool [(1, .class_ 2), (0, u "java/lang/constant/ConstantDesc"), (0, .class_ 4), (0, u "java/lang/Object")] 32

/-- java/lang/constant/ConstantDesc -/
def k8 : Class := { plain "java/lang/constant/ConstantDesc" (some 0) with
  accessFlags := 1537
  interfaces := #[]
  cf := some (fileOf pool8 1 #[] #[] 1537 3 #[] #[])
  fields := #[]
  methods := #[]
  instanceTypes := #[]
  staticTypes := #[]
  resolved := Array.replicate 37 none
  statics := none }

def pool9 : Array CpInfo := pool [(1, .class_ 2), (0, u "java/lang/Long"), (55, .nameAndType 59 60), (0, u "<init>"), (0, u "()V"), (24, u "valueOf"), (143, u "(J)Ljava/lang/Long;"), (0, .long 18446744073709551488), (1, .long 127), (1, .fieldref 235 236), (0, .class_ 237), (0, .nameAndType 238 239), (0, u "java/lang/Long$LongCache"), (0, u "cache"), (0, u "[Ljava/lang/Long;"), (0, .methodref 1 241), (0, .nameAndType 59 242), (0, u "(J)V"), (27, .methodref 271 58), (0, .class_ 272), (0, u "java/lang/Number"), (0, .fieldref 1 274), (0, .nameAndType 275 276), (0, u "value"), (0, u "J"), (84, u "TYPE"), (0, u "Ljava/lang/Class;"), (0, .class_ 364), (0, u "java/lang/Comparable"), (0, .class_ 366), (0, u "java/lang/constant/Constable"), (0, .class_ 368), (0, u "java/lang/constant/ConstantDesc"), (0, u "MIN_VALUE"), (1, u "MAX_VALUE"), (4, u "SIZE"), (0, u "I"), (1, u "BYTES"), (1, u "serialVersionUID")] 142

def k9c0 : Code := { maxStack := 4, maxLocals := 3, code := jdk_35_method_24_code, exceptionTable := #[], attributes := #[] }
def k9m0 : Method := { name := "valueOf", desc := "(J)Ljava/lang/Long;", sig := { parameters := [.long], returnType := some (.object "java/lang/Long") }, accessFlags := 9, code := some k9c0 }
def k9c1 : Code := { maxStack := 3, maxLocals := 3, code := jdk_35_method_26_code, exceptionTable := #[], attributes := #[] }
def k9m1 : Method := { name := "<init>", desc := "(J)V", sig := { parameters := [.long], returnType := none }, accessFlags := 1, code := some k9c1 }
/-- java/lang/Long -/
def k9 : Class := { plain "java/lang/Long" (some 5) with
  accessFlags := 49
  interfaces := #[6, 7, 8]
  cf := some (fileOf pool9 1 #[.nestMembers #[235]] #[{ accessFlags := 9, nameIndex := 85, descriptorIndex := 229, attributes := #[] }, { accessFlags := 1, nameIndex := 59, descriptorIndex := 242, attributes := #[] }] 49 271 #[363, 365, 367] #[{ accessFlags := 25, nameIndex := 369, descriptorIndex := 276, attributes := #[] }, { accessFlags := 25, nameIndex := 371, descriptorIndex := 276, attributes := #[] }, { accessFlags := 25, nameIndex := 361, descriptorIndex := 362, attributes := #[] }, { accessFlags := 18, nameIndex := 275, descriptorIndex := 276, attributes := #[] }, { accessFlags := 25, nameIndex := 376, descriptorIndex := 377, attributes := #[] }, { accessFlags := 25, nameIndex := 379, descriptorIndex := 377, attributes := #[] }, { accessFlags := 26, nameIndex := 381, descriptorIndex := 276, attributes := #[] }])
  fields := #[{ name := "MIN_VALUE", type := .long, accessFlags := 25, slot := 0, constantValue := 0 }, { name := "MAX_VALUE", type := .long, accessFlags := 25, slot := 1, constantValue := 0 }, { name := "TYPE", type := (.object "java/lang/Class"), accessFlags := 25, slot := 2, constantValue := 0 }, { name := "value", type := .long, accessFlags := 18, slot := 0, constantValue := 0 }, { name := "SIZE", type := .int, accessFlags := 25, slot := 3, constantValue := 0 }, { name := "BYTES", type := .int, accessFlags := 25, slot := 4, constantValue := 0 }, { name := "serialVersionUID", type := .long, accessFlags := 26, slot := 5, constantValue := 0 }]
  methods := #[k9m0, k9m1]
  instanceTypes := #[.long]
  staticTypes := #[.long, .long, (.object "java/lang/Class"), .int, .int, .long]
  resolved := Array.replicate 524 none
  statics := none }

def pool10 : Array CpInfo := pool [(2, .class_ 4), (1, u "java/lang/Object"), (0, u "<init>"), (0, u "()V"), (0, .class_ 8), (0, u "java/lang/Long"), (7, .class_ 18), (1, u "java/lang/Long$LongCache"), (0, u "$assertionsDisabled"), (0, u "Z"), (8, u "archivedCache"), (0, u "[Ljava/lang/Long;"), (7, u "cache")] 24

def k10m0 : Method := { name := "<init>", desc := "()V", sig := { parameters := [], returnType := none }, accessFlags := 2, code := none }
/-- java/lang/Long$LongCache -/
def k10 : Class := { plain "java/lang/Long$LongCache" (some 0) with
  accessFlags := 48
  interfaces := #[]
  cf := some (fileOf pool10 16 #[.nestHost 7] #[{ accessFlags := 2, nameIndex := 5, descriptorIndex := 6, attributes := #[] }] 48 2 #[] #[{ accessFlags := 24, nameIndex := 38, descriptorIndex := 30, attributes := #[] }, { accessFlags := 8, nameIndex := 29, descriptorIndex := 30, attributes := #[] }, { accessFlags := 4120, nameIndex := 19, descriptorIndex := 20, attributes := #[] }])
  fields := #[{ name := "cache", type := (.array (.object "java/lang/Long")), accessFlags := 24, slot := 0, constantValue := 0 }, { name := "archivedCache", type := (.array (.object "java/lang/Long")), accessFlags := 8, slot := 1, constantValue := 0 }, { name := "$assertionsDisabled", type := .boolean, accessFlags := 4120, slot := 2, constantValue := 0 }]
  methods := #[k10m0]
  instanceTypes := #[]
  staticTypes := #[(.array (.object "java/lang/Long")), (.array (.object "java/lang/Long")), .boolean]
  resolved := Array.replicate 63 none
  statics := some 0 }

def pool11 : Array CpInfo := pool [(1, .class_ 2), (0, u "java/lang/Integer"), (16, u "digits"), (0, u "[C"), (46, u "<init>"), (17, u "DigitOnes"), (0, u "[B"), (2, u "DigitTens"), (10, .nameAndType 67 101), (0, u "()V"), (85, u "valueOf"), (0, u "(I)Ljava/lang/Integer;"), (0, .class_ 190), (0, u "java/lang/Integer$IntegerCache"), (0, .fieldref 189 192), (0, .nameAndType 193 194), (0, u "high"), (0, u "I"), (0, .fieldref 189 196), (0, .nameAndType 197 198), (0, u "cache"), (0, u "[Ljava/lang/Integer;"), (0, .methodref 1 200), (0, .nameAndType 67 201), (0, u "(I)V"), (0, .methodref 203 100), (0, .class_ 204), (0, u "java/lang/Number"), (0, .fieldref 1 206), (0, .nameAndType 207 194), (0, u "value"), (94, u "TYPE"), (0, u "Ljava/lang/Class;"), (0, .class_ 305), (0, u "java/lang/Comparable"), (0, .class_ 307), (0, u "java/lang/constant/Constable"), (0, .class_ 309), (0, u "java/lang/constant/ConstantDesc"), (0, u "MIN_VALUE"), (1, u "MAX_VALUE"), (3, u "SIZE"), (1, u "BYTES"), (1, u "serialVersionUID"), (0, u "J")] 131

def k11c0 : Code := { maxStack := 3, maxLocals := 1, code := jdk_33_method_22_code, exceptionTable := #[], attributes := #[] }
def k11m0 : Method := { name := "valueOf", desc := "(I)Ljava/lang/Integer;", sig := { parameters := [.int], returnType := some (.object "java/lang/Integer") }, accessFlags := 9, code := some k11c0 }
def k11c1 : Code := { maxStack := 2, maxLocals := 2, code := jdk_33_method_23_code, exceptionTable := #[], attributes := #[] }
def k11m1 : Method := { name := "<init>", desc := "(I)V", sig := { parameters := [.int], returnType := none }, accessFlags := 1, code := some k11c1 }
/-- java/lang/Integer -/
def k11 : Class := { plain "java/lang/Integer" (some 5) with
  accessFlags := 49
  interfaces := #[6, 7, 8]
  cf := some (fileOf pool11 1 #[.nestMembers #[189]] #[{ accessFlags := 9, nameIndex := 187, descriptorIndex := 188, attributes := #[] }, { accessFlags := 1, nameIndex := 67, descriptorIndex := 201, attributes := #[] }] 49 203 #[304, 306, 308] #[{ accessFlags := 25, nameIndex := 310, descriptorIndex := 194, attributes := #[] }, { accessFlags := 25, nameIndex := 312, descriptorIndex := 194, attributes := #[] }, { accessFlags := 25, nameIndex := 302, descriptorIndex := 303, attributes := #[] }, { accessFlags := 24, nameIndex := 19, descriptorIndex := 20, attributes := #[] }, { accessFlags := 24, nameIndex := 89, descriptorIndex := 86, attributes := #[] }, { accessFlags := 24, nameIndex := 85, descriptorIndex := 86, attributes := #[] }, { accessFlags := 18, nameIndex := 207, descriptorIndex := 194, attributes := #[] }, { accessFlags := 25, nameIndex := 316, descriptorIndex := 194, attributes := #[] }, { accessFlags := 25, nameIndex := 318, descriptorIndex := 194, attributes := #[] }, { accessFlags := 26, nameIndex := 320, descriptorIndex := 321, attributes := #[] }])
  fields := #[{ name := "MIN_VALUE", type := .int, accessFlags := 25, slot := 0, constantValue := 0 }, { name := "MAX_VALUE", type := .int, accessFlags := 25, slot := 1, constantValue := 0 }, { name := "TYPE", type := (.object "java/lang/Class"), accessFlags := 25, slot := 2, constantValue := 0 }, { name := "digits", type := (.array .char), accessFlags := 24, slot := 3, constantValue := 0 }, { name := "DigitTens", type := (.array .byte), accessFlags := 24, slot := 4, constantValue := 0 }, { name := "DigitOnes", type := (.array .byte), accessFlags := 24, slot := 5, constantValue := 0 }, { name := "value", type := .int, accessFlags := 18, slot := 0, constantValue := 0 }, { name := "SIZE", type := .int, accessFlags := 25, slot := 6, constantValue := 0 }, { name := "BYTES", type := .int, accessFlags := 25, slot := 7, constantValue := 0 }, { name := "serialVersionUID", type := .long, accessFlags := 26, slot := 8, constantValue := 0 }]
  methods := #[k11m0, k11m1]
  instanceTypes := #[.int]
  staticTypes := #[.int, .int, (.object "java/lang/Class"), (.array .char), (.array .byte), (.array .byte), .int, .int, .long]
  resolved := Array.replicate 453 none
  statics := none }

def pool12 : Array CpInfo := pool [(2, .class_ 4), (1, u "java/lang/Object"), (0, u "<init>"), (0, u "()V"), (0, .class_ 8), (0, u "java/lang/Integer"), (7, .class_ 18), (1, u "java/lang/Integer$IntegerCache"), (0, u "$assertionsDisabled"), (0, u "Z"), (26, u "high"), (0, u "I"), (8, u "archivedCache"), (0, u "[Ljava/lang/Integer;"), (12, u "cache"), (0, u "low")] 27

def k12m0 : Method := { name := "<init>", desc := "()V", sig := { parameters := [], returnType := none }, accessFlags := 2, code := none }
/-- java/lang/Integer$IntegerCache -/
def k12 : Class := { plain "java/lang/Integer$IntegerCache" (some 0) with
  accessFlags := 48
  interfaces := #[]
  cf := some (fileOf pool12 16 #[.nestHost 7] #[{ accessFlags := 2, nameIndex := 5, descriptorIndex := 6, attributes := #[] }] 48 2 #[] #[{ accessFlags := 24, nameIndex := 72, descriptorIndex := 48, attributes := #[] }, { accessFlags := 24, nameIndex := 47, descriptorIndex := 48, attributes := #[] }, { accessFlags := 24, nameIndex := 71, descriptorIndex := 58, attributes := #[] }, { accessFlags := 8, nameIndex := 57, descriptorIndex := 58, attributes := #[] }, { accessFlags := 4120, nameIndex := 19, descriptorIndex := 20, attributes := #[] }])
  fields := #[{ name := "low", type := .int, accessFlags := 24, slot := 0, constantValue := 0 }, { name := "high", type := .int, accessFlags := 24, slot := 1, constantValue := 0 }, { name := "cache", type := (.array (.object "java/lang/Integer")), accessFlags := 24, slot := 2, constantValue := 0 }, { name := "archivedCache", type := (.array (.object "java/lang/Integer")), accessFlags := 8, slot := 3, constantValue := 0 }, { name := "$assertionsDisabled", type := .boolean, accessFlags := 4120, slot := 4, constantValue := 0 }]
  methods := #[k12m0]
  instanceTypes := #[]
  staticTypes := #[.int, .int, (.array (.object "java/lang/Integer")), (.array (.object "java/lang/Integer")), .boolean]
  resolved := Array.replicate 100 none
  statics := some 1 }

def pool13 : Array CpInfo := pool [(2, .class_ 4), (1, u "java/lang/CharSequence"), (42, .class_ 48), (0, u "java/lang/CharSequence$1CodePointIterator"), (10, .class_ 60), (0, u "java/lang/CharSequence$1CharIterator"), (5, .class_ 67), (0, u "java/lang/Object")] 63

/-- java/lang/CharSequence -/
def k13 : Class := { plain "java/lang/CharSequence" (some 0) with
  accessFlags := 1537
  interfaces := #[]
  cf := some (fileOf pool13 2 #[.nestMembers #[47, 59]] #[] 1537 66 #[] #[])
  fields := #[]
  methods := #[]
  instanceTypes := #[]
  staticTypes := #[]
  resolved := Array.replicate 131 none
  statics := none }

def pool14 : Array CpInfo := pool [(1, .methodref 2 3), (0, .class_ 4), (0, .nameAndType 5 6), (0, u "java/lang/Object"), (0, u "<init>"), (0, u "()V"), (2, .fieldref 10 11), (0, .class_ 12), (0, .nameAndType 13 14), (0, u "java/lang/String"), (0, u "value"), (0, u "[B"), (0, .fieldref 10 16), (0, .nameAndType 17 18), (0, u "coder"), (0, u "B"), (2, u "hash"), (0, u "I"), (2, u "hashIsZero"), (0, u "Z"), (0, .methodref 10 28), (0, .nameAndType 5 29), (0, u "([CIILjava/lang/Void;)V"), (8, .fieldref 10 39), (0, .nameAndType 40 26), (0, u "COMPACT_STRINGS"), (1, .class_ 44), (1, u "java/lang/StringUTF16"), (0, u "compress"), (1, .methodref 42 48), (0, .nameAndType 49 50), (0, u "coderFromArrayLen"), (0, u "([BI)B"), (2, u "toBytes"), (53, .class_ 109), (1, u "java/lang/StringLatin1"), (67, .methodref 42 178), (0, .nameAndType 45 179), (0, u "([CII)[B"), (29, .methodref 10 210), (0, .nameAndType 5 211), (0, u "([BB)V"), (157, u "(C)Z"), (205, .class_ 576), (0, u "java/lang/CharSequence"), (22, u "CASE_INSENSITIVE_ORDER"), (0, u "Ljava/util/Comparator;"), (181, u "valueOf"), (0, u "(C)Ljava/lang/String;"), (226, u "([C)V"), (4, .methodref 107 1016), (0, .nameAndType 1017 369), (0, u "canEncode"), (0, .methodref 107 1019), (0, .nameAndType 53 1020), (0, u "(C)[B"), (80, u "serialPersistentFields"), (0, u "[Ljava/io/ObjectStreamField;"), (0, .class_ 1104), (0, u "java/lang/String$CaseInsensitiveComparator"), (1, .class_ 1107), (0, u "java/io/Serializable"), (0, .class_ 1109), (0, u "java/lang/Comparable"), (0, .class_ 1111), (0, u "java/lang/constant/Constable"), (0, .class_ 1113), (0, u "java/lang/constant/ConstantDesc"), (2, u "serialVersionUID"), (0, u "J"), (3, u "REPL"), (0, u "C"), (2, u "LATIN1"), (1, u "UTF16")] 323

def k14m0 : Method := { name := "<init>", desc := "()V", sig := { parameters := [], returnType := none }, accessFlags := 1, code := none }
def k14c1 : Code := { maxStack := 5, maxLocals := 2, code := jdk_42_method_3_code, exceptionTable := #[], attributes := #[] }
def k14m1 : Method := { name := "<init>", desc := "([C)V", sig := { parameters := [(.array .char)], returnType := none }, accessFlags := 1, code := some k14c1 }
def k14c2 : Code := { maxStack := 4, maxLocals := 1, code := jdk_42_method_139_code, exceptionTable := #[], attributes := #[] }
def k14m2 : Method := { name := "valueOf", desc := "(C)Ljava/lang/String;", sig := { parameters := [.char], returnType := some (.object "java/lang/String") }, accessFlags := 9, code := some k14c2 }
def k14c3 : Code := { maxStack := 4, maxLocals := 6, code := jdk_42_method_149_code, exceptionTable := #[], attributes := #[] }
def k14m3 : Method := { name := "<init>", desc := "([CIILjava/lang/Void;)V", sig := { parameters := [(.array .char), .int, .int, (.object "java/lang/Void")], returnType := none }, accessFlags := 2, code := some k14c3 }
def k14c4 : Code := { maxStack := 2, maxLocals := 3, code := jdk_42_method_151_code, exceptionTable := #[], attributes := #[] }
def k14m4 : Method := { name := "<init>", desc := "([BB)V", sig := { parameters := [(.array .byte), .byte], returnType := none }, accessFlags := 0, code := some k14c4 }
/-- java/lang/String -/
def k14 : Class := { plain "java/lang/String" (some 0) with
  accessFlags := 49
  interfaces := #[4, 6, 13, 7, 8]
  cf := some (fileOf pool14 10 #[.nestMembers #[1103]] #[{ accessFlags := 1, nameIndex := 5, descriptorIndex := 6, attributes := #[] }, { accessFlags := 1, nameIndex := 5, descriptorIndex := 1010, attributes := #[] }, { accessFlags := 9, nameIndex := 782, descriptorIndex := 783, attributes := #[] }, { accessFlags := 2, nameIndex := 5, descriptorIndex := 29, attributes := #[] }, { accessFlags := 0, nameIndex := 5, descriptorIndex := 211, attributes := #[] }] 49 2 #[1106, 1108, 575, 1110, 1112] #[{ accessFlags := 18, nameIndex := 13, descriptorIndex := 14, attributes := #[] }, { accessFlags := 18, nameIndex := 17, descriptorIndex := 18, attributes := #[] }, { accessFlags := 2, nameIndex := 21, descriptorIndex := 22, attributes := #[] }, { accessFlags := 2, nameIndex := 25, descriptorIndex := 26, attributes := #[] }, { accessFlags := 26, nameIndex := 1116, descriptorIndex := 1117, attributes := #[] }, { accessFlags := 24, nameIndex := 40, descriptorIndex := 26, attributes := #[] }, { accessFlags := 26, nameIndex := 1101, descriptorIndex := 1102, attributes := #[] }, { accessFlags := 26, nameIndex := 1121, descriptorIndex := 1122, attributes := #[] }, { accessFlags := 25, nameIndex := 599, descriptorIndex := 600, attributes := #[] }, { accessFlags := 24, nameIndex := 1125, descriptorIndex := 18, attributes := #[] }, { accessFlags := 24, nameIndex := 1127, descriptorIndex := 18, attributes := #[] }])
  fields := #[{ name := "value", type := (.array .byte), accessFlags := 18, slot := 0, constantValue := 0 }, { name := "coder", type := .byte, accessFlags := 18, slot := 1, constantValue := 0 }, { name := "hash", type := .int, accessFlags := 2, slot := 2, constantValue := 0 }, { name := "hashIsZero", type := .boolean, accessFlags := 2, slot := 3, constantValue := 0 }, { name := "serialVersionUID", type := .long, accessFlags := 26, slot := 0, constantValue := 0 }, { name := "COMPACT_STRINGS", type := .boolean, accessFlags := 24, slot := 1, constantValue := 0 }, { name := "serialPersistentFields", type := (.array (.object "java/io/ObjectStreamField")), accessFlags := 26, slot := 2, constantValue := 0 }, { name := "REPL", type := .char, accessFlags := 26, slot := 3, constantValue := 0 }, { name := "CASE_INSENSITIVE_ORDER", type := (.object "java/util/Comparator"), accessFlags := 25, slot := 4, constantValue := 0 }, { name := "LATIN1", type := .byte, accessFlags := 24, slot := 5, constantValue := 0 }, { name := "UTF16", type := .byte, accessFlags := 24, slot := 6, constantValue := 0 }]
  methods := #[k14m0, k14m1, k14m2, k14m3, k14m4]
  instanceTypes := #[(.array .byte), .byte, .int, .boolean]
  staticTypes := #[.long, .boolean, (.array (.object "java/io/ObjectStreamField")), .char, (.object "java/util/Comparator"), .byte, .byte]
  resolved := Array.replicate 1451 none
  statics := some 2 }

def pool15 : Array CpInfo := pool [(6, .class_ 8), (1, u "java/lang/Object"), (0, u "<init>"), (0, u "()V"), (1, .class_ 14), (1, u "java/lang/StringUTF16"), (31, u "$assertionsDisabled"), (0, u "Z"), (13, u "HI_BYTE_SHIFT"), (0, u "I"), (2, u "LO_BYTE_SHIFT"), (49, .methodref 12 116), (0, .nameAndType 117 118), (0, u "compress"), (0, u "([CI[BII)I"), (3, u "([CII)[B"), (138, u "coderFromArrayLen"), (0, u "([BI)B"), (106, .class_ 371), (1, u "java/lang/StringUTF16$LinesSpliterator"), (58, u "MAX_LENGTH"), (196, .class_ 628), (0, u "java/lang/StringUTF16$CodePointsSpliterator"), (0, .class_ 630), (0, u "java/lang/StringUTF16$CharsSpliterator")] 4

def k15m0 : Method := { name := "<init>", desc := "()V", sig := { parameters := [], returnType := none }, accessFlags := 0, code := none }
def k15c1 : Code := { maxStack := 2, maxLocals := 2, code := jdk_52_method_15_code, exceptionTable := #[], attributes := #[] }
def k15m1 : Method := { name := "coderFromArrayLen", desc := "([BI)B", sig := { parameters := [(.array .byte), .int], returnType := some .byte }, accessFlags := 8, code := some k15c1 }
def k15c2 : Code := { maxStack := 5, maxLocals := 6, code := jdk_52_method_16_code, exceptionTable := #[], attributes := #[] }
def k15m2 : Method := { name := "compress", desc := "([CII)[B", sig := { parameters := [(.array .char), .int, .int], returnType := some (.array .byte) }, accessFlags := 9, code := some k15c2 }
def k15c3 : Code := { maxStack := 3, maxLocals := 7, code := jdk_52_method_21_code, exceptionTable := #[], attributes := #[] }
def k15m3 : Method := { name := "compress", desc := "([CI[BII)I", sig := { parameters := [(.array .char), .int, (.array .byte), .int, .int], returnType := some .int }, accessFlags := 9, code := some k15c3 }
/-- java/lang/StringUTF16 -/
def k15 : Class := { plain "java/lang/StringUTF16" (some 0) with
  accessFlags := 48
  interfaces := #[]
  cf := some (fileOf pool15 12 #[.nestMembers #[627, 629, 369]] #[{ accessFlags := 0, nameIndex := 9, descriptorIndex := 10, attributes := #[] }, { accessFlags := 8, nameIndex := 261, descriptorIndex := 262, attributes := #[] }, { accessFlags := 9, nameIndex := 117, descriptorIndex := 122, attributes := #[] }, { accessFlags := 9, nameIndex := 117, descriptorIndex := 118, attributes := #[] }] 48 6 #[] #[{ accessFlags := 26, nameIndex := 61, descriptorIndex := 62, attributes := #[] }, { accessFlags := 26, nameIndex := 65, descriptorIndex := 62, attributes := #[] }, { accessFlags := 24, nameIndex := 430, descriptorIndex := 62, attributes := #[] }, { accessFlags := 4120, nameIndex := 46, descriptorIndex := 47, attributes := #[] }])
  fields := #[{ name := "HI_BYTE_SHIFT", type := .int, accessFlags := 26, slot := 0, constantValue := 0 }, { name := "LO_BYTE_SHIFT", type := .int, accessFlags := 26, slot := 1, constantValue := 0 }, { name := "MAX_LENGTH", type := .int, accessFlags := 24, slot := 2, constantValue := 0 }, { name := "$assertionsDisabled", type := .boolean, accessFlags := 4120, slot := 3, constantValue := 0 }]
  methods := #[k15m0, k15m1, k15m2, k15m3]
  instanceTypes := #[]
  staticTypes := #[.int, .int, .int, .boolean]
  resolved := Array.replicate 635 none
  statics := none }

def pool16 : Array CpInfo := pool [(1, .methodref 2 3), (0, .class_ 4), (0, .nameAndType 5 6), (0, u "com/example/manysort/manysort/language/Term"), (0, u "<init>"), (0, u "()V"), (0, .fieldref 8 9), (0, .class_ 10), (0, .nameAndType 11 12), (0, u "com/example/manysort/manysort/language/Variable"), (0, u "name"), (0, u "Ljava/lang/String;"), (22, u "(Ljava/lang/String;)V"), (31, u "ANONYMOUS"), (0, u "Lcom/example/manysort/manysort/language/Variable;"), (0, u "RENAMED_PREFIX")] 44

def k16c0 : Code := { maxStack := 2, maxLocals := 2, code := prog_108_method_1_code, exceptionTable := #[], attributes := #[] }
def k16m0 : Method := { name := "<init>", desc := "(Ljava/lang/String;)V", sig := { parameters := [(.object "java/lang/String")], returnType := none }, accessFlags := 0, code := some k16c0 }
/-- com/example/manysort/manysort/language/Variable -/
def k16 : Class := { plain "com/example/manysort/manysort/language/Variable" (some 2) with
  accessFlags := 49
  interfaces := #[]
  cf := some (fileOf pool16 8 #[] #[{ accessFlags := 0, nameIndex := 5, descriptorIndex := 35, attributes := #[] }] 49 2 #[] #[{ accessFlags := 24, nameIndex := 67, descriptorIndex := 68, attributes := #[] }, { accessFlags := 26, nameIndex := 69, descriptorIndex := 12, attributes := #[] }, { accessFlags := 18, nameIndex := 11, descriptorIndex := 12, attributes := #[] }])
  fields := #[{ name := "ANONYMOUS", type := (.object "com/example/manysort/manysort/language/Variable"), accessFlags := 24, slot := 0, constantValue := 0 }, { name := "RENAMED_PREFIX", type := (.object "java/lang/String"), accessFlags := 26, slot := 1, constantValue := 0 }, { name := "name", type := (.object "java/lang/String"), accessFlags := 18, slot := 0, constantValue := 0 }]
  methods := #[k16m0]
  instanceTypes := #[(.object "java/lang/String")]
  staticTypes := #[(.object "com/example/manysort/manysort/language/Variable"), (.object "java/lang/String")]
  resolved := Array.replicate 114 none
  statics := none }

def pool17 : Array CpInfo := pool [(4, .class_ 6), (1, u "java/lang/Object"), (0, u "<init>"), (0, u "()V"), (5, .class_ 16), (1, u "java/lang/StringLatin1"), (73, u "canEncode"), (14, u "(C)Z"), (15, u "$assertionsDisabled"), (0, u "Z"), (98, .class_ 223), (1, u "java/lang/StringLatin1$LinesSpliterator"), (156, u "toBytes"), (1, u "(C)[B"), (7, .class_ 391), (0, u "java/lang/StringLatin1$CharsSpliterator")] 3

def k17m0 : Method := { name := "<init>", desc := "()V", sig := { parameters := [], returnType := none }, accessFlags := 0, code := none }
def k17c1 : Code := { maxStack := 2, maxLocals := 1, code := jdk_43_method_3_code, exceptionTable := #[], attributes := #[] }
def k17m1 : Method := { name := "canEncode", desc := "(C)Z", sig := { parameters := [.char], returnType := some .boolean }, accessFlags := 9, code := some k17c1 }
def k17c2 : Code := { maxStack := 4, maxLocals := 1, code := jdk_43_method_46_code, exceptionTable := #[], attributes := #[] }
def k17m2 : Method := { name := "toBytes", desc := "(C)[B", sig := { parameters := [.char], returnType := some (.array .byte) }, accessFlags := 9, code := some k17c2 }
/-- java/lang/StringLatin1 -/
def k17 : Class := { plain "java/lang/StringLatin1" (some 0) with
  accessFlags := 48
  interfaces := #[]
  cf := some (fileOf pool17 14 #[.nestMembers #[390, 221]] #[{ accessFlags := 0, nameIndex := 7, descriptorIndex := 8, attributes := #[] }, { accessFlags := 9, nameIndex := 90, descriptorIndex := 105, attributes := #[] }, { accessFlags := 9, nameIndex := 380, descriptorIndex := 382, attributes := #[] }] 48 4 #[] #[{ accessFlags := 4120, nameIndex := 121, descriptorIndex := 122, attributes := #[] }])
  fields := #[{ name := "$assertionsDisabled", type := .boolean, accessFlags := 4120, slot := 0, constantValue := 0 }]
  methods := #[k17m0, k17m1, k17m2]
  instanceTypes := #[]
  staticTypes := #[.boolean]
  resolved := Array.replicate 395 none
  statics := none }

def pool18 : Array CpInfo := pool [(1, .methodref 2 3), (0, .class_ 4), (0, .nameAndType 5 6), (0, u "com/example/manysort/manysort/language/Term"), (0, u "<init>"), (0, u "()V"), (0, .fieldref 8 9), (0, .class_ 10), (0, .nameAndType 11 12), (0, u "com/example/manysort/manysort/language/Constant"), (0, u "name"), (0, u "Ljava/lang/String;"), (22, u "(Ljava/lang/String;)V")] 23

def k18c0 : Code := { maxStack := 2, maxLocals := 2, code := prog_24_method_1_code, exceptionTable := #[], attributes := #[] }
def k18m0 : Method := { name := "<init>", desc := "(Ljava/lang/String;)V", sig := { parameters := [(.object "java/lang/String")], returnType := none }, accessFlags := 0, code := some k18c0 }
/-- com/example/manysort/manysort/language/Constant -/
def k18 : Class := { plain "com/example/manysort/manysort/language/Constant" (some 2) with
  accessFlags := 49
  interfaces := #[]
  cf := some (fileOf pool18 8 #[] #[{ accessFlags := 0, nameIndex := 5, descriptorIndex := 35, attributes := #[] }] 49 2 #[] #[{ accessFlags := 18, nameIndex := 11, descriptorIndex := 12, attributes := #[] }])
  fields := #[{ name := "name", type := (.object "java/lang/String"), accessFlags := 18, slot := 0, constantValue := 0 }]
  methods := #[k18m0]
  instanceTypes := #[(.object "java/lang/String")]
  staticTypes := #[]
  resolved := Array.replicate 59 none
  statics := none }

def pool19 : Array CpInfo := pool [(2, .class_ 4), (1, u "java/lang/Object"), (0, u "<init>"), (0, u "()V"), (17, .class_ 26), (1, u "jdk/internal/util/Preconditions"), (28, .class_ 56), (0, u "jdk/internal/util/Preconditions$4"), (57, .class_ 115), (0, u "jdk/internal/util/Preconditions$1"), (7, u "SIOOBE_FORMATTER"), (0, u "Ljava/util/function/BiFunction;"), (0, .class_ 126), (0, u "jdk/internal/util/Preconditions$2"), (3, u "AIOOBE_FORMATTER"), (0, .class_ 132), (0, u "jdk/internal/util/Preconditions$3"), (3, u "IOOBE_FORMATTER")] 57

def k19m0 : Method := { name := "<init>", desc := "()V", sig := { parameters := [], returnType := none }, accessFlags := 1, code := none }
/-- jdk/internal/util/Preconditions -/
def k19 : Class := { plain "jdk/internal/util/Preconditions" (some 0) with
  accessFlags := 33
  interfaces := #[]
  cf := some (fileOf pool19 24 #[.nestMembers #[55, 131, 125, 114]] #[{ accessFlags := 1, nameIndex := 5, descriptorIndex := 6, attributes := #[] }] 33 2 #[] #[{ accessFlags := 25, nameIndex := 123, descriptorIndex := 124, attributes := #[] }, { accessFlags := 25, nameIndex := 130, descriptorIndex := 124, attributes := #[] }, { accessFlags := 25, nameIndex := 136, descriptorIndex := 124, attributes := #[] }])
  fields := #[{ name := "SIOOBE_FORMATTER", type := (.object "java/util/function/BiFunction"), accessFlags := 25, slot := 0, constantValue := 0 }, { name := "AIOOBE_FORMATTER", type := (.object "java/util/function/BiFunction"), accessFlags := 25, slot := 1, constantValue := 0 }, { name := "IOOBE_FORMATTER", type := (.object "java/util/function/BiFunction"), accessFlags := 25, slot := 2, constantValue := 0 }]
  methods := #[k19m0]
  instanceTypes := #[]
  staticTypes := #[(.object "java/util/function/BiFunction"), (.object "java/util/function/BiFunction"), (.object "java/util/function/BiFunction")]
  resolved := Array.replicate 194 none
  statics := some 3 }

def pool20 : Array CpInfo := pool [(9, u "<init>"), (6, .class_ 18), (1, u "java/lang/Object"), (0, u "()V"), (1, .class_ 23), (1, u "jdk/internal/util/ArraysSupport"), (0, u "LOG2_ARRAY_LONG_INDEX_SCALE"), (0, u "I"), (2, u "U"), (0, u "Ljdk/internal/misc/Unsafe;"), (8, u "BIG_ENDIAN"), (0, u "Z"), (8, u "LOG2_BYTE_BIT_SIZE"), (4, u "LOG2_ARRAY_INT_INDEX_SCALE"), (54, u "JLA"), (0, u "Ljdk/internal/access/JavaLangAccess;"), (11, u "LOG2_ARRAY_BOOLEAN_INDEX_SCALE"), (9, u "LOG2_ARRAY_BYTE_INDEX_SCALE"), (5, u "LOG2_ARRAY_CHAR_INDEX_SCALE"), (5, u "LOG2_ARRAY_SHORT_INDEX_SCALE"), (18, u "LOG2_ARRAY_FLOAT_INDEX_SCALE"), (24, u "LOG2_ARRAY_DOUBLE_INDEX_SCALE"), (89, u "T_BOOLEAN"), (2, u "T_CHAR"), (1, u "T_FLOAT"), (1, u "T_DOUBLE"), (1, u "T_BYTE"), (1, u "T_SHORT"), (1, u "T_INT"), (1, u "T_LONG"), (1, u "SOFT_MAX_ARRAY_LENGTH")] 83

def k20m0 : Method := { name := "<init>", desc := "()V", sig := { parameters := [], returnType := none }, accessFlags := 2, code := none }
/-- jdk/internal/util/ArraysSupport -/
def k20 : Class := { plain "jdk/internal/util/ArraysSupport" (some 0) with
  accessFlags := 33
  interfaces := #[]
  cf := some (fileOf pool20 21 #[] #[{ accessFlags := 2, nameIndex := 9, descriptorIndex := 19, attributes := #[] }] 33 16 #[] #[{ accessFlags := 24, nameIndex := 28, descriptorIndex := 29, attributes := #[] }, { accessFlags := 26, nameIndex := 38, descriptorIndex := 39, attributes := #[] }, { accessFlags := 25, nameIndex := 121, descriptorIndex := 25, attributes := #[] }, { accessFlags := 25, nameIndex := 131, descriptorIndex := 25, attributes := #[] }, { accessFlags := 25, nameIndex := 137, descriptorIndex := 25, attributes := #[] }, { accessFlags := 25, nameIndex := 143, descriptorIndex := 25, attributes := #[] }, { accessFlags := 25, nameIndex := 53, descriptorIndex := 25, attributes := #[] }, { accessFlags := 25, nameIndex := 24, descriptorIndex := 25, attributes := #[] }, { accessFlags := 25, nameIndex := 162, descriptorIndex := 25, attributes := #[] }, { accessFlags := 25, nameIndex := 187, descriptorIndex := 25, attributes := #[] }, { accessFlags := 26, nameIndex := 48, descriptorIndex := 25, attributes := #[] }, { accessFlags := 25, nameIndex := 277, descriptorIndex := 25, attributes := #[] }, { accessFlags := 25, nameIndex := 280, descriptorIndex := 25, attributes := #[] }, { accessFlags := 25, nameIndex := 282, descriptorIndex := 25, attributes := #[] }, { accessFlags := 25, nameIndex := 284, descriptorIndex := 25, attributes := #[] }, { accessFlags := 25, nameIndex := 286, descriptorIndex := 25, attributes := #[] }, { accessFlags := 25, nameIndex := 288, descriptorIndex := 25, attributes := #[] }, { accessFlags := 25, nameIndex := 290, descriptorIndex := 25, attributes := #[] }, { accessFlags := 25, nameIndex := 292, descriptorIndex := 25, attributes := #[] }, { accessFlags := 26, nameIndex := 108, descriptorIndex := 109, attributes := #[] }, { accessFlags := 25, nameIndex := 294, descriptorIndex := 25, attributes := #[] }])
  fields := #[{ name := "U", type := (.object "jdk/internal/misc/Unsafe"), accessFlags := 24, slot := 0, constantValue := 0 }, { name := "BIG_ENDIAN", type := .boolean, accessFlags := 26, slot := 1, constantValue := 0 }, { name := "LOG2_ARRAY_BOOLEAN_INDEX_SCALE", type := .int, accessFlags := 25, slot := 2, constantValue := 0 }, { name := "LOG2_ARRAY_BYTE_INDEX_SCALE", type := .int, accessFlags := 25, slot := 3, constantValue := 0 }, { name := "LOG2_ARRAY_CHAR_INDEX_SCALE", type := .int, accessFlags := 25, slot := 4, constantValue := 0 }, { name := "LOG2_ARRAY_SHORT_INDEX_SCALE", type := .int, accessFlags := 25, slot := 5, constantValue := 0 }, { name := "LOG2_ARRAY_INT_INDEX_SCALE", type := .int, accessFlags := 25, slot := 6, constantValue := 0 }, { name := "LOG2_ARRAY_LONG_INDEX_SCALE", type := .int, accessFlags := 25, slot := 7, constantValue := 0 }, { name := "LOG2_ARRAY_FLOAT_INDEX_SCALE", type := .int, accessFlags := 25, slot := 8, constantValue := 0 }, { name := "LOG2_ARRAY_DOUBLE_INDEX_SCALE", type := .int, accessFlags := 25, slot := 9, constantValue := 0 }, { name := "LOG2_BYTE_BIT_SIZE", type := .int, accessFlags := 26, slot := 10, constantValue := 0 }, { name := "T_BOOLEAN", type := .int, accessFlags := 25, slot := 11, constantValue := 0 }, { name := "T_CHAR", type := .int, accessFlags := 25, slot := 12, constantValue := 0 }, { name := "T_FLOAT", type := .int, accessFlags := 25, slot := 13, constantValue := 0 }, { name := "T_DOUBLE", type := .int, accessFlags := 25, slot := 14, constantValue := 0 }, { name := "T_BYTE", type := .int, accessFlags := 25, slot := 15, constantValue := 0 }, { name := "T_SHORT", type := .int, accessFlags := 25, slot := 16, constantValue := 0 }, { name := "T_INT", type := .int, accessFlags := 25, slot := 17, constantValue := 0 }, { name := "T_LONG", type := .int, accessFlags := 25, slot := 18, constantValue := 0 }, { name := "JLA", type := (.object "jdk/internal/access/JavaLangAccess"), accessFlags := 26, slot := 19, constantValue := 0 }, { name := "SOFT_MAX_ARRAY_LENGTH", type := .int, accessFlags := 25, slot := 20, constantValue := 0 }]
  methods := #[k20m0]
  instanceTypes := #[]
  staticTypes := #[(.object "jdk/internal/misc/Unsafe"), .boolean, .int, .int, .int, .int, .int, .int, .int, .int, .int, .int, .int, .int, .int, .int, .int, .int, .int, (.object "jdk/internal/access/JavaLangAccess"), .int]
  resolved := Array.replicate 378 none
  statics := none }

def pool21 : Array CpInfo := pool [(1, u "java/lang/Cloneable"), (0, .class_ 1), (0, u "java/lang/Object"), (0, .class_ 3)] 3

/-- java/lang/Cloneable -/
def k21 : Class := { plain "java/lang/Cloneable" (some 0) with
  accessFlags := 1537
  interfaces := #[]
  cf := some (fileOf pool21 2 #[] #[] 1537 4 #[] #[])
  fields := #[]
  methods := #[]
  instanceTypes := #[]
  staticTypes := #[]
  resolved := Array.replicate 8 none
  statics := none }

/-- the primitive byte -/
def k22 : Class := { plain "byte" none with kind := .primitive 'B', accessFlags := 0x411 }
/-- [B -/
def k23 : Class := { plain "[B" (some 0) with kind := .array 22 .byte, interfaces := #[21, 4], accessFlags := 1041 }

/-- the primitive char -/
def k24 : Class := { plain "char" none with kind := .primitive 'C', accessFlags := 0x411 }
/-- [C -/
def k25 : Class := { plain "[C" (some 0) with kind := .array 24 .char, interfaces := #[21, 4], accessFlags := 1041 }

/-- the primitive int -/
def k26 : Class := { plain "int" none with kind := .primitive 'I', accessFlags := 0x411 }
/-- [I -/
def k27 : Class := { plain "[I" (some 0) with kind := .array 26 .int, interfaces := #[21, 4], accessFlags := 1041 }

/-- [Ljava/lang/Integer; -/
def k28 : Class := { plain "[Ljava/lang/Integer;" (some 0) with kind := .array 11 (.object "java/lang/Integer"), interfaces := #[21, 4], accessFlags := 1041 }

/-- [Ljava/lang/Long; -/
def k29 : Class := { plain "[Ljava/lang/Long;" (some 0) with kind := .array 9 (.object "java/lang/Long"), interfaces := #[21, 4], accessFlags := 1041 }

def heap : Heap := #[{ cls := 10, slots := #[.ref 5, .null, .int 0], vm := .statics 10 },
  { cls := 12, slots := #[.int 0, .int 127, .ref 4, .null, .int 0], vm := .statics 12 },
  { cls := 14, slots := #[.long 0, .int 1, .null, .int 0, .null, .int 0, .int 0], vm := .statics 14 },
  { cls := 19, slots := #[.null, .null, .null], vm := .statics 19 },
  { cls := 28, slots := #[.ref 6, .ref 7, .ref 8, .ref 9, .ref 10, .ref 11, .ref 12, .ref 13, .ref 14, .ref 15, .ref 16, .ref 17, .ref 18, .ref 19, .ref 20, .ref 21, .ref 22, .ref 23, .ref 24, .ref 25, .ref 26, .ref 27, .ref 28, .ref 29, .ref 30, .ref 31, .ref 32, .ref 33, .ref 34, .ref 35, .ref 36, .ref 37, .ref 38, .ref 39, .ref 40, .ref 41, .ref 42, .ref 43, .ref 44, .ref 45, .ref 46, .ref 47, .ref 48, .ref 49, .ref 50, .ref 51, .ref 52, .ref 53, .ref 54, .ref 55, .ref 56, .ref 57, .ref 58, .ref 59, .ref 60, .ref 61, .ref 62, .ref 63, .ref 64, .ref 65, .ref 66, .ref 67, .ref 68, .ref 69, .ref 70, .ref 71, .ref 72, .ref 73, .ref 74, .ref 75, .ref 76, .ref 77, .ref 78, .ref 79, .ref 80, .ref 81, .ref 82, .ref 83, .ref 84, .ref 85, .ref 86, .ref 87, .ref 88, .ref 89, .ref 90, .ref 91, .ref 92, .ref 93, .ref 94, .ref 95, .ref 96, .ref 97, .ref 98, .ref 99, .ref 100, .ref 101, .ref 102, .ref 103, .ref 104, .ref 105, .ref 106, .ref 107, .ref 108, .ref 109, .ref 110, .ref 111, .ref 112, .ref 113, .ref 114, .ref 115, .ref 116, .ref 117, .ref 118, .ref 119, .ref 120, .ref 121, .ref 122, .ref 123, .ref 124, .ref 125, .ref 126, .ref 127, .ref 128, .ref 129, .ref 130, .ref 131, .ref 132, .ref 133, .ref 134, .ref 135, .ref 136, .ref 137, .ref 138, .ref 139, .ref 140, .ref 141, .ref 142, .ref 143, .ref 144, .ref 145, .ref 146, .ref 147, .ref 148, .ref 149, .ref 150, .ref 151, .ref 152, .ref 153, .ref 154, .ref 155, .ref 156, .ref 157, .ref 158, .ref 159, .ref 160, .ref 161, .ref 162, .ref 163, .ref 164, .ref 165, .ref 166, .ref 167, .ref 168, .ref 169, .ref 170, .ref 171, .ref 172, .ref 173, .ref 174, .ref 175, .ref 176, .ref 177, .ref 178, .ref 179, .ref 180, .ref 181, .ref 182, .ref 183, .ref 184, .ref 185, .ref 186, .ref 187, .ref 188, .ref 189, .ref 190, .ref 191, .ref 192, .ref 193, .ref 194, .ref 195, .ref 196, .ref 197, .ref 198, .ref 199, .ref 200, .ref 201, .ref 202, .ref 203, .ref 204, .ref 205, .ref 206, .ref 207, .ref 208, .ref 209, .ref 210, .ref 211, .ref 212, .ref 213, .ref 214, .ref 215, .ref 216, .ref 217, .ref 218, .ref 219, .ref 220, .ref 221, .ref 222, .ref 223, .ref 224, .ref 225, .ref 226, .ref 227, .ref 228, .ref 229, .ref 230, .ref 231, .ref 232, .ref 233, .ref 234, .ref 235, .ref 236, .ref 237, .ref 238, .ref 239, .ref 240, .ref 241, .ref 242, .ref 243, .ref 244, .ref 245, .ref 246, .ref 247, .ref 248, .ref 249, .ref 250, .ref 251, .ref 252, .ref 253, .ref 254, .ref 255, .ref 256, .ref 257, .ref 258, .ref 259, .ref 260, .ref 261], vm := .none },
  { cls := 29, slots := #[.ref 262, .ref 263, .ref 264, .ref 265, .ref 266, .ref 267, .ref 268, .ref 269, .ref 270, .ref 271, .ref 272, .ref 273, .ref 274, .ref 275, .ref 276, .ref 277, .ref 278, .ref 279, .ref 280, .ref 281, .ref 282, .ref 283, .ref 284, .ref 285, .ref 286, .ref 287, .ref 288, .ref 289, .ref 290, .ref 291, .ref 292, .ref 293, .ref 294, .ref 295, .ref 296, .ref 297, .ref 298, .ref 299, .ref 300, .ref 301, .ref 302, .ref 303, .ref 304, .ref 305, .ref 306, .ref 307, .ref 308, .ref 309, .ref 310, .ref 311, .ref 312, .ref 313, .ref 314, .ref 315, .ref 316, .ref 317, .ref 318, .ref 319, .ref 320, .ref 321, .ref 322, .ref 323, .ref 324, .ref 325, .ref 326, .ref 327, .ref 328, .ref 329, .ref 330, .ref 331, .ref 332, .ref 333, .ref 334, .ref 335, .ref 336, .ref 337, .ref 338, .ref 339, .ref 340, .ref 341, .ref 342, .ref 343, .ref 344, .ref 345, .ref 346, .ref 347, .ref 348, .ref 349, .ref 350, .ref 351, .ref 352, .ref 353, .ref 354, .ref 355, .ref 356, .ref 357, .ref 358, .ref 359, .ref 360, .ref 361, .ref 362, .ref 363, .ref 364, .ref 365, .ref 366, .ref 367, .ref 368, .ref 369, .ref 370, .ref 371, .ref 372, .ref 373, .ref 374, .ref 375, .ref 376, .ref 377, .ref 378, .ref 379, .ref 380, .ref 381, .ref 382, .ref 383, .ref 384, .ref 385, .ref 386, .ref 387, .ref 388, .ref 389, .ref 390, .ref 391, .ref 392, .ref 393, .ref 394, .ref 395, .ref 396, .ref 397, .ref 398, .ref 399, .ref 400, .ref 401, .ref 402, .ref 403, .ref 404, .ref 405, .ref 406, .ref 407, .ref 408, .ref 409, .ref 410, .ref 411, .ref 412, .ref 413, .ref 414, .ref 415, .ref 416, .ref 417, .ref 418, .ref 419, .ref 420, .ref 421, .ref 422, .ref 423, .ref 424, .ref 425, .ref 426, .ref 427, .ref 428, .ref 429, .ref 430, .ref 431, .ref 432, .ref 433, .ref 434, .ref 435, .ref 436, .ref 437, .ref 438, .ref 439, .ref 440, .ref 441, .ref 442, .ref 443, .ref 444, .ref 445, .ref 446, .ref 447, .ref 448, .ref 449, .ref 450, .ref 451, .ref 452, .ref 453, .ref 454, .ref 455, .ref 456, .ref 457, .ref 458, .ref 459, .ref 460, .ref 461, .ref 462, .ref 463, .ref 464, .ref 465, .ref 466, .ref 467, .ref 468, .ref 469, .ref 470, .ref 471, .ref 472, .ref 473, .ref 474, .ref 475, .ref 476, .ref 477, .ref 478, .ref 479, .ref 480, .ref 481, .ref 482, .ref 483, .ref 484, .ref 485, .ref 486, .ref 487, .ref 488, .ref 489, .ref 490, .ref 491, .ref 492, .ref 493, .ref 494, .ref 495, .ref 496, .ref 497, .ref 498, .ref 499, .ref 500, .ref 501, .ref 502, .ref 503, .ref 504, .ref 505, .ref 506, .ref 507, .ref 508, .ref 509, .ref 510, .ref 511, .ref 512, .ref 513, .ref 514, .ref 515, .ref 516, .ref 517], vm := .none },
  { cls := 11, slots := #[.int (-128)], vm := .none },
  { cls := 11, slots := #[.int (-127)], vm := .none },
  { cls := 11, slots := #[.int (-126)], vm := .none },
  { cls := 11, slots := #[.int (-125)], vm := .none },
  { cls := 11, slots := #[.int (-124)], vm := .none },
  { cls := 11, slots := #[.int (-123)], vm := .none },
  { cls := 11, slots := #[.int (-122)], vm := .none },
  { cls := 11, slots := #[.int (-121)], vm := .none },
  { cls := 11, slots := #[.int (-120)], vm := .none },
  { cls := 11, slots := #[.int (-119)], vm := .none },
  { cls := 11, slots := #[.int (-118)], vm := .none },
  { cls := 11, slots := #[.int (-117)], vm := .none },
  { cls := 11, slots := #[.int (-116)], vm := .none },
  { cls := 11, slots := #[.int (-115)], vm := .none },
  { cls := 11, slots := #[.int (-114)], vm := .none },
  { cls := 11, slots := #[.int (-113)], vm := .none },
  { cls := 11, slots := #[.int (-112)], vm := .none },
  { cls := 11, slots := #[.int (-111)], vm := .none },
  { cls := 11, slots := #[.int (-110)], vm := .none },
  { cls := 11, slots := #[.int (-109)], vm := .none },
  { cls := 11, slots := #[.int (-108)], vm := .none },
  { cls := 11, slots := #[.int (-107)], vm := .none },
  { cls := 11, slots := #[.int (-106)], vm := .none },
  { cls := 11, slots := #[.int (-105)], vm := .none },
  { cls := 11, slots := #[.int (-104)], vm := .none },
  { cls := 11, slots := #[.int (-103)], vm := .none },
  { cls := 11, slots := #[.int (-102)], vm := .none },
  { cls := 11, slots := #[.int (-101)], vm := .none },
  { cls := 11, slots := #[.int (-100)], vm := .none },
  { cls := 11, slots := #[.int (-99)], vm := .none },
  { cls := 11, slots := #[.int (-98)], vm := .none },
  { cls := 11, slots := #[.int (-97)], vm := .none },
  { cls := 11, slots := #[.int (-96)], vm := .none },
  { cls := 11, slots := #[.int (-95)], vm := .none },
  { cls := 11, slots := #[.int (-94)], vm := .none },
  { cls := 11, slots := #[.int (-93)], vm := .none },
  { cls := 11, slots := #[.int (-92)], vm := .none },
  { cls := 11, slots := #[.int (-91)], vm := .none },
  { cls := 11, slots := #[.int (-90)], vm := .none },
  { cls := 11, slots := #[.int (-89)], vm := .none },
  { cls := 11, slots := #[.int (-88)], vm := .none },
  { cls := 11, slots := #[.int (-87)], vm := .none },
  { cls := 11, slots := #[.int (-86)], vm := .none },
  { cls := 11, slots := #[.int (-85)], vm := .none },
  { cls := 11, slots := #[.int (-84)], vm := .none },
  { cls := 11, slots := #[.int (-83)], vm := .none },
  { cls := 11, slots := #[.int (-82)], vm := .none },
  { cls := 11, slots := #[.int (-81)], vm := .none },
  { cls := 11, slots := #[.int (-80)], vm := .none },
  { cls := 11, slots := #[.int (-79)], vm := .none },
  { cls := 11, slots := #[.int (-78)], vm := .none },
  { cls := 11, slots := #[.int (-77)], vm := .none },
  { cls := 11, slots := #[.int (-76)], vm := .none },
  { cls := 11, slots := #[.int (-75)], vm := .none },
  { cls := 11, slots := #[.int (-74)], vm := .none },
  { cls := 11, slots := #[.int (-73)], vm := .none },
  { cls := 11, slots := #[.int (-72)], vm := .none },
  { cls := 11, slots := #[.int (-71)], vm := .none },
  { cls := 11, slots := #[.int (-70)], vm := .none },
  { cls := 11, slots := #[.int (-69)], vm := .none },
  { cls := 11, slots := #[.int (-68)], vm := .none },
  { cls := 11, slots := #[.int (-67)], vm := .none },
  { cls := 11, slots := #[.int (-66)], vm := .none },
  { cls := 11, slots := #[.int (-65)], vm := .none },
  { cls := 11, slots := #[.int (-64)], vm := .none },
  { cls := 11, slots := #[.int (-63)], vm := .none },
  { cls := 11, slots := #[.int (-62)], vm := .none },
  { cls := 11, slots := #[.int (-61)], vm := .none },
  { cls := 11, slots := #[.int (-60)], vm := .none },
  { cls := 11, slots := #[.int (-59)], vm := .none },
  { cls := 11, slots := #[.int (-58)], vm := .none },
  { cls := 11, slots := #[.int (-57)], vm := .none },
  { cls := 11, slots := #[.int (-56)], vm := .none },
  { cls := 11, slots := #[.int (-55)], vm := .none },
  { cls := 11, slots := #[.int (-54)], vm := .none },
  { cls := 11, slots := #[.int (-53)], vm := .none },
  { cls := 11, slots := #[.int (-52)], vm := .none },
  { cls := 11, slots := #[.int (-51)], vm := .none },
  { cls := 11, slots := #[.int (-50)], vm := .none },
  { cls := 11, slots := #[.int (-49)], vm := .none },
  { cls := 11, slots := #[.int (-48)], vm := .none },
  { cls := 11, slots := #[.int (-47)], vm := .none },
  { cls := 11, slots := #[.int (-46)], vm := .none },
  { cls := 11, slots := #[.int (-45)], vm := .none },
  { cls := 11, slots := #[.int (-44)], vm := .none },
  { cls := 11, slots := #[.int (-43)], vm := .none },
  { cls := 11, slots := #[.int (-42)], vm := .none },
  { cls := 11, slots := #[.int (-41)], vm := .none },
  { cls := 11, slots := #[.int (-40)], vm := .none },
  { cls := 11, slots := #[.int (-39)], vm := .none },
  { cls := 11, slots := #[.int (-38)], vm := .none },
  { cls := 11, slots := #[.int (-37)], vm := .none },
  { cls := 11, slots := #[.int (-36)], vm := .none },
  { cls := 11, slots := #[.int (-35)], vm := .none },
  { cls := 11, slots := #[.int (-34)], vm := .none },
  { cls := 11, slots := #[.int (-33)], vm := .none },
  { cls := 11, slots := #[.int (-32)], vm := .none },
  { cls := 11, slots := #[.int (-31)], vm := .none },
  { cls := 11, slots := #[.int (-30)], vm := .none },
  { cls := 11, slots := #[.int (-29)], vm := .none },
  { cls := 11, slots := #[.int (-28)], vm := .none },
  { cls := 11, slots := #[.int (-27)], vm := .none },
  { cls := 11, slots := #[.int (-26)], vm := .none },
  { cls := 11, slots := #[.int (-25)], vm := .none },
  { cls := 11, slots := #[.int (-24)], vm := .none },
  { cls := 11, slots := #[.int (-23)], vm := .none },
  { cls := 11, slots := #[.int (-22)], vm := .none },
  { cls := 11, slots := #[.int (-21)], vm := .none },
  { cls := 11, slots := #[.int (-20)], vm := .none },
  { cls := 11, slots := #[.int (-19)], vm := .none },
  { cls := 11, slots := #[.int (-18)], vm := .none },
  { cls := 11, slots := #[.int (-17)], vm := .none },
  { cls := 11, slots := #[.int (-16)], vm := .none },
  { cls := 11, slots := #[.int (-15)], vm := .none },
  { cls := 11, slots := #[.int (-14)], vm := .none },
  { cls := 11, slots := #[.int (-13)], vm := .none },
  { cls := 11, slots := #[.int (-12)], vm := .none },
  { cls := 11, slots := #[.int (-11)], vm := .none },
  { cls := 11, slots := #[.int (-10)], vm := .none },
  { cls := 11, slots := #[.int (-9)], vm := .none },
  { cls := 11, slots := #[.int (-8)], vm := .none },
  { cls := 11, slots := #[.int (-7)], vm := .none },
  { cls := 11, slots := #[.int (-6)], vm := .none },
  { cls := 11, slots := #[.int (-5)], vm := .none },
  { cls := 11, slots := #[.int (-4)], vm := .none },
  { cls := 11, slots := #[.int (-3)], vm := .none },
  { cls := 11, slots := #[.int (-2)], vm := .none },
  { cls := 11, slots := #[.int (-1)], vm := .none },
  { cls := 11, slots := #[.int (0)], vm := .none },
  { cls := 11, slots := #[.int (1)], vm := .none },
  { cls := 11, slots := #[.int (2)], vm := .none },
  { cls := 11, slots := #[.int (3)], vm := .none },
  { cls := 11, slots := #[.int (4)], vm := .none },
  { cls := 11, slots := #[.int (5)], vm := .none },
  { cls := 11, slots := #[.int (6)], vm := .none },
  { cls := 11, slots := #[.int (7)], vm := .none },
  { cls := 11, slots := #[.int (8)], vm := .none },
  { cls := 11, slots := #[.int (9)], vm := .none },
  { cls := 11, slots := #[.int (10)], vm := .none },
  { cls := 11, slots := #[.int (11)], vm := .none },
  { cls := 11, slots := #[.int (12)], vm := .none },
  { cls := 11, slots := #[.int (13)], vm := .none },
  { cls := 11, slots := #[.int (14)], vm := .none },
  { cls := 11, slots := #[.int (15)], vm := .none },
  { cls := 11, slots := #[.int (16)], vm := .none },
  { cls := 11, slots := #[.int (17)], vm := .none },
  { cls := 11, slots := #[.int (18)], vm := .none },
  { cls := 11, slots := #[.int (19)], vm := .none },
  { cls := 11, slots := #[.int (20)], vm := .none },
  { cls := 11, slots := #[.int (21)], vm := .none },
  { cls := 11, slots := #[.int (22)], vm := .none },
  { cls := 11, slots := #[.int (23)], vm := .none },
  { cls := 11, slots := #[.int (24)], vm := .none },
  { cls := 11, slots := #[.int (25)], vm := .none },
  { cls := 11, slots := #[.int (26)], vm := .none },
  { cls := 11, slots := #[.int (27)], vm := .none },
  { cls := 11, slots := #[.int (28)], vm := .none },
  { cls := 11, slots := #[.int (29)], vm := .none },
  { cls := 11, slots := #[.int (30)], vm := .none },
  { cls := 11, slots := #[.int (31)], vm := .none },
  { cls := 11, slots := #[.int (32)], vm := .none },
  { cls := 11, slots := #[.int (33)], vm := .none },
  { cls := 11, slots := #[.int (34)], vm := .none },
  { cls := 11, slots := #[.int (35)], vm := .none },
  { cls := 11, slots := #[.int (36)], vm := .none },
  { cls := 11, slots := #[.int (37)], vm := .none },
  { cls := 11, slots := #[.int (38)], vm := .none },
  { cls := 11, slots := #[.int (39)], vm := .none },
  { cls := 11, slots := #[.int (40)], vm := .none },
  { cls := 11, slots := #[.int (41)], vm := .none },
  { cls := 11, slots := #[.int (42)], vm := .none },
  { cls := 11, slots := #[.int (43)], vm := .none },
  { cls := 11, slots := #[.int (44)], vm := .none },
  { cls := 11, slots := #[.int (45)], vm := .none },
  { cls := 11, slots := #[.int (46)], vm := .none },
  { cls := 11, slots := #[.int (47)], vm := .none },
  { cls := 11, slots := #[.int (48)], vm := .none },
  { cls := 11, slots := #[.int (49)], vm := .none },
  { cls := 11, slots := #[.int (50)], vm := .none },
  { cls := 11, slots := #[.int (51)], vm := .none },
  { cls := 11, slots := #[.int (52)], vm := .none },
  { cls := 11, slots := #[.int (53)], vm := .none },
  { cls := 11, slots := #[.int (54)], vm := .none },
  { cls := 11, slots := #[.int (55)], vm := .none },
  { cls := 11, slots := #[.int (56)], vm := .none },
  { cls := 11, slots := #[.int (57)], vm := .none },
  { cls := 11, slots := #[.int (58)], vm := .none },
  { cls := 11, slots := #[.int (59)], vm := .none },
  { cls := 11, slots := #[.int (60)], vm := .none },
  { cls := 11, slots := #[.int (61)], vm := .none },
  { cls := 11, slots := #[.int (62)], vm := .none },
  { cls := 11, slots := #[.int (63)], vm := .none },
  { cls := 11, slots := #[.int (64)], vm := .none },
  { cls := 11, slots := #[.int (65)], vm := .none },
  { cls := 11, slots := #[.int (66)], vm := .none },
  { cls := 11, slots := #[.int (67)], vm := .none },
  { cls := 11, slots := #[.int (68)], vm := .none },
  { cls := 11, slots := #[.int (69)], vm := .none },
  { cls := 11, slots := #[.int (70)], vm := .none },
  { cls := 11, slots := #[.int (71)], vm := .none },
  { cls := 11, slots := #[.int (72)], vm := .none },
  { cls := 11, slots := #[.int (73)], vm := .none },
  { cls := 11, slots := #[.int (74)], vm := .none },
  { cls := 11, slots := #[.int (75)], vm := .none },
  { cls := 11, slots := #[.int (76)], vm := .none },
  { cls := 11, slots := #[.int (77)], vm := .none },
  { cls := 11, slots := #[.int (78)], vm := .none },
  { cls := 11, slots := #[.int (79)], vm := .none },
  { cls := 11, slots := #[.int (80)], vm := .none },
  { cls := 11, slots := #[.int (81)], vm := .none },
  { cls := 11, slots := #[.int (82)], vm := .none },
  { cls := 11, slots := #[.int (83)], vm := .none },
  { cls := 11, slots := #[.int (84)], vm := .none },
  { cls := 11, slots := #[.int (85)], vm := .none },
  { cls := 11, slots := #[.int (86)], vm := .none },
  { cls := 11, slots := #[.int (87)], vm := .none },
  { cls := 11, slots := #[.int (88)], vm := .none },
  { cls := 11, slots := #[.int (89)], vm := .none },
  { cls := 11, slots := #[.int (90)], vm := .none },
  { cls := 11, slots := #[.int (91)], vm := .none },
  { cls := 11, slots := #[.int (92)], vm := .none },
  { cls := 11, slots := #[.int (93)], vm := .none },
  { cls := 11, slots := #[.int (94)], vm := .none },
  { cls := 11, slots := #[.int (95)], vm := .none },
  { cls := 11, slots := #[.int (96)], vm := .none },
  { cls := 11, slots := #[.int (97)], vm := .none },
  { cls := 11, slots := #[.int (98)], vm := .none },
  { cls := 11, slots := #[.int (99)], vm := .none },
  { cls := 11, slots := #[.int (100)], vm := .none },
  { cls := 11, slots := #[.int (101)], vm := .none },
  { cls := 11, slots := #[.int (102)], vm := .none },
  { cls := 11, slots := #[.int (103)], vm := .none },
  { cls := 11, slots := #[.int (104)], vm := .none },
  { cls := 11, slots := #[.int (105)], vm := .none },
  { cls := 11, slots := #[.int (106)], vm := .none },
  { cls := 11, slots := #[.int (107)], vm := .none },
  { cls := 11, slots := #[.int (108)], vm := .none },
  { cls := 11, slots := #[.int (109)], vm := .none },
  { cls := 11, slots := #[.int (110)], vm := .none },
  { cls := 11, slots := #[.int (111)], vm := .none },
  { cls := 11, slots := #[.int (112)], vm := .none },
  { cls := 11, slots := #[.int (113)], vm := .none },
  { cls := 11, slots := #[.int (114)], vm := .none },
  { cls := 11, slots := #[.int (115)], vm := .none },
  { cls := 11, slots := #[.int (116)], vm := .none },
  { cls := 11, slots := #[.int (117)], vm := .none },
  { cls := 11, slots := #[.int (118)], vm := .none },
  { cls := 11, slots := #[.int (119)], vm := .none },
  { cls := 11, slots := #[.int (120)], vm := .none },
  { cls := 11, slots := #[.int (121)], vm := .none },
  { cls := 11, slots := #[.int (122)], vm := .none },
  { cls := 11, slots := #[.int (123)], vm := .none },
  { cls := 11, slots := #[.int (124)], vm := .none },
  { cls := 11, slots := #[.int (125)], vm := .none },
  { cls := 11, slots := #[.int (126)], vm := .none },
  { cls := 11, slots := #[.int (127)], vm := .none },
  { cls := 9, slots := #[.long (-128)], vm := .none },
  { cls := 9, slots := #[.long (-127)], vm := .none },
  { cls := 9, slots := #[.long (-126)], vm := .none },
  { cls := 9, slots := #[.long (-125)], vm := .none },
  { cls := 9, slots := #[.long (-124)], vm := .none },
  { cls := 9, slots := #[.long (-123)], vm := .none },
  { cls := 9, slots := #[.long (-122)], vm := .none },
  { cls := 9, slots := #[.long (-121)], vm := .none },
  { cls := 9, slots := #[.long (-120)], vm := .none },
  { cls := 9, slots := #[.long (-119)], vm := .none },
  { cls := 9, slots := #[.long (-118)], vm := .none },
  { cls := 9, slots := #[.long (-117)], vm := .none },
  { cls := 9, slots := #[.long (-116)], vm := .none },
  { cls := 9, slots := #[.long (-115)], vm := .none },
  { cls := 9, slots := #[.long (-114)], vm := .none },
  { cls := 9, slots := #[.long (-113)], vm := .none },
  { cls := 9, slots := #[.long (-112)], vm := .none },
  { cls := 9, slots := #[.long (-111)], vm := .none },
  { cls := 9, slots := #[.long (-110)], vm := .none },
  { cls := 9, slots := #[.long (-109)], vm := .none },
  { cls := 9, slots := #[.long (-108)], vm := .none },
  { cls := 9, slots := #[.long (-107)], vm := .none },
  { cls := 9, slots := #[.long (-106)], vm := .none },
  { cls := 9, slots := #[.long (-105)], vm := .none },
  { cls := 9, slots := #[.long (-104)], vm := .none },
  { cls := 9, slots := #[.long (-103)], vm := .none },
  { cls := 9, slots := #[.long (-102)], vm := .none },
  { cls := 9, slots := #[.long (-101)], vm := .none },
  { cls := 9, slots := #[.long (-100)], vm := .none },
  { cls := 9, slots := #[.long (-99)], vm := .none },
  { cls := 9, slots := #[.long (-98)], vm := .none },
  { cls := 9, slots := #[.long (-97)], vm := .none },
  { cls := 9, slots := #[.long (-96)], vm := .none },
  { cls := 9, slots := #[.long (-95)], vm := .none },
  { cls := 9, slots := #[.long (-94)], vm := .none },
  { cls := 9, slots := #[.long (-93)], vm := .none },
  { cls := 9, slots := #[.long (-92)], vm := .none },
  { cls := 9, slots := #[.long (-91)], vm := .none },
  { cls := 9, slots := #[.long (-90)], vm := .none },
  { cls := 9, slots := #[.long (-89)], vm := .none },
  { cls := 9, slots := #[.long (-88)], vm := .none },
  { cls := 9, slots := #[.long (-87)], vm := .none },
  { cls := 9, slots := #[.long (-86)], vm := .none },
  { cls := 9, slots := #[.long (-85)], vm := .none },
  { cls := 9, slots := #[.long (-84)], vm := .none },
  { cls := 9, slots := #[.long (-83)], vm := .none },
  { cls := 9, slots := #[.long (-82)], vm := .none },
  { cls := 9, slots := #[.long (-81)], vm := .none },
  { cls := 9, slots := #[.long (-80)], vm := .none },
  { cls := 9, slots := #[.long (-79)], vm := .none },
  { cls := 9, slots := #[.long (-78)], vm := .none },
  { cls := 9, slots := #[.long (-77)], vm := .none },
  { cls := 9, slots := #[.long (-76)], vm := .none },
  { cls := 9, slots := #[.long (-75)], vm := .none },
  { cls := 9, slots := #[.long (-74)], vm := .none },
  { cls := 9, slots := #[.long (-73)], vm := .none },
  { cls := 9, slots := #[.long (-72)], vm := .none },
  { cls := 9, slots := #[.long (-71)], vm := .none },
  { cls := 9, slots := #[.long (-70)], vm := .none },
  { cls := 9, slots := #[.long (-69)], vm := .none },
  { cls := 9, slots := #[.long (-68)], vm := .none },
  { cls := 9, slots := #[.long (-67)], vm := .none },
  { cls := 9, slots := #[.long (-66)], vm := .none },
  { cls := 9, slots := #[.long (-65)], vm := .none },
  { cls := 9, slots := #[.long (-64)], vm := .none },
  { cls := 9, slots := #[.long (-63)], vm := .none },
  { cls := 9, slots := #[.long (-62)], vm := .none },
  { cls := 9, slots := #[.long (-61)], vm := .none },
  { cls := 9, slots := #[.long (-60)], vm := .none },
  { cls := 9, slots := #[.long (-59)], vm := .none },
  { cls := 9, slots := #[.long (-58)], vm := .none },
  { cls := 9, slots := #[.long (-57)], vm := .none },
  { cls := 9, slots := #[.long (-56)], vm := .none },
  { cls := 9, slots := #[.long (-55)], vm := .none },
  { cls := 9, slots := #[.long (-54)], vm := .none },
  { cls := 9, slots := #[.long (-53)], vm := .none },
  { cls := 9, slots := #[.long (-52)], vm := .none },
  { cls := 9, slots := #[.long (-51)], vm := .none },
  { cls := 9, slots := #[.long (-50)], vm := .none },
  { cls := 9, slots := #[.long (-49)], vm := .none },
  { cls := 9, slots := #[.long (-48)], vm := .none },
  { cls := 9, slots := #[.long (-47)], vm := .none },
  { cls := 9, slots := #[.long (-46)], vm := .none },
  { cls := 9, slots := #[.long (-45)], vm := .none },
  { cls := 9, slots := #[.long (-44)], vm := .none },
  { cls := 9, slots := #[.long (-43)], vm := .none },
  { cls := 9, slots := #[.long (-42)], vm := .none },
  { cls := 9, slots := #[.long (-41)], vm := .none },
  { cls := 9, slots := #[.long (-40)], vm := .none },
  { cls := 9, slots := #[.long (-39)], vm := .none },
  { cls := 9, slots := #[.long (-38)], vm := .none },
  { cls := 9, slots := #[.long (-37)], vm := .none },
  { cls := 9, slots := #[.long (-36)], vm := .none },
  { cls := 9, slots := #[.long (-35)], vm := .none },
  { cls := 9, slots := #[.long (-34)], vm := .none },
  { cls := 9, slots := #[.long (-33)], vm := .none },
  { cls := 9, slots := #[.long (-32)], vm := .none },
  { cls := 9, slots := #[.long (-31)], vm := .none },
  { cls := 9, slots := #[.long (-30)], vm := .none },
  { cls := 9, slots := #[.long (-29)], vm := .none },
  { cls := 9, slots := #[.long (-28)], vm := .none },
  { cls := 9, slots := #[.long (-27)], vm := .none },
  { cls := 9, slots := #[.long (-26)], vm := .none },
  { cls := 9, slots := #[.long (-25)], vm := .none },
  { cls := 9, slots := #[.long (-24)], vm := .none },
  { cls := 9, slots := #[.long (-23)], vm := .none },
  { cls := 9, slots := #[.long (-22)], vm := .none },
  { cls := 9, slots := #[.long (-21)], vm := .none },
  { cls := 9, slots := #[.long (-20)], vm := .none },
  { cls := 9, slots := #[.long (-19)], vm := .none },
  { cls := 9, slots := #[.long (-18)], vm := .none },
  { cls := 9, slots := #[.long (-17)], vm := .none },
  { cls := 9, slots := #[.long (-16)], vm := .none },
  { cls := 9, slots := #[.long (-15)], vm := .none },
  { cls := 9, slots := #[.long (-14)], vm := .none },
  { cls := 9, slots := #[.long (-13)], vm := .none },
  { cls := 9, slots := #[.long (-12)], vm := .none },
  { cls := 9, slots := #[.long (-11)], vm := .none },
  { cls := 9, slots := #[.long (-10)], vm := .none },
  { cls := 9, slots := #[.long (-9)], vm := .none },
  { cls := 9, slots := #[.long (-8)], vm := .none },
  { cls := 9, slots := #[.long (-7)], vm := .none },
  { cls := 9, slots := #[.long (-6)], vm := .none },
  { cls := 9, slots := #[.long (-5)], vm := .none },
  { cls := 9, slots := #[.long (-4)], vm := .none },
  { cls := 9, slots := #[.long (-3)], vm := .none },
  { cls := 9, slots := #[.long (-2)], vm := .none },
  { cls := 9, slots := #[.long (-1)], vm := .none },
  { cls := 9, slots := #[.long (0)], vm := .none },
  { cls := 9, slots := #[.long (1)], vm := .none },
  { cls := 9, slots := #[.long (2)], vm := .none },
  { cls := 9, slots := #[.long (3)], vm := .none },
  { cls := 9, slots := #[.long (4)], vm := .none },
  { cls := 9, slots := #[.long (5)], vm := .none },
  { cls := 9, slots := #[.long (6)], vm := .none },
  { cls := 9, slots := #[.long (7)], vm := .none },
  { cls := 9, slots := #[.long (8)], vm := .none },
  { cls := 9, slots := #[.long (9)], vm := .none },
  { cls := 9, slots := #[.long (10)], vm := .none },
  { cls := 9, slots := #[.long (11)], vm := .none },
  { cls := 9, slots := #[.long (12)], vm := .none },
  { cls := 9, slots := #[.long (13)], vm := .none },
  { cls := 9, slots := #[.long (14)], vm := .none },
  { cls := 9, slots := #[.long (15)], vm := .none },
  { cls := 9, slots := #[.long (16)], vm := .none },
  { cls := 9, slots := #[.long (17)], vm := .none },
  { cls := 9, slots := #[.long (18)], vm := .none },
  { cls := 9, slots := #[.long (19)], vm := .none },
  { cls := 9, slots := #[.long (20)], vm := .none },
  { cls := 9, slots := #[.long (21)], vm := .none },
  { cls := 9, slots := #[.long (22)], vm := .none },
  { cls := 9, slots := #[.long (23)], vm := .none },
  { cls := 9, slots := #[.long (24)], vm := .none },
  { cls := 9, slots := #[.long (25)], vm := .none },
  { cls := 9, slots := #[.long (26)], vm := .none },
  { cls := 9, slots := #[.long (27)], vm := .none },
  { cls := 9, slots := #[.long (28)], vm := .none },
  { cls := 9, slots := #[.long (29)], vm := .none },
  { cls := 9, slots := #[.long (30)], vm := .none },
  { cls := 9, slots := #[.long (31)], vm := .none },
  { cls := 9, slots := #[.long (32)], vm := .none },
  { cls := 9, slots := #[.long (33)], vm := .none },
  { cls := 9, slots := #[.long (34)], vm := .none },
  { cls := 9, slots := #[.long (35)], vm := .none },
  { cls := 9, slots := #[.long (36)], vm := .none },
  { cls := 9, slots := #[.long (37)], vm := .none },
  { cls := 9, slots := #[.long (38)], vm := .none },
  { cls := 9, slots := #[.long (39)], vm := .none },
  { cls := 9, slots := #[.long (40)], vm := .none },
  { cls := 9, slots := #[.long (41)], vm := .none },
  { cls := 9, slots := #[.long (42)], vm := .none },
  { cls := 9, slots := #[.long (43)], vm := .none },
  { cls := 9, slots := #[.long (44)], vm := .none },
  { cls := 9, slots := #[.long (45)], vm := .none },
  { cls := 9, slots := #[.long (46)], vm := .none },
  { cls := 9, slots := #[.long (47)], vm := .none },
  { cls := 9, slots := #[.long (48)], vm := .none },
  { cls := 9, slots := #[.long (49)], vm := .none },
  { cls := 9, slots := #[.long (50)], vm := .none },
  { cls := 9, slots := #[.long (51)], vm := .none },
  { cls := 9, slots := #[.long (52)], vm := .none },
  { cls := 9, slots := #[.long (53)], vm := .none },
  { cls := 9, slots := #[.long (54)], vm := .none },
  { cls := 9, slots := #[.long (55)], vm := .none },
  { cls := 9, slots := #[.long (56)], vm := .none },
  { cls := 9, slots := #[.long (57)], vm := .none },
  { cls := 9, slots := #[.long (58)], vm := .none },
  { cls := 9, slots := #[.long (59)], vm := .none },
  { cls := 9, slots := #[.long (60)], vm := .none },
  { cls := 9, slots := #[.long (61)], vm := .none },
  { cls := 9, slots := #[.long (62)], vm := .none },
  { cls := 9, slots := #[.long (63)], vm := .none },
  { cls := 9, slots := #[.long (64)], vm := .none },
  { cls := 9, slots := #[.long (65)], vm := .none },
  { cls := 9, slots := #[.long (66)], vm := .none },
  { cls := 9, slots := #[.long (67)], vm := .none },
  { cls := 9, slots := #[.long (68)], vm := .none },
  { cls := 9, slots := #[.long (69)], vm := .none },
  { cls := 9, slots := #[.long (70)], vm := .none },
  { cls := 9, slots := #[.long (71)], vm := .none },
  { cls := 9, slots := #[.long (72)], vm := .none },
  { cls := 9, slots := #[.long (73)], vm := .none },
  { cls := 9, slots := #[.long (74)], vm := .none },
  { cls := 9, slots := #[.long (75)], vm := .none },
  { cls := 9, slots := #[.long (76)], vm := .none },
  { cls := 9, slots := #[.long (77)], vm := .none },
  { cls := 9, slots := #[.long (78)], vm := .none },
  { cls := 9, slots := #[.long (79)], vm := .none },
  { cls := 9, slots := #[.long (80)], vm := .none },
  { cls := 9, slots := #[.long (81)], vm := .none },
  { cls := 9, slots := #[.long (82)], vm := .none },
  { cls := 9, slots := #[.long (83)], vm := .none },
  { cls := 9, slots := #[.long (84)], vm := .none },
  { cls := 9, slots := #[.long (85)], vm := .none },
  { cls := 9, slots := #[.long (86)], vm := .none },
  { cls := 9, slots := #[.long (87)], vm := .none },
  { cls := 9, slots := #[.long (88)], vm := .none },
  { cls := 9, slots := #[.long (89)], vm := .none },
  { cls := 9, slots := #[.long (90)], vm := .none },
  { cls := 9, slots := #[.long (91)], vm := .none },
  { cls := 9, slots := #[.long (92)], vm := .none },
  { cls := 9, slots := #[.long (93)], vm := .none },
  { cls := 9, slots := #[.long (94)], vm := .none },
  { cls := 9, slots := #[.long (95)], vm := .none },
  { cls := 9, slots := #[.long (96)], vm := .none },
  { cls := 9, slots := #[.long (97)], vm := .none },
  { cls := 9, slots := #[.long (98)], vm := .none },
  { cls := 9, slots := #[.long (99)], vm := .none },
  { cls := 9, slots := #[.long (100)], vm := .none },
  { cls := 9, slots := #[.long (101)], vm := .none },
  { cls := 9, slots := #[.long (102)], vm := .none },
  { cls := 9, slots := #[.long (103)], vm := .none },
  { cls := 9, slots := #[.long (104)], vm := .none },
  { cls := 9, slots := #[.long (105)], vm := .none },
  { cls := 9, slots := #[.long (106)], vm := .none },
  { cls := 9, slots := #[.long (107)], vm := .none },
  { cls := 9, slots := #[.long (108)], vm := .none },
  { cls := 9, slots := #[.long (109)], vm := .none },
  { cls := 9, slots := #[.long (110)], vm := .none },
  { cls := 9, slots := #[.long (111)], vm := .none },
  { cls := 9, slots := #[.long (112)], vm := .none },
  { cls := 9, slots := #[.long (113)], vm := .none },
  { cls := 9, slots := #[.long (114)], vm := .none },
  { cls := 9, slots := #[.long (115)], vm := .none },
  { cls := 9, slots := #[.long (116)], vm := .none },
  { cls := 9, slots := #[.long (117)], vm := .none },
  { cls := 9, slots := #[.long (118)], vm := .none },
  { cls := 9, slots := #[.long (119)], vm := .none },
  { cls := 9, slots := #[.long (120)], vm := .none },
  { cls := 9, slots := #[.long (121)], vm := .none },
  { cls := 9, slots := #[.long (122)], vm := .none },
  { cls := 9, slots := #[.long (123)], vm := .none },
  { cls := 9, slots := #[.long (124)], vm := .none },
  { cls := 9, slots := #[.long (125)], vm := .none },
  { cls := 9, slots := #[.long (126)], vm := .none },
  { cls := 9, slots := #[.long (127)], vm := .none }]
def classes : Array Class := #[k0, k1, k2, k3, k4, k5, k6, k7, k8, k9, k10, k11, k12, k13, k14, k15, k16, k17, k18, k19, k20, k21, k22, k23, k24, k25, k26, k27, k28, k29]
def interned : List (Array UInt16 × Addr) := []
def slotsUsed : Nat := 1042
def theMethod : MethodId := ⟨1, 1⟩
def args0 : Array Value := #[.int 3, .int 7, .int 1, .int 65]
def aboutOver (below : List Frame) : State where
  vm := { classes := classes, interned := interned.toArray }
  heap := heap
  slotsUsed := slotsUsed
  threads := #[{ frames := .invoking theMethod args0 :: below }]
def below0 : List Frame := [.native { method := ⟨0, 0⟩, args := #[] }]
def about1 : State := aboutOver below0
def p0 : Program := .bare "" "" ""
def e0 : Env := launch0.env 0 0 0
theorem w_frames : about1.frames = Frame.invoking theMethod args0 :: below0 := rfl
set_option maxRecDepth 65536 in
theorem w_args : argsFit about1.vm theMethod args0 = true := by decide +kernel
set_option maxRecDepth 65536 in
theorem w_heap : heapFits about1 = true := by decide +kernel
set_option maxRecDepth 65536 in
theorem w_runnable : about1.curStatus? = some .runnable := by decide +kernel
set_option maxRecDepth 65536 in
theorem w_alone : about1.alone = true := by decide +kernel
set_option maxRecDepth 65536 in
theorem w_named : about1.methodNamed? x = some theMethod := by decide +kernel
set_option maxRecDepth 65536 in
theorem w_hears : about1.hears theMethod below0 = true := by decide +kernel
set_option maxRecDepth 65536 in
theorem w_ripe : about1.ripe theMethod args0 below0 = true := by decide +kernel
theorem w_running : about1.status = .running := rfl
set_option maxRecDepth 65536 in
theorem w_room : about1.hasRoom e0.platform room_1 = true :=
  launch0.hasRoom_least _ room_1 (by decide +kernel) (by decide +kernel) (by decide +kernel) (by decide +kernel) (by decide +kernel) (by decide +kernel)
theorem allAtoms_all (ts : List Jvm.Cond) (a : Array Jvm.Value) (st : Jvm.State) : (allAtoms ts).before a st = ts.all (fun c => c.before a st) := by
  induction ts with
  | nil => rfl
  | cons c t ih =>
    show (Jvm.Cond.and c (allAtoms t)).before a st = _
    rw [Jvm.Cond.before_and, ih, List.all_cons]
def words1 : List Jvm.Cond := Jvm.Cond.code x code maxLocals ret :: tables_1
/-- a 'code' word, met by the world's own term for the bytes: nothing is compared byte by byte -/
theorem code_word {y : MethodName} {bytes : ByteArray} {mx : Nat} {rt : Option FieldType} {a : Array Value} {s : State} {m : MethodId} {meth : Method} {c : Code} (h1 : s.methodNamed? y = some m) (h2 : s.vm.method? m = some meth) (h3 : meth.code = some c) (h4 : c.code = bytes)
    (h5 : (c.maxLocals == mx && c.exceptionTable.isEmpty && decide (c.maxStack ≤ mostOperands) && decide (meth.sig.returnType = rt) && !meth.locks && decide (parseMethodDescriptor y.desc = some meth.sig)) = true) : (Jvm.Cond.code y bytes mx rt).before a s = true := by
  simp only [Bool.and_eq_true, beq_iff_eq, Bool.not_eq_true', decide_eq_true_eq] at h5
  obtain ⟨⟨⟨⟨⟨g1, g2⟩, g3⟩, g4⟩, g5⟩, g6⟩ := h5
  simp [Cond.before, Cond.holds, Cond.value, h1, h2, h3, h4, g1, g2, g3, g4, g5, g6]
def isCode : Jvm.Cond → Bool
  | .code _ _ _ _ => true
  | _ => false
theorem all_split {L : List Jvm.Cond} {P : Jvm.Cond → Bool} (h1 : L.all (fun c => isCode c || P c) = true) (h2 : ∀ c ∈ L.filter isCode, P c = true) : L.all P = true := by
  refine List.all_eq_true.mpr fun c hc => ?_
  have h := List.all_eq_true.mp h1 c hc
  rcases Bool.eq_false_or_eq_true (isCode c) with hi | hi
  · exact h2 c (List.mem_filter.mpr ⟨hc, hi⟩)
  · simpa [hi] using h
set_option maxRecDepth 65536 in
theorem w_c0 : (Jvm.Cond.code x code maxLocals ret).before args0 about1 = true := code_word (m := ⟨1, 1⟩) (meth := k1m1) (c := k1c1) (by decide +kernel) rfl rfl rfl (by decide +kernel)
set_option maxRecDepth 65536 in
theorem w_c1 : (Jvm.Cond.code ({ cls := "com/example/manysort/manysort/language/NaturalNumber", name := "<init>", desc := "(I)V" } : Jvm.MethodName) prog_63_method_1_code (2 : Nat) (Option.none : Option Jvm.ClassFile.FieldType)).before args0 about1 = true := code_word (m := ⟨3, 0⟩) (meth := k3m0) (c := k3c0) (by decide +kernel) rfl rfl rfl (by decide +kernel)
set_option maxRecDepth 65536 in
theorem w_c2 : (Jvm.Cond.code ({ cls := "com/example/manysort/manysort/language/NaturalNumber", name := "<init>", desc := "(ILjava/lang/String;)V" } : Jvm.MethodName) prog_63_method_2_code (3 : Nat) (Option.none : Option Jvm.ClassFile.FieldType)).before args0 about1 = true := code_word (m := ⟨3, 1⟩) (meth := k3m1) (c := k3c1) (by decide +kernel) rfl rfl rfl (by decide +kernel)
set_option maxRecDepth 65536 in
theorem w_c3 : (Jvm.Cond.code ({ cls := "com/example/manysort/manysort/language/Term", name := "<init>", desc := "()V" } : Jvm.MethodName) prog_101_method_1_code (1 : Nat) (Option.none : Option Jvm.ClassFile.FieldType)).before args0 about1 = true := code_word (m := ⟨2, 0⟩) (meth := k2m0) (c := k2c0) (by decide +kernel) rfl rfl rfl (by decide +kernel)
set_option maxRecDepth 65536 in
theorem w_c4 : (Jvm.Cond.code ({ cls := "java/lang/Object", name := "<init>", desc := "()V" } : Jvm.MethodName) object_method_1_code (1 : Nat) (Option.none : Option Jvm.ClassFile.FieldType)).before args0 about1 = true := code_word (m := ⟨0, 0⟩) (meth := k0m0) (c := k0c0) (by decide +kernel) rfl rfl rfl (by decide +kernel)
set_option maxRecDepth 65536 in
theorem w_c5 : (Jvm.Cond.code ({ cls := "com/example/manysort/manysort/language/NaturalNumber", name := "equals", desc := "(Ljava/lang/Object;)Z" } : Jvm.MethodName) prog_63_method_11_code (2 : Nat) (Option.some Jvm.ClassFile.FieldType.boolean)).before args0 about1 = true := code_word (m := ⟨3, 3⟩) (meth := k3m3) (c := k3c3) (by decide +kernel) rfl rfl rfl (by decide +kernel)
set_option maxRecDepth 65536 in
theorem w_c6 : (Jvm.Cond.code ({ cls := "java/lang/Long", name := "valueOf", desc := "(J)Ljava/lang/Long;" } : Jvm.MethodName) jdk_35_method_24_code (3 : Nat) (Option.some (Jvm.ClassFile.FieldType.object "java/lang/Long"))).before args0 about1 = true := code_word (m := ⟨9, 0⟩) (meth := k9m0) (c := k9c0) (by decide +kernel) rfl rfl rfl (by decide +kernel)
set_option maxRecDepth 65536 in
theorem w_c7 : (Jvm.Cond.code ({ cls := "java/lang/Integer", name := "valueOf", desc := "(I)Ljava/lang/Integer;" } : Jvm.MethodName) jdk_33_method_22_code (1 : Nat) (Option.some (Jvm.ClassFile.FieldType.object "java/lang/Integer"))).before args0 about1 = true := code_word (m := ⟨11, 0⟩) (meth := k11m0) (c := k11c0) (by decide +kernel) rfl rfl rfl (by decide +kernel)
set_option maxRecDepth 65536 in
theorem w_c8 : (Jvm.Cond.code ({ cls := "java/lang/Integer", name := "<init>", desc := "(I)V" } : Jvm.MethodName) jdk_33_method_23_code (2 : Nat) (Option.none : Option Jvm.ClassFile.FieldType)).before args0 about1 = true := code_word (m := ⟨11, 1⟩) (meth := k11m1) (c := k11c1) (by decide +kernel) rfl rfl rfl (by decide +kernel)
set_option maxRecDepth 65536 in
theorem w_c9 : (Jvm.Cond.code ({ cls := "java/lang/Number", name := "<init>", desc := "()V" } : Jvm.MethodName) jdk_18_method_1_code (1 : Nat) (Option.none : Option Jvm.ClassFile.FieldType)).before args0 about1 = true := code_word (m := ⟨5, 0⟩) (meth := k5m0) (c := k5c0) (by decide +kernel) rfl rfl rfl (by decide +kernel)
set_option maxRecDepth 65536 in
theorem w_c10 : (Jvm.Cond.code ({ cls := "java/lang/String", name := "<init>", desc := "([C)V" } : Jvm.MethodName) jdk_42_method_3_code (2 : Nat) (Option.none : Option Jvm.ClassFile.FieldType)).before args0 about1 = true := code_word (m := ⟨14, 1⟩) (meth := k14m1) (c := k14c1) (by decide +kernel) rfl rfl rfl (by decide +kernel)
set_option maxRecDepth 65536 in
theorem w_c11 : (Jvm.Cond.code ({ cls := "java/lang/String", name := "<init>", desc := "([CIILjava/lang/Void;)V" } : Jvm.MethodName) jdk_42_method_149_code (6 : Nat) (Option.none : Option Jvm.ClassFile.FieldType)).before args0 about1 = true := code_word (m := ⟨14, 3⟩) (meth := k14m3) (c := k14c3) (by decide +kernel) rfl rfl rfl (by decide +kernel)
set_option maxRecDepth 65536 in
theorem w_c12 : (Jvm.Cond.code ({ cls := "java/lang/StringUTF16", name := "compress", desc := "([CII)[B" } : Jvm.MethodName) jdk_52_method_16_code (6 : Nat) (Option.some (Jvm.ClassFile.FieldType.array Jvm.ClassFile.FieldType.byte))).before args0 about1 = true := code_word (m := ⟨15, 2⟩) (meth := k15m2) (c := k15c2) (by decide +kernel) rfl rfl rfl (by decide +kernel)
set_option maxRecDepth 65536 in
theorem w_c13 : (Jvm.Cond.code ({ cls := "java/lang/StringUTF16", name := "compress", desc := "([CI[BII)I" } : Jvm.MethodName) jdk_52_method_21_code (7 : Nat) (Option.some Jvm.ClassFile.FieldType.int)).before args0 about1 = true := code_word (m := ⟨15, 3⟩) (meth := k15m3) (c := k15c3) (by decide +kernel) rfl rfl rfl (by decide +kernel)
set_option maxRecDepth 65536 in
theorem w_c14 : (Jvm.Cond.code ({ cls := "java/lang/StringUTF16", name := "coderFromArrayLen", desc := "([BI)B" } : Jvm.MethodName) jdk_52_method_15_code (2 : Nat) (Option.some Jvm.ClassFile.FieldType.byte)).before args0 about1 = true := code_word (m := ⟨15, 1⟩) (meth := k15m1) (c := k15c1) (by decide +kernel) rfl rfl rfl (by decide +kernel)
set_option maxRecDepth 65536 in
theorem w_c15 : (Jvm.Cond.code ({ cls := "com/example/manysort/manysort/language/NaturalNumber", name := "aboveMaxint", desc := "(Ljava/lang/String;I)Lcom/example/manysort/manysort/language/NaturalNumber;" } : Jvm.MethodName) prog_63_method_3_code (2 : Nat) (Option.some (Jvm.ClassFile.FieldType.object "com/example/manysort/manysort/language/NaturalNumber"))).before args0 about1 = true := code_word (m := ⟨3, 2⟩) (meth := k3m2) (c := k3c2) (by decide +kernel) rfl rfl rfl (by decide +kernel)
set_option maxRecDepth 65536 in
theorem w_c16 : (Jvm.Cond.code ({ cls := "java/lang/String", name := "valueOf", desc := "(C)Ljava/lang/String;" } : Jvm.MethodName) jdk_42_method_139_code (1 : Nat) (Option.some (Jvm.ClassFile.FieldType.object "java/lang/String"))).before args0 about1 = true := code_word (m := ⟨14, 2⟩) (meth := k14m2) (c := k14c2) (by decide +kernel) rfl rfl rfl (by decide +kernel)
set_option maxRecDepth 65536 in
theorem w_c17 : (Jvm.Cond.code ({ cls := "java/lang/StringLatin1", name := "canEncode", desc := "(C)Z" } : Jvm.MethodName) jdk_43_method_3_code (1 : Nat) (Option.some Jvm.ClassFile.FieldType.boolean)).before args0 about1 = true := code_word (m := ⟨17, 1⟩) (meth := k17m1) (c := k17c1) (by decide +kernel) rfl rfl rfl (by decide +kernel)
set_option maxRecDepth 65536 in
theorem w_c18 : (Jvm.Cond.code ({ cls := "java/lang/StringLatin1", name := "toBytes", desc := "(C)[B" } : Jvm.MethodName) jdk_43_method_46_code (1 : Nat) (Option.some (Jvm.ClassFile.FieldType.array Jvm.ClassFile.FieldType.byte))).before args0 about1 = true := code_word (m := ⟨17, 2⟩) (meth := k17m2) (c := k17c2) (by decide +kernel) rfl rfl rfl (by decide +kernel)
set_option maxRecDepth 65536 in
theorem w_c19 : (Jvm.Cond.code ({ cls := "java/lang/String", name := "<init>", desc := "([BB)V" } : Jvm.MethodName) jdk_42_method_151_code (3 : Nat) (Option.none : Option Jvm.ClassFile.FieldType)).before args0 about1 = true := code_word (m := ⟨14, 4⟩) (meth := k14m4) (c := k14c4) (by decide +kernel) rfl rfl rfl (by decide +kernel)
set_option maxRecDepth 65536 in
theorem w_c20 : (Jvm.Cond.code ({ cls := "com/example/manysort/manysort/language/Variable", name := "<init>", desc := "(Ljava/lang/String;)V" } : Jvm.MethodName) prog_108_method_1_code (2 : Nat) (Option.none : Option Jvm.ClassFile.FieldType)).before args0 about1 = true := code_word (m := ⟨16, 0⟩) (meth := k16m0) (c := k16c0) (by decide +kernel) rfl rfl rfl (by decide +kernel)
set_option maxRecDepth 65536 in
theorem w_c21 : (Jvm.Cond.code ({ cls := "com/example/manysort/manysort/language/Constant", name := "<init>", desc := "(Ljava/lang/String;)V" } : Jvm.MethodName) prog_24_method_1_code (2 : Nat) (Option.none : Option Jvm.ClassFile.FieldType)).before args0 about1 = true := code_word (m := ⟨18, 0⟩) (meth := k18m0) (c := k18c0) (by decide +kernel) rfl rfl rfl (by decide +kernel)
set_option maxRecDepth 65536 in
theorem w_c22 : (Jvm.Cond.code ({ cls := "java/lang/Long", name := "<init>", desc := "(J)V" } : Jvm.MethodName) jdk_35_method_26_code (3 : Nat) (Option.none : Option Jvm.ClassFile.FieldType)).before args0 about1 = true := code_word (m := ⟨9, 1⟩) (meth := k9m1) (c := k9c1) (by decide +kernel) rfl rfl rfl (by decide +kernel)
def codes1 : List Jvm.Cond := [Jvm.Cond.code x code maxLocals ret, Jvm.Cond.code ({ cls := "com/example/manysort/manysort/language/NaturalNumber", name := "<init>", desc := "(I)V" } : Jvm.MethodName) prog_63_method_1_code (2 : Nat) (Option.none : Option Jvm.ClassFile.FieldType), Jvm.Cond.code ({ cls := "com/example/manysort/manysort/language/NaturalNumber", name := "<init>", desc := "(ILjava/lang/String;)V" } : Jvm.MethodName) prog_63_method_2_code (3 : Nat) (Option.none : Option Jvm.ClassFile.FieldType), Jvm.Cond.code ({ cls := "com/example/manysort/manysort/language/Term", name := "<init>", desc := "()V" } : Jvm.MethodName) prog_101_method_1_code (1 : Nat) (Option.none : Option Jvm.ClassFile.FieldType), Jvm.Cond.code ({ cls := "java/lang/Object", name := "<init>", desc := "()V" } : Jvm.MethodName) object_method_1_code (1 : Nat) (Option.none : Option Jvm.ClassFile.FieldType), Jvm.Cond.code ({ cls := "com/example/manysort/manysort/language/NaturalNumber", name := "equals", desc := "(Ljava/lang/Object;)Z" } : Jvm.MethodName) prog_63_method_11_code (2 : Nat) (Option.some Jvm.ClassFile.FieldType.boolean), Jvm.Cond.code ({ cls := "java/lang/Long", name := "valueOf", desc := "(J)Ljava/lang/Long;" } : Jvm.MethodName) jdk_35_method_24_code (3 : Nat) (Option.some (Jvm.ClassFile.FieldType.object "java/lang/Long")), Jvm.Cond.code ({ cls := "java/lang/Integer", name := "valueOf", desc := "(I)Ljava/lang/Integer;" } : Jvm.MethodName) jdk_33_method_22_code (1 : Nat) (Option.some (Jvm.ClassFile.FieldType.object "java/lang/Integer")), Jvm.Cond.code ({ cls := "java/lang/Integer", name := "<init>", desc := "(I)V" } : Jvm.MethodName) jdk_33_method_23_code (2 : Nat) (Option.none : Option Jvm.ClassFile.FieldType), Jvm.Cond.code ({ cls := "java/lang/Number", name := "<init>", desc := "()V" } : Jvm.MethodName) jdk_18_method_1_code (1 : Nat) (Option.none : Option Jvm.ClassFile.FieldType), Jvm.Cond.code ({ cls := "java/lang/String", name := "<init>", desc := "([C)V" } : Jvm.MethodName) jdk_42_method_3_code (2 : Nat) (Option.none : Option Jvm.ClassFile.FieldType), Jvm.Cond.code ({ cls := "java/lang/String", name := "<init>", desc := "([CIILjava/lang/Void;)V" } : Jvm.MethodName) jdk_42_method_149_code (6 : Nat) (Option.none : Option Jvm.ClassFile.FieldType), Jvm.Cond.code ({ cls := "java/lang/StringUTF16", name := "compress", desc := "([CII)[B" } : Jvm.MethodName) jdk_52_method_16_code (6 : Nat) (Option.some (Jvm.ClassFile.FieldType.array Jvm.ClassFile.FieldType.byte)), Jvm.Cond.code ({ cls := "java/lang/StringUTF16", name := "compress", desc := "([CI[BII)I" } : Jvm.MethodName) jdk_52_method_21_code (7 : Nat) (Option.some Jvm.ClassFile.FieldType.int), Jvm.Cond.code ({ cls := "java/lang/StringUTF16", name := "coderFromArrayLen", desc := "([BI)B" } : Jvm.MethodName) jdk_52_method_15_code (2 : Nat) (Option.some Jvm.ClassFile.FieldType.byte), Jvm.Cond.code ({ cls := "com/example/manysort/manysort/language/NaturalNumber", name := "aboveMaxint", desc := "(Ljava/lang/String;I)Lcom/example/manysort/manysort/language/NaturalNumber;" } : Jvm.MethodName) prog_63_method_3_code (2 : Nat) (Option.some (Jvm.ClassFile.FieldType.object "com/example/manysort/manysort/language/NaturalNumber")), Jvm.Cond.code ({ cls := "java/lang/String", name := "valueOf", desc := "(C)Ljava/lang/String;" } : Jvm.MethodName) jdk_42_method_139_code (1 : Nat) (Option.some (Jvm.ClassFile.FieldType.object "java/lang/String")), Jvm.Cond.code ({ cls := "java/lang/StringLatin1", name := "canEncode", desc := "(C)Z" } : Jvm.MethodName) jdk_43_method_3_code (1 : Nat) (Option.some Jvm.ClassFile.FieldType.boolean), Jvm.Cond.code ({ cls := "java/lang/StringLatin1", name := "toBytes", desc := "(C)[B" } : Jvm.MethodName) jdk_43_method_46_code (1 : Nat) (Option.some (Jvm.ClassFile.FieldType.array Jvm.ClassFile.FieldType.byte)), Jvm.Cond.code ({ cls := "java/lang/String", name := "<init>", desc := "([BB)V" } : Jvm.MethodName) jdk_42_method_151_code (3 : Nat) (Option.none : Option Jvm.ClassFile.FieldType), Jvm.Cond.code ({ cls := "com/example/manysort/manysort/language/Variable", name := "<init>", desc := "(Ljava/lang/String;)V" } : Jvm.MethodName) prog_108_method_1_code (2 : Nat) (Option.none : Option Jvm.ClassFile.FieldType), Jvm.Cond.code ({ cls := "com/example/manysort/manysort/language/Constant", name := "<init>", desc := "(Ljava/lang/String;)V" } : Jvm.MethodName) prog_24_method_1_code (2 : Nat) (Option.none : Option Jvm.ClassFile.FieldType), Jvm.Cond.code ({ cls := "java/lang/Long", name := "<init>", desc := "(J)V" } : Jvm.MethodName) jdk_35_method_26_code (3 : Nat) (Option.none : Option Jvm.ClassFile.FieldType)]
set_option maxRecDepth 65536 in
theorem codes_eq : words1.filter isCode = codes1 := rfl
theorem w_codes : ∀ c ∈ words1.filter isCode, c.before args0 about1 = true := by
  rw [codes_eq]
  intro c hc
  simp only [codes1, List.mem_cons, List.not_mem_nil, or_false] at hc
  rcases hc with rfl | rfl | rfl | rfl | rfl | rfl | rfl | rfl | rfl | rfl | rfl | rfl | rfl | rfl | rfl | rfl | rfl | rfl | rfl | rfl | rfl | rfl | rfl
  · exact w_c0
  · exact w_c1
  · exact w_c2
  · exact w_c3
  · exact w_c4
  · exact w_c5
  · exact w_c6
  · exact w_c7
  · exact w_c8
  · exact w_c9
  · exact w_c10
  · exact w_c11
  · exact w_c12
  · exact w_c13
  · exact w_c14
  · exact w_c15
  · exact w_c16
  · exact w_c17
  · exact w_c18
  · exact w_c19
  · exact w_c20
  · exact w_c21
  · exact w_c22
set_option maxRecDepth 65536 in
theorem w_t1 : (words1.take 24).all (fun c => isCode c || c.before args0 about1) = true := by decide +kernel
set_option maxRecDepth 65536 in
theorem w_t2 : ((words1.drop 24).take 24).all (fun c => isCode c || c.before args0 about1) = true := by decide +kernel
set_option maxRecDepth 65536 in
theorem w_t3 : (((words1.drop 24).drop 24).take 24).all (fun c => isCode c || c.before args0 about1) = true := by decide +kernel
set_option maxRecDepth 65536 in
theorem w_t4 : ((((words1.drop 24).drop 24).drop 24).take 24).all (fun c => isCode c || c.before args0 about1) = true := by decide +kernel
set_option maxRecDepth 65536 in
theorem w_t5 : (((((words1.drop 24).drop 24).drop 24).drop 24).take 24).all (fun c => isCode c || c.before args0 about1) = true := by decide +kernel
set_option maxRecDepth 65536 in
theorem w_t6 : (((((words1.drop 24).drop 24).drop 24).drop 24).drop 24).all (fun c => isCode c || c.before args0 about1) = true := by decide +kernel
theorem w_tables : (allAtoms (Jvm.Cond.code x code maxLocals ret :: tables_1)).before args0 about1 = true := by
  rw [allAtoms_all]
  show words1.all (fun c => c.before args0 about1) = true
  refine all_split ?_ w_codes
  rw [← List.take_append_drop 24 words1, List.all_append, w_t1, ← List.take_append_drop 24 (words1.drop 24), List.all_append, w_t2, ← List.take_append_drop 24 ((words1.drop 24).drop 24), List.all_append, w_t3, ← List.take_append_drop 24 (((words1.drop 24).drop 24).drop 24), List.all_append, w_t4, ← List.take_append_drop 24 ((((words1.drop 24).drop 24).drop 24).drop 24), List.all_append, w_t5, w_t6]
  rfl
set_option maxRecDepth 65536 in
theorem w_rest : rest_1_c.before args0 about1 = true := by decide +kernel
set_option maxRecDepth 65536 in
theorem w_case : (Jvm.Cond.and given_1 narrow_1).before args0 about1 = true := by decide +kernel
theorem w_applies : (headSpec (Jvm.Cond.code x code maxLocals ret :: tables_1) room_1).applies x e0.platform about1 = true :=
  (Spec.applies_iff w_frames).mpr ⟨w_running, w_runnable, w_alone, w_named, w_hears, w_ripe, w_room, w_tables⟩
theorem atStart : AtStart classFile x code maxLocals ret World_1 tables_1 room_1 Calls_1 rest_1 Pre_1 launch0 p0 e0 about1 theMethod args0 below0 :=
  ⟨lists_1, trivial, launch0.admits_env _ _ _, launch0.least_env, fairChoices_fair.cas, fairChoices_fair.clock, w_frames, w_args, w_heap, w_applies, trivial, w_rest, w_case⟩
end start1
theorem witness_1 : WitnessClaimed_1 := ⟨start1.p0, start1.e0, start1.about1, start1.theMethod, start1.args0, start1.below0, start1.atStart⟩
end Jvm.Pilot.@@N@@
