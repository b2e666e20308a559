import JvmDerived
import JvmDerived.Pilot.@@N@@Statement
import JvmDerived.Pilot.@@N@@Code
set_option linter.unusedVariables false
set_option linter.unusedSimpArgs false
namespace Jvm.Pilot.@@N@@
open Jvm Jvm.ClassFile Sem Op Lib Jvm.Free Jvm.Stand Jvm.LawKit Jvm.RoadKit Bundle Jvm.Pilot.@@N@@.Jvm.D
/-! OWN PRELUDE (the same text in every proof of this seat): the walk as a goal that goes forward -/
section OwnPrelude
variable {Z : State} {hs : Heap} {W : List Addr} {own : String} {bytes : ByteArray} {maxL : Nat} {ret : Option FieldType} {nm : String}
  {p : Program} {l : Launch} {e : Env} {R : Room} {s : State} {m : MethodId} {args : Array Value} {below : List Frame} {meth : Method} {c : Code}
  {T : State} {h : Heap} {cells slots : Nat} {k n : Nat} {Q : Option Value → Heap → Prop} {a0 : Array Value} {pc : Nat} {Ls : Array Slot} {st rest : List Value}

/-- what stays the same while one body is walked -/
def own_G (Z : State) (hs : Heap) (W : List Addr) (own : String) (bytes : ByteArray) (maxL : Nat) (ret : Option FieldType) (nm : String) (p : Program) (s : State) (m : MethodId) (meth : Method) (c : Code) : Prop :=
  p.tables.exec = Jvm.exec ∧ Z.Warmed39 s.vm ∧ s.vm.findClass own = some m.cls ∧ c.code = bytes ∧ c.maxLocals = maxL ∧ meth.sig.returnType = ret ∧ meth.locks = false ∧ meth.name = nm ∧ Ext Z.heap hs ∧ ∀ a ∈ W, Z.heap.size ≤ a
/-- where the walk stands: state T, heap h, so many cells and slots made; nothing old but W was written -/
def own_S (Z : State) (hs : Heap) (W : List Addr) (own : String) (bytes : ByteArray) (maxL : Nat) (ret : Option FieldType) (nm : String) (p : Program) (l : Launch) (e : Env) (R : Room) (s : State) (m : MethodId) (args : Array Value) (below : List Frame) (meth : Method) (c : Code)
    (T : State) (h : Heap) (cells slots : Nat) : Prop :=
  own_G Z hs W own bytes maxL ret nm p s m meth c ∧ ∃ locs, Stand p l e R s m args below meth c T locs cells slots ∧ Fr Z.heap.size locs ∧ T.heap = h ∧ Keep hs h W
/-- from A the call comes to its end, and there Q holds -/
def own_F (p : Program) (e : Env) (below : List Frame) (s : State) (Z : State) (hs : Heap) (W : List Addr) (k n : Nat) (Q : Option Value → Heap → Prop) (A : State) : Prop :=
  ∃ s₂ o, Steps p.tables e below A s₂ ∧ s₂.status = .running ∧ Ended s₂ below o ∧ ∃ v L, o = .returned v ∧ (Fr Z.heap.size L ∧ Keep hs s₂.heap W ∧ Q v s₂.heap) ∧ FrameEnd s o s₂ L k n
/-- a body's contract -/
def own_C (l : Launch) (Z : State) (y : MethodName) (bytes : ByteArray) (maxL : Nat) (ret : Option FieldType) (ws : List Jvm.Cond) (rm : Room) (W : List Addr) (as' : Array Value) (h0 : Heap) (Q : Option Value → Heap → Prop) : Prop :=
  MetFree l y (head1 (Jvm.Cond.code y bytes maxL ret :: ws) rm) (fun a U => a = as' ∧ Z.Warmed39 U.vm ∧ U.heap = h0) (fun _ _ _ _ _ => True)
    (fun _ U o U' => ∃ v L, o = .returned v ∧ (Fr Z.heap.size L ∧ Keep h0 U'.heap W ∧ Q v U'.heap) ∧ FrameEnd U o U' L rm.cells rm.slots)

theorem own_C.of {y : MethodName} {ws : List Jvm.Cond} {rm : Room} {as' : Array Value} {h0 : Heap} (hpl : plainFor y = true) (hO : Ext Z.heap h0) (hW : ∀ a ∈ W, Z.heap.size ≤ a)
    (body : ∀ p e s m below meth c T, own_S Z h0 W y.cls bytes maxL ret y.name p l e rm s m as' below meth c T h0 0 0 → own_F p e below s Z h0 W rm.cells rm.slots Q (T.setTop (entryFrame m as' maxL))) :
    own_C l Z y bytes maxL ret ws rm W as' h0 Q := by
  refine MetFree.of_bodySF hpl hisR ?_
  intro p e s m args below meth c s₁ Bd hml hP hK
  obtain ⟨rfl, hZ, hh⟩ := hP
  exact body p e s m below meth c s₁ ⟨⟨Bd.exec, hZ, findClass_of_methodNamed Bd.named, Bd.bytes, hml, Bd.returns, Bd.notSynchronized, (name_of_methodNamed Bd.named Bd.method).1, hO, hW⟩, [], Stand.of_body Bd, Fr.nil _, (by rw [← hh, Bd.state]; rfl), Keep.refl _ _⟩

theorem own_F.of {A B : State} (h : ∀ t, Steps p.tables e below B t → Steps p.tables e below A t) (f : own_F p e below s Z hs W k n Q B) : own_F p e below s Z hs W k n Q A := by
  obtain ⟨s₂, o, h1, r⟩ := f
  exact ⟨s₂, o, h _ h1, r⟩
theorem own_F.to {A B : State} (h : Steps p.tables e below A B) (f : own_F p e below s Z hs W k n Q B) : own_F p e below s Z hs W k n Q A := own_F.of (fun _ => h.trans) f
theorem own_F.cast {g g' : JFrame} (q : g = g') (f : own_F p e below s Z hs W k n Q (T.setTop g')) : own_F p e below s Z hs W k n Q (T.setTop g) := q ▸ f
theorem own_F.mono {A : State} {Q' : Option Value → Heap → Prop} (f : own_F p e below s Z hs W k n Q A) (q : ∀ v h, Q v h → Q' v h) : own_F p e below s Z hs W k n Q' A := by
  obtain ⟨s₂, o, h1, h2, h3, v, L, h4, ⟨h5, h6, h7⟩, h8⟩ := f
  exact ⟨s₂, o, h1, h2, h3, v, L, h4, ⟨h5, h6, q _ _ h7⟩, h8⟩
theorem own_C.mono {y : MethodName} {ws : List Jvm.Cond} {rm : Room} {as' : Array Value} {h0 : Heap} {Q' : Option Value → Heap → Prop} (f : own_C l Z y bytes maxL ret ws rm W as' h0 Q) (q : ∀ v h, Q v h → Q' v h) : own_C l Z y bytes maxL ret ws rm W as' h0 Q' := by
  intro p e ha hc hk s m args below hf happ hP hK
  obtain ⟨n, o, h1, h2, h3, v, L, h4, ⟨h5, h6, h7⟩, h8⟩ := f p e ha hc hk s m args below hf happ hP hK
  exact ⟨n, o, h1, h2, h3, v, L, h4, ⟨h5, h6, q _ _ h7⟩, h8⟩

theorem own_S.hx (S : own_S Z hs W own bytes maxL ret nm p l e R s m args below meth c T h cells slots) : p.tables.exec = Jvm.exec := S.1.1
theorem own_S.hZ (S : own_S Z hs W own bytes maxL ret nm p l e R s m args below meth c T h cells slots) : Z.Warmed39 s.vm := S.1.2.1
theorem own_S.hown (S : own_S Z hs W own bytes maxL ret nm p l e R s m args below meth c T h cells slots) : s.vm.findClass own = some m.cls := S.1.2.2.1
theorem own_S.hby (S : own_S Z hs W own bytes maxL ret nm p l e R s m args below meth c T h cells slots) : c.code = bytes := S.1.2.2.2.1
theorem own_S.hml (S : own_S Z hs W own bytes maxL ret nm p l e R s m args below meth c T h cells slots) : c.maxLocals = maxL := S.1.2.2.2.2.1
theorem own_S.hret (S : own_S Z hs W own bytes maxL ret nm p l e R s m args below meth c T h cells slots) : meth.sig.returnType = ret := S.1.2.2.2.2.2.1
theorem own_S.hlk (S : own_S Z hs W own bytes maxL ret nm p l e R s m args below meth c T h cells slots) : meth.locks = false := S.1.2.2.2.2.2.2.1
theorem own_S.hnm (S : own_S Z hs W own bytes maxL ret nm p l e R s m args below meth c T h cells slots) : meth.name = nm := S.1.2.2.2.2.2.2.2.1
theorem own_S.hO (S : own_S Z hs W own bytes maxL ret nm p l e R s m args below meth c T h cells slots) : Ext Z.heap hs := S.1.2.2.2.2.2.2.2.2.1
theorem own_S.hW (S : own_S Z hs W own bytes maxL ret nm p l e R s m args below meth c T h cells slots) : ∀ a ∈ W, Z.heap.size ≤ a := S.1.2.2.2.2.2.2.2.2.2
theorem own_S.keep (S : own_S Z hs W own bytes maxL ret nm p l e R s m args below meth c T h cells slots) : Keep hs h W := by obtain ⟨-, _, -, -, -, K⟩ := S; exact K
theorem own_S.size (S : own_S Z hs W own bytes maxL ret nm p l e R s m args below meth c T h cells slots) : hs.size ≤ h.size := S.keep.1
theorem own_S.old (S : own_S Z hs W own bytes maxL ret nm p l e R s m args below meth c T h cells slots) : Ext Z.heap h :=
  ⟨Nat.le_trans S.hO.1 S.size, fun x cc q => S.keep.2.1 x cc (S.hO.2 x cc q) fun r => absurd (Array.getElem?_eq_some_iff.mp q).1 (Nat.not_lt.mpr (S.hW x r))⟩
theorem own_S.here (S : own_S Z hs W own bytes maxL ret nm p l e R s m args below meth c T h cells slots) : At T m c below := by obtain ⟨-, _, X, -⟩ := S; exact X.here
theorem own_S.dec (S : own_S Z hs W own bytes maxL ret nm p l e R s m args below meth c T h cells slots) {r : Except ClassFile.DecodeError (ClassFile.Instr × Nat)} (h2 : decode bytes pc = r) : decode c.code pc = r := hb S.hby h2
theorem own_S.may (S : own_S Z hs W own bytes maxL ret nm p l e R s m args below meth c T h cells slots) {a : Addr} (q : a ∈ W ∨ hs.size ≤ a) : Z.heap.size ≤ a := q.elim (S.hW a) (Nat.le_trans S.hO.1)
theorem own_S.more (S : own_S Z hs W own bytes maxL ret nm p l e R s m args below meth c T h cells slots) {k' n' : Nat} (hk : cells ≤ k') (hn : slots ≤ n') : own_S Z hs W own bytes maxL ret nm p l e R s m args below meth c T h k' n' := by
  obtain ⟨G, locs, X, r⟩ := S
  exact ⟨G, locs, X.more hk hn, r⟩

/-! the ends -/
theorem own_S.leave (S : own_S Z hs W own bytes maxL ret nm p l e R s m args below meth c T h cells slots) {A : State} {v : Option Value} (hk : cells ≤ k) (hn : slots ≤ n) (hv : ret = none → v = none) (hq : Q v h)
    (go : ∀ (locs : List Loc) (_ : Stand p l e R s m args below meth c T locs cells slots) (fs : List Frame), (∀ (f : JFrame) (acts : List Action), f.method = m → f.locked = none → f.entered = [] → (doReturn e (T.setTop f) acts v).1 = T.setFrames fs) → Steps p.tables e below A (T.setFrames fs)) : own_F p e below s Z hs W k n Q A := by
  obtain ⟨G, locs, X, N, e0, K⟩ := S
  have hlk : meth.locks = false := own_S.hlk (⟨G, locs, X, N, e0, K⟩ : own_S Z hs W own bytes maxL ret nm p l e R s m args below meth c T h cells slots)
  have hret : meth.sig.returnType = ret := own_S.hret (⟨G, locs, X, N, e0, K⟩ : own_S Z hs W own bytes maxL ret nm p l e R s m args below meth c T h cells slots)
  obtain ⟨fs, hr, hrun, hended, hW, hsame⟩ := X.leave (v := v) (fun q => hv (hret ▸ q)) hlk
  subst e0
  exact ⟨_, _, go locs X fs hr, hrun, hended, _, _, rfl, ⟨N, K, hq⟩, ⟨_, rfl⟩, hW, hsame.mono hk hn⟩
theorem own_retV (S : own_S Z hs W own bytes maxL none nm p l e R s m args below meth c T h cells slots) (hd : decode bytes pc = .ok (.return_, 1)) (hk : cells ≤ k) (hn : slots ≤ n) (hq : Q none h) : own_F p e below s Z hs W k n Q (T.setTop (mkF m pc Ls [])) :=
  S.leave hk hn (fun _ => rfl) hq fun locs X fs hr => X.returnOut S.hx S.hret (S.dec hd) hr
theorem own_retZ {t : FieldType} (S : own_S Z hs W own bytes maxL (some t) nm p l e R s m args below meth c T h cells slots) {z : Int32} (ht : t = .boolean ∨ t = .byte ∨ t = .char ∨ t = .short) (hd : decode bytes pc = .ok (.ireturn, 1)) (hk : cells ≤ k) (hn : slots ≤ n) (hq : Q (some (.int (nar t z))) h) : own_F p e below s Z hs W k n Q (T.setTop (mkF m pc Ls (.int z :: rest))) :=
  S.leave hk hn (fun q => by cases q) hq fun locs X fs hr => retN X S.hx S.hret ht (S.dec hd) hr
theorem own_retI (S : own_S Z hs W own bytes maxL (some .int) nm p l e R s m args below meth c T h cells slots) {z : Int32} (hd : decode bytes pc = .ok (.ireturn, 1)) (hk : cells ≤ k) (hn : slots ≤ n) (hq : Q (some (.int z)) h) : own_F p e below s Z hs W k n Q (T.setTop (mkF m pc Ls (.int z :: rest))) :=
  S.leave hk hn (fun q => by cases q) hq fun locs X fs hr => retOut X S.hx S.hret rfl (Or.inl ⟨rfl, Or.inl rfl, _, rfl⟩) (S.dec hd) hr
theorem own_retJ (S : own_S Z hs W own bytes maxL (some .long) nm p l e R s m args below meth c T h cells slots) {z : Int64} (hd : decode bytes pc = .ok (.lreturn, 1)) (hk : cells ≤ k) (hn : slots ≤ n) (hq : Q (some (.long z)) h) : own_F p e below s Z hs W k n Q (T.setTop (mkF m pc Ls (.long z :: rest))) :=
  S.leave hk hn (fun q => by cases q) hq fun locs X fs hr => retOut X S.hx S.hret rfl (Or.inr (Or.inl ⟨rfl, rfl, _, rfl⟩)) (S.dec hd) hr
theorem own_retD (S : own_S Z hs W own bytes maxL (some .double) nm p l e R s m args below meth c T h cells slots) {z : UInt64} (hd : decode bytes pc = .ok (.dreturn, 1)) (hk : cells ≤ k) (hn : slots ≤ n) (hq : Q (some (.double z)) h) : own_F p e below s Z hs W k n Q (T.setTop (mkF m pc Ls (.double z :: rest))) :=
  S.leave hk hn (fun q => by cases q) hq fun locs X fs hr => retOut X S.hx S.hret rfl (Or.inr (Or.inr (Or.inl ⟨rfl, rfl, _, rfl⟩))) (S.dec hd) hr
theorem own_retA {t : FieldType} (S : own_S Z hs W own bytes maxL (some t) nm p l e R s m args below meth c T h cells slots) {w : Value} (ht : t.isReference = true) (hw : w.isRef = true) (hd : decode bytes pc = .ok (.areturn, 1)) (hk : cells ≤ k) (hn : slots ≤ n) (hq : Q (some w) h) : own_F p e below s Z hs W k n Q (T.setTop (mkF m pc Ls (w :: rest))) :=
  S.leave hk hn (fun q => by cases q) hq fun locs X fs hr => retOut X S.hx S.hret (by cases w <;> simp [Value.isRef] at hw <;> cases t <;> simp [FieldType.isReference] at ht <;> rfl) (Or.inr (Or.inr (Or.inr (Or.inr ⟨rfl, ht, hw⟩)))) (S.dec hd) hr

/-! branches -/
def own_cd : ClassFile.Cond → Int32 → Int32 → Prop
  | .eq, x, y => x = y
  | .ne, x, y => ¬ x = y
  | .lt, x, y => x < y
  | .ge, x, y => ¬ x < y
  | .gt, x, y => y < x
  | .le, x, y => ¬ y < x
theorem own_cd_t {cd : ClassFile.Cond} {x y : Int32} (q : own_cd cd x y) : if_icmp.holds cd x y = true := by
  cases cd
  · exact (teq q).1
  · exact (feq q).2
  · exact (tlt q).1
  · exact (flt q).2.1
  · exact (tlt q).2.2.1
  · exact (flt q).2.2.2
def own_cn : ClassFile.Cond → Int32 → Int32 → Prop
  | .eq, x, y => ¬ x = y
  | .ne, x, y => x = y
  | .lt, x, y => ¬ x < y
  | .ge, x, y => x < y
  | .gt, x, y => ¬ y < x
  | .le, x, y => y < x
theorem own_cd_f {cd : ClassFile.Cond} {x y : Int32} (q : own_cn cd x y) : if_icmp.holds cd x y = false := by
  cases cd
  · exact (feq q).1
  · exact (teq q).2
  · exact (flt q).1
  · exact (tlt q).2.1
  · exact (flt q).2.2.1
  · exact (tlt q).2.2.2
theorem own_cd_em (cd : ClassFile.Cond) (x y : Int32) : own_cd cd x y ∨ own_cn cd x y := by
  cases cd
  · exact Classical.em (x = y)
  · exact (Classical.em (x = y)).symm
  · exact Classical.em (x < y)
  · exact (Classical.em (x < y)).symm
  · exact Classical.em (y < x)
  · exact (Classical.em (y < x)).symm
theorem own_icmp (S : own_S Z hs W own bytes maxL ret nm p l e R s m args below meth c T h cells slots) {cd : ClassFile.Cond} {o : Int} {x y : Int32} (pc' : Nat) (hd : decode bytes pc = .ok (.if_icmp cd o, 3)) (ho : 0 ≤ (pc : Int) + o) (hp : ((pc : Int) + o).toNat = pc')
    (ft : own_cd cd x y → own_F p e below s Z hs W k n Q (T.setTop (mkF m pc' Ls rest))) (ff : own_cn cd x y → own_F p e below s Z hs W k n Q (T.setTop (mkF m (pc + 3) Ls rest))) : own_F p e below s Z hs W k n Q (T.setTop (mkF m pc Ls (.int y :: .int x :: rest))) := by
  rcases own_cd_em cd x y with q | q
  · exact own_F.of (fun _ => XS.icmpYes S.here S.hx rfl (pc0 := pc) rfl (S.dec hd) rfl (own_cd_t q) ho hp) (ft q)
  · exact own_F.of (fun _ => XS.icmpNo S.here S.hx rfl (S.dec hd) rfl (own_cd_f q)) (ff q)
theorem own_if (S : own_S Z hs W own bytes maxL ret nm p l e R s m args below meth c T h cells slots) {cd : ClassFile.Cond} {o : Int} {x : Int32} (pc' : Nat) (hd : decode bytes pc = .ok (.ifCond cd o, 3)) (ho : 0 ≤ (pc : Int) + o) (hp : ((pc : Int) + o).toNat = pc')
    (ft : own_cd cd x 0 → own_F p e below s Z hs W k n Q (T.setTop (mkF m pc' Ls rest))) (ff : own_cn cd x 0 → own_F p e below s Z hs W k n Q (T.setTop (mkF m (pc + 3) Ls rest))) : own_F p e below s Z hs W k n Q (T.setTop (mkF m pc Ls (.int x :: rest))) := by
  rcases own_cd_em cd x 0 with q | q
  · exact own_F.of (fun _ => XS.ifYes S.here S.hx rfl (pc0 := pc) rfl (S.dec hd) rfl ((if0 _ _).trans (own_cd_t q)) ho hp) (ft q)
  · exact own_F.of (fun _ => XS.ifNo S.here S.hx rfl (S.dec hd) rfl ((if0 _ _).trans (own_cd_f q))) (ff q)
def own_ac : ACond → Value → Value → Prop
  | .eq, x, y => x = y
  | .ne, x, y => ¬ x = y
def own_an : ACond → Value → Value → Prop
  | .eq, x, y => ¬ x = y
  | .ne, x, y => x = y
theorem own_acmp (S : own_S Z hs W own bytes maxL ret nm p l e R s m args below meth c T h cells slots) {cd : ACond} {o : Int} {x y : Value} (h1 : x.isRef = true) (h2 : y.isRef = true) (pc' : Nat) (hd : decode bytes pc = .ok (.if_acmp cd o, 3)) (ho : 0 ≤ (pc : Int) + o) (hp : ((pc : Int) + o).toNat = pc')
    (ft : own_ac cd x y → own_F p e below s Z hs W k n Q (T.setTop (mkF m pc' Ls rest))) (ff : own_an cd x y → own_F p e below s Z hs W k n Q (T.setTop (mkF m (pc + 3) Ls rest))) : own_F p e below s Z hs W k n Q (T.setTop (mkF m pc Ls (y :: x :: rest))) := by
  obtain ⟨locs, X, -⟩ := S.2
  cases cd <;> rcases Classical.em (x = y) with q | q
  · exact own_F.of (fun _ => Jvm.RoadKit.acmp (g := mkF m pc Ls (y :: x :: rest)) X S.hx rfl h1 h2 (pc0 := pc) (pc' := pc') (same := true) rfl (S.dec hd) rfl (decide_eq_true q) ho (by simp [acV, ← hp])) (ft q)
  · exact own_F.of (fun _ => Jvm.RoadKit.acmp (g := mkF m pc Ls (y :: x :: rest)) X S.hx rfl h1 h2 (pc0 := pc) (pc' := pc + 3) (same := false) rfl (S.dec hd) rfl (decide_eq_false q) ho (by simp [acV])) (ff q)
  · exact own_F.of (fun _ => Jvm.RoadKit.acmp (g := mkF m pc Ls (y :: x :: rest)) X S.hx rfl h1 h2 (pc0 := pc) (pc' := pc + 3) (same := true) rfl (S.dec hd) rfl (decide_eq_true q) ho (by simp [acV])) (ff q)
  · exact own_F.of (fun _ => Jvm.RoadKit.acmp (g := mkF m pc Ls (y :: x :: rest)) X S.hx rfl h1 h2 (pc0 := pc) (pc' := pc') (same := false) rfl (S.dec hd) rfl (decide_eq_false q) ho (by simp [acV, ← hp])) (ft q)

/-! the heap -/
theorem own_getF (S : own_S Z hs W own bytes maxL ret nm p l e R s m args below meth c T h cells slots) {R0 O fn d host : String} {index : Nat} (w : (Jvm.Cond.fieldLink own index R0 fn d).before a0 Z = true ∨ (Jvm.Cond.fieldLinkNest own index R0 fn d host).before a0 Z = true) (via : Via Z R0 O fn d)
    {a : Addr} {v : Value} (F : Fld Z h a O fn d v) (hd : decode bytes pc = .ok (.getfield index, 3))
    (f : ∀ T', own_S Z hs W own bytes maxL ret nm p l e R s m args below meth c T' h cells slots → own_F p e below s Z hs W k n Q (T'.setTop (mkF m (pc + 3) Ls (v :: rest)))) : own_F p e below s Z hs W k n Q (T.setTop (mkF m pc Ls (.ref a :: rest))) := by
  have S' := S
  obtain ⟨G, locs, X, N, e0, K⟩ := S
  obtain ⟨T', X', e', st⟩ := getF X S'.hx S'.hZ S'.hown w via e0 F (g := mkF m pc Ls (.ref a :: rest)) rfl rfl (S'.dec hd)
  exact own_F.of st (f T' ⟨G, locs, X', N, e', K⟩)
theorem own_getS (S : own_S Z hs W own bytes maxL ret nm p l e R s m args below meth c T h cells slots) {R0 O fn d host : String} {index : Nat} (w : (Jvm.Cond.fieldLink own index R0 fn d).before a0 Z = true ∨ (Jvm.Cond.fieldLinkNest own index R0 fn d host).before a0 Z = true) (via : Via Z R0 O fn d)
    {v : Value} (F : Sta Z h O fn d v) (hd : decode bytes pc = .ok (.getstatic index, 3))
    (f : ∀ T', own_S Z hs W own bytes maxL ret nm p l e R s m args below meth c T' h cells slots → own_F p e below s Z hs W k n Q (T'.setTop (mkF m (pc + 3) Ls (v :: st)))) : own_F p e below s Z hs W k n Q (T.setTop (mkF m pc Ls st)) := by
  have S' := S
  obtain ⟨G, locs, X, N, e0, K⟩ := S
  obtain ⟨T', X', e', st⟩ := getS2 X S'.hx S'.hZ S'.hown w via e0 F (g := mkF m pc Ls st) rfl (S'.dec hd)
  exact own_F.of st (f T' ⟨G, locs, X', N, e', K⟩)
theorem own_putF (S : own_S Z hs W own bytes maxL ret nm p l e R s m args below meth c T h cells slots) {R0 O fn d host C : String} {index kk : Nat} {ty : FieldType} (w : (Jvm.Cond.fieldLink own index R0 fn d).before a0 Z = true ∨ (Jvm.Cond.fieldLinkNest own index R0 fn d host).before a0 Z = true) (via : Via Z R0 O fn d)
    {a : Addr} {v old : Value} (F : Fld Z h a O fn d old) (E : Exa Z h a C) (L : (Jvm.Cond.lays C O fn d).before a0 Z = true ∨ ((Jvm.Cond.laysFinal C O fn d).before a0 Z = true ∧ own = O ∧ nm = "<init>")) (wi : (Jvm.Cond.instantiable C kk).before a0 Z = true)
    (hty : parseFieldDescriptor d = some ty) (hn : narrow ty v = v) (hf : fits ty v = true) (hd : decode bytes pc = .ok (.putfield index, 3)) (ok : a ∈ W ∨ hs.size ≤ a)
    (f : ∀ T' h', own_S Z hs W own bytes maxL ret nm p l e R s m args below meth c T' h' cells slots → Wr h h' a (Jvm.RoadKit.slotOf Z O fn d) v → own_F p e below s Z hs W k n Q (T'.setTop (mkF m (pc + 3) Ls rest))) : own_F p e below s Z hs W k n Q (T.setTop (mkF m pc Ls (v :: .ref a :: rest))) := by
  have S' := S
  obtain ⟨G, locs, X, N, e0, K⟩ := S
  obtain ⟨T', h', X', e', Wt, st⟩ := putF X S'.hx S'.hZ S'.hown w via e0 F E (L.imp id fun q => ⟨q.1, q.2.1, S'.hnm.trans q.2.2⟩) wi hty hn hf (g := mkF m pc Ls (v :: .ref a :: rest)) rfl rfl (S'.dec hd)
  exact own_F.of st (f T' h' ⟨G, _, X', Fr.snoc X' N (S'.may ok), e', K.wr Wt ok⟩ Wt)
theorem own_new (S : own_S Z hs W own bytes maxL ret nm p l e R s m args below meth c T h cells slots) {C : String} {index sl : Nat} (w : (Jvm.Cond.classLink own index C).before a0 Z = true) (wi : (Jvm.Cond.instantiable C sl).before a0 Z = true) (wz : (Jvm.Cond.initialized C).before a0 Z = true)
    (hd : decode bytes pc = .ok (.new index, 3)) (hc : cells + 1 ≤ R.cells) (hl : slots + sl ≤ R.slots)
    (f : ∀ T' h' a, a = h.size → own_S Z hs W own bytes maxL ret nm p l e R s m args below meth c T' h' (cells + 1) (slots + sl) → Ext h h' → Exa Z h' a C → (∀ {O fn d : String} {ty : FieldType}, Laid Z a0 C O fn d → parseFieldDescriptor d = some ty → Fld Z h' a O fn d (defaultValue ty)) →
      own_F p e below s Z hs W k n Q (T'.setTop (mkF m (pc + 3) Ls (.ref a :: st)))) : own_F p e below s Z hs W k n Q (T.setTop (mkF m pc Ls st)) := by
  have S' := S
  obtain ⟨G, locs, X, N, e0, K⟩ := S
  obtain ⟨T', h', X', e', E, A, D, -, st⟩ := newO X S'.hx S'.hZ S'.hown w wi wz e0 (g := mkF m pc Ls st) rfl (S'.dec hd) hc hl
  exact own_F.of st (f T' h' _ rfl ⟨G, _, X', N, e', K.ext E⟩ E A D)
theorem own_initO (S : own_S Z hs W own bytes maxL ret nm p l e R s m args below meth c T h cells slots) {index : Nat} (w1 : (Jvm.Cond.methodLink own index Lib.objectInit).before a0 Z = true) (w2 : (Jvm.Cond.instanceMethod Lib.objectInit).before a0 Z = true)
    (w3 : (Jvm.Cond.code Lib.objectInit ⟨#[0xb1]⟩ 1 none).before a0 Z = true) {a : Addr} (hsz : Ls.size = maxL) (hd : decode bytes pc = .ok (.invokespecial index, 3)) (hf : 1 ≤ R.frames) (hl : (rest.map fun v => v.category).sum + 12 ≤ R.locals)
    (f : ∀ T', own_S Z hs W own bytes maxL ret nm p l e R s m args below meth c T' h cells slots → own_F p e below s Z hs W k n Q (T'.setTop (mkF m (pc + 3) Ls rest))) : own_F p e below s Z hs W k n Q (T.setTop (mkF m pc Ls (.ref a :: rest))) := by
  have S' := S
  obtain ⟨G, locs, X, N, e0, K⟩ := S
  obtain ⟨T', X', e', st⟩ := initO X S'.hx S'.hZ S'.hown w1 w2 w3 e0 (g := mkF m pc Ls (.ref a :: rest)) rfl (hsz.trans S'.hml.symm) rfl (S'.dec hd) hf (W := (rest.map fun v => v.category).sum) (by show 2 * 0 + _ ≤ _; omega) hl
  exact own_F.of st (f T' ⟨G, locs, X', N, e', K⟩)

/-! calls -/
variable {index : Nat} {y y' : MethodName} {bytes' : ByteArray} {maxL' : Nat} {ret' : Option FieldType} {rm : Room} {W' : List Addr} {Q' : Option Value → Heap → Prop} {argsL : List Value} {ps : List FieldType} {rt : Option FieldType}
theorem own_callS (S : own_S Z hs W own bytes maxL ret nm p l e R s m args below meth c T h cells slots)
    (w1 : (Jvm.Cond.methodLink own index y).before a0 Z = true) (w2 : (Jvm.Cond.static y).before a0 Z = true) (w3 : (Jvm.Cond.initialized y.cls).before a0 Z = true) (w4 : (Jvm.Cond.code y bytes' maxL' ret').before a0 Z = true) (hy : y.cls ≠ "java/lang/invoke/MethodHandle" ∧ y.cls ≠ "java/lang/invoke/VarHandle")
    (C : own_C l Z y bytes' maxL' ret' [] rm W' argsL.toArray h Q') (hWW : ∀ a ∈ W', a ∈ W ∨ hs.size ≤ a) (pd : parseMethodDescriptor y.desc = some ⟨ps, rt⟩) (hlen : argsL.length = ps.length) (hsz : Ls.size = maxL) (hst : st = argsL.reverse ++ rest)
    (hd : decode bytes pc = .ok (.invokestatic index, 3)) (hfr : rm.frames + 1 ≤ R.frames) (hlo : (rest.map fun v => v.category).sum + (maxL' + 11) + rm.locals ≤ R.locals) (hc : cells + rm.cells ≤ R.cells) (hsl : slots + rm.slots ≤ R.slots)
    (f : ∀ T' h' v, own_S Z hs W own bytes maxL ret nm p l e R s m args below meth c T' h' (cells + rm.cells) (slots + rm.slots) → Keep h h' W' → Q' v h' → own_F p e below s Z hs W k n Q (T'.setTop (mkF m (pc + 3) Ls (v.toList ++ rest)))) : own_F p e below s Z hs W k n Q (T.setTop (mkF m pc Ls st)) := by
  have S' := S
  obtain ⟨G, locs, X, N, e0, K⟩ := S
  obtain ⟨v, _, ⟨T', L', k', n'⟩, -, X', ⟨Lc, hQ, h1, h2, h3⟩, st⟩ := Jvm.LawKit.callS X S'.hx (y := y) S'.hown (mvT S'.hZ w1) (mvT S'.hZ w2) (mvT S'.hZ w3) (mvT S'.hZ w4) hy (backOf (W := (rest.map fun v => v.category).sum) (Q := fun v hh L => Fr Z.heap.size L ∧ Keep h hh W' ∧ Q' v hh) C S'.hZ w4 w3 hfr hlo) (g := mkF m pc Ls st) rfl (hsz.trans S'.hml.symm) (argsL := argsL) (rest := rest) (lenOf pd hlen) hst (by show 2 * 0 + _ ≤ _; omega) (S'.dec hd) (fun _ _ => ⟨rfl, e0, hc, hsl⟩)
  dsimp only [Pt.U, Pt.locs, Pt.cells, Pt.slots] at X' h1 h2 h3 st hQ
  subst h1 h2 h3
  obtain ⟨N', K', q⟩ := hQ
  exact own_F.of st (f T' T'.heap v ⟨G, _, X', Fr.app N N', rfl, K.trans K' hWW⟩ K' q)
theorem own_callI (S : own_S Z hs W own bytes maxL ret nm p l e R s m args below meth c T h cells slots) (hy1 : y.name = "<init>")
    (w1 : (Jvm.Cond.methodLink own index y).before a0 Z = true) (w2 : (Jvm.Cond.instanceMethod y).before a0 Z = true) (w3 : (Jvm.Cond.initialized y.cls).before a0 Z = true) (w4 : (Jvm.Cond.code y bytes' maxL' none).before a0 Z = true) (hy : y.cls ≠ "java/lang/invoke/MethodHandle" ∧ y.cls ≠ "java/lang/invoke/VarHandle")
    {a : Addr} (C : own_C l Z y bytes' maxL' none [] rm W' (.ref a :: argsL).toArray h Q') (hWW : ∀ a ∈ W', a ∈ W ∨ hs.size ≤ a) (pd : parseMethodDescriptor y.desc = some ⟨ps, rt⟩) (hlen : argsL.length = ps.length) (hsz : Ls.size = maxL) (hst : st = argsL.reverse ++ .ref a :: rest)
    (hd : decode bytes pc = .ok (.invokespecial index, 3)) (hfr : rm.frames + 1 ≤ R.frames) (hlo : (rest.map fun v => v.category).sum + (maxL' + 11) + rm.locals ≤ R.locals) (hc : cells + rm.cells ≤ R.cells) (hsl : slots + rm.slots ≤ R.slots)
    (f : ∀ T' h' v, own_S Z hs W own bytes maxL ret nm p l e R s m args below meth c T' h' (cells + rm.cells) (slots + rm.slots) → Keep h h' W' → Q' v h' → own_F p e below s Z hs W k n Q (T'.setTop (mkF m (pc + 3) Ls (v.toList ++ rest)))) : own_F p e below s Z hs W k n Q (T.setTop (mkF m pc Ls st)) := by
  have S' := S
  obtain ⟨G, locs, X, N, e0, K⟩ := S
  obtain ⟨v, _, ⟨T', L', k', n'⟩, -, X', ⟨Lc, hQ, h1, h2, h3⟩, st⟩ := X.specialBack S'.hx (y := y) hy1 S'.hown (mvT S'.hZ w1) (mvT S'.hZ w2) (mvT S'.hZ w4) hy (backOf (W := (rest.map fun v => v.category).sum) (Q := fun v hh L => Fr Z.heap.size L ∧ Keep h hh W' ∧ Q' v hh) C S'.hZ w4 w3 hfr hlo) (g := mkF m pc Ls st) rfl (hsz.trans S'.hml.symm) (Steps.refl _) (a := a) (argsL := argsL) (rest := rest) (lenOf pd hlen) hst (by show 2 * 0 + _ ≤ _; omega) (S'.dec hd) (fun _ _ => ⟨rfl, e0, hc, hsl⟩)
  dsimp only [Pt.U, Pt.locs, Pt.cells, Pt.slots] at X' h1 h2 h3 st hQ
  subst h1 h2 h3
  obtain ⟨N', K', q⟩ := hQ
  exact own_F.to st (f T' T'.heap v ⟨G, _, X', Fr.app N N', rfl, K.trans K' hWW⟩ K' q)
theorem own_callV (S : own_S Z hs W own bytes maxL ret nm p l e R s m args below meth c T h cells slots) {Cn : String}
    (w1 : (Jvm.Cond.methodLink own index y).before a0 Z = true) (w2 : (Jvm.Cond.declares y).before a0 Z = true) (nf : NotFace s y) (w3 : (Jvm.Cond.selects Cn y y').before a0 Z = true) (w4 : (Jvm.Cond.instanceMethod y').before a0 Z = true) (w5 : (Jvm.Cond.code y' bytes' maxL' ret').before a0 Z = true) (w6 : (Jvm.Cond.initialized y'.cls).before a0 Z = true) (hy : y.cls ≠ "java/lang/invoke/MethodHandle" ∧ y.cls ≠ "java/lang/invoke/VarHandle")
    {a : Addr} (E : Exa Z h a Cn) (C : own_C l Z y' bytes' maxL' ret' [] rm W' (.ref a :: argsL).toArray h Q') (hWW : ∀ a ∈ W', a ∈ W ∨ hs.size ≤ a) (pd : parseMethodDescriptor y.desc = some ⟨ps, rt⟩) (hlen : argsL.length = ps.length) (hsz : Ls.size = maxL) (hst : st = argsL.reverse ++ .ref a :: rest)
    (hd : decode bytes pc = .ok (.invokevirtual index, 3)) (hfr : rm.frames + 1 ≤ R.frames) (hlo : (rest.map fun v => v.category).sum + (maxL' + 11) + rm.locals ≤ R.locals) (hc : cells + rm.cells ≤ R.cells) (hsl : slots + rm.slots ≤ R.slots)
    (f : ∀ T' h' v, own_S Z hs W own bytes maxL ret nm p l e R s m args below meth c T' h' (cells + rm.cells) (slots + rm.slots) → Keep h h' W' → Q' v h' → own_F p e below s Z hs W k n Q (T'.setTop (mkF m (pc + 3) Ls (v.toList ++ rest)))) : own_F p e below s Z hs W k n Q (T.setTop (mkF m pc Ls st)) := by
  have S' := S
  obtain ⟨G, locs, X, N, e0, K⟩ := S
  obtain ⟨cq, kq, qa, qb, qc⟩ := isOf S'.hZ e0 E
  obtain ⟨v, _, ⟨T', L', k', n'⟩, -, X', ⟨Lc, hQ, h1, h2, h3⟩, st⟩ := X.virtualBack S'.hx (y := y) (z := y') S'.hown (mvT S'.hZ w1) (mvT S'.hZ w2) nf (mvT S'.hZ w3) (mvT S'.hZ w4) hy (backOf (W := (rest.map fun v => v.category).sum) (Q := fun v hh L => Fr Z.heap.size L ∧ Keep h hh W' ∧ Q' v hh) C S'.hZ w5 w6 hfr hlo) qa qc (g := mkF m pc Ls st) rfl (hsz.trans S'.hml.symm) (Steps.refl _) (argsL := argsL) (rest := rest) (lenOf pd hlen) hst (by show 2 * 0 + _ ≤ _; omega) (S'.dec hd) (fun _ _ => ⟨rfl, e0, hc, hsl⟩)
  dsimp only [Pt.U, Pt.locs, Pt.cells, Pt.slots] at X' h1 h2 h3 st hQ
  subst h1 h2 h3
  obtain ⟨N', K', q⟩ := hQ
  exact own_F.to st (f T' T'.heap v ⟨G, _, X', Fr.app N N', rfl, K.trans K' hWW⟩ K' q)
theorem own_nf (S : own_S Z hs W own bytes maxL ret nm p l e R s m args below meth c T h cells slots) {Cn : String} (w : (Jvm.Cond.selects Cn y y).before a0 Z = true) : NotFace s y := notFace_of_selects (args := #[]) (mvT S.hZ w)
theorem own_callX (S : own_S Z hs W own bytes maxL ret nm p l e R s m args below meth c T h cells slots) {Cn : String} {cnt : Nat}
    (w1 : (Jvm.Cond.methodLink own index y).before a0 Z = true) (w2 : (Jvm.Cond.declares y).before a0 Z = true) (w7 : (Jvm.Cond.interfaceMethod y.cls y.cls y.name y.desc).before a0 Z = true) (w3 : (Jvm.Cond.selects Cn y y').before a0 Z = true) (w4 : (Jvm.Cond.instanceMethod y').before a0 Z = true) (w8 : (Jvm.Cond.publicMethod y').before a0 Z = true) (w9 : (Jvm.Cond.unhidden Cn y.name y.desc).before a0 Z = true) (w10 : (Jvm.Cond.castable Cn y.cls).before a0 Z = true)
    (w5 : (Jvm.Cond.code y' bytes' maxL' ret').before a0 Z = true) (w6 : (Jvm.Cond.initialized y'.cls).before a0 Z = true) (hy : y.cls ≠ "java/lang/invoke/MethodHandle" ∧ y.cls ≠ "java/lang/invoke/VarHandle")
    {a : Addr} (E : Exa Z h a Cn) (C : own_C l Z y' bytes' maxL' ret' [] rm W' (.ref a :: argsL).toArray h Q') (hWW : ∀ a ∈ W', a ∈ W ∨ hs.size ≤ a) (pd : parseMethodDescriptor y.desc = some ⟨ps, rt⟩) (hlen : argsL.length = ps.length) (hsz : Ls.size = maxL) (hst : st = argsL.reverse ++ .ref a :: rest)
    (hd : decode bytes pc = .ok (.invokeinterface index cnt, 5)) (hfr : rm.frames + 1 ≤ R.frames) (hlo : (rest.map fun v => v.category).sum + (maxL' + 11) + rm.locals ≤ R.locals) (hc : cells + rm.cells ≤ R.cells) (hsl : slots + rm.slots ≤ R.slots)
    (f : ∀ T' h' v, own_S Z hs W own bytes maxL ret nm p l e R s m args below meth c T' h' (cells + rm.cells) (slots + rm.slots) → Keep h h' W' → Q' v h' → own_F p e below s Z hs W k n Q (T'.setTop (mkF m (pc + 5) Ls (v.toList ++ rest)))) : own_F p e below s Z hs W k n Q (T.setTop (mkF m pc Ls st)) := by
  have S' := S
  obtain ⟨G, locs, X, N, e0, K⟩ := S
  obtain ⟨cq, kq, qa, qb, qc⟩ := isOf S'.hZ e0 E
  obtain ⟨v, _, ⟨T', L', k', n'⟩, -, X', ⟨Lc, hQ, h1, h2, h3⟩, st⟩ := X.interfaceBack S'.hx (xi := y) (y := y') S'.hown (mvT S'.hZ w1) (mvT S'.hZ w2) (mvT S'.hZ w7 (by simp [Cond.onTables, Cond.keepsFace, Cond.keeps, Cond.steady, Cond.faceAtom, hy])) (mvT S'.hZ w3) (mvT S'.hZ w4) (mvT S'.hZ w8) (mvT S'.hZ w9) (mvT S'.hZ w10) hy (backOf (W := (rest.map fun v => v.category).sum) (Q := fun v hh L => Fr Z.heap.size L ∧ Keep h hh W' ∧ Q' v hh) C S'.hZ w5 w6 hfr hlo) qa qb qc (g := mkF m pc Ls st) rfl (hsz.trans S'.hml.symm) (Steps.refl _) (argsL := argsL) (rest := rest) (lenOf pd hlen) hst (by show 2 * 0 + _ ≤ _; omega) (S'.dec hd) (fun _ _ => ⟨rfl, e0, hc, hsl⟩)
  dsimp only [Pt.U, Pt.locs, Pt.cells, Pt.slots] at X' h1 h2 h3 st hQ
  subst h1 h2 h3
  obtain ⟨N', K', q⟩ := hQ
  exact own_F.to st (f T' T'.heap v ⟨G, _, X', Fr.app N N', rfl, K.trans K' hWW⟩ K' q)
theorem own_callP (S : own_S Z hs W own bytes maxL ret nm p l e R s m args below meth c T h cells slots)
    (w1 : (Jvm.Cond.methodLink own index y).before a0 Z = true) (w2 : (Jvm.Cond.instanceMethod y).before a0 Z = true) (w3 : (Jvm.Cond.selects y.cls y y).before a0 Z = true) (wp : (Jvm.Cond.privateMethod y).before a0 Z = true) (w5 : (Jvm.Cond.code y bytes' maxL' ret').before a0 Z = true) (w6 : (Jvm.Cond.initialized y.cls).before a0 Z = true) (hy : y.cls ≠ "java/lang/invoke/MethodHandle" ∧ y.cls ≠ "java/lang/invoke/VarHandle")
    {a : Addr} {Cn : String} (E : Exa Z h a Cn) (C : own_C l Z y bytes' maxL' ret' [] rm W' (.ref a :: argsL).toArray h Q') (hWW : ∀ a ∈ W', a ∈ W ∨ hs.size ≤ a) (pd : parseMethodDescriptor y.desc = some ⟨ps, rt⟩) (hlen : argsL.length = ps.length) (hsz : Ls.size = maxL) (hst : st = argsL.reverse ++ .ref a :: rest)
    (hd : decode bytes pc = .ok (.invokevirtual index, 3)) (hfr : rm.frames + 1 ≤ R.frames) (hlo : (rest.map fun v => v.category).sum + (maxL' + 11) + rm.locals ≤ R.locals) (hc : cells + rm.cells ≤ R.cells) (hsl : slots + rm.slots ≤ R.slots)
    (f : ∀ T' h' v, own_S Z hs W own bytes maxL ret nm p l e R s m args below meth c T' h' (cells + rm.cells) (slots + rm.slots) → Keep h h' W' → Q' v h' → own_F p e below s Z hs W k n Q (T'.setTop (mkF m (pc + 3) Ls (v.toList ++ rest)))) : own_F p e below s Z hs W k n Q (T.setTop (mkF m pc Ls st)) := by
  have S' := S
  obtain ⟨G, locs, X, N, e0, K⟩ := S
  obtain ⟨cq, qq, qq'⟩ := E.cell
  obtain ⟨v, _, ⟨T', L', k', n'⟩, -, X', ⟨Lc, hQ, h1, h2, h3⟩, st⟩ := X.privateBack S'.hx (y := y) S'.hown (mvT S'.hZ w1) (mvT S'.hZ w2) (mvT S'.hZ w3) (Cond.privateMethod_at (mvP S'.hZ wp (args := #[]))) (mvT S'.hZ w5) hy (backOf (W := (rest.map fun v => v.category).sum) (Q := fun v hh L => Fr Z.heap.size L ∧ Keep h hh W' ∧ Q' v hh) C S'.hZ w5 w6 hfr hlo) (g := mkF m pc Ls st) rfl (hsz.trans S'.hml.symm) (Steps.refl _) (a := a) (by rw [e0]; exact qq) qq' (argsL := argsL) (rest := rest) (lenOf pd hlen) hst (by show 2 * 0 + _ ≤ _; omega) (S'.dec hd) (fun _ _ => ⟨rfl, e0, hc, hsl⟩)
  dsimp only [Pt.U, Pt.locs, Pt.cells, Pt.slots] at X' h1 h2 h3 st hQ
  subst h1 h2 h3
  obtain ⟨N', K', q⟩ := hQ
  exact own_F.to st (f T' T'.heap v ⟨G, _, X', Fr.app N N', rfl, K.trans K' hWW⟩ K' q)
theorem own_callU (S : own_S Z hs W own bytes maxL ret nm p l e R s m args below meth c T h cells slots) {Cn owner : String}
    (w1 : (Jvm.Cond.methodLink own index y).before a0 Z = true) (w2 : (Jvm.Cond.sameMethod y.cls owner y.name y.desc).before a0 Z = true) (w7 : (Jvm.Cond.declares ⟨owner, y.name, y.desc⟩).before a0 Z = true) (hy : owner ≠ "java/lang/invoke/MethodHandle" ∧ owner ≠ "java/lang/invoke/VarHandle") (w3 : (Jvm.Cond.selects Cn y y').before a0 Z = true) (w4 : (Jvm.Cond.instanceMethod y').before a0 Z = true) (w5 : (Jvm.Cond.code y' bytes' maxL' ret').before a0 Z = true) (w6 : (Jvm.Cond.initialized y'.cls).before a0 Z = true)
    {a : Addr} (E : Exa Z h a Cn) (C : own_C l Z y' bytes' maxL' ret' [] rm W' (.ref a :: argsL).toArray h Q') (hWW : ∀ a ∈ W', a ∈ W ∨ hs.size ≤ a) (pd : parseMethodDescriptor y.desc = some ⟨ps, rt⟩) (hlen : argsL.length = ps.length) (hsz : Ls.size = maxL) (hst : st = argsL.reverse ++ .ref a :: rest)
    (hd : decode bytes pc = .ok (.invokevirtual index, 3)) (hfr : rm.frames + 1 ≤ R.frames) (hlo : (rest.map fun v => v.category).sum + (maxL' + 11) + rm.locals ≤ R.locals) (hc : cells + rm.cells ≤ R.cells) (hsl : slots + rm.slots ≤ R.slots)
    (f : ∀ T' h' v, own_S Z hs W own bytes maxL ret nm p l e R s m args below meth c T' h' (cells + rm.cells) (slots + rm.slots) → Keep h h' W' → Q' v h' → own_F p e below s Z hs W k n Q (T'.setTop (mkF m (pc + 3) Ls (v.toList ++ rest)))) : own_F p e below s Z hs W k n Q (T.setTop (mkF m pc Ls st)) := by
  have S' := S
  obtain ⟨G, locs, X, N, e0, K⟩ := S
  obtain ⟨cq, kq, qa, qb, qc⟩ := isOf S'.hZ e0 E
  obtain ⟨v, _, ⟨T', L', k', n'⟩, -, X', ⟨Lc, hQ, h1, h2, h3⟩, st⟩ := X.virtualBackUp S'.hx (x := y) (y := y') S'.hown (mvT S'.hZ w1) (mvT S'.hZ w2) (mvT S'.hZ w7) hy (mvT S'.hZ w3) (mvT S'.hZ w4) (backOf (W := (rest.map fun v => v.category).sum) (Q := fun v hh L => Fr Z.heap.size L ∧ Keep h hh W' ∧ Q' v hh) C S'.hZ w5 w6 hfr hlo) qa qc (g := mkF m pc Ls st) rfl (hsz.trans S'.hml.symm) (Steps.refl _) (argsL := argsL) (rest := rest) (lenOf pd hlen) hst (by show 2 * 0 + _ ≤ _; omega) (S'.dec hd) (fun _ _ => ⟨rfl, e0, hc, hsl⟩)
  dsimp only [Pt.U, Pt.locs, Pt.cells, Pt.slots] at X' h1 h2 h3 st hQ
  subst h1 h2 h3
  obtain ⟨N', K', q⟩ := hQ
  exact own_F.to st (f T' T'.heap v ⟨G, _, X', Fr.app N N', rfl, K.trans K' hWW⟩ K' q)
/-! casts and tests of classes -/
theorem own_cast (S : own_S Z hs W own bytes maxL ret nm p l e R s m args below meth c T h cells slots) {Kn : String} {a : Addr} (w : (Jvm.Cond.classLink own index Kn).before a0 Z = true) (F : Ins Z h a Kn true) (hd : decode bytes pc = .ok (.checkcast index, 3))
    (f : ∀ T', own_S Z hs W own bytes maxL ret nm p l e R s m args below meth c T' h cells slots → own_F p e below s Z hs W k n Q (T'.setTop (mkF m (pc + 3) Ls (.ref a :: rest)))) : own_F p e below s Z hs W k n Q (T.setTop (mkF m pc Ls (.ref a :: rest))) := by
  have S' := S
  obtain ⟨G, locs, X, N, e0, K⟩ := S
  obtain ⟨T', X', e', st⟩ := castY X S'.hx S'.hZ S'.hown w e0 F (g := mkF m pc Ls (.ref a :: rest)) rfl rfl (S'.dec hd)
  exact own_F.of st (f T' ⟨G, locs, X', N, e', K⟩)
theorem own_inst (S : own_S Z hs W own bytes maxL ret nm p l e R s m args below meth c T h cells slots) {Kn : String} {a : Addr} (w : (Jvm.Cond.classLink own index Kn).before a0 Z = true) (F : Ins Z h a Kn true) (hd : decode bytes pc = .ok (.instanceof index, 3))
    (f : ∀ T', own_S Z hs W own bytes maxL ret nm p l e R s m args below meth c T' h cells slots → own_F p e below s Z hs W k n Q (T'.setTop (mkF m (pc + 3) Ls (.int (1 : Int32) :: rest)))) : own_F p e below s Z hs W k n Q (T.setTop (mkF m pc Ls (.ref a :: rest))) := by
  have S' := S
  obtain ⟨G, locs, X, N, e0, K⟩ := S
  obtain ⟨T', X', e', st⟩ := instY X S'.hx S'.hZ S'.hown w e0 F (g := mkF m pc Ls (.ref a :: rest)) rfl rfl (S'.dec hd)
  exact own_F.of st (f T' ⟨G, locs, X', N, e', K⟩)

/-! more single steps -/
theorem own_irem (S : own_S Z hs W own bytes maxL ret nm p l e R s m args below meth c T h cells slots) {x y : Int32} {t : State} (hd : decode bytes pc = .ok (.irem, 1)) (hy : y ≠ 0) (k : Steps p.tables e below (T.setTop (mkF m (pc + 1) Ls (.int (x % y) :: rest))) t) : Steps p.tables e below (T.setTop (mkF m pc Ls (.int y :: .int x :: rest))) t := by
  obtain ⟨locs, X, -⟩ := S.2
  exact iremM X S.hx (g := mkF m pc Ls (.int y :: .int x :: rest)) rfl (S.dec hd) rfl hy k
theorem own_lrem (S : own_S Z hs W own bytes maxL ret nm p l e R s m args below meth c T h cells slots) {x y : Int64} {t : State} (hd : decode bytes pc = .ok (.lrem, 1)) (hy : y ≠ 0) (k : Steps p.tables e below (T.setTop (mkF m (pc + 1) Ls (.long (x % y) :: rest))) t) : Steps p.tables e below (T.setTop (mkF m pc Ls (.long y :: .long x :: rest))) t := by
  have q : x - x / y * y = x % y := lrem_mod x y
  exact XS.lrem S.here S.hx (g := mkF m pc Ls (.long y :: .long x :: rest)) rfl (S.dec hd) rfl hy (by rw [q]; exact k)
theorem own_ldcI (S : own_S Z hs W own bytes maxL ret nm p l e R s m args below meth c T h cells slots) {i : Nat} {v : Int32} (w : (Jvm.Cond.constant own i v).before a0 Z = true) (hd : decode bytes pc = .ok (.ldc i, 2)) (f : own_F p e below s Z hs W k n Q (T.setTop (mkF m (pc + 2) Ls (.int v :: st)))) : own_F p e below s Z hs W k n Q (T.setTop (mkF m pc Ls st)) := by
  obtain ⟨locs, X, -⟩ := S.2
  exact own_F.of (X.ldcInt S.hx S.hown (mvT S.hZ w) (g := mkF m pc Ls st) rfl (S.dec hd)) f
theorem own_ldcIw (S : own_S Z hs W own bytes maxL ret nm p l e R s m args below meth c T h cells slots) {i : Nat} {v : Int32} (w : (Jvm.Cond.constant own i v).before a0 Z = true) (hd : decode bytes pc = .ok (.ldc_w i, 3)) (f : own_F p e below s Z hs W k n Q (T.setTop (mkF m (pc + 3) Ls (.int v :: st)))) : own_F p e below s Z hs W k n Q (T.setTop (mkF m pc Ls st)) := by
  obtain ⟨locs, X, -⟩ := S.2
  exact own_F.of (X.ldcwInt S.hx S.hown (mvT S.hZ w) (g := mkF m pc Ls st) rfl (S.dec hd)) f
theorem own_ldcJ (S : own_S Z hs W own bytes maxL ret nm p l e R s m args below meth c T h cells slots) {i : Nat} {v : Int64} (w : (Jvm.Cond.constantLong own i v).before a0 Z = true) (hd : decode bytes pc = .ok (.ldc2_w i, 3)) (f : own_F p e below s Z hs W k n Q (T.setTop (mkF m (pc + 3) Ls (.long v :: st)))) : own_F p e below s Z hs W k n Q (T.setTop (mkF m pc Ls st)) := by
  obtain ⟨locs, X, -⟩ := S.2
  exact own_F.of (X.ldc2Long S.hx S.hown (mvT S.hZ w) (g := mkF m pc Ls st) rfl (S.dec hd)) f
theorem own_narR {ty : FieldType} {v : Value} (ht : ty.isReference = true) (hv : v.isRef = true) : narrow ty v = v := by cases v <;> simp [Value.isRef] at hv <;> cases ty <;> simp [FieldType.isReference] at ht <;> rfl
theorem own_fitR {ty : FieldType} {v : Value} (ht : ty.isReference = true) (hv : v.isRef = true) : fits ty v = true := by cases v <;> simp [Value.isRef] at hv <;> cases ty <;> simp [FieldType.isReference] at ht <;> rfl

/-! from the case's words to facts of the start -/
theorem own_extRefl (h : Heap) : Ext h h := ⟨Nat.le_refl _, fun _ _ q => q⟩
theorem own_sta {C fn d K : String} (hx : (Jvm.Cond.exactly (.static C fn d) K).value a0 Z none Z [] = some true) (w1 : (Jvm.Cond.initialized C).before a0 Z = true) (w2 : (Jvm.Cond.laysStatic C fn d).before a0 Z = true) :
    ∃ a, (Term.static C fn d).eval a0 Z none [] Z = some (.ref a) ∧ Sta Z Z.heap C fn d (.ref a) ∧ Exa Z Z.heap a K := by
  obtain ⟨a, ev⟩ := exa_v hx
  exact ⟨a, ev, Sta.start ev (Or.inr ⟨w1, w2⟩), Exa.start ev hx⟩
theorem own_fldI {t : Term} {C fn d : String} {a : Addr} {v : Int32} (ev : t.eval a0 Z none [] Z = some (.ref a)) (hx : (Jvm.Cond.eq (.field t C fn d) (.int v)).value a0 Z none Z [] = some true) : Fld Z Z.heap a C fn d (.int v) := by
  obtain ⟨x, y, h1, h2, -⟩ := cmp_v (Or.inl hx)
  have h2' : y = .int v := by simpa [Term.eval] using h2.symm
  subst h2'
  have h3 : x = .int v := by
    simp only [Jvm.Cond.value, h1, h2] at hx
    cases x <;> simp at hx
    rw [hx]
  subst h3
  refine Fld.start ?_
  simpa [Term.eval, ev] using h1
end OwnPrelude
/-! OWN: arrays by their whole contents -/
section OwnArrays
variable {Z : State} {hs : Heap} {W : List Addr} {own : String} {bytes : ByteArray} {maxL : Nat} {ret : Option FieldType} {nm : String}
  {p : Program} {l : Launch} {e : Env} {R : Room} {s : State} {m : MethodId} {args : Array Value} {below : List Frame} {meth : Method} {c : Code}
  {T : State} {h h' : Heap} {cells slots : Nat} {k n : Nat} {Q : Option Value → Heap → Prop} {a0 : Array Value} {pc : Nat} {Ls : Array Slot} {st rest : List Value} {a b : Addr} {ty : FieldType} {vs : List Value} {v : Value} {j x : Int32}

def own_A (Z : State) (h : Heap) (a : Addr) (ty : FieldType) (vs : List Value) : Prop := ∃ cl : Cell, Arr Z h a cl ty ∧ cl.slots.toList = vs ∧ vs.length < 2 ^ 31
theorem own_A.lt (F : own_A Z h a ty vs) : a < h.size := by obtain ⟨_, A, -⟩ := F; exact A.lt
theorem own_A.ext (F : own_A Z h a ty vs) (E : Ext h h') : own_A Z h' a ty vs := by obtain ⟨cl, A, r⟩ := F; exact ⟨cl, A.ext E, r⟩
theorem own_A.other {sl : Nat} {w : Value} (F : own_A Z h b ty vs) (Wt : Wr h h' a sl w) (q : b ≠ a) : own_A Z h' b ty vs := by obtain ⟨cl, A, r⟩ := F; exact ⟨cl, A.other Wt q, r⟩
theorem own_A.keep {ws : List Addr} (F : own_A Z h a ty vs) (K : Keep h h' ws) (q : a ∉ ws) : own_A Z h' a ty vs := by obtain ⟨cl, A, r⟩ := F; exact ⟨cl, ⟨K.2.1 a cl A.1 q, A.2⟩, r⟩
theorem own_A.set {i : Nat} (F : own_A Z h a ty vs) (Wt : Wr h h' a i v) : own_A Z h' a ty (vs.set i v) := by
  obtain ⟨cl, A, r1, r2⟩ := F
  subst r1
  refine ⟨cl.setSlot i v, A.same Wt, ?_, by simpa using r2⟩
  simp [Cell.setSlot]
theorem own_A.inb {cl : Cell} {vs : List Value} (r1 : cl.slots.toList = vs) (h0 : ¬ j < 0) (hv : j.toNatClampNeg < vs.length) : ¬ (j < 0 ∨ cl.slots.size ≤ j.toNatClampNeg) := by
  rintro (q | q)
  · exact h0 q
  · subst r1; simp at hv; omega
theorem own_A.get {cl : Cell} {vs : List Value} {i : Nat} (r1 : cl.slots.toList = vs) (hv : vs[i]? = some v) : cl.slots[i]? = some v := by subst r1; simpa using hv
theorem own_A.ix {i : Nat} (hv : vs[i]? = some v) : i < vs.length := (List.getElem?_eq_some_iff.mp hv).1
theorem own_len (S : own_S Z hs W own bytes maxL ret nm p l e R s m args below meth c T h cells slots) (F : own_A Z h a ty vs) (hd : decode bytes pc = .ok (.arraylength, 1))
    (f : own_F p e below s Z hs W k n Q (T.setTop (mkF m (pc + 1) Ls (.int vs.length.toInt32 :: rest)))) : own_F p e below s Z hs W k n Q (T.setTop (mkF m pc Ls (.ref a :: rest))) := by
  have S' := S
  obtain ⟨G, locs, X, N, e0, K⟩ := S
  obtain ⟨cl, A, r1, r2⟩ := F
  have q : cl.slots.size = vs.length := by rw [← r1]; simp
  rw [← q] at f
  exact own_F.of (fun t => X.arraylength S'.hx (by rw [e0]; exact A.1) (State.isArrayOf_alike S'.hZ.alike A.2.1) (g := mkF m pc Ls (.ref a :: rest)) rfl rfl (S'.dec hd) t) f
theorem own_iald (S : own_S Z hs W own bytes maxL ret nm p l e R s m args below meth c T h cells slots) (F : own_A Z h a .int vs) (h0 : ¬ j < 0) (hv : vs[j.toNatClampNeg]? = some v) (hd : decode bytes pc = .ok (.iaload, 1))
    (f : own_F p e below s Z hs W k n Q (T.setTop (mkF m (pc + 1) Ls (v :: rest)))) : own_F p e below s Z hs W k n Q (T.setTop (mkF m pc Ls (.int j :: .ref a :: rest))) := by
  have S' := S
  obtain ⟨G, locs, X, N, e0, K⟩ := S
  obtain ⟨cl, A, r1, r2⟩ := F
  exact own_F.of (fun t => X.iaload S'.hx (by rw [e0]; exact A.1) (State.isArrayOf_alike S'.hZ.alike A.2.1) A.2.2 (own_A.inb r1 h0 (own_A.ix hv)) (own_A.get r1 hv) (g := mkF m pc Ls (.int j :: .ref a :: rest)) rfl rfl (S'.dec hd) t) f
theorem own_lald (S : own_S Z hs W own bytes maxL ret nm p l e R s m args below meth c T h cells slots) (F : own_A Z h a .long vs) (h0 : ¬ j < 0) (hv : vs[j.toNatClampNeg]? = some v) (hd : decode bytes pc = .ok (.laload, 1))
    (f : own_F p e below s Z hs W k n Q (T.setTop (mkF m (pc + 1) Ls (v :: rest)))) : own_F p e below s Z hs W k n Q (T.setTop (mkF m pc Ls (.int j :: .ref a :: rest))) := by
  have S' := S
  obtain ⟨G, locs, X, N, e0, K⟩ := S
  obtain ⟨cl, A, r1, r2⟩ := F
  exact own_F.of (fun t => X.laload S'.hx (by rw [e0]; exact A.1) (State.isArrayOf_alike S'.hZ.alike A.2.1) A.2.2 (own_A.inb r1 h0 (own_A.ix hv)) (own_A.get r1 hv) (g := mkF m pc Ls (.int j :: .ref a :: rest)) rfl rfl (S'.dec hd) t) f
theorem own_cald (S : own_S Z hs W own bytes maxL ret nm p l e R s m args below meth c T h cells slots) (F : own_A Z h a .char vs) (h0 : ¬ j < 0) (hv : vs[j.toNatClampNeg]? = some v) (hd : decode bytes pc = .ok (.caload, 1))
    (f : own_F p e below s Z hs W k n Q (T.setTop (mkF m (pc + 1) Ls (v :: rest)))) : own_F p e below s Z hs W k n Q (T.setTop (mkF m pc Ls (.int j :: .ref a :: rest))) := by
  have S' := S
  obtain ⟨G, locs, X, N, e0, K⟩ := S
  obtain ⟨cl, A, r1, r2⟩ := F
  exact own_F.of (fun t => X.caload S'.hx (by rw [e0]; exact A.1) (State.isArrayOf_alike S'.hZ.alike A.2.1) A.2.2 (own_A.inb r1 h0 (own_A.ix hv)) (own_A.get r1 hv) (g := mkF m pc Ls (.int j :: .ref a :: rest)) rfl rfl (S'.dec hd) t) f
theorem own_bald (S : own_S Z hs W own bytes maxL ret nm p l e R s m args below meth c T h cells slots) (F : own_A Z h a .byte vs) (h0 : ¬ j < 0) (hv : vs[j.toNatClampNeg]? = some v) (hd : decode bytes pc = .ok (.baload, 1))
    (f : own_F p e below s Z hs W k n Q (T.setTop (mkF m (pc + 1) Ls (v :: rest)))) : own_F p e below s Z hs W k n Q (T.setTop (mkF m pc Ls (.int j :: .ref a :: rest))) := by
  have S' := S
  obtain ⟨G, locs, X, N, e0, K⟩ := S
  obtain ⟨cl, A, r1, r2⟩ := F
  exact own_F.of (fun t => X.baloadBytes S'.hx (by rw [e0]; exact A.1) (State.isArrayOf_alike S'.hZ.alike A.2.1) A.2.2 (own_A.inb r1 h0 (own_A.ix hv)) (own_A.get r1 hv) (g := mkF m pc Ls (.int j :: .ref a :: rest)) rfl rfl (S'.dec hd) t) f
theorem own_zald (S : own_S Z hs W own bytes maxL ret nm p l e R s m args below meth c T h cells slots) (F : own_A Z h a .boolean vs) (h0 : ¬ j < 0) (hv : vs[j.toNatClampNeg]? = some v) (hd : decode bytes pc = .ok (.baload, 1))
    (f : own_F p e below s Z hs W k n Q (T.setTop (mkF m (pc + 1) Ls (v :: rest)))) : own_F p e below s Z hs W k n Q (T.setTop (mkF m pc Ls (.int j :: .ref a :: rest))) := by
  have S' := S
  obtain ⟨G, locs, X, N, e0, K⟩ := S
  obtain ⟨cl, A, r1, r2⟩ := F
  exact own_F.of (fun t => X.baloadBooleans S'.hx (by rw [e0]; exact A.1) (State.isArrayOf_alike S'.hZ.alike A.2.1) A.2.2 (own_A.inb r1 h0 (own_A.ix hv)) (own_A.get r1 hv) (g := mkF m pc Ls (.int j :: .ref a :: rest)) rfl rfl (S'.dec hd) t) f
theorem own_aald (S : own_S Z hs W own bytes maxL ret nm p l e R s m args below meth c T h cells slots) (F : own_A Z h a ty vs) (hty : ty.isReference = true) (h0 : ¬ j < 0) (hv : vs[j.toNatClampNeg]? = some v) (hd : decode bytes pc = .ok (.aaload, 1))
    (f : own_F p e below s Z hs W k n Q (T.setTop (mkF m (pc + 1) Ls (v :: rest)))) : own_F p e below s Z hs W k n Q (T.setTop (mkF m pc Ls (.int j :: .ref a :: rest))) := by
  have S' := S
  obtain ⟨G, locs, X, N, e0, K⟩ := S
  obtain ⟨cl, A, r1, r2⟩ := F
  exact own_F.of (fun t => X.aaload S'.hx (by rw [e0]; exact A.1) (State.isArrayOf_alike S'.hZ.alike A.2.1) hty A.2.2 (own_A.inb r1 h0 (own_A.ix hv)) (own_A.get r1 hv) (g := mkF m pc Ls (.int j :: .ref a :: rest)) rfl rfl (S'.dec hd) t) f
theorem own_ist (S : own_S Z hs W own bytes maxL ret nm p l e R s m args below meth c T h cells slots) (F : own_A Z h a .int vs) (h0 : ¬ j < 0) (hv : j.toNatClampNeg < vs.length) (hd : decode bytes pc = .ok (.iastore, 1)) (ok : a ∈ W ∨ hs.size ≤ a)
    (f : ∀ T' h', own_S Z hs W own bytes maxL ret nm p l e R s m args below meth c T' h' cells slots → Wr h h' a j.toNatClampNeg (.int x) → own_A Z h' a .int (vs.set j.toNatClampNeg (.int x)) → own_F p e below s Z hs W k n Q (T'.setTop (mkF m (pc + 1) Ls rest))) : own_F p e below s Z hs W k n Q (T.setTop (mkF m pc Ls (.int x :: .int j :: .ref a :: rest))) := by
  have S' := S; have F' := F
  obtain ⟨G, locs, X, N, e0, K⟩ := S
  obtain ⟨cl, A, r1, r2⟩ := F
  obtain ⟨T', h', X', e', Wt, stp⟩ := stI X S'.hx S'.hZ e0 A (own_A.inb r1 h0 hv) (g := mkF m pc Ls (.int x :: .int j :: .ref a :: rest)) rfl rfl (S'.dec hd)
  exact own_F.of stp (f T' h' ⟨G, _, X', Fr.snoc X' N (S'.may ok), e', K.wr Wt ok⟩ Wt (F'.set Wt))
theorem own_jst {x : Int64} (S : own_S Z hs W own bytes maxL ret nm p l e R s m args below meth c T h cells slots) (F : own_A Z h a .long vs) (h0 : ¬ j < 0) (hv : j.toNatClampNeg < vs.length) (hd : decode bytes pc = .ok (.lastore, 1)) (ok : a ∈ W ∨ hs.size ≤ a)
    (f : ∀ T' h', own_S Z hs W own bytes maxL ret nm p l e R s m args below meth c T' h' cells slots → Wr h h' a j.toNatClampNeg (.long x) → own_A Z h' a .long (vs.set j.toNatClampNeg (.long x)) → own_F p e below s Z hs W k n Q (T'.setTop (mkF m (pc + 1) Ls rest))) : own_F p e below s Z hs W k n Q (T.setTop (mkF m pc Ls (.long x :: .int j :: .ref a :: rest))) := by
  have S' := S; have F' := F
  obtain ⟨G, locs, X, N, e0, K⟩ := S
  obtain ⟨cl, A, r1, r2⟩ := F
  obtain ⟨T', h', X', e', Wt, stp⟩ := stJ X S'.hx S'.hZ e0 A (own_A.inb r1 h0 hv) (g := mkF m pc Ls (.long x :: .int j :: .ref a :: rest)) rfl rfl (S'.dec hd)
  exact own_F.of stp (f T' h' ⟨G, _, X', Fr.snoc X' N (S'.may ok), e', K.wr Wt ok⟩ Wt (F'.set Wt))
theorem own_cst (S : own_S Z hs W own bytes maxL ret nm p l e R s m args below meth c T h cells slots) (F : own_A Z h a .char vs) (h0 : ¬ j < 0) (hv : j.toNatClampNeg < vs.length) (hd : decode bytes pc = .ok (.castore, 1)) (ok : a ∈ W ∨ hs.size ≤ a)
    (f : ∀ T' h', own_S Z hs W own bytes maxL ret nm p l e R s m args below meth c T' h' cells slots → Wr h h' a j.toNatClampNeg (.int (nar .char x)) → own_A Z h' a .char (vs.set j.toNatClampNeg (.int (nar .char x))) → own_F p e below s Z hs W k n Q (T'.setTop (mkF m (pc + 1) Ls rest))) : own_F p e below s Z hs W k n Q (T.setTop (mkF m pc Ls (.int x :: .int j :: .ref a :: rest))) := by
  have S' := S; have F' := F
  obtain ⟨G, locs, X, N, e0, K⟩ := S
  obtain ⟨cl, A, r1, r2⟩ := F
  obtain ⟨T', h', X', e', Wt, stp⟩ := stC X S'.hx S'.hZ e0 A (own_A.inb r1 h0 hv) (g := mkF m pc Ls (.int x :: .int j :: .ref a :: rest)) rfl rfl (S'.dec hd)
  exact own_F.of stp (f T' h' ⟨G, _, X', Fr.snoc X' N (S'.may ok), e', K.wr Wt ok⟩ Wt (F'.set Wt))
theorem own_bst (S : own_S Z hs W own bytes maxL ret nm p l e R s m args below meth c T h cells slots) (F : own_A Z h a .byte vs) (h0 : ¬ j < 0) (hv : j.toNatClampNeg < vs.length) (hd : decode bytes pc = .ok (.bastore, 1)) (ok : a ∈ W ∨ hs.size ≤ a)
    (f : ∀ T' h', own_S Z hs W own bytes maxL ret nm p l e R s m args below meth c T' h' cells slots → Wr h h' a j.toNatClampNeg (.int (nar .byte x)) → own_A Z h' a .byte (vs.set j.toNatClampNeg (.int (nar .byte x))) → own_F p e below s Z hs W k n Q (T'.setTop (mkF m (pc + 1) Ls rest))) : own_F p e below s Z hs W k n Q (T.setTop (mkF m pc Ls (.int x :: .int j :: .ref a :: rest))) := by
  have S' := S; have F' := F
  obtain ⟨G, locs, X, N, e0, K⟩ := S
  obtain ⟨cl, A, r1, r2⟩ := F
  obtain ⟨T', h', X', e', Wt, stp⟩ := stB X S'.hx S'.hZ e0 A (own_A.inb r1 h0 hv) (g := mkF m pc Ls (.int x :: .int j :: .ref a :: rest)) rfl rfl (S'.dec hd)
  exact own_F.of stp (f T' h' ⟨G, _, X', Fr.snoc X' N (S'.may ok), e', K.wr Wt ok⟩ Wt (F'.set Wt))
theorem own_zst (S : own_S Z hs W own bytes maxL ret nm p l e R s m args below meth c T h cells slots) (F : own_A Z h a .boolean vs) (h0 : ¬ j < 0) (hv : j.toNatClampNeg < vs.length) (hd : decode bytes pc = .ok (.bastore, 1)) (ok : a ∈ W ∨ hs.size ≤ a)
    (f : ∀ T' h', own_S Z hs W own bytes maxL ret nm p l e R s m args below meth c T' h' cells slots → Wr h h' a j.toNatClampNeg (.int (nar .boolean x)) → own_A Z h' a .boolean (vs.set j.toNatClampNeg (.int (nar .boolean x))) → own_F p e below s Z hs W k n Q (T'.setTop (mkF m (pc + 1) Ls rest))) : own_F p e below s Z hs W k n Q (T.setTop (mkF m pc Ls (.int x :: .int j :: .ref a :: rest))) := by
  have S' := S; have F' := F
  obtain ⟨G, locs, X, N, e0, K⟩ := S
  obtain ⟨cl, A, r1, r2⟩ := F
  obtain ⟨T', h', X', e', Wt, stp⟩ := stZ X S'.hx S'.hZ e0 A (own_A.inb r1 h0 hv) (g := mkF m pc Ls (.int x :: .int j :: .ref a :: rest)) rfl rfl (S'.dec hd)
  exact own_F.of stp (f T' h' ⟨G, _, X', Fr.snoc X' N (S'.may ok), e', K.wr Wt ok⟩ Wt (F'.set Wt))
theorem own_newP (S : own_S Z hs W own bytes maxL ret nm p l e R s m args below meth c T h cells slots) {aty : ArrayType} {z : Int32} (w : (Jvm.Cond.arrayClass (newarray.typeOf aty)).before a0 Z = true) (hd : decode bytes pc = .ok (.newarray aty, 2)) (hz : ¬ z < 0) {cap : Nat} (hcap : z.toNatClampNeg ≤ cap) (hb : cap * 8 ≤ 536870912) (hc : cells + 1 ≤ R.cells) (hl : slots + cap ≤ R.slots)
    (f : ∀ T' h' a, a = h.size → own_S Z hs W own bytes maxL ret nm p l e R s m args below meth c T' h' (cells + 1) (slots + cap) → Ext h h' → own_A Z h' a (newarray.typeOf aty) (List.replicate z.toNatClampNeg (defaultValue (newarray.typeOf aty))) → own_F p e below s Z hs W k n Q (T'.setTop (mkF m (pc + 2) Ls (.ref a :: rest)))) : own_F p e below s Z hs W k n Q (T.setTop (mkF m pc Ls (.int z :: rest))) := by
  have S' := S
  obtain ⟨G, locs, X, N, e0, K⟩ := S
  obtain ⟨T', h', cA, X', e', E, A, stp⟩ := newP X S'.hx S'.hZ w e0 (g := mkF m pc Ls (.int z :: rest)) rfl (S'.dec hd) rfl hz hcap hb hc hl
  refine own_F.of stp (f T' h' _ rfl ⟨G, _, X', N, e', K.ext E⟩ E ⟨_, A, by simp [newA], ?_⟩)
  have := (back32 hz).2
  simpa using this
/-- an array that stands at the start -/
theorem own_A.start {t : Term} {z : Int32} (ev : t.eval a0 Z none [] Z = some (.ref a)) (hx : (Jvm.Cond.arrayOf t ty).value a0 Z none Z [] = some true) (hl : (Jvm.Cond.eq (.length t) (.int z)).value a0 Z none Z [] = some true) : ∃ cl : Cell, Arr Z Z.heap a cl ty ∧ cl.slots.size < 2 ^ 31 ∧ cl.slots.size.toInt32 = z ∧ Z.arrayAt? a = some cl := by
  obtain ⟨cl, A⟩ := Arr.start ev hx
  have q := A.fin (Vm.Alike.refl _)
  refine ⟨cl, A, ?_, ?_, q⟩
  all_goals
    obtain ⟨u, w, h1, h2, -⟩ := cmp_v (Or.inl hl)
    have h1' : (if cl.slots.size < 2 ^ 31 then some (Value.int cl.slots.size.toInt32) else none) = some u := by simpa [Term.eval, ev, q] using h1
    by_cases g : cl.slots.size < 2 ^ 31
    · first
        | exact g
        | (have e1 : u = .int cl.slots.size.toInt32 := by simpa [g] using h1'.symm
           have e2 : w = .int z := by simpa [Term.eval] using h2.symm
           subst e1 e2
           exact gotT (Cond.eq_ints h1 h2) hl)
    · simp [g] at h1'
end OwnArrays
/-! OWN: the caches of boxes -/
section OwnBoxes
variable {Z : State} {hs : Heap} {W : List Addr} {own : String} {bytes : ByteArray} {maxL : Nat} {ret : Option FieldType} {nm : String}
  {p : Program} {l : Launch} {e : Env} {R : Room} {s : State} {m : MethodId} {args : Array Value} {below : List Frame} {meth : Method} {c : Code}
  {T : State} {h : Heap} {cells slots : Nat} {k n : Nat} {Q : Option Value → Heap → Prop} {a0 : Array Value} {pc : Nat} {Ls : Array Slot} {st rest : List Value} {a : Addr} {j z : Int32} {K d : String} {val : Int32 → Value} {cl : Cell}
theorem own_bxald (S : own_S Z hs W own bytes maxL ret nm p l e R s m args below meth c T h cells slots) (B : Bxs Z a cl K d z val) (h0 : ¬ j < 0) (h1 : j < z) (hd : decode bytes pc = .ok (.aaload, 1))
    (f : ∀ box, Exa Z Z.heap box K → Fld Z Z.heap box K "value" d (val j) → own_F p e below s Z hs W k n Q (T.setTop (mkF m (pc + 1) Ls (.ref box :: rest)))) : own_F p e below s Z hs W k n Q (T.setTop (mkF m pc Ls (.int j :: .ref a :: rest))) := by
  have S' := S
  obtain ⟨G, locs, X, N, e0, Kp⟩ := S
  obtain ⟨A, q1, q2⟩ := B.ext S'.old
  have hin := inb_of (j := j) q1 ⟨h0, h1⟩
  obtain ⟨box, r1, r2, r3⟩ := B.2.2.2 j hin
  exact own_F.of (fun t => X.aaload S'.hx (by rw [e0]; exact A.1) (State.isArrayOf_alike S'.hZ.alike A.2.1) rfl A.2.2 hin r1 (g := mkF m pc Ls (.int j :: .ref a :: rest)) rfl rfl (S'.dec hd) t) (f box r2 r3)
theorem own_staI {C fn dd : String} {v : Int32} (hx : (Jvm.Cond.eq (.static C fn dd) (.int v)).value a0 Z none Z [] = some true) (wi : (Jvm.Cond.initializedFor C fn dd).before a0 Z = true ∨ ((Jvm.Cond.initialized C).before a0 Z = true ∧ (Jvm.Cond.laysStatic C fn dd).before a0 Z = true)) : Sta Z Z.heap C fn dd (.int v) :=
  Sta.start (eqv_i rfl hx) wi
theorem own_sub_at {i : Nat} {v : Int32} (h0 : ¬ j < 0) : (Term.sub (.index 0) (.int v)).eval a0 Z none [j.toNatClampNeg] Z = some (.int (j - v)) := by
  have h1 : (Term.index 0).eval a0 Z none [j.toNatClampNeg] Z = some (.int j) := idx_at h0
  simp only [Term.eval] at h1
  simp only [Term.eval]
  rw [h1]; rfl
end OwnBoxes

theorem own_w {a0 : Array Value} {Z : State} (hw : ∀ d ∈ tables_1, d.before a0 Z = true) {d : Jvm.Cond} (i : Nat) (q : tables_1[i]? = some d) : d.before a0 Z = true := hw _ (List.mem_of_getElem? q)

theorem own_mayN {Z : State} {hs : Heap} {W : List Addr} {own : String} {bytes : ByteArray} {maxL : Nat} {ret : Option FieldType} {nm : String} {p : Program} {l : Launch} {e : Env} {R : Room} {s : State} {m : MethodId} {args : Array Value} {below : List Frame} {meth : Method} {c : Code} {T : State} {h : Heap} {cells slots : Nat}
    (S : own_S Z hs W own bytes maxL ret nm p l e R s m args below meth c T h cells slots) {a : Addr} (q : a ∈ W ∨ hs.size ≤ a) : Z.heap.size ≤ a := S.may q

def own_lu (x : Int64) : Int32 := if lcmpW x 2147483647 = 0 then 1 else 0

theorem d6_0 : decode jdk_18_method_1_code 0 = .ok (.aload_n 0, 1) := by decide +kernel
theorem d6_1 : decode jdk_18_method_1_code 1 = .ok (.invokespecial 1, 3) := by decide +kernel
theorem d6_4 : decode jdk_18_method_1_code 4 = .ok (.return_, 1) := by decide +kernel
theorem pn6 : plainFor (⟨"java/lang/Number", "<init>", "()V"⟩ : MethodName) = true := plainFor_of_name (by first | (simp [plainName, overriddenIn]; done) | decide +kernel)
set_option maxRecDepth 65536 in
set_option maxHeartbeats 40000000 in
theorem own_NumInit (l : Launch) (Z : State) (a0 : Array Value) (hw : ∀ d ∈ tables_1, d.before a0 Z = true) (a1 : Addr) (h0 : Heap) (hO : Ext Z.heap h0) :
    own_C l Z (⟨"java/lang/Number", "<init>", "()V"⟩ : MethodName) jdk_18_method_1_code 1 none [] ({ frames := 1, cells := 0, slots := 0, locals := 12 } : Room) [] #[(.ref a1)] h0 (fun v h => v = none ∧ h0 = h) := by
  refine own_C.of pn6 hO all0 ?_
  intro p e s m below meth c T0 S0
  refine own_F.cast (by first | (simp [entryFrame, mkF, argsToLocals, Value.category]; done) | rfl : entryFrame m #[(.ref a1)] 1 = mkF m 0 #[.val (.ref a1)] []) ?_
  show own_F p e below s Z _ _ _ _ _ (T0.setTop (mkF m 0 #[.val (.ref a1)] []))
  refine own_F.of (fun _ => XS.aloadN S0.here S0.hx rfl (S0.dec d6_0) rfl rfl) ?_
  show own_F p e below s Z _ _ _ _ _ (T0.setTop (mkF m 1 #[.val (.ref a1)] [(.ref a1)]))
  refine own_initO S0 (own_w hw 37 rfl) (own_w hw 7 rfl) (own_w hw 8 rfl) rfl d6_1 (by decide) (Nat.le_of_ble_eq_true rfl) (fun T1 S1 => ?_)
  show own_F p e below s Z _ _ _ _ _ (T1.setTop (mkF m 4 #[.val (.ref a1)] []))
  refine own_retV S1 d6_4 (by decide) (by decide) ?_
  exact ⟨rfl, rfl⟩
theorem d5_0 : decode jdk_33_method_23_code 0 = .ok (.aload_n 0, 1) := by decide +kernel
theorem d5_1 : decode jdk_33_method_23_code 1 = .ok (.invokespecial 202, 3) := by decide +kernel
theorem d5_4 : decode jdk_33_method_23_code 4 = .ok (.aload_n 0, 1) := by decide +kernel
theorem d5_5 : decode jdk_33_method_23_code 5 = .ok (.iload_n 1, 1) := by decide +kernel
theorem d5_6 : decode jdk_33_method_23_code 6 = .ok (.putfield 205, 3) := by decide +kernel
theorem d5_9 : decode jdk_33_method_23_code 9 = .ok (.return_, 1) := by decide +kernel
theorem pn5 : plainFor (⟨"java/lang/Integer", "<init>", "(I)V"⟩ : MethodName) = true := plainFor_of_name (by first | (simp [plainName, overriddenIn]; done) | decide +kernel)
set_option maxRecDepth 65536 in
set_option maxHeartbeats 40000000 in
theorem own_BoxInitI (l : Launch) (Z : State) (a0 : Array Value) (hw : ∀ d ∈ tables_1, d.before a0 Z = true) (a1 : Addr) (p2 : Int32) (x0 : Int32) (h0 : Heap) (hO : Ext Z.heap h0) (ga : Z.heap.size ≤ a1) (E_a1 : Exa Z h0 a1 "java/lang/Integer") (F_value : Fld Z h0 a1 "java/lang/Integer" "value" "I" (.int x0)) :
    own_C l Z (⟨"java/lang/Integer", "<init>", "(I)V"⟩ : MethodName) jdk_33_method_23_code 2 none [] ({ frames := 2, cells := 0, slots := 0, locals := 24 } : Room) [a1] #[(.ref a1), (.int p2)] h0 (fun v h => v = none ∧ Fld Z h a1 "java/lang/Integer" "value" "I" (.int p2)) := by
  refine own_C.of pn5 hO (allS ga all0) ?_
  intro p e s m below meth c T0 S0
  refine own_F.cast (by first | (simp [entryFrame, mkF, argsToLocals, Value.category]; done) | rfl : entryFrame m #[(.ref a1), (.int p2)] 2 = mkF m 0 #[.val (.ref a1), .val (.int p2)] []) ?_
  show own_F p e below s Z _ _ _ _ _ (T0.setTop (mkF m 0 #[.val (.ref a1), .val (.int p2)] []))
  refine own_F.of (fun _ => XS.aloadN S0.here S0.hx rfl (S0.dec d5_0) rfl rfl) ?_
  show own_F p e below s Z _ _ _ _ _ (T0.setTop (mkF m 1 #[.val (.ref a1), .val (.int p2)] [(.ref a1)]))
  refine own_callI S0 (y := (⟨"java/lang/Number", "<init>", "()V"⟩ : MethodName)) rfl (own_w hw 31 rfl) (own_w hw 32 rfl) (own_w hw 35 rfl) (own_w hw 36 rfl) (by decide) (argsL := []) (rest := []) (own_NumInit l Z a0 hw a1 h0 S0.old) all0 (by decide +kernel : parseMethodDescriptor "()V" = some ⟨[], none⟩) rfl rfl rfl d5_1 (by decide) (Nat.le_of_ble_eq_true rfl) (by decide) (by decide) (fun T1 h1 v1 S1 K1 q1 => ?_)
  obtain ⟨rfl, rfl⟩ := q1
  show own_F p e below s Z _ _ _ _ _ (T1.setTop (mkF m 4 #[.val (.ref a1), .val (.int p2)] []))
  refine own_F.of (fun _ => XS.aloadN S1.here S1.hx rfl (S1.dec d5_4) rfl rfl) ?_
  show own_F p e below s Z _ _ _ _ _ (T1.setTop (mkF m 5 #[.val (.ref a1), .val (.int p2)] [(.ref a1)]))
  refine own_F.of (fun _ => XS.iloadN S1.here S1.hx rfl (S1.dec d5_5) rfl) ?_
  show own_F p e below s Z _ _ _ _ _ (T1.setTop (mkF m 6 #[.val (.ref a1), .val (.int p2)] [(.int p2), (.ref a1)]))
  refine own_putF S1 (host := "") (Or.inl (own_w hw 38 rfl)) Via.refl F_value E_a1 (Or.inr ⟨(own_w hw 39 rfl), rfl, rfl⟩) (own_w hw 26 rfl) (ty := .int) (by decide) rfl rfl d5_6 (Or.inl (List.mem_of_getElem? (i := 0) rfl)) (fun T2 h2 S2 W2 => ?_)
  have Fw2 := F_value.same W2
  show own_F p e below s Z _ _ _ _ _ (T2.setTop (mkF m 9 #[.val (.ref a1), .val (.int p2)] []))
  refine own_retV S2 d5_9 (by decide) (by decide) ?_
  exact ⟨rfl, Fw2⟩
theorem d4_0 : decode jdk_33_method_22_code 0 = .ok (.iload_n 0, 1) := by decide +kernel
theorem d4_1 : decode jdk_33_method_22_code 1 = .ok (.bipush (-128), 2) := by decide +kernel
theorem d4_3 : decode jdk_33_method_22_code 3 = .ok (.if_icmp .lt 20, 3) := by decide +kernel
theorem d4_6 : decode jdk_33_method_22_code 6 = .ok (.iload_n 0, 1) := by decide +kernel
theorem d4_7 : decode jdk_33_method_22_code 7 = .ok (.getstatic 191, 3) := by decide +kernel
theorem d4_10 : decode jdk_33_method_22_code 10 = .ok (.if_icmp .gt 13, 3) := by decide +kernel
theorem d4_13 : decode jdk_33_method_22_code 13 = .ok (.getstatic 195, 3) := by decide +kernel
theorem d4_16 : decode jdk_33_method_22_code 16 = .ok (.iload_n 0, 1) := by decide +kernel
theorem d4_17 : decode jdk_33_method_22_code 17 = .ok (.sipush 128, 3) := by decide +kernel
theorem d4_20 : decode jdk_33_method_22_code 20 = .ok (.iadd, 1) := by decide +kernel
theorem d4_21 : decode jdk_33_method_22_code 21 = .ok (.aaload, 1) := by decide +kernel
theorem d4_22 : decode jdk_33_method_22_code 22 = .ok (.areturn, 1) := by decide +kernel
theorem d4_23 : decode jdk_33_method_22_code 23 = .ok (.new 1, 3) := by decide +kernel
theorem d4_26 : decode jdk_33_method_22_code 26 = .ok (.dup, 1) := by decide +kernel
theorem d4_27 : decode jdk_33_method_22_code 27 = .ok (.iload_n 0, 1) := by decide +kernel
theorem d4_28 : decode jdk_33_method_22_code 28 = .ok (.invokespecial 199, 3) := by decide +kernel
theorem d4_31 : decode jdk_33_method_22_code 31 = .ok (.areturn, 1) := by decide +kernel
theorem pn4 : plainFor (⟨"java/lang/Integer", "valueOf", "(I)Ljava/lang/Integer;"⟩ : MethodName) = true := plainFor_of_name (by first | (simp [plainName, overriddenIn]; done) | decide +kernel)
theorem own_eqFI {Z : State} {h : Heap} {a : Addr} {x y : Int32} (q : x = y) (F : Fld Z h a "java/lang/Integer" "value" "I" (.int x)) : Fld Z h a "java/lang/Integer" "value" "I" (.int y) := q ▸ F
theorem own_bxI0 {x : Int32} (h1 : ¬ x < -128) (h2 : ¬ 127 < x) : ¬ x + 128 < 0 ∧ x + 128 < 256 ∧ x + 128 - 128 = x := by
  have a1 := c_iadd x 128
  rw [Int32.lt_iff_toInt_lt] at h1 h2
  have e1 : (128 : Int32).toInt = 128 := rfl
  have e2 : (-128 : Int32).toInt = -128 := rfl
  have e3 : (127 : Int32).toInt = 127 := rfl
  have e4 : (256 : Int32).toInt = 256 := rfl
  have e5 : (0 : Int32).toInt = 0 := rfl
  have r1 := rng32 x
  have r2 := rng32 (x + 128)
  refine ⟨?_, ?_, ?_⟩
  · rw [Int32.lt_iff_toInt_lt]; omega
  · rw [Int32.lt_iff_toInt_lt]; omega
  · exact Int32.add_sub_cancel x 128
set_option maxRecDepth 65536 in
set_option maxHeartbeats 40000000 in
theorem own_vOfI (l : Launch) (Z : State) (a0 : Array Value) (hw : ∀ d ∈ tables_1, d.before a0 Z = true) (p1 : Int32) (aC : Addr) (clC : Cell) (h0 : Heap) (hO : Ext Z.heap h0) (SHi : Sta Z Z.heap "java/lang/Integer$IntegerCache" "high" "I" (.int 127)) (SCa : Sta Z Z.heap "java/lang/Integer$IntegerCache" "cache" "[Ljava/lang/Integer;" (.ref aC)) (BX : Bxs Z aC clC "java/lang/Integer" "I" 256 (fun j => .int (j - 128))) :
    own_C l Z (⟨"java/lang/Integer", "valueOf", "(I)Ljava/lang/Integer;"⟩ : MethodName) jdk_33_method_22_code 1 (some (.object "java/lang/Integer")) [] ({ frames := 3, cells := 1, slots := 1, locals := 42 } : Room) [] #[(.int p1)] h0 (fun v h => ∃ b, v = some (.ref b) ∧ Exa Z h b "java/lang/Integer" ∧ Fld Z h b "java/lang/Integer" "value" "I" (.int p1)) := by
  refine own_C.of pn4 hO all0 ?_
  intro p e s m below meth c T0 S0
  refine own_F.cast (by first | (simp [entryFrame, mkF, argsToLocals, Value.category]; done) | rfl : entryFrame m #[(.int p1)] 1 = mkF m 0 #[.val (.int p1)] []) ?_
  show own_F p e below s Z _ _ _ _ _ (T0.setTop (mkF m 0 #[.val (.int p1)] []))
  refine own_F.of (fun _ => XS.iloadN S0.here S0.hx rfl (S0.dec d4_0) rfl) ?_
  show own_F p e below s Z _ _ _ _ _ (T0.setTop (mkF m 1 #[.val (.int p1)] [(.int p1)]))
  refine own_F.of (fun _ => XS.bipush S0.here S0.hx rfl (S0.dec d4_1)) ?_
  show own_F p e below s Z _ _ _ _ _ (T0.setTop (mkF m 3 #[.val (.int p1)] [(.int (-128 : Int32)), (.int p1)]))
  refine own_icmp S0 23 d4_3 (by decide) (by decide) (fun (hc3_1 : p1 < (-128 : Int32)) => ?_) (fun (hc3_1 : ¬ (p1 < (-128 : Int32))) => ?_)
  · show own_F p e below s Z _ _ _ _ _ (T0.setTop (mkF m 23 #[.val (.int p1)] []))
    refine own_new S0 (own_w hw 25 rfl) (own_w hw 26 rfl) (own_w hw 20 rfl) d4_23 (by decide) (by decide) (fun T2 h2 b2 g2 S2 E2 A2 D2 => ?_)
    have F2_value : Fld Z h2 b2 "java/lang/Integer" "value" "I" (.int (0 : Int32)) := (D2 (Or.inr (own_w hw 39 rfl)) (ty := .int) (by decide))
    show own_F p e below s Z _ _ _ _ _ (T2.setTop (mkF m 26 #[.val (.int p1)] [(.ref b2)]))
    refine own_F.of (fun _ => XS.dup S2.here S2.hx rfl (S2.dec d4_26) rfl rfl) ?_
    show own_F p e below s Z _ _ _ _ _ (T2.setTop (mkF m 27 #[.val (.int p1)] [(.ref b2), (.ref b2)]))
    refine own_F.of (fun _ => XS.iloadN S2.here S2.hx rfl (S2.dec d4_27) rfl) ?_
    show own_F p e below s Z _ _ _ _ _ (T2.setTop (mkF m 28 #[.val (.int p1)] [(.int p1), (.ref b2), (.ref b2)]))
    refine own_callI S2 (y := (⟨"java/lang/Integer", "<init>", "(I)V"⟩ : MethodName)) rfl (own_w hw 27 rfl) (own_w hw 28 rfl) (own_w hw 20 rfl) (own_w hw 30 rfl) (by decide) (argsL := [(.int p1)]) (rest := [(.ref b2)]) (own_BoxInitI l Z a0 hw b2 p1 _ h2 S2.old (own_mayN S2 (Or.inr (by rw [g2]; exact S0.size))) A2 F2_value) (allS (Or.inr (by rw [g2]; exact S0.size)) all0) (by decide +kernel : parseMethodDescriptor "(I)V" = some ⟨[.int], none⟩) rfl rfl rfl d4_28 (by decide) (Nat.le_of_ble_eq_true rfl) (by decide) (by decide) (fun T3 h3 v3 S3 K3 q3 => ?_)
    obtain ⟨rfl, F3⟩ := q3
    show own_F p e below s Z _ _ _ _ _ (T3.setTop (mkF m 31 #[.val (.int p1)] [(.ref b2)]))
    have f4 := (A2.keep K3)
    refine own_retA S3 rfl rfl d4_31 (by decide) (by decide) ?_
    exact ⟨_, rfl, f4, F3⟩
  · show own_F p e below s Z _ _ _ _ _ (T0.setTop (mkF m 6 #[.val (.int p1)] []))
    refine own_F.of (fun _ => XS.iloadN S0.here S0.hx rfl (S0.dec d4_6) rfl) ?_
    show own_F p e below s Z _ _ _ _ _ (T0.setTop (mkF m 7 #[.val (.int p1)] [(.int p1)]))
    refine own_getS S0 (host := "") (Or.inl (own_w hw 22 rfl)) Via.refl (SHi.ext S0.old) d4_7 (fun T5 S5 => ?_)
    show own_F p e below s Z _ _ _ _ _ (T5.setTop (mkF m 10 #[.val (.int p1)] [(.int (127 : Int32)), (.int p1)]))
    refine own_icmp S5 23 d4_10 (by decide) (by decide) (fun (hc10_6 : (127 : Int32) < p1) => ?_) (fun (hc10_6 : ¬ ((127 : Int32) < p1)) => ?_)
    · show own_F p e below s Z _ _ _ _ _ (T5.setTop (mkF m 23 #[.val (.int p1)] []))
      refine own_new S5 (own_w hw 25 rfl) (own_w hw 26 rfl) (own_w hw 20 rfl) d4_23 (by decide) (by decide) (fun T7 h7 b7 g7 S7 E7 A7 D7 => ?_)
      have F7_value : Fld Z h7 b7 "java/lang/Integer" "value" "I" (.int (0 : Int32)) := (D7 (Or.inr (own_w hw 39 rfl)) (ty := .int) (by decide))
      show own_F p e below s Z _ _ _ _ _ (T7.setTop (mkF m 26 #[.val (.int p1)] [(.ref b7)]))
      refine own_F.of (fun _ => XS.dup S7.here S7.hx rfl (S7.dec d4_26) rfl rfl) ?_
      show own_F p e below s Z _ _ _ _ _ (T7.setTop (mkF m 27 #[.val (.int p1)] [(.ref b7), (.ref b7)]))
      refine own_F.of (fun _ => XS.iloadN S7.here S7.hx rfl (S7.dec d4_27) rfl) ?_
      show own_F p e below s Z _ _ _ _ _ (T7.setTop (mkF m 28 #[.val (.int p1)] [(.int p1), (.ref b7), (.ref b7)]))
      refine own_callI S7 (y := (⟨"java/lang/Integer", "<init>", "(I)V"⟩ : MethodName)) rfl (own_w hw 27 rfl) (own_w hw 28 rfl) (own_w hw 20 rfl) (own_w hw 30 rfl) (by decide) (argsL := [(.int p1)]) (rest := [(.ref b7)]) (own_BoxInitI l Z a0 hw b7 p1 _ h7 S7.old (own_mayN S7 (Or.inr (by rw [g7]; exact S5.size))) A7 F7_value) (allS (Or.inr (by rw [g7]; exact S5.size)) all0) (by decide +kernel : parseMethodDescriptor "(I)V" = some ⟨[.int], none⟩) rfl rfl rfl d4_28 (by decide) (Nat.le_of_ble_eq_true rfl) (by decide) (by decide) (fun T8 h8 v8 S8 K8 q8 => ?_)
      obtain ⟨rfl, F8⟩ := q8
      show own_F p e below s Z _ _ _ _ _ (T8.setTop (mkF m 31 #[.val (.int p1)] [(.ref b7)]))
      have f9 := (A7.keep K8)
      refine own_retA S8 rfl rfl d4_31 (by decide) (by decide) ?_
      exact ⟨_, rfl, f9, F8⟩
    · show own_F p e below s Z _ _ _ _ _ (T5.setTop (mkF m 13 #[.val (.int p1)] []))
      refine own_getS S5 (host := "") (Or.inl (own_w hw 24 rfl)) Via.refl (SCa.ext S5.old) d4_13 (fun T10 S10 => ?_)
      show own_F p e below s Z _ _ _ _ _ (T10.setTop (mkF m 16 #[.val (.int p1)] [(.ref aC)]))
      refine own_F.of (fun _ => XS.iloadN S10.here S10.hx rfl (S10.dec d4_16) rfl) ?_
      show own_F p e below s Z _ _ _ _ _ (T10.setTop (mkF m 17 #[.val (.int p1)] [(.int p1), (.ref aC)]))
      refine own_F.of (fun _ => XS.sipush S10.here S10.hx rfl (S10.dec d4_17)) ?_
      show own_F p e below s Z _ _ _ _ _ (T10.setTop (mkF m 20 #[.val (.int p1)] [(.int (128 : Int32)), (.int p1), (.ref aC)]))
      refine own_F.of (fun _ => XS.iadd S10.here S10.hx rfl (S10.dec d4_20) rfl) ?_
      show own_F p e below s Z _ _ _ _ _ (T10.setTop (mkF m 21 #[.val (.int p1)] [(.int (p1 + (128 : Int32))), (.ref aC)]))
      refine own_bxald S10 BX (own_bxI0 hc3_1 hc10_6).1 (own_bxI0 hc3_1 hc10_6).2.1 d4_21 (fun b11 X11 F11 => ?_)
      show own_F p e below s Z _ _ _ _ _ (T10.setTop (mkF m 22 #[.val (.int p1)] [(.ref b11)]))
      refine own_retA S10 rfl rfl d4_22 (by decide) (by decide) ?_
      exact ⟨_, rfl, X11.ext S10.old, own_eqFI (own_bxI0 hc3_1 hc10_6).2.2 (F11.ext S10.old)⟩
theorem d1_0 : decode prog_64_method_1_code 0 = .ok (.aload_n 0, 1) := by decide +kernel
theorem d1_1 : decode prog_64_method_1_code 1 = .ok (.invokespecial 3, 3) := by decide +kernel
theorem d1_4 : decode prog_64_method_1_code 4 = .ok (.aload_n 0, 1) := by decide +kernel
theorem d1_5 : decode prog_64_method_1_code 5 = .ok (.aload_n 1, 1) := by decide +kernel
theorem d1_6 : decode prog_64_method_1_code 6 = .ok (.putfield 9, 3) := by decide +kernel
theorem d1_9 : decode prog_64_method_1_code 9 = .ok (.return_, 1) := by decide +kernel
theorem pn1 : plainFor (⟨"com/example/manysort/manysort/language/Naturals", "<init>", "(Ljava/lang/Integer;)V"⟩ : MethodName) = true := plainFor_of_name (by first | (simp [plainName, overriddenIn]; done) | decide +kernel)
set_option maxRecDepth 65536 in
set_option maxHeartbeats 40000000 in
theorem own_NatInit (l : Launch) (Z : State) (a0 : Array Value) (hw : ∀ d ∈ tables_1, d.before a0 Z = true) (a1 : Addr) (v2 : Value) (h0 : Heap) (hO : Ext Z.heap h0) (hv : v2.isRef = true) (ga : Z.heap.size ≤ a1) (E_a1 : Exa Z h0 a1 "com/example/manysort/manysort/language/Naturals") (F_maxint : Fld Z h0 a1 "com/example/manysort/manysort/language/Naturals" "maxint" "Ljava/lang/Integer;" .null) :
    own_C l Z (⟨"com/example/manysort/manysort/language/Naturals", "<init>", "(Ljava/lang/Integer;)V"⟩ : MethodName) prog_64_method_1_code 2 none [] ({ frames := 1, cells := 0, slots := 0, locals := 12 } : Room) [a1] #[(.ref a1), v2] h0 (fun v h => v = none ∧ Fld Z h a1 "com/example/manysort/manysort/language/Naturals" "maxint" "Ljava/lang/Integer;" v2) := by
  refine own_C.of pn1 hO (allS ga all0) ?_
  intro p e s m below meth c T0 S0
  refine own_F.cast (by rcases XT.refc hv with rfl | ⟨_, rfl⟩ <;> first | (simp [entryFrame, mkF, argsToLocals, Value.category]; done) | rfl : entryFrame m #[(.ref a1), v2] 2 = mkF m 0 #[.val (.ref a1), .val v2] []) ?_
  show own_F p e below s Z _ _ _ _ _ (T0.setTop (mkF m 0 #[.val (.ref a1), .val v2] []))
  refine own_F.of (fun _ => XS.aloadN S0.here S0.hx rfl (S0.dec d1_0) rfl rfl) ?_
  show own_F p e below s Z _ _ _ _ _ (T0.setTop (mkF m 1 #[.val (.ref a1), .val v2] [(.ref a1)]))
  refine own_initO S0 (own_w hw 6 rfl) (own_w hw 7 rfl) (own_w hw 8 rfl) rfl d1_1 (by decide) (Nat.le_of_ble_eq_true rfl) (fun T1 S1 => ?_)
  show own_F p e below s Z _ _ _ _ _ (T1.setTop (mkF m 4 #[.val (.ref a1), .val v2] []))
  refine own_F.of (fun _ => XS.aloadN S1.here S1.hx rfl (S1.dec d1_4) rfl rfl) ?_
  show own_F p e below s Z _ _ _ _ _ (T1.setTop (mkF m 5 #[.val (.ref a1), .val v2] [(.ref a1)]))
  refine own_F.of (fun _ => XS.aloadN S1.here S1.hx rfl (S1.dec d1_5) rfl hv) ?_
  show own_F p e below s Z _ _ _ _ _ (T1.setTop (mkF m 6 #[.val (.ref a1), .val v2] [v2, (.ref a1)]))
  refine own_putF S1 (host := "") (Or.inl (own_w hw 9 rfl)) Via.refl F_maxint E_a1 (Or.inr ⟨(own_w hw 10 rfl), rfl, rfl⟩) (own_w hw 1 rfl) (ty := (.object "java/lang/Integer")) (by decide) (own_narR (by decide) hv) (own_fitR (by decide) hv) d1_6 (Or.inl (List.mem_of_getElem? (i := 0) rfl)) (fun T2 h2 S2 W2 => ?_)
  have Fw2 := F_maxint.same W2
  show own_F p e below s Z _ _ _ _ _ (T2.setTop (mkF m 9 #[.val (.ref a1), .val v2] []))
  refine own_retV S2 d1_9 (by decide) (by decide) ?_
  exact ⟨rfl, Fw2⟩
theorem d3_0 : decode prog_64_method_5_code 0 = .ok (.aload_n 0, 1) := by decide +kernel
theorem d3_1 : decode prog_64_method_5_code 1 = .ok (.getfield 9, 3) := by decide +kernel
theorem d3_4 : decode prog_64_method_5_code 4 = .ok (.ifnonnull 15, 3) := by decide +kernel
theorem d3_7 : decode prog_64_method_5_code 7 = .ok (.lload_n 1, 1) := by decide +kernel
theorem d3_8 : decode prog_64_method_5_code 8 = .ok (.ldc2_w 29, 3) := by decide +kernel
theorem d3_11 : decode prog_64_method_5_code 11 = .ok (.lcmp, 1) := by decide +kernel
theorem d3_12 : decode prog_64_method_5_code 12 = .ok (.ifCond .ne 7, 3) := by decide +kernel
theorem d3_15 : decode prog_64_method_5_code 15 = .ok (.iconst 1, 1) := by decide +kernel
theorem d3_16 : decode prog_64_method_5_code 16 = .ok (.goto 4, 3) := by decide +kernel
theorem d3_19 : decode prog_64_method_5_code 19 = .ok (.iconst 0, 1) := by decide +kernel
theorem d3_20 : decode prog_64_method_5_code 20 = .ok (.ireturn, 1) := by decide +kernel
theorem pn3 : plainFor (⟨"com/example/manysort/manysort/language/Naturals", "leaveUnbounded", "(J)Z"⟩ : MethodName) = true := plainFor_of_name (by first | (simp [plainName, overriddenIn]; done) | decide +kernel)
set_option maxRecDepth 65536 in
set_option maxHeartbeats 40000000 in
theorem own_leaveN (l : Launch) (Z : State) (a0 : Array Value) (hw : ∀ d ∈ tables_1, d.before a0 Z = true) (a1 : Addr) (q2 : Int64) (h0 : Heap) (hO : Ext Z.heap h0) (F_m : Fld Z h0 a1 "com/example/manysort/manysort/language/Naturals" "maxint" "Ljava/lang/Integer;" .null) :
    own_C l Z (⟨"com/example/manysort/manysort/language/Naturals", "leaveUnbounded", "(J)Z"⟩ : MethodName) prog_64_method_5_code 3 (some .boolean) [] ({ frames := 0, cells := 0, slots := 0, locals := 0 } : Room) [] #[(.ref a1), (.long q2)] h0 (fun v h => v = some (.int (own_lu q2)) ∧ h0 = h) := by
  refine own_C.of pn3 hO all0 ?_
  intro p e s m below meth c T0 S0
  refine own_F.cast (by first | (simp [entryFrame, mkF, argsToLocals, Value.category]; done) | rfl : entryFrame m #[(.ref a1), (.long q2)] 3 = mkF m 0 #[.val (.ref a1), .val (.long q2), .second] []) ?_
  show own_F p e below s Z _ _ _ _ _ (T0.setTop (mkF m 0 #[.val (.ref a1), .val (.long q2), .second] []))
  refine own_F.of (fun _ => XS.aloadN S0.here S0.hx rfl (S0.dec d3_0) rfl rfl) ?_
  show own_F p e below s Z _ _ _ _ _ (T0.setTop (mkF m 1 #[.val (.ref a1), .val (.long q2), .second] [(.ref a1)]))
  refine own_getF S0 (host := "") (Or.inl (own_w hw 9 rfl)) Via.refl F_m d3_1 (fun T1 S1 => ?_)
  show own_F p e below s Z _ _ _ _ _ (T1.setTop (mkF m 4 #[.val (.ref a1), .val (.long q2), .second] [.null]))
  refine own_F.of (fun _ => XS.ifnonnullNo S1.here S1.hx rfl (S1.dec d3_4) rfl) ?_
  show own_F p e below s Z _ _ _ _ _ (T1.setTop (mkF m 7 #[.val (.ref a1), .val (.long q2), .second] []))
  refine own_F.of (fun _ => XS.lloadN S1.here S1.hx rfl (S1.dec d3_7) rfl) ?_
  show own_F p e below s Z _ _ _ _ _ (T1.setTop (mkF m 8 #[.val (.ref a1), .val (.long q2), .second] [(.long q2)]))
  refine own_ldcJ S1 (own_w hw 16 rfl) d3_8 ?_
  show own_F p e below s Z _ _ _ _ _ (T1.setTop (mkF m 11 #[.val (.ref a1), .val (.long q2), .second] [(.long (2147483647 : Int64)), (.long q2)]))
  refine own_F.of (fun _ => XS.lcmp S1.here S1.hx rfl (S1.dec d3_11) rfl) ?_
  show own_F p e below s Z _ _ _ _ _ (T1.setTop (mkF m 12 #[.val (.ref a1), .val (.long q2), .second] [(.int (lcmpW q2 (2147483647 : Int64)))]))
  refine own_if S1 19 d3_12 (by decide) (by decide) (fun (hc12_2 : ¬ ((lcmpW q2 (2147483647 : Int64)) = (0 : Int32))) => ?_) (fun (hc12_2 : (lcmpW q2 (2147483647 : Int64)) = (0 : Int32)) => ?_)
  · show own_F p e below s Z _ _ _ _ _ (T1.setTop (mkF m 19 #[.val (.ref a1), .val (.long q2), .second] []))
    refine own_F.of (fun _ => XS.iconst S1.here S1.hx rfl (S1.dec d3_19)) ?_
    show own_F p e below s Z _ _ _ _ _ (T1.setTop (mkF m 20 #[.val (.ref a1), .val (.long q2), .second] [(.int (0 : Int32))]))
    refine own_retZ S1 (by simp) d3_20 (by decide) (by decide) ?_
    have hh : own_lu q2 = (0 : Int32) := by simp only [own_lu]; rw [if_neg hc12_2]
    rw [hh]; exact ⟨rfl, rfl⟩
  · show own_F p e below s Z _ _ _ _ _ (T1.setTop (mkF m 15 #[.val (.ref a1), .val (.long q2), .second] []))
    refine own_F.of (fun _ => XS.iconst S1.here S1.hx rfl (S1.dec d3_15)) ?_
    show own_F p e below s Z _ _ _ _ _ (T1.setTop (mkF m 16 #[.val (.ref a1), .val (.long q2), .second] [(.int (1 : Int32))]))
    refine own_F.of (fun _ => XS.goto S1.here S1.hx rfl (pc0 := 16) (pc' := 20) rfl (S1.dec d3_16) (by decide) (by decide)) ?_
    show own_F p e below s Z _ _ _ _ _ (T1.setTop (mkF m 20 #[.val (.ref a1), .val (.long q2), .second] [(.int (1 : Int32))]))
    refine own_retZ S1 (by simp) d3_20 (by decide) (by decide) ?_
    have hh : own_lu q2 = (1 : Int32) := by simp only [own_lu]; rw [if_pos hc12_2]
    rw [hh]; exact ⟨rfl, rfl⟩
set_option maxRecDepth 65536 in
set_option maxHeartbeats 40000000 in
theorem own_leaveR (l : Launch) (Z : State) (a0 : Array Value) (hw : ∀ d ∈ tables_1, d.before a0 Z = true) (a1 b1 : Addr) (q2 : Int64) (h0 : Heap) (hO : Ext Z.heap h0) (F_m : Fld Z h0 a1 "com/example/manysort/manysort/language/Naturals" "maxint" "Ljava/lang/Integer;" (.ref b1)) :
    own_C l Z (⟨"com/example/manysort/manysort/language/Naturals", "leaveUnbounded", "(J)Z"⟩ : MethodName) prog_64_method_5_code 3 (some .boolean) [] ({ frames := 0, cells := 0, slots := 0, locals := 0 } : Room) [] #[(.ref a1), (.long q2)] h0 (fun v h => v = some (.int 0) ∧ h0 = h) := by
  refine own_C.of pn3 hO all0 ?_
  intro p e s m below meth c T0 S0
  refine own_F.cast (by first | (simp [entryFrame, mkF, argsToLocals, Value.category]; done) | rfl : entryFrame m #[(.ref a1), (.long q2)] 3 = mkF m 0 #[.val (.ref a1), .val (.long q2), .second] []) ?_
  show own_F p e below s Z _ _ _ _ _ (T0.setTop (mkF m 0 #[.val (.ref a1), .val (.long q2), .second] []))
  refine own_F.of (fun _ => XS.aloadN S0.here S0.hx rfl (S0.dec d3_0) rfl rfl) ?_
  show own_F p e below s Z _ _ _ _ _ (T0.setTop (mkF m 1 #[.val (.ref a1), .val (.long q2), .second] [(.ref a1)]))
  refine own_getF S0 (host := "") (Or.inl (own_w hw 9 rfl)) Via.refl F_m d3_1 (fun T1 S1 => ?_)
  show own_F p e below s Z _ _ _ _ _ (T1.setTop (mkF m 4 #[.val (.ref a1), .val (.long q2), .second] [(.ref b1)]))
  refine own_F.of (fun _ => XS.ifnonnullYes S1.here S1.hx rfl (pc0 := 4) (pc' := 19) rfl (S1.dec d3_4) rfl (by decide) (by decide)) ?_
  show own_F p e below s Z _ _ _ _ _ (T1.setTop (mkF m 19 #[.val (.ref a1), .val (.long q2), .second] []))
  refine own_F.of (fun _ => XS.iconst S1.here S1.hx rfl (S1.dec d3_19)) ?_
  show own_F p e below s Z _ _ _ _ _ (T1.setTop (mkF m 20 #[.val (.ref a1), .val (.long q2), .second] [(.int (0 : Int32))]))
  refine own_retZ S1 (by simp) d3_20 (by decide) (by decide) ?_
  exact ⟨rfl, rfl⟩
theorem pn0 : plainFor x = true := plainFor_of_name (by first | (simp [plainName, overriddenIn]; done) | decide +kernel)
set_option maxRecDepth 65536 in
set_option maxHeartbeats 40000000 in
theorem own_law (l : Launch) (Z : State) (a0 : Array Value) (hw : ∀ d ∈ tables_1, d.before a0 Z = true) (p0 p1 : Int32) (q2 : Int64) (p3 : Int32) (aC : Addr) (clC : Cell) (h0 : Heap) (hO : Ext Z.heap h0) (SHi : Sta Z Z.heap "java/lang/Integer$IntegerCache" "high" "I" (.int 127)) (SCa : Sta Z Z.heap "java/lang/Integer$IntegerCache" "cache" "[Ljava/lang/Integer;" (.ref aC)) (BX : Bxs Z aC clC "java/lang/Integer" "I" 256 (fun j => .int (j - 128))) :
    own_C l Z x code maxLocals ret tables_1 room_1 [] #[(.int p0), (.int p1), (.long q2), (.int p3)] h0 (fun v _ => v = some (.int 1)) := by
  refine own_C.of pn0 hO all0 ?_
  intro p e s m below meth c T0 S0
  refine own_F.cast (by first | (simp [entryFrame, mkF, argsToLocals, Value.category, maxLocals]; done) | rfl : entryFrame m #[(.int p0), (.int p1), (.long q2), (.int p3)] maxLocals = mkF m 0 #[.val (.int p0), .val (.int p1), .val (.long q2), .second, .val (.int p3), .unset, .unset, .unset, .unset, .unset, .unset, .unset] []) ?_
  show own_F p e below s Z _ _ _ _ _ (T0.setTop (mkF m 0 #[.val (.int p0), .val (.int p1), .val (.long q2), .second, .val (.int p3), .unset, .unset, .unset, .unset, .unset, .unset, .unset] []))
  refine own_F.of (fun _ => XS.iloadN S0.here S0.hx rfl (S0.dec at_0) rfl) ?_
  show own_F p e below s Z _ _ _ _ _ (T0.setTop (mkF m 1 #[.val (.int p0), .val (.int p1), .val (.long q2), .second, .val (.int p3), .unset, .unset, .unset, .unset, .unset, .unset, .unset] [(.int p0)]))
  refine own_F.of (fun _ => XS.iconst S0.here S0.hx rfl (S0.dec at_1)) ?_
  show own_F p e below s Z _ _ _ _ _ (T0.setTop (mkF m 2 #[.val (.int p0), .val (.int p1), .val (.long q2), .second, .val (.int p3), .unset, .unset, .unset, .unset, .unset, .unset, .unset] [(.int (1 : Int32)), (.int p0)]))
  refine own_F.of (fun _ => XS.iand S0.here S0.hx rfl (S0.dec at_2) rfl) ?_
  show own_F p e below s Z _ _ _ _ _ (T0.setTop (mkF m 3 #[.val (.int p0), .val (.int p1), .val (.long q2), .second, .val (.int p3), .unset, .unset, .unset, .unset, .unset, .unset, .unset] [(.int (p0 &&& (1 : Int32)))]))
  refine own_if S0 10 at_3 (by decide) (by decide) (fun (hc3_1 : (p0 &&& (1 : Int32)) = (0 : Int32)) => ?_) (fun (hc3_1 : ¬ ((p0 &&& (1 : Int32)) = (0 : Int32))) => ?_)
  · show own_F p e below s Z _ _ _ _ _ (T0.setTop (mkF m 10 #[.val (.int p0), .val (.int p1), .val (.long q2), .second, .val (.int p3), .unset, .unset, .unset, .unset, .unset, .unset, .unset] []))
    refine own_F.of (fun _ => XS.iconst S0.here S0.hx rfl (S0.dec at_10)) ?_
    show own_F p e below s Z _ _ _ _ _ (T0.setTop (mkF m 11 #[.val (.int p0), .val (.int p1), .val (.long q2), .second, .val (.int p3), .unset, .unset, .unset, .unset, .unset, .unset, .unset] [(.int (0 : Int32))]))
    refine own_F.of (fun _ => XS.istore S0.here S0.hx rfl (S0.dec at_11) rfl (l' := #[.val (.int p0), .val (.int p1), .val (.long q2), .second, .val (.int p3), .val (.int (0 : Int32)), .unset, .unset, .unset, .unset, .unset, .unset]) rfl) ?_
    show own_F p e below s Z _ _ _ _ _ (T0.setTop (mkF m 13 #[.val (.int p0), .val (.int p1), .val (.long q2), .second, .val (.int p3), .val (.int (0 : Int32)), .unset, .unset, .unset, .unset, .unset, .unset] []))
    refine own_F.of (fun _ => XS.iloadN S0.here S0.hx rfl (S0.dec at_13) rfl) ?_
    show own_F p e below s Z _ _ _ _ _ (T0.setTop (mkF m 14 #[.val (.int p0), .val (.int p1), .val (.long q2), .second, .val (.int p3), .val (.int (0 : Int32)), .unset, .unset, .unset, .unset, .unset, .unset] [(.int p0)]))
    refine own_F.of (fun _ => XS.iconst S0.here S0.hx rfl (S0.dec at_14)) ?_
    show own_F p e below s Z _ _ _ _ _ (T0.setTop (mkF m 15 #[.val (.int p0), .val (.int p1), .val (.long q2), .second, .val (.int p3), .val (.int (0 : Int32)), .unset, .unset, .unset, .unset, .unset, .unset] [(.int (1 : Int32)), (.int p0)]))
    refine own_F.of (fun _ => XS.iushr S0.here S0.hx rfl (S0.dec at_15) rfl) ?_
    show own_F p e below s Z _ _ _ _ _ (T0.setTop (mkF m 16 #[.val (.int p0), .val (.int p1), .val (.long q2), .second, .val (.int p3), .val (.int (0 : Int32)), .unset, .unset, .unset, .unset, .unset, .unset] [(.int ((p0.toUInt32 >>> ((1 : Int32) &&& 31).toUInt32).toInt32))]))
    refine own_F.of (fun _ => XS.iconst S0.here S0.hx rfl (S0.dec at_16)) ?_
    show own_F p e below s Z _ _ _ _ _ (T0.setTop (mkF m 17 #[.val (.int p0), .val (.int p1), .val (.long q2), .second, .val (.int p3), .val (.int (0 : Int32)), .unset, .unset, .unset, .unset, .unset, .unset] [(.int (3 : Int32)), (.int ((p0.toUInt32 >>> ((1 : Int32) &&& 31).toUInt32).toInt32))]))
    refine own_F.of (fun _ => XS.iand S0.here S0.hx rfl (S0.dec at_17) rfl) ?_
    show own_F p e below s Z _ _ _ _ _ (T0.setTop (mkF m 18 #[.val (.int p0), .val (.int p1), .val (.long q2), .second, .val (.int p3), .val (.int (0 : Int32)), .unset, .unset, .unset, .unset, .unset, .unset] [(.int (((p0.toUInt32 >>> ((1 : Int32) &&& 31).toUInt32).toInt32) &&& (3 : Int32)))]))
    refine own_F.of (fun _ => XS.istore S0.here S0.hx rfl (S0.dec at_18) rfl (l' := #[.val (.int p0), .val (.int p1), .val (.long q2), .second, .val (.int p3), .val (.int (0 : Int32)), .val (.int (((p0.toUInt32 >>> ((1 : Int32) &&& 31).toUInt32).toInt32) &&& (3 : Int32))), .unset, .unset, .unset, .unset, .unset]) rfl) ?_
    show own_F p e below s Z _ _ _ _ _ (T0.setTop (mkF m 20 #[.val (.int p0), .val (.int p1), .val (.long q2), .second, .val (.int p3), .val (.int (0 : Int32)), .val (.int (((p0.toUInt32 >>> ((1 : Int32) &&& 31).toUInt32).toInt32) &&& (3 : Int32))), .unset, .unset, .unset, .unset, .unset] []))
    refine own_F.of (fun _ => XS.iload S0.here S0.hx rfl (S0.dec at_20) rfl) ?_
    show own_F p e below s Z _ _ _ _ _ (T0.setTop (mkF m 22 #[.val (.int p0), .val (.int p1), .val (.long q2), .second, .val (.int p3), .val (.int (0 : Int32)), .val (.int (((p0.toUInt32 >>> ((1 : Int32) &&& 31).toUInt32).toInt32) &&& (3 : Int32))), .unset, .unset, .unset, .unset, .unset] [(.int (((p0.toUInt32 >>> ((1 : Int32) &&& 31).toUInt32).toInt32) &&& (3 : Int32)))]))
    refine own_if S0 31 at_22 (by decide) (by decide) (fun (hc22_2 : ¬ ((((p0.toUInt32 >>> ((1 : Int32) &&& 31).toUInt32).toInt32) &&& (3 : Int32)) = (0 : Int32))) => ?_) (fun (hc22_2 : (((p0.toUInt32 >>> ((1 : Int32) &&& 31).toUInt32).toInt32) &&& (3 : Int32)) = (0 : Int32)) => ?_)
    · show own_F p e below s Z _ _ _ _ _ (T0.setTop (mkF m 31 #[.val (.int p0), .val (.int p1), .val (.long q2), .second, .val (.int p3), .val (.int (0 : Int32)), .val (.int (((p0.toUInt32 >>> ((1 : Int32) &&& 31).toUInt32).toInt32) &&& (3 : Int32))), .unset, .unset, .unset, .unset, .unset] []))
      refine own_F.of (fun _ => XS.iload S0.here S0.hx rfl (S0.dec at_31) rfl) ?_
      show own_F p e below s Z _ _ _ _ _ (T0.setTop (mkF m 33 #[.val (.int p0), .val (.int p1), .val (.long q2), .second, .val (.int p3), .val (.int (0 : Int32)), .val (.int (((p0.toUInt32 >>> ((1 : Int32) &&& 31).toUInt32).toInt32) &&& (3 : Int32))), .unset, .unset, .unset, .unset, .unset] [(.int (((p0.toUInt32 >>> ((1 : Int32) &&& 31).toUInt32).toInt32) &&& (3 : Int32)))]))
      refine own_F.of (fun _ => XS.iconst S0.here S0.hx rfl (S0.dec at_33)) ?_
      show own_F p e below s Z _ _ _ _ _ (T0.setTop (mkF m 34 #[.val (.int p0), .val (.int p1), .val (.long q2), .second, .val (.int p3), .val (.int (0 : Int32)), .val (.int (((p0.toUInt32 >>> ((1 : Int32) &&& 31).toUInt32).toInt32) &&& (3 : Int32))), .unset, .unset, .unset, .unset, .unset] [(.int (1 : Int32)), (.int (((p0.toUInt32 >>> ((1 : Int32) &&& 31).toUInt32).toInt32) &&& (3 : Int32)))]))
      refine own_icmp S0 51 at_34 (by decide) (by decide) (fun (hc34_3 : ¬ ((((p0.toUInt32 >>> ((1 : Int32) &&& 31).toUInt32).toInt32) &&& (3 : Int32)) = (1 : Int32))) => ?_) (fun (hc34_3 : (((p0.toUInt32 >>> ((1 : Int32) &&& 31).toUInt32).toInt32) &&& (3 : Int32)) = (1 : Int32)) => ?_)
      · show own_F p e below s Z _ _ _ _ _ (T0.setTop (mkF m 51 #[.val (.int p0), .val (.int p1), .val (.long q2), .second, .val (.int p3), .val (.int (0 : Int32)), .val (.int (((p0.toUInt32 >>> ((1 : Int32) &&& 31).toUInt32).toInt32) &&& (3 : Int32))), .unset, .unset, .unset, .unset, .unset] []))
        refine own_F.of (fun _ => XS.iload S0.here S0.hx rfl (S0.dec at_51) rfl) ?_
        show own_F p e below s Z _ _ _ _ _ (T0.setTop (mkF m 53 #[.val (.int p0), .val (.int p1), .val (.long q2), .second, .val (.int p3), .val (.int (0 : Int32)), .val (.int (((p0.toUInt32 >>> ((1 : Int32) &&& 31).toUInt32).toInt32) &&& (3 : Int32))), .unset, .unset, .unset, .unset, .unset] [(.int (((p0.toUInt32 >>> ((1 : Int32) &&& 31).toUInt32).toInt32) &&& (3 : Int32)))]))
        refine own_F.of (fun _ => XS.iconst S0.here S0.hx rfl (S0.dec at_53)) ?_
        show own_F p e below s Z _ _ _ _ _ (T0.setTop (mkF m 54 #[.val (.int p0), .val (.int p1), .val (.long q2), .second, .val (.int p3), .val (.int (0 : Int32)), .val (.int (((p0.toUInt32 >>> ((1 : Int32) &&& 31).toUInt32).toInt32) &&& (3 : Int32))), .unset, .unset, .unset, .unset, .unset] [(.int (2 : Int32)), (.int (((p0.toUInt32 >>> ((1 : Int32) &&& 31).toUInt32).toInt32) &&& (3 : Int32)))]))
        refine own_icmp S0 64 at_54 (by decide) (by decide) (fun (hc54_4 : ¬ ((((p0.toUInt32 >>> ((1 : Int32) &&& 31).toUInt32).toInt32) &&& (3 : Int32)) = (2 : Int32))) => ?_) (fun (hc54_4 : (((p0.toUInt32 >>> ((1 : Int32) &&& 31).toUInt32).toInt32) &&& (3 : Int32)) = (2 : Int32)) => ?_)
        · show own_F p e below s Z _ _ _ _ _ (T0.setTop (mkF m 64 #[.val (.int p0), .val (.int p1), .val (.long q2), .second, .val (.int p3), .val (.int (0 : Int32)), .val (.int (((p0.toUInt32 >>> ((1 : Int32) &&& 31).toUInt32).toInt32) &&& (3 : Int32))), .unset, .unset, .unset, .unset, .unset] []))
          refine own_F.of (fun _ => XS.lloadN S0.here S0.hx rfl (S0.dec at_64) rfl) ?_
          show own_F p e below s Z _ _ _ _ _ (T0.setTop (mkF m 65 #[.val (.int p0), .val (.int p1), .val (.long q2), .second, .val (.int p3), .val (.int (0 : Int32)), .val (.int (((p0.toUInt32 >>> ((1 : Int32) &&& 31).toUInt32).toInt32) &&& (3 : Int32))), .unset, .unset, .unset, .unset, .unset] [(.long q2)]))
          refine own_F.of (fun _ => XS.l2i S0.here S0.hx rfl (S0.dec at_65) rfl) ?_
          show own_F p e below s Z _ _ _ _ _ (T0.setTop (mkF m 66 #[.val (.int p0), .val (.int p1), .val (.long q2), .second, .val (.int p3), .val (.int (0 : Int32)), .val (.int (((p0.toUInt32 >>> ((1 : Int32) &&& 31).toUInt32).toInt32) &&& (3 : Int32))), .unset, .unset, .unset, .unset, .unset] [(.int (q2.toInt32))]))
          refine own_F.of (fun _ => XS.i2l S0.here S0.hx rfl (S0.dec at_66) rfl) ?_
          show own_F p e below s Z _ _ _ _ _ (T0.setTop (mkF m 67 #[.val (.int p0), .val (.int p1), .val (.long q2), .second, .val (.int p3), .val (.int (0 : Int32)), .val (.int (((p0.toUInt32 >>> ((1 : Int32) &&& 31).toUInt32).toInt32) &&& (3 : Int32))), .unset, .unset, .unset, .unset, .unset] [(.long ((q2.toInt32).toInt64))]))
          refine own_F.of (fun _ => XS.lstore S0.here S0.hx rfl (S0.dec at_67) rfl (l' := #[.val (.int p0), .val (.int p1), .val (.long q2), .second, .val (.int p3), .val (.int (0 : Int32)), .val (.int (((p0.toUInt32 >>> ((1 : Int32) &&& 31).toUInt32).toInt32) &&& (3 : Int32))), .val (.long ((q2.toInt32).toInt64)), .second, .unset, .unset, .unset]) rfl) ?_
          show own_F p e below s Z _ _ _ _ _ (T0.setTop (mkF m 69 #[.val (.int p0), .val (.int p1), .val (.long q2), .second, .val (.int p3), .val (.int (0 : Int32)), .val (.int (((p0.toUInt32 >>> ((1 : Int32) &&& 31).toUInt32).toInt32) &&& (3 : Int32))), .val (.long ((q2.toInt32).toInt64)), .second, .unset, .unset, .unset] []))
          refine own_new S0 (own_w hw 0 rfl) (own_w hw 1 rfl) (own_w hw 2 rfl) at_69 (by decide) (by decide) (fun T5 h5 b5 g5 S5 E5 A5 D5 => ?_)
          have F5_maxint : Fld Z h5 b5 "com/example/manysort/manysort/language/Naturals" "maxint" "Ljava/lang/Integer;" .null := (D5 (Or.inr (own_w hw 10 rfl)) (ty := (.object "java/lang/Integer")) (by decide))
          show own_F p e below s Z _ _ _ _ _ (T5.setTop (mkF m 72 #[.val (.int p0), .val (.int p1), .val (.long q2), .second, .val (.int p3), .val (.int (0 : Int32)), .val (.int (((p0.toUInt32 >>> ((1 : Int32) &&& 31).toUInt32).toInt32) &&& (3 : Int32))), .val (.long ((q2.toInt32).toInt64)), .second, .unset, .unset, .unset] [(.ref b5)]))
          refine own_F.of (fun _ => XS.dup S5.here S5.hx rfl (S5.dec at_72) rfl rfl) ?_
          show own_F p e below s Z _ _ _ _ _ (T5.setTop (mkF m 73 #[.val (.int p0), .val (.int p1), .val (.long q2), .second, .val (.int p3), .val (.int (0 : Int32)), .val (.int (((p0.toUInt32 >>> ((1 : Int32) &&& 31).toUInt32).toInt32) &&& (3 : Int32))), .val (.long ((q2.toInt32).toInt64)), .second, .unset, .unset, .unset] [(.ref b5), (.ref b5)]))
          refine own_F.of (fun _ => XS.iload S5.here S5.hx rfl (S5.dec at_73) rfl) ?_
          show own_F p e below s Z _ _ _ _ _ (T5.setTop (mkF m 75 #[.val (.int p0), .val (.int p1), .val (.long q2), .second, .val (.int p3), .val (.int (0 : Int32)), .val (.int (((p0.toUInt32 >>> ((1 : Int32) &&& 31).toUInt32).toInt32) &&& (3 : Int32))), .val (.long ((q2.toInt32).toInt64)), .second, .unset, .unset, .unset] [(.int (0 : Int32)), (.ref b5), (.ref b5)]))
          refine own_if S5 85 at_75 (by decide) (by decide) (fun (hc75_6 : (0 : Int32) = (0 : Int32)) => ?_) (fun (hc75_6 : ¬ ((0 : Int32) = (0 : Int32))) => False.elim (absurd hc75_6 (by decide)))
          show own_F p e below s Z _ _ _ _ _ (T5.setTop (mkF m 85 #[.val (.int p0), .val (.int p1), .val (.long q2), .second, .val (.int p3), .val (.int (0 : Int32)), .val (.int (((p0.toUInt32 >>> ((1 : Int32) &&& 31).toUInt32).toInt32) &&& (3 : Int32))), .val (.long ((q2.toInt32).toInt64)), .second, .unset, .unset, .unset] [(.ref b5), (.ref b5)]))
          refine own_F.of (fun _ => XS.aconstNull S5.here S5.hx rfl (S5.dec at_85)) ?_
          show own_F p e below s Z _ _ _ _ _ (T5.setTop (mkF m 86 #[.val (.int p0), .val (.int p1), .val (.long q2), .second, .val (.int p3), .val (.int (0 : Int32)), .val (.int (((p0.toUInt32 >>> ((1 : Int32) &&& 31).toUInt32).toInt32) &&& (3 : Int32))), .val (.long ((q2.toInt32).toInt64)), .second, .unset, .unset, .unset] [.null, (.ref b5), (.ref b5)]))
          refine own_callI S5 (y := (⟨"com/example/manysort/manysort/language/Naturals", "<init>", "(Ljava/lang/Integer;)V"⟩ : MethodName)) rfl (own_w hw 3 rfl) (own_w hw 4 rfl) (own_w hw 2 rfl) (own_w hw 5 rfl) (by decide) (argsL := [.null]) (rest := [(.ref b5)]) (own_NatInit l Z a0 hw b5 .null h5 S5.old rfl (own_mayN S5 (Or.inr (by rw [g5]; exact S0.size))) A5 F5_maxint) (allS (Or.inr (by rw [g5]; exact S0.size)) all0) (by decide +kernel : parseMethodDescriptor "(Ljava/lang/Integer;)V" = some ⟨[(.object "java/lang/Integer")], none⟩) rfl rfl rfl at_86 (by decide) (Nat.le_of_ble_eq_true rfl) (by decide) (by decide) (fun T7 h7 v7 S7 K7 q7 => ?_)
          obtain ⟨rfl, F7⟩ := q7
          show own_F p e below s Z _ _ _ _ _ (T7.setTop (mkF m 89 #[.val (.int p0), .val (.int p1), .val (.long q2), .second, .val (.int p3), .val (.int (0 : Int32)), .val (.int (((p0.toUInt32 >>> ((1 : Int32) &&& 31).toUInt32).toInt32) &&& (3 : Int32))), .val (.long ((q2.toInt32).toInt64)), .second, .unset, .unset, .unset] [(.ref b5)]))
          refine own_F.of (fun _ => XS.astore S7.here S7.hx rfl (S7.dec at_89) rfl rfl (l' := #[.val (.int p0), .val (.int p1), .val (.long q2), .second, .val (.int p3), .val (.int (0 : Int32)), .val (.int (((p0.toUInt32 >>> ((1 : Int32) &&& 31).toUInt32).toInt32) &&& (3 : Int32))), .val (.long ((q2.toInt32).toInt64)), .second, .val (.ref b5), .unset, .unset]) rfl) ?_
          show own_F p e below s Z _ _ _ _ _ (T7.setTop (mkF m 91 #[.val (.int p0), .val (.int p1), .val (.long q2), .second, .val (.int p3), .val (.int (0 : Int32)), .val (.int (((p0.toUInt32 >>> ((1 : Int32) &&& 31).toUInt32).toInt32) &&& (3 : Int32))), .val (.long ((q2.toInt32).toInt64)), .second, .val (.ref b5), .unset, .unset] []))
          refine own_F.of (fun _ => XS.aload S7.here S7.hx rfl (S7.dec at_91) rfl rfl) ?_
          show own_F p e below s Z _ _ _ _ _ (T7.setTop (mkF m 93 #[.val (.int p0), .val (.int p1), .val (.long q2), .second, .val (.int p3), .val (.int (0 : Int32)), .val (.int (((p0.toUInt32 >>> ((1 : Int32) &&& 31).toUInt32).toInt32) &&& (3 : Int32))), .val (.long ((q2.toInt32).toInt64)), .second, .val (.ref b5), .unset, .unset] [(.ref b5)]))
          refine own_F.of (fun _ => XS.lload S7.here S7.hx rfl (S7.dec at_93) rfl) ?_
          show own_F p e below s Z _ _ _ _ _ (T7.setTop (mkF m 95 #[.val (.int p0), .val (.int p1), .val (.long q2), .second, .val (.int p3), .val (.int (0 : Int32)), .val (.int (((p0.toUInt32 >>> ((1 : Int32) &&& 31).toUInt32).toInt32) &&& (3 : Int32))), .val (.long ((q2.toInt32).toInt64)), .second, .val (.ref b5), .unset, .unset] [(.long ((q2.toInt32).toInt64)), (.ref b5)]))
          have f9 := (A5.keep K7)
          refine own_callV S7 (y := (⟨"com/example/manysort/manysort/language/Naturals", "leaveUnbounded", "(J)Z"⟩ : MethodName)) (y' := (⟨"com/example/manysort/manysort/language/Naturals", "leaveUnbounded", "(J)Z"⟩ : MethodName)) (own_w hw 11 rfl) (own_w hw 12 rfl) (own_nf S7 (own_w hw 14 rfl)) (own_w hw 14 rfl) (own_w hw 13 rfl) (own_w hw 15 rfl) (own_w hw 2 rfl) (by decide) f9 (argsL := [(.long ((q2.toInt32).toInt64))]) (rest := []) (own_leaveN l Z a0 hw b5 ((q2.toInt32).toInt64) h7 S7.old F7) all0 (by decide +kernel : parseMethodDescriptor "(J)Z" = some ⟨[.long], some .boolean⟩) rfl rfl rfl at_95 (by decide) (Nat.le_of_ble_eq_true rfl) (by decide) (by decide) (fun T8 h8 v8 S8 K8 q8 => ?_)
          obtain ⟨rfl, rfl⟩ := q8
          show own_F p e below s Z _ _ _ _ _ (T8.setTop (mkF m 98 #[.val (.int p0), .val (.int p1), .val (.long q2), .second, .val (.int p3), .val (.int (0 : Int32)), .val (.int (((p0.toUInt32 >>> ((1 : Int32) &&& 31).toUInt32).toInt32) &&& (3 : Int32))), .val (.long ((q2.toInt32).toInt64)), .second, .val (.ref b5), .unset, .unset] [(.int (own_lu ((q2.toInt32).toInt64)))]))
          refine own_F.of (fun _ => XS.istore S8.here S8.hx rfl (S8.dec at_98) rfl (l' := #[.val (.int p0), .val (.int p1), .val (.long q2), .second, .val (.int p3), .val (.int (0 : Int32)), .val (.int (((p0.toUInt32 >>> ((1 : Int32) &&& 31).toUInt32).toInt32) &&& (3 : Int32))), .val (.long ((q2.toInt32).toInt64)), .second, .val (.ref b5), .val (.int (own_lu ((q2.toInt32).toInt64))), .unset]) rfl) ?_
          show own_F p e below s Z _ _ _ _ _ (T8.setTop (mkF m 100 #[.val (.int p0), .val (.int p1), .val (.long q2), .second, .val (.int p3), .val (.int (0 : Int32)), .val (.int (((p0.toUInt32 >>> ((1 : Int32) &&& 31).toUInt32).toInt32) &&& (3 : Int32))), .val (.long ((q2.toInt32).toInt64)), .second, .val (.ref b5), .val (.int (own_lu ((q2.toInt32).toInt64))), .unset] []))
          refine own_F.of (fun _ => XS.iload S8.here S8.hx rfl (S8.dec at_100) rfl) ?_
          show own_F p e below s Z _ _ _ _ _ (T8.setTop (mkF m 102 #[.val (.int p0), .val (.int p1), .val (.long q2), .second, .val (.int p3), .val (.int (0 : Int32)), .val (.int (((p0.toUInt32 >>> ((1 : Int32) &&& 31).toUInt32).toInt32) &&& (3 : Int32))), .val (.long ((q2.toInt32).toInt64)), .second, .val (.ref b5), .val (.int (own_lu ((q2.toInt32).toInt64))), .unset] [(.int (0 : Int32))]))
          refine own_if S8 118 at_102 (by decide) (by decide) (fun (hc102_10 : ¬ ((0 : Int32) = (0 : Int32))) => False.elim (absurd hc102_10 (by decide))) (fun (hc102_10 : (0 : Int32) = (0 : Int32)) => ?_)
          show own_F p e below s Z _ _ _ _ _ (T8.setTop (mkF m 105 #[.val (.int p0), .val (.int p1), .val (.long q2), .second, .val (.int p3), .val (.int (0 : Int32)), .val (.int (((p0.toUInt32 >>> ((1 : Int32) &&& 31).toUInt32).toInt32) &&& (3 : Int32))), .val (.long ((q2.toInt32).toInt64)), .second, .val (.ref b5), .val (.int (own_lu ((q2.toInt32).toInt64))), .unset] []))
          refine own_F.of (fun _ => XS.lload S8.here S8.hx rfl (S8.dec at_105) rfl) ?_
          show own_F p e below s Z _ _ _ _ _ (T8.setTop (mkF m 107 #[.val (.int p0), .val (.int p1), .val (.long q2), .second, .val (.int p3), .val (.int (0 : Int32)), .val (.int (((p0.toUInt32 >>> ((1 : Int32) &&& 31).toUInt32).toInt32) &&& (3 : Int32))), .val (.long ((q2.toInt32).toInt64)), .second, .val (.ref b5), .val (.int (own_lu ((q2.toInt32).toInt64))), .unset] [(.long ((q2.toInt32).toInt64))]))
          refine own_ldcJ S8 (own_w hw 17 rfl) at_107 ?_
          show own_F p e below s Z _ _ _ _ _ (T8.setTop (mkF m 110 #[.val (.int p0), .val (.int p1), .val (.long q2), .second, .val (.int p3), .val (.int (0 : Int32)), .val (.int (((p0.toUInt32 >>> ((1 : Int32) &&& 31).toUInt32).toInt32) &&& (3 : Int32))), .val (.long ((q2.toInt32).toInt64)), .second, .val (.ref b5), .val (.int (own_lu ((q2.toInt32).toInt64))), .unset] [(.long (2147483647 : Int64)), (.long ((q2.toInt32).toInt64))]))
          refine own_F.of (fun _ => XS.lcmp S8.here S8.hx rfl (S8.dec at_110) rfl) ?_
          show own_F p e below s Z _ _ _ _ _ (T8.setTop (mkF m 111 #[.val (.int p0), .val (.int p1), .val (.long q2), .second, .val (.int p3), .val (.int (0 : Int32)), .val (.int (((p0.toUInt32 >>> ((1 : Int32) &&& 31).toUInt32).toInt32) &&& (3 : Int32))), .val (.long ((q2.toInt32).toInt64)), .second, .val (.ref b5), .val (.int (own_lu ((q2.toInt32).toInt64))), .unset] [(.int (lcmpW ((q2.toInt32).toInt64) (2147483647 : Int64)))]))
          refine own_if S8 118 at_111 (by decide) (by decide) (fun (hc111_11 : ¬ ((lcmpW ((q2.toInt32).toInt64) (2147483647 : Int64)) = (0 : Int32))) => ?_) (fun (hc111_11 : (lcmpW ((q2.toInt32).toInt64) (2147483647 : Int64)) = (0 : Int32)) => ?_)
          · show own_F p e below s Z _ _ _ _ _ (T8.setTop (mkF m 118 #[.val (.int p0), .val (.int p1), .val (.long q2), .second, .val (.int p3), .val (.int (0 : Int32)), .val (.int (((p0.toUInt32 >>> ((1 : Int32) &&& 31).toUInt32).toInt32) &&& (3 : Int32))), .val (.long ((q2.toInt32).toInt64)), .second, .val (.ref b5), .val (.int (own_lu ((q2.toInt32).toInt64))), .unset] []))
            refine own_F.of (fun _ => XS.iconst S8.here S8.hx rfl (S8.dec at_118)) ?_
            show own_F p e below s Z _ _ _ _ _ (T8.setTop (mkF m 119 #[.val (.int p0), .val (.int p1), .val (.long q2), .second, .val (.int p3), .val (.int (0 : Int32)), .val (.int (((p0.toUInt32 >>> ((1 : Int32) &&& 31).toUInt32).toInt32) &&& (3 : Int32))), .val (.long ((q2.toInt32).toInt64)), .second, .val (.ref b5), .val (.int (own_lu ((q2.toInt32).toInt64))), .unset] [(.int (0 : Int32))]))
            refine own_F.of (fun _ => XS.istore S8.here S8.hx rfl (S8.dec at_119) rfl (l' := #[.val (.int p0), .val (.int p1), .val (.long q2), .second, .val (.int p3), .val (.int (0 : Int32)), .val (.int (((p0.toUInt32 >>> ((1 : Int32) &&& 31).toUInt32).toInt32) &&& (3 : Int32))), .val (.long ((q2.toInt32).toInt64)), .second, .val (.ref b5), .val (.int (own_lu ((q2.toInt32).toInt64))), .val (.int (0 : Int32))]) rfl) ?_
            show own_F p e below s Z _ _ _ _ _ (T8.setTop (mkF m 121 #[.val (.int p0), .val (.int p1), .val (.long q2), .second, .val (.int p3), .val (.int (0 : Int32)), .val (.int (((p0.toUInt32 >>> ((1 : Int32) &&& 31).toUInt32).toInt32) &&& (3 : Int32))), .val (.long ((q2.toInt32).toInt64)), .second, .val (.ref b5), .val (.int (own_lu ((q2.toInt32).toInt64))), .val (.int (0 : Int32))] []))
            refine own_F.of (fun _ => XS.iload S8.here S8.hx rfl (S8.dec at_121) rfl) ?_
            show own_F p e below s Z _ _ _ _ _ (T8.setTop (mkF m 123 #[.val (.int p0), .val (.int p1), .val (.long q2), .second, .val (.int p3), .val (.int (0 : Int32)), .val (.int (((p0.toUInt32 >>> ((1 : Int32) &&& 31).toUInt32).toInt32) &&& (3 : Int32))), .val (.long ((q2.toInt32).toInt64)), .second, .val (.ref b5), .val (.int (own_lu ((q2.toInt32).toInt64))), .val (.int (0 : Int32))] [(.int (own_lu ((q2.toInt32).toInt64)))]))
            refine own_F.of (fun _ => XS.iload S8.here S8.hx rfl (S8.dec at_123) rfl) ?_
            show own_F p e below s Z _ _ _ _ _ (T8.setTop (mkF m 125 #[.val (.int p0), .val (.int p1), .val (.long q2), .second, .val (.int p3), .val (.int (0 : Int32)), .val (.int (((p0.toUInt32 >>> ((1 : Int32) &&& 31).toUInt32).toInt32) &&& (3 : Int32))), .val (.long ((q2.toInt32).toInt64)), .second, .val (.ref b5), .val (.int (own_lu ((q2.toInt32).toInt64))), .val (.int (0 : Int32))] [(.int (0 : Int32)), (.int (own_lu ((q2.toInt32).toInt64)))]))
            refine own_icmp S8 132 at_125 (by decide) (by decide) (fun (hc125_12 : ¬ ((own_lu ((q2.toInt32).toInt64)) = (0 : Int32))) => False.elim (hc125_12 (by simp only [own_lu]; rw [if_neg hc111_11]))) (fun (hc125_12 : (own_lu ((q2.toInt32).toInt64)) = (0 : Int32)) => ?_)
            show own_F p e below s Z _ _ _ _ _ (T8.setTop (mkF m 128 #[.val (.int p0), .val (.int p1), .val (.long q2), .second, .val (.int p3), .val (.int (0 : Int32)), .val (.int (((p0.toUInt32 >>> ((1 : Int32) &&& 31).toUInt32).toInt32) &&& (3 : Int32))), .val (.long ((q2.toInt32).toInt64)), .second, .val (.ref b5), .val (.int (own_lu ((q2.toInt32).toInt64))), .val (.int (0 : Int32))] []))
            refine own_F.of (fun _ => XS.iconst S8.here S8.hx rfl (S8.dec at_128)) ?_
            show own_F p e below s Z _ _ _ _ _ (T8.setTop (mkF m 129 #[.val (.int p0), .val (.int p1), .val (.long q2), .second, .val (.int p3), .val (.int (0 : Int32)), .val (.int (((p0.toUInt32 >>> ((1 : Int32) &&& 31).toUInt32).toInt32) &&& (3 : Int32))), .val (.long ((q2.toInt32).toInt64)), .second, .val (.ref b5), .val (.int (own_lu ((q2.toInt32).toInt64))), .val (.int (0 : Int32))] [(.int (1 : Int32))]))
            refine own_F.of (fun _ => XS.goto S8.here S8.hx rfl (pc0 := 129) (pc' := 133) rfl (S8.dec at_129) (by decide) (by decide)) ?_
            show own_F p e below s Z _ _ _ _ _ (T8.setTop (mkF m 133 #[.val (.int p0), .val (.int p1), .val (.long q2), .second, .val (.int p3), .val (.int (0 : Int32)), .val (.int (((p0.toUInt32 >>> ((1 : Int32) &&& 31).toUInt32).toInt32) &&& (3 : Int32))), .val (.long ((q2.toInt32).toInt64)), .second, .val (.ref b5), .val (.int (own_lu ((q2.toInt32).toInt64))), .val (.int (0 : Int32))] [(.int (1 : Int32))]))
            refine own_retZ S8 (by simp) at_133 (by decide) (by decide) ?_
            rfl
          · show own_F p e below s Z _ _ _ _ _ (T8.setTop (mkF m 114 #[.val (.int p0), .val (.int p1), .val (.long q2), .second, .val (.int p3), .val (.int (0 : Int32)), .val (.int (((p0.toUInt32 >>> ((1 : Int32) &&& 31).toUInt32).toInt32) &&& (3 : Int32))), .val (.long ((q2.toInt32).toInt64)), .second, .val (.ref b5), .val (.int (own_lu ((q2.toInt32).toInt64))), .unset] []))
            refine own_F.of (fun _ => XS.iconst S8.here S8.hx rfl (S8.dec at_114)) ?_
            show own_F p e below s Z _ _ _ _ _ (T8.setTop (mkF m 115 #[.val (.int p0), .val (.int p1), .val (.long q2), .second, .val (.int p3), .val (.int (0 : Int32)), .val (.int (((p0.toUInt32 >>> ((1 : Int32) &&& 31).toUInt32).toInt32) &&& (3 : Int32))), .val (.long ((q2.toInt32).toInt64)), .second, .val (.ref b5), .val (.int (own_lu ((q2.toInt32).toInt64))), .unset] [(.int (1 : Int32))]))
            refine own_F.of (fun _ => XS.goto S8.here S8.hx rfl (pc0 := 115) (pc' := 119) rfl (S8.dec at_115) (by decide) (by decide)) ?_
            show own_F p e below s Z _ _ _ _ _ (T8.setTop (mkF m 119 #[.val (.int p0), .val (.int p1), .val (.long q2), .second, .val (.int p3), .val (.int (0 : Int32)), .val (.int (((p0.toUInt32 >>> ((1 : Int32) &&& 31).toUInt32).toInt32) &&& (3 : Int32))), .val (.long ((q2.toInt32).toInt64)), .second, .val (.ref b5), .val (.int (own_lu ((q2.toInt32).toInt64))), .unset] [(.int (1 : Int32))]))
            refine own_F.of (fun _ => XS.istore S8.here S8.hx rfl (S8.dec at_119) rfl (l' := #[.val (.int p0), .val (.int p1), .val (.long q2), .second, .val (.int p3), .val (.int (0 : Int32)), .val (.int (((p0.toUInt32 >>> ((1 : Int32) &&& 31).toUInt32).toInt32) &&& (3 : Int32))), .val (.long ((q2.toInt32).toInt64)), .second, .val (.ref b5), .val (.int (own_lu ((q2.toInt32).toInt64))), .val (.int (1 : Int32))]) rfl) ?_
            show own_F p e below s Z _ _ _ _ _ (T8.setTop (mkF m 121 #[.val (.int p0), .val (.int p1), .val (.long q2), .second, .val (.int p3), .val (.int (0 : Int32)), .val (.int (((p0.toUInt32 >>> ((1 : Int32) &&& 31).toUInt32).toInt32) &&& (3 : Int32))), .val (.long ((q2.toInt32).toInt64)), .second, .val (.ref b5), .val (.int (own_lu ((q2.toInt32).toInt64))), .val (.int (1 : Int32))] []))
            refine own_F.of (fun _ => XS.iload S8.here S8.hx rfl (S8.dec at_121) rfl) ?_
            show own_F p e below s Z _ _ _ _ _ (T8.setTop (mkF m 123 #[.val (.int p0), .val (.int p1), .val (.long q2), .second, .val (.int p3), .val (.int (0 : Int32)), .val (.int (((p0.toUInt32 >>> ((1 : Int32) &&& 31).toUInt32).toInt32) &&& (3 : Int32))), .val (.long ((q2.toInt32).toInt64)), .second, .val (.ref b5), .val (.int (own_lu ((q2.toInt32).toInt64))), .val (.int (1 : Int32))] [(.int (own_lu ((q2.toInt32).toInt64)))]))
            refine own_F.of (fun _ => XS.iload S8.here S8.hx rfl (S8.dec at_123) rfl) ?_
            show own_F p e below s Z _ _ _ _ _ (T8.setTop (mkF m 125 #[.val (.int p0), .val (.int p1), .val (.long q2), .second, .val (.int p3), .val (.int (0 : Int32)), .val (.int (((p0.toUInt32 >>> ((1 : Int32) &&& 31).toUInt32).toInt32) &&& (3 : Int32))), .val (.long ((q2.toInt32).toInt64)), .second, .val (.ref b5), .val (.int (own_lu ((q2.toInt32).toInt64))), .val (.int (1 : Int32))] [(.int (1 : Int32)), (.int (own_lu ((q2.toInt32).toInt64)))]))
            refine own_icmp S8 132 at_125 (by decide) (by decide) (fun (hc125_13 : ¬ ((own_lu ((q2.toInt32).toInt64)) = (1 : Int32))) => False.elim (hc125_13 (by simp only [own_lu]; rw [if_pos hc111_11]))) (fun (hc125_13 : (own_lu ((q2.toInt32).toInt64)) = (1 : Int32)) => ?_)
            show own_F p e below s Z _ _ _ _ _ (T8.setTop (mkF m 128 #[.val (.int p0), .val (.int p1), .val (.long q2), .second, .val (.int p3), .val (.int (0 : Int32)), .val (.int (((p0.toUInt32 >>> ((1 : Int32) &&& 31).toUInt32).toInt32) &&& (3 : Int32))), .val (.long ((q2.toInt32).toInt64)), .second, .val (.ref b5), .val (.int (own_lu ((q2.toInt32).toInt64))), .val (.int (1 : Int32))] []))
            refine own_F.of (fun _ => XS.iconst S8.here S8.hx rfl (S8.dec at_128)) ?_
            show own_F p e below s Z _ _ _ _ _ (T8.setTop (mkF m 129 #[.val (.int p0), .val (.int p1), .val (.long q2), .second, .val (.int p3), .val (.int (0 : Int32)), .val (.int (((p0.toUInt32 >>> ((1 : Int32) &&& 31).toUInt32).toInt32) &&& (3 : Int32))), .val (.long ((q2.toInt32).toInt64)), .second, .val (.ref b5), .val (.int (own_lu ((q2.toInt32).toInt64))), .val (.int (1 : Int32))] [(.int (1 : Int32))]))
            refine own_F.of (fun _ => XS.goto S8.here S8.hx rfl (pc0 := 129) (pc' := 133) rfl (S8.dec at_129) (by decide) (by decide)) ?_
            show own_F p e below s Z _ _ _ _ _ (T8.setTop (mkF m 133 #[.val (.int p0), .val (.int p1), .val (.long q2), .second, .val (.int p3), .val (.int (0 : Int32)), .val (.int (((p0.toUInt32 >>> ((1 : Int32) &&& 31).toUInt32).toInt32) &&& (3 : Int32))), .val (.long ((q2.toInt32).toInt64)), .second, .val (.ref b5), .val (.int (own_lu ((q2.toInt32).toInt64))), .val (.int (1 : Int32))] [(.int (1 : Int32))]))
            refine own_retZ S8 (by simp) at_133 (by decide) (by decide) ?_
            rfl
        · show own_F p e below s Z _ _ _ _ _ (T0.setTop (mkF m 57 #[.val (.int p0), .val (.int p1), .val (.long q2), .second, .val (.int p3), .val (.int (0 : Int32)), .val (.int (((p0.toUInt32 >>> ((1 : Int32) &&& 31).toUInt32).toInt32) &&& (3 : Int32))), .unset, .unset, .unset, .unset, .unset] []))
          refine own_F.of (fun _ => XS.iloadN S0.here S0.hx rfl (S0.dec at_57) rfl) ?_
          show own_F p e below s Z _ _ _ _ _ (T0.setTop (mkF m 58 #[.val (.int p0), .val (.int p1), .val (.long q2), .second, .val (.int p3), .val (.int (0 : Int32)), .val (.int (((p0.toUInt32 >>> ((1 : Int32) &&& 31).toUInt32).toInt32) &&& (3 : Int32))), .unset, .unset, .unset, .unset, .unset] [(.int p1)]))
          refine own_F.of (fun _ => XS.i2l S0.here S0.hx rfl (S0.dec at_58) rfl) ?_
          show own_F p e below s Z _ _ _ _ _ (T0.setTop (mkF m 59 #[.val (.int p0), .val (.int p1), .val (.long q2), .second, .val (.int p3), .val (.int (0 : Int32)), .val (.int (((p0.toUInt32 >>> ((1 : Int32) &&& 31).toUInt32).toInt32) &&& (3 : Int32))), .unset, .unset, .unset, .unset, .unset] [(.long (p1.toInt64))]))
          refine own_F.of (fun _ => XS.lstore S0.here S0.hx rfl (S0.dec at_59) rfl (l' := #[.val (.int p0), .val (.int p1), .val (.long q2), .second, .val (.int p3), .val (.int (0 : Int32)), .val (.int (((p0.toUInt32 >>> ((1 : Int32) &&& 31).toUInt32).toInt32) &&& (3 : Int32))), .val (.long (p1.toInt64)), .second, .unset, .unset, .unset]) rfl) ?_
          show own_F p e below s Z _ _ _ _ _ (T0.setTop (mkF m 61 #[.val (.int p0), .val (.int p1), .val (.long q2), .second, .val (.int p3), .val (.int (0 : Int32)), .val (.int (((p0.toUInt32 >>> ((1 : Int32) &&& 31).toUInt32).toInt32) &&& (3 : Int32))), .val (.long (p1.toInt64)), .second, .unset, .unset, .unset] []))
          refine own_F.of (fun _ => XS.goto S0.here S0.hx rfl (pc0 := 61) (pc' := 69) rfl (S0.dec at_61) (by decide) (by decide)) ?_
          show own_F p e below s Z _ _ _ _ _ (T0.setTop (mkF m 69 #[.val (.int p0), .val (.int p1), .val (.long q2), .second, .val (.int p3), .val (.int (0 : Int32)), .val (.int (((p0.toUInt32 >>> ((1 : Int32) &&& 31).toUInt32).toInt32) &&& (3 : Int32))), .val (.long (p1.toInt64)), .second, .unset, .unset, .unset] []))
          refine own_new S0 (own_w hw 0 rfl) (own_w hw 1 rfl) (own_w hw 2 rfl) at_69 (by decide) (by decide) (fun T14 h14 b14 g14 S14 E14 A14 D14 => ?_)
          have F14_maxint : Fld Z h14 b14 "com/example/manysort/manysort/language/Naturals" "maxint" "Ljava/lang/Integer;" .null := (D14 (Or.inr (own_w hw 10 rfl)) (ty := (.object "java/lang/Integer")) (by decide))
          show own_F p e below s Z _ _ _ _ _ (T14.setTop (mkF m 72 #[.val (.int p0), .val (.int p1), .val (.long q2), .second, .val (.int p3), .val (.int (0 : Int32)), .val (.int (((p0.toUInt32 >>> ((1 : Int32) &&& 31).toUInt32).toInt32) &&& (3 : Int32))), .val (.long (p1.toInt64)), .second, .unset, .unset, .unset] [(.ref b14)]))
          refine own_F.of (fun _ => XS.dup S14.here S14.hx rfl (S14.dec at_72) rfl rfl) ?_
          show own_F p e below s Z _ _ _ _ _ (T14.setTop (mkF m 73 #[.val (.int p0), .val (.int p1), .val (.long q2), .second, .val (.int p3), .val (.int (0 : Int32)), .val (.int (((p0.toUInt32 >>> ((1 : Int32) &&& 31).toUInt32).toInt32) &&& (3 : Int32))), .val (.long (p1.toInt64)), .second, .unset, .unset, .unset] [(.ref b14), (.ref b14)]))
          refine own_F.of (fun _ => XS.iload S14.here S14.hx rfl (S14.dec at_73) rfl) ?_
          show own_F p e below s Z _ _ _ _ _ (T14.setTop (mkF m 75 #[.val (.int p0), .val (.int p1), .val (.long q2), .second, .val (.int p3), .val (.int (0 : Int32)), .val (.int (((p0.toUInt32 >>> ((1 : Int32) &&& 31).toUInt32).toInt32) &&& (3 : Int32))), .val (.long (p1.toInt64)), .second, .unset, .unset, .unset] [(.int (0 : Int32)), (.ref b14), (.ref b14)]))
          refine own_if S14 85 at_75 (by decide) (by decide) (fun (hc75_15 : (0 : Int32) = (0 : Int32)) => ?_) (fun (hc75_15 : ¬ ((0 : Int32) = (0 : Int32))) => False.elim (absurd hc75_15 (by decide)))
          show own_F p e below s Z _ _ _ _ _ (T14.setTop (mkF m 85 #[.val (.int p0), .val (.int p1), .val (.long q2), .second, .val (.int p3), .val (.int (0 : Int32)), .val (.int (((p0.toUInt32 >>> ((1 : Int32) &&& 31).toUInt32).toInt32) &&& (3 : Int32))), .val (.long (p1.toInt64)), .second, .unset, .unset, .unset] [(.ref b14), (.ref b14)]))
          refine own_F.of (fun _ => XS.aconstNull S14.here S14.hx rfl (S14.dec at_85)) ?_
          show own_F p e below s Z _ _ _ _ _ (T14.setTop (mkF m 86 #[.val (.int p0), .val (.int p1), .val (.long q2), .second, .val (.int p3), .val (.int (0 : Int32)), .val (.int (((p0.toUInt32 >>> ((1 : Int32) &&& 31).toUInt32).toInt32) &&& (3 : Int32))), .val (.long (p1.toInt64)), .second, .unset, .unset, .unset] [.null, (.ref b14), (.ref b14)]))
          refine own_callI S14 (y := (⟨"com/example/manysort/manysort/language/Naturals", "<init>", "(Ljava/lang/Integer;)V"⟩ : MethodName)) rfl (own_w hw 3 rfl) (own_w hw 4 rfl) (own_w hw 2 rfl) (own_w hw 5 rfl) (by decide) (argsL := [.null]) (rest := [(.ref b14)]) (own_NatInit l Z a0 hw b14 .null h14 S14.old rfl (own_mayN S14 (Or.inr (by rw [g14]; exact S0.size))) A14 F14_maxint) (allS (Or.inr (by rw [g14]; exact S0.size)) all0) (by decide +kernel : parseMethodDescriptor "(Ljava/lang/Integer;)V" = some ⟨[(.object "java/lang/Integer")], none⟩) rfl rfl rfl at_86 (by decide) (Nat.le_of_ble_eq_true rfl) (by decide) (by decide) (fun T16 h16 v16 S16 K16 q16 => ?_)
          obtain ⟨rfl, F16⟩ := q16
          show own_F p e below s Z _ _ _ _ _ (T16.setTop (mkF m 89 #[.val (.int p0), .val (.int p1), .val (.long q2), .second, .val (.int p3), .val (.int (0 : Int32)), .val (.int (((p0.toUInt32 >>> ((1 : Int32) &&& 31).toUInt32).toInt32) &&& (3 : Int32))), .val (.long (p1.toInt64)), .second, .unset, .unset, .unset] [(.ref b14)]))
          refine own_F.of (fun _ => XS.astore S16.here S16.hx rfl (S16.dec at_89) rfl rfl (l' := #[.val (.int p0), .val (.int p1), .val (.long q2), .second, .val (.int p3), .val (.int (0 : Int32)), .val (.int (((p0.toUInt32 >>> ((1 : Int32) &&& 31).toUInt32).toInt32) &&& (3 : Int32))), .val (.long (p1.toInt64)), .second, .val (.ref b14), .unset, .unset]) rfl) ?_
          show own_F p e below s Z _ _ _ _ _ (T16.setTop (mkF m 91 #[.val (.int p0), .val (.int p1), .val (.long q2), .second, .val (.int p3), .val (.int (0 : Int32)), .val (.int (((p0.toUInt32 >>> ((1 : Int32) &&& 31).toUInt32).toInt32) &&& (3 : Int32))), .val (.long (p1.toInt64)), .second, .val (.ref b14), .unset, .unset] []))
          refine own_F.of (fun _ => XS.aload S16.here S16.hx rfl (S16.dec at_91) rfl rfl) ?_
          show own_F p e below s Z _ _ _ _ _ (T16.setTop (mkF m 93 #[.val (.int p0), .val (.int p1), .val (.long q2), .second, .val (.int p3), .val (.int (0 : Int32)), .val (.int (((p0.toUInt32 >>> ((1 : Int32) &&& 31).toUInt32).toInt32) &&& (3 : Int32))), .val (.long (p1.toInt64)), .second, .val (.ref b14), .unset, .unset] [(.ref b14)]))
          refine own_F.of (fun _ => XS.lload S16.here S16.hx rfl (S16.dec at_93) rfl) ?_
          show own_F p e below s Z _ _ _ _ _ (T16.setTop (mkF m 95 #[.val (.int p0), .val (.int p1), .val (.long q2), .second, .val (.int p3), .val (.int (0 : Int32)), .val (.int (((p0.toUInt32 >>> ((1 : Int32) &&& 31).toUInt32).toInt32) &&& (3 : Int32))), .val (.long (p1.toInt64)), .second, .val (.ref b14), .unset, .unset] [(.long (p1.toInt64)), (.ref b14)]))
          have f18 := (A14.keep K16)
          refine own_callV S16 (y := (⟨"com/example/manysort/manysort/language/Naturals", "leaveUnbounded", "(J)Z"⟩ : MethodName)) (y' := (⟨"com/example/manysort/manysort/language/Naturals", "leaveUnbounded", "(J)Z"⟩ : MethodName)) (own_w hw 11 rfl) (own_w hw 12 rfl) (own_nf S16 (own_w hw 14 rfl)) (own_w hw 14 rfl) (own_w hw 13 rfl) (own_w hw 15 rfl) (own_w hw 2 rfl) (by decide) f18 (argsL := [(.long (p1.toInt64))]) (rest := []) (own_leaveN l Z a0 hw b14 (p1.toInt64) h16 S16.old F16) all0 (by decide +kernel : parseMethodDescriptor "(J)Z" = some ⟨[.long], some .boolean⟩) rfl rfl rfl at_95 (by decide) (Nat.le_of_ble_eq_true rfl) (by decide) (by decide) (fun T17 h17 v17 S17 K17 q17 => ?_)
          obtain ⟨rfl, rfl⟩ := q17
          show own_F p e below s Z _ _ _ _ _ (T17.setTop (mkF m 98 #[.val (.int p0), .val (.int p1), .val (.long q2), .second, .val (.int p3), .val (.int (0 : Int32)), .val (.int (((p0.toUInt32 >>> ((1 : Int32) &&& 31).toUInt32).toInt32) &&& (3 : Int32))), .val (.long (p1.toInt64)), .second, .val (.ref b14), .unset, .unset] [(.int (own_lu (p1.toInt64)))]))
          refine own_F.of (fun _ => XS.istore S17.here S17.hx rfl (S17.dec at_98) rfl (l' := #[.val (.int p0), .val (.int p1), .val (.long q2), .second, .val (.int p3), .val (.int (0 : Int32)), .val (.int (((p0.toUInt32 >>> ((1 : Int32) &&& 31).toUInt32).toInt32) &&& (3 : Int32))), .val (.long (p1.toInt64)), .second, .val (.ref b14), .val (.int (own_lu (p1.toInt64))), .unset]) rfl) ?_
          show own_F p e below s Z _ _ _ _ _ (T17.setTop (mkF m 100 #[.val (.int p0), .val (.int p1), .val (.long q2), .second, .val (.int p3), .val (.int (0 : Int32)), .val (.int (((p0.toUInt32 >>> ((1 : Int32) &&& 31).toUInt32).toInt32) &&& (3 : Int32))), .val (.long (p1.toInt64)), .second, .val (.ref b14), .val (.int (own_lu (p1.toInt64))), .unset] []))
          refine own_F.of (fun _ => XS.iload S17.here S17.hx rfl (S17.dec at_100) rfl) ?_
          show own_F p e below s Z _ _ _ _ _ (T17.setTop (mkF m 102 #[.val (.int p0), .val (.int p1), .val (.long q2), .second, .val (.int p3), .val (.int (0 : Int32)), .val (.int (((p0.toUInt32 >>> ((1 : Int32) &&& 31).toUInt32).toInt32) &&& (3 : Int32))), .val (.long (p1.toInt64)), .second, .val (.ref b14), .val (.int (own_lu (p1.toInt64))), .unset] [(.int (0 : Int32))]))
          refine own_if S17 118 at_102 (by decide) (by decide) (fun (hc102_19 : ¬ ((0 : Int32) = (0 : Int32))) => False.elim (absurd hc102_19 (by decide))) (fun (hc102_19 : (0 : Int32) = (0 : Int32)) => ?_)
          show own_F p e below s Z _ _ _ _ _ (T17.setTop (mkF m 105 #[.val (.int p0), .val (.int p1), .val (.long q2), .second, .val (.int p3), .val (.int (0 : Int32)), .val (.int (((p0.toUInt32 >>> ((1 : Int32) &&& 31).toUInt32).toInt32) &&& (3 : Int32))), .val (.long (p1.toInt64)), .second, .val (.ref b14), .val (.int (own_lu (p1.toInt64))), .unset] []))
          refine own_F.of (fun _ => XS.lload S17.here S17.hx rfl (S17.dec at_105) rfl) ?_
          show own_F p e below s Z _ _ _ _ _ (T17.setTop (mkF m 107 #[.val (.int p0), .val (.int p1), .val (.long q2), .second, .val (.int p3), .val (.int (0 : Int32)), .val (.int (((p0.toUInt32 >>> ((1 : Int32) &&& 31).toUInt32).toInt32) &&& (3 : Int32))), .val (.long (p1.toInt64)), .second, .val (.ref b14), .val (.int (own_lu (p1.toInt64))), .unset] [(.long (p1.toInt64))]))
          refine own_ldcJ S17 (own_w hw 17 rfl) at_107 ?_
          show own_F p e below s Z _ _ _ _ _ (T17.setTop (mkF m 110 #[.val (.int p0), .val (.int p1), .val (.long q2), .second, .val (.int p3), .val (.int (0 : Int32)), .val (.int (((p0.toUInt32 >>> ((1 : Int32) &&& 31).toUInt32).toInt32) &&& (3 : Int32))), .val (.long (p1.toInt64)), .second, .val (.ref b14), .val (.int (own_lu (p1.toInt64))), .unset] [(.long (2147483647 : Int64)), (.long (p1.toInt64))]))
          refine own_F.of (fun _ => XS.lcmp S17.here S17.hx rfl (S17.dec at_110) rfl) ?_
          show own_F p e below s Z _ _ _ _ _ (T17.setTop (mkF m 111 #[.val (.int p0), .val (.int p1), .val (.long q2), .second, .val (.int p3), .val (.int (0 : Int32)), .val (.int (((p0.toUInt32 >>> ((1 : Int32) &&& 31).toUInt32).toInt32) &&& (3 : Int32))), .val (.long (p1.toInt64)), .second, .val (.ref b14), .val (.int (own_lu (p1.toInt64))), .unset] [(.int (lcmpW (p1.toInt64) (2147483647 : Int64)))]))
          refine own_if S17 118 at_111 (by decide) (by decide) (fun (hc111_20 : ¬ ((lcmpW (p1.toInt64) (2147483647 : Int64)) = (0 : Int32))) => ?_) (fun (hc111_20 : (lcmpW (p1.toInt64) (2147483647 : Int64)) = (0 : Int32)) => ?_)
          · show own_F p e below s Z _ _ _ _ _ (T17.setTop (mkF m 118 #[.val (.int p0), .val (.int p1), .val (.long q2), .second, .val (.int p3), .val (.int (0 : Int32)), .val (.int (((p0.toUInt32 >>> ((1 : Int32) &&& 31).toUInt32).toInt32) &&& (3 : Int32))), .val (.long (p1.toInt64)), .second, .val (.ref b14), .val (.int (own_lu (p1.toInt64))), .unset] []))
            refine own_F.of (fun _ => XS.iconst S17.here S17.hx rfl (S17.dec at_118)) ?_
            show own_F p e below s Z _ _ _ _ _ (T17.setTop (mkF m 119 #[.val (.int p0), .val (.int p1), .val (.long q2), .second, .val (.int p3), .val (.int (0 : Int32)), .val (.int (((p0.toUInt32 >>> ((1 : Int32) &&& 31).toUInt32).toInt32) &&& (3 : Int32))), .val (.long (p1.toInt64)), .second, .val (.ref b14), .val (.int (own_lu (p1.toInt64))), .unset] [(.int (0 : Int32))]))
            refine own_F.of (fun _ => XS.istore S17.here S17.hx rfl (S17.dec at_119) rfl (l' := #[.val (.int p0), .val (.int p1), .val (.long q2), .second, .val (.int p3), .val (.int (0 : Int32)), .val (.int (((p0.toUInt32 >>> ((1 : Int32) &&& 31).toUInt32).toInt32) &&& (3 : Int32))), .val (.long (p1.toInt64)), .second, .val (.ref b14), .val (.int (own_lu (p1.toInt64))), .val (.int (0 : Int32))]) rfl) ?_
            show own_F p e below s Z _ _ _ _ _ (T17.setTop (mkF m 121 #[.val (.int p0), .val (.int p1), .val (.long q2), .second, .val (.int p3), .val (.int (0 : Int32)), .val (.int (((p0.toUInt32 >>> ((1 : Int32) &&& 31).toUInt32).toInt32) &&& (3 : Int32))), .val (.long (p1.toInt64)), .second, .val (.ref b14), .val (.int (own_lu (p1.toInt64))), .val (.int (0 : Int32))] []))
            refine own_F.of (fun _ => XS.iload S17.here S17.hx rfl (S17.dec at_121) rfl) ?_
            show own_F p e below s Z _ _ _ _ _ (T17.setTop (mkF m 123 #[.val (.int p0), .val (.int p1), .val (.long q2), .second, .val (.int p3), .val (.int (0 : Int32)), .val (.int (((p0.toUInt32 >>> ((1 : Int32) &&& 31).toUInt32).toInt32) &&& (3 : Int32))), .val (.long (p1.toInt64)), .second, .val (.ref b14), .val (.int (own_lu (p1.toInt64))), .val (.int (0 : Int32))] [(.int (own_lu (p1.toInt64)))]))
            refine own_F.of (fun _ => XS.iload S17.here S17.hx rfl (S17.dec at_123) rfl) ?_
            show own_F p e below s Z _ _ _ _ _ (T17.setTop (mkF m 125 #[.val (.int p0), .val (.int p1), .val (.long q2), .second, .val (.int p3), .val (.int (0 : Int32)), .val (.int (((p0.toUInt32 >>> ((1 : Int32) &&& 31).toUInt32).toInt32) &&& (3 : Int32))), .val (.long (p1.toInt64)), .second, .val (.ref b14), .val (.int (own_lu (p1.toInt64))), .val (.int (0 : Int32))] [(.int (0 : Int32)), (.int (own_lu (p1.toInt64)))]))
            refine own_icmp S17 132 at_125 (by decide) (by decide) (fun (hc125_21 : ¬ ((own_lu (p1.toInt64)) = (0 : Int32))) => False.elim (hc125_21 (by simp only [own_lu]; rw [if_neg hc111_20]))) (fun (hc125_21 : (own_lu (p1.toInt64)) = (0 : Int32)) => ?_)
            show own_F p e below s Z _ _ _ _ _ (T17.setTop (mkF m 128 #[.val (.int p0), .val (.int p1), .val (.long q2), .second, .val (.int p3), .val (.int (0 : Int32)), .val (.int (((p0.toUInt32 >>> ((1 : Int32) &&& 31).toUInt32).toInt32) &&& (3 : Int32))), .val (.long (p1.toInt64)), .second, .val (.ref b14), .val (.int (own_lu (p1.toInt64))), .val (.int (0 : Int32))] []))
            refine own_F.of (fun _ => XS.iconst S17.here S17.hx rfl (S17.dec at_128)) ?_
            show own_F p e below s Z _ _ _ _ _ (T17.setTop (mkF m 129 #[.val (.int p0), .val (.int p1), .val (.long q2), .second, .val (.int p3), .val (.int (0 : Int32)), .val (.int (((p0.toUInt32 >>> ((1 : Int32) &&& 31).toUInt32).toInt32) &&& (3 : Int32))), .val (.long (p1.toInt64)), .second, .val (.ref b14), .val (.int (own_lu (p1.toInt64))), .val (.int (0 : Int32))] [(.int (1 : Int32))]))
            refine own_F.of (fun _ => XS.goto S17.here S17.hx rfl (pc0 := 129) (pc' := 133) rfl (S17.dec at_129) (by decide) (by decide)) ?_
            show own_F p e below s Z _ _ _ _ _ (T17.setTop (mkF m 133 #[.val (.int p0), .val (.int p1), .val (.long q2), .second, .val (.int p3), .val (.int (0 : Int32)), .val (.int (((p0.toUInt32 >>> ((1 : Int32) &&& 31).toUInt32).toInt32) &&& (3 : Int32))), .val (.long (p1.toInt64)), .second, .val (.ref b14), .val (.int (own_lu (p1.toInt64))), .val (.int (0 : Int32))] [(.int (1 : Int32))]))
            refine own_retZ S17 (by simp) at_133 (by decide) (by decide) ?_
            rfl
          · show own_F p e below s Z _ _ _ _ _ (T17.setTop (mkF m 114 #[.val (.int p0), .val (.int p1), .val (.long q2), .second, .val (.int p3), .val (.int (0 : Int32)), .val (.int (((p0.toUInt32 >>> ((1 : Int32) &&& 31).toUInt32).toInt32) &&& (3 : Int32))), .val (.long (p1.toInt64)), .second, .val (.ref b14), .val (.int (own_lu (p1.toInt64))), .unset] []))
            refine own_F.of (fun _ => XS.iconst S17.here S17.hx rfl (S17.dec at_114)) ?_
            show own_F p e below s Z _ _ _ _ _ (T17.setTop (mkF m 115 #[.val (.int p0), .val (.int p1), .val (.long q2), .second, .val (.int p3), .val (.int (0 : Int32)), .val (.int (((p0.toUInt32 >>> ((1 : Int32) &&& 31).toUInt32).toInt32) &&& (3 : Int32))), .val (.long (p1.toInt64)), .second, .val (.ref b14), .val (.int (own_lu (p1.toInt64))), .unset] [(.int (1 : Int32))]))
            refine own_F.of (fun _ => XS.goto S17.here S17.hx rfl (pc0 := 115) (pc' := 119) rfl (S17.dec at_115) (by decide) (by decide)) ?_
            show own_F p e below s Z _ _ _ _ _ (T17.setTop (mkF m 119 #[.val (.int p0), .val (.int p1), .val (.long q2), .second, .val (.int p3), .val (.int (0 : Int32)), .val (.int (((p0.toUInt32 >>> ((1 : Int32) &&& 31).toUInt32).toInt32) &&& (3 : Int32))), .val (.long (p1.toInt64)), .second, .val (.ref b14), .val (.int (own_lu (p1.toInt64))), .unset] [(.int (1 : Int32))]))
            refine own_F.of (fun _ => XS.istore S17.here S17.hx rfl (S17.dec at_119) rfl (l' := #[.val (.int p0), .val (.int p1), .val (.long q2), .second, .val (.int p3), .val (.int (0 : Int32)), .val (.int (((p0.toUInt32 >>> ((1 : Int32) &&& 31).toUInt32).toInt32) &&& (3 : Int32))), .val (.long (p1.toInt64)), .second, .val (.ref b14), .val (.int (own_lu (p1.toInt64))), .val (.int (1 : Int32))]) rfl) ?_
            show own_F p e below s Z _ _ _ _ _ (T17.setTop (mkF m 121 #[.val (.int p0), .val (.int p1), .val (.long q2), .second, .val (.int p3), .val (.int (0 : Int32)), .val (.int (((p0.toUInt32 >>> ((1 : Int32) &&& 31).toUInt32).toInt32) &&& (3 : Int32))), .val (.long (p1.toInt64)), .second, .val (.ref b14), .val (.int (own_lu (p1.toInt64))), .val (.int (1 : Int32))] []))
            refine own_F.of (fun _ => XS.iload S17.here S17.hx rfl (S17.dec at_121) rfl) ?_
            show own_F p e below s Z _ _ _ _ _ (T17.setTop (mkF m 123 #[.val (.int p0), .val (.int p1), .val (.long q2), .second, .val (.int p3), .val (.int (0 : Int32)), .val (.int (((p0.toUInt32 >>> ((1 : Int32) &&& 31).toUInt32).toInt32) &&& (3 : Int32))), .val (.long (p1.toInt64)), .second, .val (.ref b14), .val (.int (own_lu (p1.toInt64))), .val (.int (1 : Int32))] [(.int (own_lu (p1.toInt64)))]))
            refine own_F.of (fun _ => XS.iload S17.here S17.hx rfl (S17.dec at_123) rfl) ?_
            show own_F p e below s Z _ _ _ _ _ (T17.setTop (mkF m 125 #[.val (.int p0), .val (.int p1), .val (.long q2), .second, .val (.int p3), .val (.int (0 : Int32)), .val (.int (((p0.toUInt32 >>> ((1 : Int32) &&& 31).toUInt32).toInt32) &&& (3 : Int32))), .val (.long (p1.toInt64)), .second, .val (.ref b14), .val (.int (own_lu (p1.toInt64))), .val (.int (1 : Int32))] [(.int (1 : Int32)), (.int (own_lu (p1.toInt64)))]))
            refine own_icmp S17 132 at_125 (by decide) (by decide) (fun (hc125_22 : ¬ ((own_lu (p1.toInt64)) = (1 : Int32))) => False.elim (hc125_22 (by simp only [own_lu]; rw [if_pos hc111_20]))) (fun (hc125_22 : (own_lu (p1.toInt64)) = (1 : Int32)) => ?_)
            show own_F p e below s Z _ _ _ _ _ (T17.setTop (mkF m 128 #[.val (.int p0), .val (.int p1), .val (.long q2), .second, .val (.int p3), .val (.int (0 : Int32)), .val (.int (((p0.toUInt32 >>> ((1 : Int32) &&& 31).toUInt32).toInt32) &&& (3 : Int32))), .val (.long (p1.toInt64)), .second, .val (.ref b14), .val (.int (own_lu (p1.toInt64))), .val (.int (1 : Int32))] []))
            refine own_F.of (fun _ => XS.iconst S17.here S17.hx rfl (S17.dec at_128)) ?_
            show own_F p e below s Z _ _ _ _ _ (T17.setTop (mkF m 129 #[.val (.int p0), .val (.int p1), .val (.long q2), .second, .val (.int p3), .val (.int (0 : Int32)), .val (.int (((p0.toUInt32 >>> ((1 : Int32) &&& 31).toUInt32).toInt32) &&& (3 : Int32))), .val (.long (p1.toInt64)), .second, .val (.ref b14), .val (.int (own_lu (p1.toInt64))), .val (.int (1 : Int32))] [(.int (1 : Int32))]))
            refine own_F.of (fun _ => XS.goto S17.here S17.hx rfl (pc0 := 129) (pc' := 133) rfl (S17.dec at_129) (by decide) (by decide)) ?_
            show own_F p e below s Z _ _ _ _ _ (T17.setTop (mkF m 133 #[.val (.int p0), .val (.int p1), .val (.long q2), .second, .val (.int p3), .val (.int (0 : Int32)), .val (.int (((p0.toUInt32 >>> ((1 : Int32) &&& 31).toUInt32).toInt32) &&& (3 : Int32))), .val (.long (p1.toInt64)), .second, .val (.ref b14), .val (.int (own_lu (p1.toInt64))), .val (.int (1 : Int32))] [(.int (1 : Int32))]))
            refine own_retZ S17 (by simp) at_133 (by decide) (by decide) ?_
            rfl
      · show own_F p e below s Z _ _ _ _ _ (T0.setTop (mkF m 37 #[.val (.int p0), .val (.int p1), .val (.long q2), .second, .val (.int p3), .val (.int (0 : Int32)), .val (.int (((p0.toUInt32 >>> ((1 : Int32) &&& 31).toUInt32).toInt32) &&& (3 : Int32))), .unset, .unset, .unset, .unset, .unset] []))
        refine own_ldcJ S0 (own_w hw 17 rfl) at_37 ?_
        show own_F p e below s Z _ _ _ _ _ (T0.setTop (mkF m 40 #[.val (.int p0), .val (.int p1), .val (.long q2), .second, .val (.int p3), .val (.int (0 : Int32)), .val (.int (((p0.toUInt32 >>> ((1 : Int32) &&& 31).toUInt32).toInt32) &&& (3 : Int32))), .unset, .unset, .unset, .unset, .unset] [(.long (2147483647 : Int64))]))
        refine own_F.of (fun _ => XS.iload S0.here S0.hx rfl (S0.dec at_40) rfl) ?_
        show own_F p e below s Z _ _ _ _ _ (T0.setTop (mkF m 42 #[.val (.int p0), .val (.int p1), .val (.long q2), .second, .val (.int p3), .val (.int (0 : Int32)), .val (.int (((p0.toUInt32 >>> ((1 : Int32) &&& 31).toUInt32).toInt32) &&& (3 : Int32))), .unset, .unset, .unset, .unset, .unset] [(.int p3), (.long (2147483647 : Int64))]))
        refine own_F.of (fun _ => XS.iconst S0.here S0.hx rfl (S0.dec at_42)) ?_
        show own_F p e below s Z _ _ _ _ _ (T0.setTop (mkF m 43 #[.val (.int p0), .val (.int p1), .val (.long q2), .second, .val (.int p3), .val (.int (0 : Int32)), .val (.int (((p0.toUInt32 >>> ((1 : Int32) &&& 31).toUInt32).toInt32) &&& (3 : Int32))), .unset, .unset, .unset, .unset, .unset] [(.int (3 : Int32)), (.int p3), (.long (2147483647 : Int64))]))
        refine own_F.of (fun _ => own_irem S0 at_43 (by decide)) ?_
        show own_F p e below s Z _ _ _ _ _ (T0.setTop (mkF m 44 #[.val (.int p0), .val (.int p1), .val (.long q2), .second, .val (.int p3), .val (.int (0 : Int32)), .val (.int (((p0.toUInt32 >>> ((1 : Int32) &&& 31).toUInt32).toInt32) &&& (3 : Int32))), .unset, .unset, .unset, .unset, .unset] [(.int (p3 % (3 : Int32))), (.long (2147483647 : Int64))]))
        refine own_F.of (fun _ => XS.i2l S0.here S0.hx rfl (S0.dec at_44) rfl) ?_
        show own_F p e below s Z _ _ _ _ _ (T0.setTop (mkF m 45 #[.val (.int p0), .val (.int p1), .val (.long q2), .second, .val (.int p3), .val (.int (0 : Int32)), .val (.int (((p0.toUInt32 >>> ((1 : Int32) &&& 31).toUInt32).toInt32) &&& (3 : Int32))), .unset, .unset, .unset, .unset, .unset] [(.long ((p3 % (3 : Int32)).toInt64)), (.long (2147483647 : Int64))]))
        refine own_F.of (fun _ => XS.ladd S0.here S0.hx rfl (S0.dec at_45) rfl) ?_
        show own_F p e below s Z _ _ _ _ _ (T0.setTop (mkF m 46 #[.val (.int p0), .val (.int p1), .val (.long q2), .second, .val (.int p3), .val (.int (0 : Int32)), .val (.int (((p0.toUInt32 >>> ((1 : Int32) &&& 31).toUInt32).toInt32) &&& (3 : Int32))), .unset, .unset, .unset, .unset, .unset] [(.long ((2147483647 : Int64) + ((p3 % (3 : Int32)).toInt64)))]))
        refine own_F.of (fun _ => XS.lstore S0.here S0.hx rfl (S0.dec at_46) rfl (l' := #[.val (.int p0), .val (.int p1), .val (.long q2), .second, .val (.int p3), .val (.int (0 : Int32)), .val (.int (((p0.toUInt32 >>> ((1 : Int32) &&& 31).toUInt32).toInt32) &&& (3 : Int32))), .val (.long ((2147483647 : Int64) + ((p3 % (3 : Int32)).toInt64))), .second, .unset, .unset, .unset]) rfl) ?_
        show own_F p e below s Z _ _ _ _ _ (T0.setTop (mkF m 48 #[.val (.int p0), .val (.int p1), .val (.long q2), .second, .val (.int p3), .val (.int (0 : Int32)), .val (.int (((p0.toUInt32 >>> ((1 : Int32) &&& 31).toUInt32).toInt32) &&& (3 : Int32))), .val (.long ((2147483647 : Int64) + ((p3 % (3 : Int32)).toInt64))), .second, .unset, .unset, .unset] []))
        refine own_F.of (fun _ => XS.goto S0.here S0.hx rfl (pc0 := 48) (pc' := 69) rfl (S0.dec at_48) (by decide) (by decide)) ?_
        show own_F p e below s Z _ _ _ _ _ (T0.setTop (mkF m 69 #[.val (.int p0), .val (.int p1), .val (.long q2), .second, .val (.int p3), .val (.int (0 : Int32)), .val (.int (((p0.toUInt32 >>> ((1 : Int32) &&& 31).toUInt32).toInt32) &&& (3 : Int32))), .val (.long ((2147483647 : Int64) + ((p3 % (3 : Int32)).toInt64))), .second, .unset, .unset, .unset] []))
        refine own_new S0 (own_w hw 0 rfl) (own_w hw 1 rfl) (own_w hw 2 rfl) at_69 (by decide) (by decide) (fun T23 h23 b23 g23 S23 E23 A23 D23 => ?_)
        have F23_maxint : Fld Z h23 b23 "com/example/manysort/manysort/language/Naturals" "maxint" "Ljava/lang/Integer;" .null := (D23 (Or.inr (own_w hw 10 rfl)) (ty := (.object "java/lang/Integer")) (by decide))
        show own_F p e below s Z _ _ _ _ _ (T23.setTop (mkF m 72 #[.val (.int p0), .val (.int p1), .val (.long q2), .second, .val (.int p3), .val (.int (0 : Int32)), .val (.int (((p0.toUInt32 >>> ((1 : Int32) &&& 31).toUInt32).toInt32) &&& (3 : Int32))), .val (.long ((2147483647 : Int64) + ((p3 % (3 : Int32)).toInt64))), .second, .unset, .unset, .unset] [(.ref b23)]))
        refine own_F.of (fun _ => XS.dup S23.here S23.hx rfl (S23.dec at_72) rfl rfl) ?_
        show own_F p e below s Z _ _ _ _ _ (T23.setTop (mkF m 73 #[.val (.int p0), .val (.int p1), .val (.long q2), .second, .val (.int p3), .val (.int (0 : Int32)), .val (.int (((p0.toUInt32 >>> ((1 : Int32) &&& 31).toUInt32).toInt32) &&& (3 : Int32))), .val (.long ((2147483647 : Int64) + ((p3 % (3 : Int32)).toInt64))), .second, .unset, .unset, .unset] [(.ref b23), (.ref b23)]))
        refine own_F.of (fun _ => XS.iload S23.here S23.hx rfl (S23.dec at_73) rfl) ?_
        show own_F p e below s Z _ _ _ _ _ (T23.setTop (mkF m 75 #[.val (.int p0), .val (.int p1), .val (.long q2), .second, .val (.int p3), .val (.int (0 : Int32)), .val (.int (((p0.toUInt32 >>> ((1 : Int32) &&& 31).toUInt32).toInt32) &&& (3 : Int32))), .val (.long ((2147483647 : Int64) + ((p3 % (3 : Int32)).toInt64))), .second, .unset, .unset, .unset] [(.int (0 : Int32)), (.ref b23), (.ref b23)]))
        refine own_if S23 85 at_75 (by decide) (by decide) (fun (hc75_24 : (0 : Int32) = (0 : Int32)) => ?_) (fun (hc75_24 : ¬ ((0 : Int32) = (0 : Int32))) => False.elim (absurd hc75_24 (by decide)))
        show own_F p e below s Z _ _ _ _ _ (T23.setTop (mkF m 85 #[.val (.int p0), .val (.int p1), .val (.long q2), .second, .val (.int p3), .val (.int (0 : Int32)), .val (.int (((p0.toUInt32 >>> ((1 : Int32) &&& 31).toUInt32).toInt32) &&& (3 : Int32))), .val (.long ((2147483647 : Int64) + ((p3 % (3 : Int32)).toInt64))), .second, .unset, .unset, .unset] [(.ref b23), (.ref b23)]))
        refine own_F.of (fun _ => XS.aconstNull S23.here S23.hx rfl (S23.dec at_85)) ?_
        show own_F p e below s Z _ _ _ _ _ (T23.setTop (mkF m 86 #[.val (.int p0), .val (.int p1), .val (.long q2), .second, .val (.int p3), .val (.int (0 : Int32)), .val (.int (((p0.toUInt32 >>> ((1 : Int32) &&& 31).toUInt32).toInt32) &&& (3 : Int32))), .val (.long ((2147483647 : Int64) + ((p3 % (3 : Int32)).toInt64))), .second, .unset, .unset, .unset] [.null, (.ref b23), (.ref b23)]))
        refine own_callI S23 (y := (⟨"com/example/manysort/manysort/language/Naturals", "<init>", "(Ljava/lang/Integer;)V"⟩ : MethodName)) rfl (own_w hw 3 rfl) (own_w hw 4 rfl) (own_w hw 2 rfl) (own_w hw 5 rfl) (by decide) (argsL := [.null]) (rest := [(.ref b23)]) (own_NatInit l Z a0 hw b23 .null h23 S23.old rfl (own_mayN S23 (Or.inr (by rw [g23]; exact S0.size))) A23 F23_maxint) (allS (Or.inr (by rw [g23]; exact S0.size)) all0) (by decide +kernel : parseMethodDescriptor "(Ljava/lang/Integer;)V" = some ⟨[(.object "java/lang/Integer")], none⟩) rfl rfl rfl at_86 (by decide) (Nat.le_of_ble_eq_true rfl) (by decide) (by decide) (fun T25 h25 v25 S25 K25 q25 => ?_)
        obtain ⟨rfl, F25⟩ := q25
        show own_F p e below s Z _ _ _ _ _ (T25.setTop (mkF m 89 #[.val (.int p0), .val (.int p1), .val (.long q2), .second, .val (.int p3), .val (.int (0 : Int32)), .val (.int (((p0.toUInt32 >>> ((1 : Int32) &&& 31).toUInt32).toInt32) &&& (3 : Int32))), .val (.long ((2147483647 : Int64) + ((p3 % (3 : Int32)).toInt64))), .second, .unset, .unset, .unset] [(.ref b23)]))
        refine own_F.of (fun _ => XS.astore S25.here S25.hx rfl (S25.dec at_89) rfl rfl (l' := #[.val (.int p0), .val (.int p1), .val (.long q2), .second, .val (.int p3), .val (.int (0 : Int32)), .val (.int (((p0.toUInt32 >>> ((1 : Int32) &&& 31).toUInt32).toInt32) &&& (3 : Int32))), .val (.long ((2147483647 : Int64) + ((p3 % (3 : Int32)).toInt64))), .second, .val (.ref b23), .unset, .unset]) rfl) ?_
        show own_F p e below s Z _ _ _ _ _ (T25.setTop (mkF m 91 #[.val (.int p0), .val (.int p1), .val (.long q2), .second, .val (.int p3), .val (.int (0 : Int32)), .val (.int (((p0.toUInt32 >>> ((1 : Int32) &&& 31).toUInt32).toInt32) &&& (3 : Int32))), .val (.long ((2147483647 : Int64) + ((p3 % (3 : Int32)).toInt64))), .second, .val (.ref b23), .unset, .unset] []))
        refine own_F.of (fun _ => XS.aload S25.here S25.hx rfl (S25.dec at_91) rfl rfl) ?_
        show own_F p e below s Z _ _ _ _ _ (T25.setTop (mkF m 93 #[.val (.int p0), .val (.int p1), .val (.long q2), .second, .val (.int p3), .val (.int (0 : Int32)), .val (.int (((p0.toUInt32 >>> ((1 : Int32) &&& 31).toUInt32).toInt32) &&& (3 : Int32))), .val (.long ((2147483647 : Int64) + ((p3 % (3 : Int32)).toInt64))), .second, .val (.ref b23), .unset, .unset] [(.ref b23)]))
        refine own_F.of (fun _ => XS.lload S25.here S25.hx rfl (S25.dec at_93) rfl) ?_
        show own_F p e below s Z _ _ _ _ _ (T25.setTop (mkF m 95 #[.val (.int p0), .val (.int p1), .val (.long q2), .second, .val (.int p3), .val (.int (0 : Int32)), .val (.int (((p0.toUInt32 >>> ((1 : Int32) &&& 31).toUInt32).toInt32) &&& (3 : Int32))), .val (.long ((2147483647 : Int64) + ((p3 % (3 : Int32)).toInt64))), .second, .val (.ref b23), .unset, .unset] [(.long ((2147483647 : Int64) + ((p3 % (3 : Int32)).toInt64))), (.ref b23)]))
        have f27 := (A23.keep K25)
        refine own_callV S25 (y := (⟨"com/example/manysort/manysort/language/Naturals", "leaveUnbounded", "(J)Z"⟩ : MethodName)) (y' := (⟨"com/example/manysort/manysort/language/Naturals", "leaveUnbounded", "(J)Z"⟩ : MethodName)) (own_w hw 11 rfl) (own_w hw 12 rfl) (own_nf S25 (own_w hw 14 rfl)) (own_w hw 14 rfl) (own_w hw 13 rfl) (own_w hw 15 rfl) (own_w hw 2 rfl) (by decide) f27 (argsL := [(.long ((2147483647 : Int64) + ((p3 % (3 : Int32)).toInt64)))]) (rest := []) (own_leaveN l Z a0 hw b23 ((2147483647 : Int64) + ((p3 % (3 : Int32)).toInt64)) h25 S25.old F25) all0 (by decide +kernel : parseMethodDescriptor "(J)Z" = some ⟨[.long], some .boolean⟩) rfl rfl rfl at_95 (by decide) (Nat.le_of_ble_eq_true rfl) (by decide) (by decide) (fun T26 h26 v26 S26 K26 q26 => ?_)
        obtain ⟨rfl, rfl⟩ := q26
        show own_F p e below s Z _ _ _ _ _ (T26.setTop (mkF m 98 #[.val (.int p0), .val (.int p1), .val (.long q2), .second, .val (.int p3), .val (.int (0 : Int32)), .val (.int (((p0.toUInt32 >>> ((1 : Int32) &&& 31).toUInt32).toInt32) &&& (3 : Int32))), .val (.long ((2147483647 : Int64) + ((p3 % (3 : Int32)).toInt64))), .second, .val (.ref b23), .unset, .unset] [(.int (own_lu ((2147483647 : Int64) + ((p3 % (3 : Int32)).toInt64))))]))
        refine own_F.of (fun _ => XS.istore S26.here S26.hx rfl (S26.dec at_98) rfl (l' := #[.val (.int p0), .val (.int p1), .val (.long q2), .second, .val (.int p3), .val (.int (0 : Int32)), .val (.int (((p0.toUInt32 >>> ((1 : Int32) &&& 31).toUInt32).toInt32) &&& (3 : Int32))), .val (.long ((2147483647 : Int64) + ((p3 % (3 : Int32)).toInt64))), .second, .val (.ref b23), .val (.int (own_lu ((2147483647 : Int64) + ((p3 % (3 : Int32)).toInt64)))), .unset]) rfl) ?_
        show own_F p e below s Z _ _ _ _ _ (T26.setTop (mkF m 100 #[.val (.int p0), .val (.int p1), .val (.long q2), .second, .val (.int p3), .val (.int (0 : Int32)), .val (.int (((p0.toUInt32 >>> ((1 : Int32) &&& 31).toUInt32).toInt32) &&& (3 : Int32))), .val (.long ((2147483647 : Int64) + ((p3 % (3 : Int32)).toInt64))), .second, .val (.ref b23), .val (.int (own_lu ((2147483647 : Int64) + ((p3 % (3 : Int32)).toInt64)))), .unset] []))
        refine own_F.of (fun _ => XS.iload S26.here S26.hx rfl (S26.dec at_100) rfl) ?_
        show own_F p e below s Z _ _ _ _ _ (T26.setTop (mkF m 102 #[.val (.int p0), .val (.int p1), .val (.long q2), .second, .val (.int p3), .val (.int (0 : Int32)), .val (.int (((p0.toUInt32 >>> ((1 : Int32) &&& 31).toUInt32).toInt32) &&& (3 : Int32))), .val (.long ((2147483647 : Int64) + ((p3 % (3 : Int32)).toInt64))), .second, .val (.ref b23), .val (.int (own_lu ((2147483647 : Int64) + ((p3 % (3 : Int32)).toInt64)))), .unset] [(.int (0 : Int32))]))
        refine own_if S26 118 at_102 (by decide) (by decide) (fun (hc102_28 : ¬ ((0 : Int32) = (0 : Int32))) => False.elim (absurd hc102_28 (by decide))) (fun (hc102_28 : (0 : Int32) = (0 : Int32)) => ?_)
        show own_F p e below s Z _ _ _ _ _ (T26.setTop (mkF m 105 #[.val (.int p0), .val (.int p1), .val (.long q2), .second, .val (.int p3), .val (.int (0 : Int32)), .val (.int (((p0.toUInt32 >>> ((1 : Int32) &&& 31).toUInt32).toInt32) &&& (3 : Int32))), .val (.long ((2147483647 : Int64) + ((p3 % (3 : Int32)).toInt64))), .second, .val (.ref b23), .val (.int (own_lu ((2147483647 : Int64) + ((p3 % (3 : Int32)).toInt64)))), .unset] []))
        refine own_F.of (fun _ => XS.lload S26.here S26.hx rfl (S26.dec at_105) rfl) ?_
        show own_F p e below s Z _ _ _ _ _ (T26.setTop (mkF m 107 #[.val (.int p0), .val (.int p1), .val (.long q2), .second, .val (.int p3), .val (.int (0 : Int32)), .val (.int (((p0.toUInt32 >>> ((1 : Int32) &&& 31).toUInt32).toInt32) &&& (3 : Int32))), .val (.long ((2147483647 : Int64) + ((p3 % (3 : Int32)).toInt64))), .second, .val (.ref b23), .val (.int (own_lu ((2147483647 : Int64) + ((p3 % (3 : Int32)).toInt64)))), .unset] [(.long ((2147483647 : Int64) + ((p3 % (3 : Int32)).toInt64)))]))
        refine own_ldcJ S26 (own_w hw 17 rfl) at_107 ?_
        show own_F p e below s Z _ _ _ _ _ (T26.setTop (mkF m 110 #[.val (.int p0), .val (.int p1), .val (.long q2), .second, .val (.int p3), .val (.int (0 : Int32)), .val (.int (((p0.toUInt32 >>> ((1 : Int32) &&& 31).toUInt32).toInt32) &&& (3 : Int32))), .val (.long ((2147483647 : Int64) + ((p3 % (3 : Int32)).toInt64))), .second, .val (.ref b23), .val (.int (own_lu ((2147483647 : Int64) + ((p3 % (3 : Int32)).toInt64)))), .unset] [(.long (2147483647 : Int64)), (.long ((2147483647 : Int64) + ((p3 % (3 : Int32)).toInt64)))]))
        refine own_F.of (fun _ => XS.lcmp S26.here S26.hx rfl (S26.dec at_110) rfl) ?_
        show own_F p e below s Z _ _ _ _ _ (T26.setTop (mkF m 111 #[.val (.int p0), .val (.int p1), .val (.long q2), .second, .val (.int p3), .val (.int (0 : Int32)), .val (.int (((p0.toUInt32 >>> ((1 : Int32) &&& 31).toUInt32).toInt32) &&& (3 : Int32))), .val (.long ((2147483647 : Int64) + ((p3 % (3 : Int32)).toInt64))), .second, .val (.ref b23), .val (.int (own_lu ((2147483647 : Int64) + ((p3 % (3 : Int32)).toInt64)))), .unset] [(.int (lcmpW ((2147483647 : Int64) + ((p3 % (3 : Int32)).toInt64)) (2147483647 : Int64)))]))
        refine own_if S26 118 at_111 (by decide) (by decide) (fun (hc111_29 : ¬ ((lcmpW ((2147483647 : Int64) + ((p3 % (3 : Int32)).toInt64)) (2147483647 : Int64)) = (0 : Int32))) => ?_) (fun (hc111_29 : (lcmpW ((2147483647 : Int64) + ((p3 % (3 : Int32)).toInt64)) (2147483647 : Int64)) = (0 : Int32)) => ?_)
        · show own_F p e below s Z _ _ _ _ _ (T26.setTop (mkF m 118 #[.val (.int p0), .val (.int p1), .val (.long q2), .second, .val (.int p3), .val (.int (0 : Int32)), .val (.int (((p0.toUInt32 >>> ((1 : Int32) &&& 31).toUInt32).toInt32) &&& (3 : Int32))), .val (.long ((2147483647 : Int64) + ((p3 % (3 : Int32)).toInt64))), .second, .val (.ref b23), .val (.int (own_lu ((2147483647 : Int64) + ((p3 % (3 : Int32)).toInt64)))), .unset] []))
          refine own_F.of (fun _ => XS.iconst S26.here S26.hx rfl (S26.dec at_118)) ?_
          show own_F p e below s Z _ _ _ _ _ (T26.setTop (mkF m 119 #[.val (.int p0), .val (.int p1), .val (.long q2), .second, .val (.int p3), .val (.int (0 : Int32)), .val (.int (((p0.toUInt32 >>> ((1 : Int32) &&& 31).toUInt32).toInt32) &&& (3 : Int32))), .val (.long ((2147483647 : Int64) + ((p3 % (3 : Int32)).toInt64))), .second, .val (.ref b23), .val (.int (own_lu ((2147483647 : Int64) + ((p3 % (3 : Int32)).toInt64)))), .unset] [(.int (0 : Int32))]))
          refine own_F.of (fun _ => XS.istore S26.here S26.hx rfl (S26.dec at_119) rfl (l' := #[.val (.int p0), .val (.int p1), .val (.long q2), .second, .val (.int p3), .val (.int (0 : Int32)), .val (.int (((p0.toUInt32 >>> ((1 : Int32) &&& 31).toUInt32).toInt32) &&& (3 : Int32))), .val (.long ((2147483647 : Int64) + ((p3 % (3 : Int32)).toInt64))), .second, .val (.ref b23), .val (.int (own_lu ((2147483647 : Int64) + ((p3 % (3 : Int32)).toInt64)))), .val (.int (0 : Int32))]) rfl) ?_
          show own_F p e below s Z _ _ _ _ _ (T26.setTop (mkF m 121 #[.val (.int p0), .val (.int p1), .val (.long q2), .second, .val (.int p3), .val (.int (0 : Int32)), .val (.int (((p0.toUInt32 >>> ((1 : Int32) &&& 31).toUInt32).toInt32) &&& (3 : Int32))), .val (.long ((2147483647 : Int64) + ((p3 % (3 : Int32)).toInt64))), .second, .val (.ref b23), .val (.int (own_lu ((2147483647 : Int64) + ((p3 % (3 : Int32)).toInt64)))), .val (.int (0 : Int32))] []))
          refine own_F.of (fun _ => XS.iload S26.here S26.hx rfl (S26.dec at_121) rfl) ?_
          show own_F p e below s Z _ _ _ _ _ (T26.setTop (mkF m 123 #[.val (.int p0), .val (.int p1), .val (.long q2), .second, .val (.int p3), .val (.int (0 : Int32)), .val (.int (((p0.toUInt32 >>> ((1 : Int32) &&& 31).toUInt32).toInt32) &&& (3 : Int32))), .val (.long ((2147483647 : Int64) + ((p3 % (3 : Int32)).toInt64))), .second, .val (.ref b23), .val (.int (own_lu ((2147483647 : Int64) + ((p3 % (3 : Int32)).toInt64)))), .val (.int (0 : Int32))] [(.int (own_lu ((2147483647 : Int64) + ((p3 % (3 : Int32)).toInt64))))]))
          refine own_F.of (fun _ => XS.iload S26.here S26.hx rfl (S26.dec at_123) rfl) ?_
          show own_F p e below s Z _ _ _ _ _ (T26.setTop (mkF m 125 #[.val (.int p0), .val (.int p1), .val (.long q2), .second, .val (.int p3), .val (.int (0 : Int32)), .val (.int (((p0.toUInt32 >>> ((1 : Int32) &&& 31).toUInt32).toInt32) &&& (3 : Int32))), .val (.long ((2147483647 : Int64) + ((p3 % (3 : Int32)).toInt64))), .second, .val (.ref b23), .val (.int (own_lu ((2147483647 : Int64) + ((p3 % (3 : Int32)).toInt64)))), .val (.int (0 : Int32))] [(.int (0 : Int32)), (.int (own_lu ((2147483647 : Int64) + ((p3 % (3 : Int32)).toInt64))))]))
          refine own_icmp S26 132 at_125 (by decide) (by decide) (fun (hc125_30 : ¬ ((own_lu ((2147483647 : Int64) + ((p3 % (3 : Int32)).toInt64))) = (0 : Int32))) => False.elim (hc125_30 (by simp only [own_lu]; rw [if_neg hc111_29]))) (fun (hc125_30 : (own_lu ((2147483647 : Int64) + ((p3 % (3 : Int32)).toInt64))) = (0 : Int32)) => ?_)
          show own_F p e below s Z _ _ _ _ _ (T26.setTop (mkF m 128 #[.val (.int p0), .val (.int p1), .val (.long q2), .second, .val (.int p3), .val (.int (0 : Int32)), .val (.int (((p0.toUInt32 >>> ((1 : Int32) &&& 31).toUInt32).toInt32) &&& (3 : Int32))), .val (.long ((2147483647 : Int64) + ((p3 % (3 : Int32)).toInt64))), .second, .val (.ref b23), .val (.int (own_lu ((2147483647 : Int64) + ((p3 % (3 : Int32)).toInt64)))), .val (.int (0 : Int32))] []))
          refine own_F.of (fun _ => XS.iconst S26.here S26.hx rfl (S26.dec at_128)) ?_
          show own_F p e below s Z _ _ _ _ _ (T26.setTop (mkF m 129 #[.val (.int p0), .val (.int p1), .val (.long q2), .second, .val (.int p3), .val (.int (0 : Int32)), .val (.int (((p0.toUInt32 >>> ((1 : Int32) &&& 31).toUInt32).toInt32) &&& (3 : Int32))), .val (.long ((2147483647 : Int64) + ((p3 % (3 : Int32)).toInt64))), .second, .val (.ref b23), .val (.int (own_lu ((2147483647 : Int64) + ((p3 % (3 : Int32)).toInt64)))), .val (.int (0 : Int32))] [(.int (1 : Int32))]))
          refine own_F.of (fun _ => XS.goto S26.here S26.hx rfl (pc0 := 129) (pc' := 133) rfl (S26.dec at_129) (by decide) (by decide)) ?_
          show own_F p e below s Z _ _ _ _ _ (T26.setTop (mkF m 133 #[.val (.int p0), .val (.int p1), .val (.long q2), .second, .val (.int p3), .val (.int (0 : Int32)), .val (.int (((p0.toUInt32 >>> ((1 : Int32) &&& 31).toUInt32).toInt32) &&& (3 : Int32))), .val (.long ((2147483647 : Int64) + ((p3 % (3 : Int32)).toInt64))), .second, .val (.ref b23), .val (.int (own_lu ((2147483647 : Int64) + ((p3 % (3 : Int32)).toInt64)))), .val (.int (0 : Int32))] [(.int (1 : Int32))]))
          refine own_retZ S26 (by simp) at_133 (by decide) (by decide) ?_
          rfl
        · show own_F p e below s Z _ _ _ _ _ (T26.setTop (mkF m 114 #[.val (.int p0), .val (.int p1), .val (.long q2), .second, .val (.int p3), .val (.int (0 : Int32)), .val (.int (((p0.toUInt32 >>> ((1 : Int32) &&& 31).toUInt32).toInt32) &&& (3 : Int32))), .val (.long ((2147483647 : Int64) + ((p3 % (3 : Int32)).toInt64))), .second, .val (.ref b23), .val (.int (own_lu ((2147483647 : Int64) + ((p3 % (3 : Int32)).toInt64)))), .unset] []))
          refine own_F.of (fun _ => XS.iconst S26.here S26.hx rfl (S26.dec at_114)) ?_
          show own_F p e below s Z _ _ _ _ _ (T26.setTop (mkF m 115 #[.val (.int p0), .val (.int p1), .val (.long q2), .second, .val (.int p3), .val (.int (0 : Int32)), .val (.int (((p0.toUInt32 >>> ((1 : Int32) &&& 31).toUInt32).toInt32) &&& (3 : Int32))), .val (.long ((2147483647 : Int64) + ((p3 % (3 : Int32)).toInt64))), .second, .val (.ref b23), .val (.int (own_lu ((2147483647 : Int64) + ((p3 % (3 : Int32)).toInt64)))), .unset] [(.int (1 : Int32))]))
          refine own_F.of (fun _ => XS.goto S26.here S26.hx rfl (pc0 := 115) (pc' := 119) rfl (S26.dec at_115) (by decide) (by decide)) ?_
          show own_F p e below s Z _ _ _ _ _ (T26.setTop (mkF m 119 #[.val (.int p0), .val (.int p1), .val (.long q2), .second, .val (.int p3), .val (.int (0 : Int32)), .val (.int (((p0.toUInt32 >>> ((1 : Int32) &&& 31).toUInt32).toInt32) &&& (3 : Int32))), .val (.long ((2147483647 : Int64) + ((p3 % (3 : Int32)).toInt64))), .second, .val (.ref b23), .val (.int (own_lu ((2147483647 : Int64) + ((p3 % (3 : Int32)).toInt64)))), .unset] [(.int (1 : Int32))]))
          refine own_F.of (fun _ => XS.istore S26.here S26.hx rfl (S26.dec at_119) rfl (l' := #[.val (.int p0), .val (.int p1), .val (.long q2), .second, .val (.int p3), .val (.int (0 : Int32)), .val (.int (((p0.toUInt32 >>> ((1 : Int32) &&& 31).toUInt32).toInt32) &&& (3 : Int32))), .val (.long ((2147483647 : Int64) + ((p3 % (3 : Int32)).toInt64))), .second, .val (.ref b23), .val (.int (own_lu ((2147483647 : Int64) + ((p3 % (3 : Int32)).toInt64)))), .val (.int (1 : Int32))]) rfl) ?_
          show own_F p e below s Z _ _ _ _ _ (T26.setTop (mkF m 121 #[.val (.int p0), .val (.int p1), .val (.long q2), .second, .val (.int p3), .val (.int (0 : Int32)), .val (.int (((p0.toUInt32 >>> ((1 : Int32) &&& 31).toUInt32).toInt32) &&& (3 : Int32))), .val (.long ((2147483647 : Int64) + ((p3 % (3 : Int32)).toInt64))), .second, .val (.ref b23), .val (.int (own_lu ((2147483647 : Int64) + ((p3 % (3 : Int32)).toInt64)))), .val (.int (1 : Int32))] []))
          refine own_F.of (fun _ => XS.iload S26.here S26.hx rfl (S26.dec at_121) rfl) ?_
          show own_F p e below s Z _ _ _ _ _ (T26.setTop (mkF m 123 #[.val (.int p0), .val (.int p1), .val (.long q2), .second, .val (.int p3), .val (.int (0 : Int32)), .val (.int (((p0.toUInt32 >>> ((1 : Int32) &&& 31).toUInt32).toInt32) &&& (3 : Int32))), .val (.long ((2147483647 : Int64) + ((p3 % (3 : Int32)).toInt64))), .second, .val (.ref b23), .val (.int (own_lu ((2147483647 : Int64) + ((p3 % (3 : Int32)).toInt64)))), .val (.int (1 : Int32))] [(.int (own_lu ((2147483647 : Int64) + ((p3 % (3 : Int32)).toInt64))))]))
          refine own_F.of (fun _ => XS.iload S26.here S26.hx rfl (S26.dec at_123) rfl) ?_
          show own_F p e below s Z _ _ _ _ _ (T26.setTop (mkF m 125 #[.val (.int p0), .val (.int p1), .val (.long q2), .second, .val (.int p3), .val (.int (0 : Int32)), .val (.int (((p0.toUInt32 >>> ((1 : Int32) &&& 31).toUInt32).toInt32) &&& (3 : Int32))), .val (.long ((2147483647 : Int64) + ((p3 % (3 : Int32)).toInt64))), .second, .val (.ref b23), .val (.int (own_lu ((2147483647 : Int64) + ((p3 % (3 : Int32)).toInt64)))), .val (.int (1 : Int32))] [(.int (1 : Int32)), (.int (own_lu ((2147483647 : Int64) + ((p3 % (3 : Int32)).toInt64))))]))
          refine own_icmp S26 132 at_125 (by decide) (by decide) (fun (hc125_31 : ¬ ((own_lu ((2147483647 : Int64) + ((p3 % (3 : Int32)).toInt64))) = (1 : Int32))) => False.elim (hc125_31 (by simp only [own_lu]; rw [if_pos hc111_29]))) (fun (hc125_31 : (own_lu ((2147483647 : Int64) + ((p3 % (3 : Int32)).toInt64))) = (1 : Int32)) => ?_)
          show own_F p e below s Z _ _ _ _ _ (T26.setTop (mkF m 128 #[.val (.int p0), .val (.int p1), .val (.long q2), .second, .val (.int p3), .val (.int (0 : Int32)), .val (.int (((p0.toUInt32 >>> ((1 : Int32) &&& 31).toUInt32).toInt32) &&& (3 : Int32))), .val (.long ((2147483647 : Int64) + ((p3 % (3 : Int32)).toInt64))), .second, .val (.ref b23), .val (.int (own_lu ((2147483647 : Int64) + ((p3 % (3 : Int32)).toInt64)))), .val (.int (1 : Int32))] []))
          refine own_F.of (fun _ => XS.iconst S26.here S26.hx rfl (S26.dec at_128)) ?_
          show own_F p e below s Z _ _ _ _ _ (T26.setTop (mkF m 129 #[.val (.int p0), .val (.int p1), .val (.long q2), .second, .val (.int p3), .val (.int (0 : Int32)), .val (.int (((p0.toUInt32 >>> ((1 : Int32) &&& 31).toUInt32).toInt32) &&& (3 : Int32))), .val (.long ((2147483647 : Int64) + ((p3 % (3 : Int32)).toInt64))), .second, .val (.ref b23), .val (.int (own_lu ((2147483647 : Int64) + ((p3 % (3 : Int32)).toInt64)))), .val (.int (1 : Int32))] [(.int (1 : Int32))]))
          refine own_F.of (fun _ => XS.goto S26.here S26.hx rfl (pc0 := 129) (pc' := 133) rfl (S26.dec at_129) (by decide) (by decide)) ?_
          show own_F p e below s Z _ _ _ _ _ (T26.setTop (mkF m 133 #[.val (.int p0), .val (.int p1), .val (.long q2), .second, .val (.int p3), .val (.int (0 : Int32)), .val (.int (((p0.toUInt32 >>> ((1 : Int32) &&& 31).toUInt32).toInt32) &&& (3 : Int32))), .val (.long ((2147483647 : Int64) + ((p3 % (3 : Int32)).toInt64))), .second, .val (.ref b23), .val (.int (own_lu ((2147483647 : Int64) + ((p3 % (3 : Int32)).toInt64)))), .val (.int (1 : Int32))] [(.int (1 : Int32))]))
          refine own_retZ S26 (by simp) at_133 (by decide) (by decide) ?_
          rfl
    · show own_F p e below s Z _ _ _ _ _ (T0.setTop (mkF m 25 #[.val (.int p0), .val (.int p1), .val (.long q2), .second, .val (.int p3), .val (.int (0 : Int32)), .val (.int (((p0.toUInt32 >>> ((1 : Int32) &&& 31).toUInt32).toInt32) &&& (3 : Int32))), .unset, .unset, .unset, .unset, .unset] []))
      refine own_F.of (fun _ => XS.lloadN S0.here S0.hx rfl (S0.dec at_25) rfl) ?_
      show own_F p e below s Z _ _ _ _ _ (T0.setTop (mkF m 26 #[.val (.int p0), .val (.int p1), .val (.long q2), .second, .val (.int p3), .val (.int (0 : Int32)), .val (.int (((p0.toUInt32 >>> ((1 : Int32) &&& 31).toUInt32).toInt32) &&& (3 : Int32))), .unset, .unset, .unset, .unset, .unset] [(.long q2)]))
      refine own_F.of (fun _ => XS.lstore S0.here S0.hx rfl (S0.dec at_26) rfl (l' := #[.val (.int p0), .val (.int p1), .val (.long q2), .second, .val (.int p3), .val (.int (0 : Int32)), .val (.int (((p0.toUInt32 >>> ((1 : Int32) &&& 31).toUInt32).toInt32) &&& (3 : Int32))), .val (.long q2), .second, .unset, .unset, .unset]) rfl) ?_
      show own_F p e below s Z _ _ _ _ _ (T0.setTop (mkF m 28 #[.val (.int p0), .val (.int p1), .val (.long q2), .second, .val (.int p3), .val (.int (0 : Int32)), .val (.int (((p0.toUInt32 >>> ((1 : Int32) &&& 31).toUInt32).toInt32) &&& (3 : Int32))), .val (.long q2), .second, .unset, .unset, .unset] []))
      refine own_F.of (fun _ => XS.goto S0.here S0.hx rfl (pc0 := 28) (pc' := 69) rfl (S0.dec at_28) (by decide) (by decide)) ?_
      show own_F p e below s Z _ _ _ _ _ (T0.setTop (mkF m 69 #[.val (.int p0), .val (.int p1), .val (.long q2), .second, .val (.int p3), .val (.int (0 : Int32)), .val (.int (((p0.toUInt32 >>> ((1 : Int32) &&& 31).toUInt32).toInt32) &&& (3 : Int32))), .val (.long q2), .second, .unset, .unset, .unset] []))
      refine own_new S0 (own_w hw 0 rfl) (own_w hw 1 rfl) (own_w hw 2 rfl) at_69 (by decide) (by decide) (fun T32 h32 b32 g32 S32 E32 A32 D32 => ?_)
      have F32_maxint : Fld Z h32 b32 "com/example/manysort/manysort/language/Naturals" "maxint" "Ljava/lang/Integer;" .null := (D32 (Or.inr (own_w hw 10 rfl)) (ty := (.object "java/lang/Integer")) (by decide))
      show own_F p e below s Z _ _ _ _ _ (T32.setTop (mkF m 72 #[.val (.int p0), .val (.int p1), .val (.long q2), .second, .val (.int p3), .val (.int (0 : Int32)), .val (.int (((p0.toUInt32 >>> ((1 : Int32) &&& 31).toUInt32).toInt32) &&& (3 : Int32))), .val (.long q2), .second, .unset, .unset, .unset] [(.ref b32)]))
      refine own_F.of (fun _ => XS.dup S32.here S32.hx rfl (S32.dec at_72) rfl rfl) ?_
      show own_F p e below s Z _ _ _ _ _ (T32.setTop (mkF m 73 #[.val (.int p0), .val (.int p1), .val (.long q2), .second, .val (.int p3), .val (.int (0 : Int32)), .val (.int (((p0.toUInt32 >>> ((1 : Int32) &&& 31).toUInt32).toInt32) &&& (3 : Int32))), .val (.long q2), .second, .unset, .unset, .unset] [(.ref b32), (.ref b32)]))
      refine own_F.of (fun _ => XS.iload S32.here S32.hx rfl (S32.dec at_73) rfl) ?_
      show own_F p e below s Z _ _ _ _ _ (T32.setTop (mkF m 75 #[.val (.int p0), .val (.int p1), .val (.long q2), .second, .val (.int p3), .val (.int (0 : Int32)), .val (.int (((p0.toUInt32 >>> ((1 : Int32) &&& 31).toUInt32).toInt32) &&& (3 : Int32))), .val (.long q2), .second, .unset, .unset, .unset] [(.int (0 : Int32)), (.ref b32), (.ref b32)]))
      refine own_if S32 85 at_75 (by decide) (by decide) (fun (hc75_33 : (0 : Int32) = (0 : Int32)) => ?_) (fun (hc75_33 : ¬ ((0 : Int32) = (0 : Int32))) => False.elim (absurd hc75_33 (by decide)))
      show own_F p e below s Z _ _ _ _ _ (T32.setTop (mkF m 85 #[.val (.int p0), .val (.int p1), .val (.long q2), .second, .val (.int p3), .val (.int (0 : Int32)), .val (.int (((p0.toUInt32 >>> ((1 : Int32) &&& 31).toUInt32).toInt32) &&& (3 : Int32))), .val (.long q2), .second, .unset, .unset, .unset] [(.ref b32), (.ref b32)]))
      refine own_F.of (fun _ => XS.aconstNull S32.here S32.hx rfl (S32.dec at_85)) ?_
      show own_F p e below s Z _ _ _ _ _ (T32.setTop (mkF m 86 #[.val (.int p0), .val (.int p1), .val (.long q2), .second, .val (.int p3), .val (.int (0 : Int32)), .val (.int (((p0.toUInt32 >>> ((1 : Int32) &&& 31).toUInt32).toInt32) &&& (3 : Int32))), .val (.long q2), .second, .unset, .unset, .unset] [.null, (.ref b32), (.ref b32)]))
      refine own_callI S32 (y := (⟨"com/example/manysort/manysort/language/Naturals", "<init>", "(Ljava/lang/Integer;)V"⟩ : MethodName)) rfl (own_w hw 3 rfl) (own_w hw 4 rfl) (own_w hw 2 rfl) (own_w hw 5 rfl) (by decide) (argsL := [.null]) (rest := [(.ref b32)]) (own_NatInit l Z a0 hw b32 .null h32 S32.old rfl (own_mayN S32 (Or.inr (by rw [g32]; exact S0.size))) A32 F32_maxint) (allS (Or.inr (by rw [g32]; exact S0.size)) all0) (by decide +kernel : parseMethodDescriptor "(Ljava/lang/Integer;)V" = some ⟨[(.object "java/lang/Integer")], none⟩) rfl rfl rfl at_86 (by decide) (Nat.le_of_ble_eq_true rfl) (by decide) (by decide) (fun T34 h34 v34 S34 K34 q34 => ?_)
      obtain ⟨rfl, F34⟩ := q34
      show own_F p e below s Z _ _ _ _ _ (T34.setTop (mkF m 89 #[.val (.int p0), .val (.int p1), .val (.long q2), .second, .val (.int p3), .val (.int (0 : Int32)), .val (.int (((p0.toUInt32 >>> ((1 : Int32) &&& 31).toUInt32).toInt32) &&& (3 : Int32))), .val (.long q2), .second, .unset, .unset, .unset] [(.ref b32)]))
      refine own_F.of (fun _ => XS.astore S34.here S34.hx rfl (S34.dec at_89) rfl rfl (l' := #[.val (.int p0), .val (.int p1), .val (.long q2), .second, .val (.int p3), .val (.int (0 : Int32)), .val (.int (((p0.toUInt32 >>> ((1 : Int32) &&& 31).toUInt32).toInt32) &&& (3 : Int32))), .val (.long q2), .second, .val (.ref b32), .unset, .unset]) rfl) ?_
      show own_F p e below s Z _ _ _ _ _ (T34.setTop (mkF m 91 #[.val (.int p0), .val (.int p1), .val (.long q2), .second, .val (.int p3), .val (.int (0 : Int32)), .val (.int (((p0.toUInt32 >>> ((1 : Int32) &&& 31).toUInt32).toInt32) &&& (3 : Int32))), .val (.long q2), .second, .val (.ref b32), .unset, .unset] []))
      refine own_F.of (fun _ => XS.aload S34.here S34.hx rfl (S34.dec at_91) rfl rfl) ?_
      show own_F p e below s Z _ _ _ _ _ (T34.setTop (mkF m 93 #[.val (.int p0), .val (.int p1), .val (.long q2), .second, .val (.int p3), .val (.int (0 : Int32)), .val (.int (((p0.toUInt32 >>> ((1 : Int32) &&& 31).toUInt32).toInt32) &&& (3 : Int32))), .val (.long q2), .second, .val (.ref b32), .unset, .unset] [(.ref b32)]))
      refine own_F.of (fun _ => XS.lload S34.here S34.hx rfl (S34.dec at_93) rfl) ?_
      show own_F p e below s Z _ _ _ _ _ (T34.setTop (mkF m 95 #[.val (.int p0), .val (.int p1), .val (.long q2), .second, .val (.int p3), .val (.int (0 : Int32)), .val (.int (((p0.toUInt32 >>> ((1 : Int32) &&& 31).toUInt32).toInt32) &&& (3 : Int32))), .val (.long q2), .second, .val (.ref b32), .unset, .unset] [(.long q2), (.ref b32)]))
      have f36 := (A32.keep K34)
      refine own_callV S34 (y := (⟨"com/example/manysort/manysort/language/Naturals", "leaveUnbounded", "(J)Z"⟩ : MethodName)) (y' := (⟨"com/example/manysort/manysort/language/Naturals", "leaveUnbounded", "(J)Z"⟩ : MethodName)) (own_w hw 11 rfl) (own_w hw 12 rfl) (own_nf S34 (own_w hw 14 rfl)) (own_w hw 14 rfl) (own_w hw 13 rfl) (own_w hw 15 rfl) (own_w hw 2 rfl) (by decide) f36 (argsL := [(.long q2)]) (rest := []) (own_leaveN l Z a0 hw b32 q2 h34 S34.old F34) all0 (by decide +kernel : parseMethodDescriptor "(J)Z" = some ⟨[.long], some .boolean⟩) rfl rfl rfl at_95 (by decide) (Nat.le_of_ble_eq_true rfl) (by decide) (by decide) (fun T35 h35 v35 S35 K35 q35 => ?_)
      obtain ⟨rfl, rfl⟩ := q35
      show own_F p e below s Z _ _ _ _ _ (T35.setTop (mkF m 98 #[.val (.int p0), .val (.int p1), .val (.long q2), .second, .val (.int p3), .val (.int (0 : Int32)), .val (.int (((p0.toUInt32 >>> ((1 : Int32) &&& 31).toUInt32).toInt32) &&& (3 : Int32))), .val (.long q2), .second, .val (.ref b32), .unset, .unset] [(.int (own_lu q2))]))
      refine own_F.of (fun _ => XS.istore S35.here S35.hx rfl (S35.dec at_98) rfl (l' := #[.val (.int p0), .val (.int p1), .val (.long q2), .second, .val (.int p3), .val (.int (0 : Int32)), .val (.int (((p0.toUInt32 >>> ((1 : Int32) &&& 31).toUInt32).toInt32) &&& (3 : Int32))), .val (.long q2), .second, .val (.ref b32), .val (.int (own_lu q2)), .unset]) rfl) ?_
      show own_F p e below s Z _ _ _ _ _ (T35.setTop (mkF m 100 #[.val (.int p0), .val (.int p1), .val (.long q2), .second, .val (.int p3), .val (.int (0 : Int32)), .val (.int (((p0.toUInt32 >>> ((1 : Int32) &&& 31).toUInt32).toInt32) &&& (3 : Int32))), .val (.long q2), .second, .val (.ref b32), .val (.int (own_lu q2)), .unset] []))
      refine own_F.of (fun _ => XS.iload S35.here S35.hx rfl (S35.dec at_100) rfl) ?_
      show own_F p e below s Z _ _ _ _ _ (T35.setTop (mkF m 102 #[.val (.int p0), .val (.int p1), .val (.long q2), .second, .val (.int p3), .val (.int (0 : Int32)), .val (.int (((p0.toUInt32 >>> ((1 : Int32) &&& 31).toUInt32).toInt32) &&& (3 : Int32))), .val (.long q2), .second, .val (.ref b32), .val (.int (own_lu q2)), .unset] [(.int (0 : Int32))]))
      refine own_if S35 118 at_102 (by decide) (by decide) (fun (hc102_37 : ¬ ((0 : Int32) = (0 : Int32))) => False.elim (absurd hc102_37 (by decide))) (fun (hc102_37 : (0 : Int32) = (0 : Int32)) => ?_)
      show own_F p e below s Z _ _ _ _ _ (T35.setTop (mkF m 105 #[.val (.int p0), .val (.int p1), .val (.long q2), .second, .val (.int p3), .val (.int (0 : Int32)), .val (.int (((p0.toUInt32 >>> ((1 : Int32) &&& 31).toUInt32).toInt32) &&& (3 : Int32))), .val (.long q2), .second, .val (.ref b32), .val (.int (own_lu q2)), .unset] []))
      refine own_F.of (fun _ => XS.lload S35.here S35.hx rfl (S35.dec at_105) rfl) ?_
      show own_F p e below s Z _ _ _ _ _ (T35.setTop (mkF m 107 #[.val (.int p0), .val (.int p1), .val (.long q2), .second, .val (.int p3), .val (.int (0 : Int32)), .val (.int (((p0.toUInt32 >>> ((1 : Int32) &&& 31).toUInt32).toInt32) &&& (3 : Int32))), .val (.long q2), .second, .val (.ref b32), .val (.int (own_lu q2)), .unset] [(.long q2)]))
      refine own_ldcJ S35 (own_w hw 17 rfl) at_107 ?_
      show own_F p e below s Z _ _ _ _ _ (T35.setTop (mkF m 110 #[.val (.int p0), .val (.int p1), .val (.long q2), .second, .val (.int p3), .val (.int (0 : Int32)), .val (.int (((p0.toUInt32 >>> ((1 : Int32) &&& 31).toUInt32).toInt32) &&& (3 : Int32))), .val (.long q2), .second, .val (.ref b32), .val (.int (own_lu q2)), .unset] [(.long (2147483647 : Int64)), (.long q2)]))
      refine own_F.of (fun _ => XS.lcmp S35.here S35.hx rfl (S35.dec at_110) rfl) ?_
      show own_F p e below s Z _ _ _ _ _ (T35.setTop (mkF m 111 #[.val (.int p0), .val (.int p1), .val (.long q2), .second, .val (.int p3), .val (.int (0 : Int32)), .val (.int (((p0.toUInt32 >>> ((1 : Int32) &&& 31).toUInt32).toInt32) &&& (3 : Int32))), .val (.long q2), .second, .val (.ref b32), .val (.int (own_lu q2)), .unset] [(.int (lcmpW q2 (2147483647 : Int64)))]))
      refine own_if S35 118 at_111 (by decide) (by decide) (fun (hc111_38 : ¬ ((lcmpW q2 (2147483647 : Int64)) = (0 : Int32))) => ?_) (fun (hc111_38 : (lcmpW q2 (2147483647 : Int64)) = (0 : Int32)) => ?_)
      · show own_F p e below s Z _ _ _ _ _ (T35.setTop (mkF m 118 #[.val (.int p0), .val (.int p1), .val (.long q2), .second, .val (.int p3), .val (.int (0 : Int32)), .val (.int (((p0.toUInt32 >>> ((1 : Int32) &&& 31).toUInt32).toInt32) &&& (3 : Int32))), .val (.long q2), .second, .val (.ref b32), .val (.int (own_lu q2)), .unset] []))
        refine own_F.of (fun _ => XS.iconst S35.here S35.hx rfl (S35.dec at_118)) ?_
        show own_F p e below s Z _ _ _ _ _ (T35.setTop (mkF m 119 #[.val (.int p0), .val (.int p1), .val (.long q2), .second, .val (.int p3), .val (.int (0 : Int32)), .val (.int (((p0.toUInt32 >>> ((1 : Int32) &&& 31).toUInt32).toInt32) &&& (3 : Int32))), .val (.long q2), .second, .val (.ref b32), .val (.int (own_lu q2)), .unset] [(.int (0 : Int32))]))
        refine own_F.of (fun _ => XS.istore S35.here S35.hx rfl (S35.dec at_119) rfl (l' := #[.val (.int p0), .val (.int p1), .val (.long q2), .second, .val (.int p3), .val (.int (0 : Int32)), .val (.int (((p0.toUInt32 >>> ((1 : Int32) &&& 31).toUInt32).toInt32) &&& (3 : Int32))), .val (.long q2), .second, .val (.ref b32), .val (.int (own_lu q2)), .val (.int (0 : Int32))]) rfl) ?_
        show own_F p e below s Z _ _ _ _ _ (T35.setTop (mkF m 121 #[.val (.int p0), .val (.int p1), .val (.long q2), .second, .val (.int p3), .val (.int (0 : Int32)), .val (.int (((p0.toUInt32 >>> ((1 : Int32) &&& 31).toUInt32).toInt32) &&& (3 : Int32))), .val (.long q2), .second, .val (.ref b32), .val (.int (own_lu q2)), .val (.int (0 : Int32))] []))
        refine own_F.of (fun _ => XS.iload S35.here S35.hx rfl (S35.dec at_121) rfl) ?_
        show own_F p e below s Z _ _ _ _ _ (T35.setTop (mkF m 123 #[.val (.int p0), .val (.int p1), .val (.long q2), .second, .val (.int p3), .val (.int (0 : Int32)), .val (.int (((p0.toUInt32 >>> ((1 : Int32) &&& 31).toUInt32).toInt32) &&& (3 : Int32))), .val (.long q2), .second, .val (.ref b32), .val (.int (own_lu q2)), .val (.int (0 : Int32))] [(.int (own_lu q2))]))
        refine own_F.of (fun _ => XS.iload S35.here S35.hx rfl (S35.dec at_123) rfl) ?_
        show own_F p e below s Z _ _ _ _ _ (T35.setTop (mkF m 125 #[.val (.int p0), .val (.int p1), .val (.long q2), .second, .val (.int p3), .val (.int (0 : Int32)), .val (.int (((p0.toUInt32 >>> ((1 : Int32) &&& 31).toUInt32).toInt32) &&& (3 : Int32))), .val (.long q2), .second, .val (.ref b32), .val (.int (own_lu q2)), .val (.int (0 : Int32))] [(.int (0 : Int32)), (.int (own_lu q2))]))
        refine own_icmp S35 132 at_125 (by decide) (by decide) (fun (hc125_39 : ¬ ((own_lu q2) = (0 : Int32))) => False.elim (hc125_39 (by simp only [own_lu]; rw [if_neg hc111_38]))) (fun (hc125_39 : (own_lu q2) = (0 : Int32)) => ?_)
        show own_F p e below s Z _ _ _ _ _ (T35.setTop (mkF m 128 #[.val (.int p0), .val (.int p1), .val (.long q2), .second, .val (.int p3), .val (.int (0 : Int32)), .val (.int (((p0.toUInt32 >>> ((1 : Int32) &&& 31).toUInt32).toInt32) &&& (3 : Int32))), .val (.long q2), .second, .val (.ref b32), .val (.int (own_lu q2)), .val (.int (0 : Int32))] []))
        refine own_F.of (fun _ => XS.iconst S35.here S35.hx rfl (S35.dec at_128)) ?_
        show own_F p e below s Z _ _ _ _ _ (T35.setTop (mkF m 129 #[.val (.int p0), .val (.int p1), .val (.long q2), .second, .val (.int p3), .val (.int (0 : Int32)), .val (.int (((p0.toUInt32 >>> ((1 : Int32) &&& 31).toUInt32).toInt32) &&& (3 : Int32))), .val (.long q2), .second, .val (.ref b32), .val (.int (own_lu q2)), .val (.int (0 : Int32))] [(.int (1 : Int32))]))
        refine own_F.of (fun _ => XS.goto S35.here S35.hx rfl (pc0 := 129) (pc' := 133) rfl (S35.dec at_129) (by decide) (by decide)) ?_
        show own_F p e below s Z _ _ _ _ _ (T35.setTop (mkF m 133 #[.val (.int p0), .val (.int p1), .val (.long q2), .second, .val (.int p3), .val (.int (0 : Int32)), .val (.int (((p0.toUInt32 >>> ((1 : Int32) &&& 31).toUInt32).toInt32) &&& (3 : Int32))), .val (.long q2), .second, .val (.ref b32), .val (.int (own_lu q2)), .val (.int (0 : Int32))] [(.int (1 : Int32))]))
        refine own_retZ S35 (by simp) at_133 (by decide) (by decide) ?_
        rfl
      · show own_F p e below s Z _ _ _ _ _ (T35.setTop (mkF m 114 #[.val (.int p0), .val (.int p1), .val (.long q2), .second, .val (.int p3), .val (.int (0 : Int32)), .val (.int (((p0.toUInt32 >>> ((1 : Int32) &&& 31).toUInt32).toInt32) &&& (3 : Int32))), .val (.long q2), .second, .val (.ref b32), .val (.int (own_lu q2)), .unset] []))
        refine own_F.of (fun _ => XS.iconst S35.here S35.hx rfl (S35.dec at_114)) ?_
        show own_F p e below s Z _ _ _ _ _ (T35.setTop (mkF m 115 #[.val (.int p0), .val (.int p1), .val (.long q2), .second, .val (.int p3), .val (.int (0 : Int32)), .val (.int (((p0.toUInt32 >>> ((1 : Int32) &&& 31).toUInt32).toInt32) &&& (3 : Int32))), .val (.long q2), .second, .val (.ref b32), .val (.int (own_lu q2)), .unset] [(.int (1 : Int32))]))
        refine own_F.of (fun _ => XS.goto S35.here S35.hx rfl (pc0 := 115) (pc' := 119) rfl (S35.dec at_115) (by decide) (by decide)) ?_
        show own_F p e below s Z _ _ _ _ _ (T35.setTop (mkF m 119 #[.val (.int p0), .val (.int p1), .val (.long q2), .second, .val (.int p3), .val (.int (0 : Int32)), .val (.int (((p0.toUInt32 >>> ((1 : Int32) &&& 31).toUInt32).toInt32) &&& (3 : Int32))), .val (.long q2), .second, .val (.ref b32), .val (.int (own_lu q2)), .unset] [(.int (1 : Int32))]))
        refine own_F.of (fun _ => XS.istore S35.here S35.hx rfl (S35.dec at_119) rfl (l' := #[.val (.int p0), .val (.int p1), .val (.long q2), .second, .val (.int p3), .val (.int (0 : Int32)), .val (.int (((p0.toUInt32 >>> ((1 : Int32) &&& 31).toUInt32).toInt32) &&& (3 : Int32))), .val (.long q2), .second, .val (.ref b32), .val (.int (own_lu q2)), .val (.int (1 : Int32))]) rfl) ?_
        show own_F p e below s Z _ _ _ _ _ (T35.setTop (mkF m 121 #[.val (.int p0), .val (.int p1), .val (.long q2), .second, .val (.int p3), .val (.int (0 : Int32)), .val (.int (((p0.toUInt32 >>> ((1 : Int32) &&& 31).toUInt32).toInt32) &&& (3 : Int32))), .val (.long q2), .second, .val (.ref b32), .val (.int (own_lu q2)), .val (.int (1 : Int32))] []))
        refine own_F.of (fun _ => XS.iload S35.here S35.hx rfl (S35.dec at_121) rfl) ?_
        show own_F p e below s Z _ _ _ _ _ (T35.setTop (mkF m 123 #[.val (.int p0), .val (.int p1), .val (.long q2), .second, .val (.int p3), .val (.int (0 : Int32)), .val (.int (((p0.toUInt32 >>> ((1 : Int32) &&& 31).toUInt32).toInt32) &&& (3 : Int32))), .val (.long q2), .second, .val (.ref b32), .val (.int (own_lu q2)), .val (.int (1 : Int32))] [(.int (own_lu q2))]))
        refine own_F.of (fun _ => XS.iload S35.here S35.hx rfl (S35.dec at_123) rfl) ?_
        show own_F p e below s Z _ _ _ _ _ (T35.setTop (mkF m 125 #[.val (.int p0), .val (.int p1), .val (.long q2), .second, .val (.int p3), .val (.int (0 : Int32)), .val (.int (((p0.toUInt32 >>> ((1 : Int32) &&& 31).toUInt32).toInt32) &&& (3 : Int32))), .val (.long q2), .second, .val (.ref b32), .val (.int (own_lu q2)), .val (.int (1 : Int32))] [(.int (1 : Int32)), (.int (own_lu q2))]))
        refine own_icmp S35 132 at_125 (by decide) (by decide) (fun (hc125_40 : ¬ ((own_lu q2) = (1 : Int32))) => False.elim (hc125_40 (by simp only [own_lu]; rw [if_pos hc111_38]))) (fun (hc125_40 : (own_lu q2) = (1 : Int32)) => ?_)
        show own_F p e below s Z _ _ _ _ _ (T35.setTop (mkF m 128 #[.val (.int p0), .val (.int p1), .val (.long q2), .second, .val (.int p3), .val (.int (0 : Int32)), .val (.int (((p0.toUInt32 >>> ((1 : Int32) &&& 31).toUInt32).toInt32) &&& (3 : Int32))), .val (.long q2), .second, .val (.ref b32), .val (.int (own_lu q2)), .val (.int (1 : Int32))] []))
        refine own_F.of (fun _ => XS.iconst S35.here S35.hx rfl (S35.dec at_128)) ?_
        show own_F p e below s Z _ _ _ _ _ (T35.setTop (mkF m 129 #[.val (.int p0), .val (.int p1), .val (.long q2), .second, .val (.int p3), .val (.int (0 : Int32)), .val (.int (((p0.toUInt32 >>> ((1 : Int32) &&& 31).toUInt32).toInt32) &&& (3 : Int32))), .val (.long q2), .second, .val (.ref b32), .val (.int (own_lu q2)), .val (.int (1 : Int32))] [(.int (1 : Int32))]))
        refine own_F.of (fun _ => XS.goto S35.here S35.hx rfl (pc0 := 129) (pc' := 133) rfl (S35.dec at_129) (by decide) (by decide)) ?_
        show own_F p e below s Z _ _ _ _ _ (T35.setTop (mkF m 133 #[.val (.int p0), .val (.int p1), .val (.long q2), .second, .val (.int p3), .val (.int (0 : Int32)), .val (.int (((p0.toUInt32 >>> ((1 : Int32) &&& 31).toUInt32).toInt32) &&& (3 : Int32))), .val (.long q2), .second, .val (.ref b32), .val (.int (own_lu q2)), .val (.int (1 : Int32))] [(.int (1 : Int32))]))
        refine own_retZ S35 (by simp) at_133 (by decide) (by decide) ?_
        rfl
  · show own_F p e below s Z _ _ _ _ _ (T0.setTop (mkF m 6 #[.val (.int p0), .val (.int p1), .val (.long q2), .second, .val (.int p3), .unset, .unset, .unset, .unset, .unset, .unset, .unset] []))
    refine own_F.of (fun _ => XS.iconst S0.here S0.hx rfl (S0.dec at_6)) ?_
    show own_F p e below s Z _ _ _ _ _ (T0.setTop (mkF m 7 #[.val (.int p0), .val (.int p1), .val (.long q2), .second, .val (.int p3), .unset, .unset, .unset, .unset, .unset, .unset, .unset] [(.int (1 : Int32))]))
    refine own_F.of (fun _ => XS.goto S0.here S0.hx rfl (pc0 := 7) (pc' := 11) rfl (S0.dec at_7) (by decide) (by decide)) ?_
    show own_F p e below s Z _ _ _ _ _ (T0.setTop (mkF m 11 #[.val (.int p0), .val (.int p1), .val (.long q2), .second, .val (.int p3), .unset, .unset, .unset, .unset, .unset, .unset, .unset] [(.int (1 : Int32))]))
    refine own_F.of (fun _ => XS.istore S0.here S0.hx rfl (S0.dec at_11) rfl (l' := #[.val (.int p0), .val (.int p1), .val (.long q2), .second, .val (.int p3), .val (.int (1 : Int32)), .unset, .unset, .unset, .unset, .unset, .unset]) rfl) ?_
    show own_F p e below s Z _ _ _ _ _ (T0.setTop (mkF m 13 #[.val (.int p0), .val (.int p1), .val (.long q2), .second, .val (.int p3), .val (.int (1 : Int32)), .unset, .unset, .unset, .unset, .unset, .unset] []))
    refine own_F.of (fun _ => XS.iloadN S0.here S0.hx rfl (S0.dec at_13) rfl) ?_
    show own_F p e below s Z _ _ _ _ _ (T0.setTop (mkF m 14 #[.val (.int p0), .val (.int p1), .val (.long q2), .second, .val (.int p3), .val (.int (1 : Int32)), .unset, .unset, .unset, .unset, .unset, .unset] [(.int p0)]))
    refine own_F.of (fun _ => XS.iconst S0.here S0.hx rfl (S0.dec at_14)) ?_
    show own_F p e below s Z _ _ _ _ _ (T0.setTop (mkF m 15 #[.val (.int p0), .val (.int p1), .val (.long q2), .second, .val (.int p3), .val (.int (1 : Int32)), .unset, .unset, .unset, .unset, .unset, .unset] [(.int (1 : Int32)), (.int p0)]))
    refine own_F.of (fun _ => XS.iushr S0.here S0.hx rfl (S0.dec at_15) rfl) ?_
    show own_F p e below s Z _ _ _ _ _ (T0.setTop (mkF m 16 #[.val (.int p0), .val (.int p1), .val (.long q2), .second, .val (.int p3), .val (.int (1 : Int32)), .unset, .unset, .unset, .unset, .unset, .unset] [(.int ((p0.toUInt32 >>> ((1 : Int32) &&& 31).toUInt32).toInt32))]))
    refine own_F.of (fun _ => XS.iconst S0.here S0.hx rfl (S0.dec at_16)) ?_
    show own_F p e below s Z _ _ _ _ _ (T0.setTop (mkF m 17 #[.val (.int p0), .val (.int p1), .val (.long q2), .second, .val (.int p3), .val (.int (1 : Int32)), .unset, .unset, .unset, .unset, .unset, .unset] [(.int (3 : Int32)), (.int ((p0.toUInt32 >>> ((1 : Int32) &&& 31).toUInt32).toInt32))]))
    refine own_F.of (fun _ => XS.iand S0.here S0.hx rfl (S0.dec at_17) rfl) ?_
    show own_F p e below s Z _ _ _ _ _ (T0.setTop (mkF m 18 #[.val (.int p0), .val (.int p1), .val (.long q2), .second, .val (.int p3), .val (.int (1 : Int32)), .unset, .unset, .unset, .unset, .unset, .unset] [(.int (((p0.toUInt32 >>> ((1 : Int32) &&& 31).toUInt32).toInt32) &&& (3 : Int32)))]))
    refine own_F.of (fun _ => XS.istore S0.here S0.hx rfl (S0.dec at_18) rfl (l' := #[.val (.int p0), .val (.int p1), .val (.long q2), .second, .val (.int p3), .val (.int (1 : Int32)), .val (.int (((p0.toUInt32 >>> ((1 : Int32) &&& 31).toUInt32).toInt32) &&& (3 : Int32))), .unset, .unset, .unset, .unset, .unset]) rfl) ?_
    show own_F p e below s Z _ _ _ _ _ (T0.setTop (mkF m 20 #[.val (.int p0), .val (.int p1), .val (.long q2), .second, .val (.int p3), .val (.int (1 : Int32)), .val (.int (((p0.toUInt32 >>> ((1 : Int32) &&& 31).toUInt32).toInt32) &&& (3 : Int32))), .unset, .unset, .unset, .unset, .unset] []))
    refine own_F.of (fun _ => XS.iload S0.here S0.hx rfl (S0.dec at_20) rfl) ?_
    show own_F p e below s Z _ _ _ _ _ (T0.setTop (mkF m 22 #[.val (.int p0), .val (.int p1), .val (.long q2), .second, .val (.int p3), .val (.int (1 : Int32)), .val (.int (((p0.toUInt32 >>> ((1 : Int32) &&& 31).toUInt32).toInt32) &&& (3 : Int32))), .unset, .unset, .unset, .unset, .unset] [(.int (((p0.toUInt32 >>> ((1 : Int32) &&& 31).toUInt32).toInt32) &&& (3 : Int32)))]))
    refine own_if S0 31 at_22 (by decide) (by decide) (fun (hc22_41 : ¬ ((((p0.toUInt32 >>> ((1 : Int32) &&& 31).toUInt32).toInt32) &&& (3 : Int32)) = (0 : Int32))) => ?_) (fun (hc22_41 : (((p0.toUInt32 >>> ((1 : Int32) &&& 31).toUInt32).toInt32) &&& (3 : Int32)) = (0 : Int32)) => ?_)
    · show own_F p e below s Z _ _ _ _ _ (T0.setTop (mkF m 31 #[.val (.int p0), .val (.int p1), .val (.long q2), .second, .val (.int p3), .val (.int (1 : Int32)), .val (.int (((p0.toUInt32 >>> ((1 : Int32) &&& 31).toUInt32).toInt32) &&& (3 : Int32))), .unset, .unset, .unset, .unset, .unset] []))
      refine own_F.of (fun _ => XS.iload S0.here S0.hx rfl (S0.dec at_31) rfl) ?_
      show own_F p e below s Z _ _ _ _ _ (T0.setTop (mkF m 33 #[.val (.int p0), .val (.int p1), .val (.long q2), .second, .val (.int p3), .val (.int (1 : Int32)), .val (.int (((p0.toUInt32 >>> ((1 : Int32) &&& 31).toUInt32).toInt32) &&& (3 : Int32))), .unset, .unset, .unset, .unset, .unset] [(.int (((p0.toUInt32 >>> ((1 : Int32) &&& 31).toUInt32).toInt32) &&& (3 : Int32)))]))
      refine own_F.of (fun _ => XS.iconst S0.here S0.hx rfl (S0.dec at_33)) ?_
      show own_F p e below s Z _ _ _ _ _ (T0.setTop (mkF m 34 #[.val (.int p0), .val (.int p1), .val (.long q2), .second, .val (.int p3), .val (.int (1 : Int32)), .val (.int (((p0.toUInt32 >>> ((1 : Int32) &&& 31).toUInt32).toInt32) &&& (3 : Int32))), .unset, .unset, .unset, .unset, .unset] [(.int (1 : Int32)), (.int (((p0.toUInt32 >>> ((1 : Int32) &&& 31).toUInt32).toInt32) &&& (3 : Int32)))]))
      refine own_icmp S0 51 at_34 (by decide) (by decide) (fun (hc34_42 : ¬ ((((p0.toUInt32 >>> ((1 : Int32) &&& 31).toUInt32).toInt32) &&& (3 : Int32)) = (1 : Int32))) => ?_) (fun (hc34_42 : (((p0.toUInt32 >>> ((1 : Int32) &&& 31).toUInt32).toInt32) &&& (3 : Int32)) = (1 : Int32)) => ?_)
      · show own_F p e below s Z _ _ _ _ _ (T0.setTop (mkF m 51 #[.val (.int p0), .val (.int p1), .val (.long q2), .second, .val (.int p3), .val (.int (1 : Int32)), .val (.int (((p0.toUInt32 >>> ((1 : Int32) &&& 31).toUInt32).toInt32) &&& (3 : Int32))), .unset, .unset, .unset, .unset, .unset] []))
        refine own_F.of (fun _ => XS.iload S0.here S0.hx rfl (S0.dec at_51) rfl) ?_
        show own_F p e below s Z _ _ _ _ _ (T0.setTop (mkF m 53 #[.val (.int p0), .val (.int p1), .val (.long q2), .second, .val (.int p3), .val (.int (1 : Int32)), .val (.int (((p0.toUInt32 >>> ((1 : Int32) &&& 31).toUInt32).toInt32) &&& (3 : Int32))), .unset, .unset, .unset, .unset, .unset] [(.int (((p0.toUInt32 >>> ((1 : Int32) &&& 31).toUInt32).toInt32) &&& (3 : Int32)))]))
        refine own_F.of (fun _ => XS.iconst S0.here S0.hx rfl (S0.dec at_53)) ?_
        show own_F p e below s Z _ _ _ _ _ (T0.setTop (mkF m 54 #[.val (.int p0), .val (.int p1), .val (.long q2), .second, .val (.int p3), .val (.int (1 : Int32)), .val (.int (((p0.toUInt32 >>> ((1 : Int32) &&& 31).toUInt32).toInt32) &&& (3 : Int32))), .unset, .unset, .unset, .unset, .unset] [(.int (2 : Int32)), (.int (((p0.toUInt32 >>> ((1 : Int32) &&& 31).toUInt32).toInt32) &&& (3 : Int32)))]))
        refine own_icmp S0 64 at_54 (by decide) (by decide) (fun (hc54_43 : ¬ ((((p0.toUInt32 >>> ((1 : Int32) &&& 31).toUInt32).toInt32) &&& (3 : Int32)) = (2 : Int32))) => ?_) (fun (hc54_43 : (((p0.toUInt32 >>> ((1 : Int32) &&& 31).toUInt32).toInt32) &&& (3 : Int32)) = (2 : Int32)) => ?_)
        · show own_F p e below s Z _ _ _ _ _ (T0.setTop (mkF m 64 #[.val (.int p0), .val (.int p1), .val (.long q2), .second, .val (.int p3), .val (.int (1 : Int32)), .val (.int (((p0.toUInt32 >>> ((1 : Int32) &&& 31).toUInt32).toInt32) &&& (3 : Int32))), .unset, .unset, .unset, .unset, .unset] []))
          refine own_F.of (fun _ => XS.lloadN S0.here S0.hx rfl (S0.dec at_64) rfl) ?_
          show own_F p e below s Z _ _ _ _ _ (T0.setTop (mkF m 65 #[.val (.int p0), .val (.int p1), .val (.long q2), .second, .val (.int p3), .val (.int (1 : Int32)), .val (.int (((p0.toUInt32 >>> ((1 : Int32) &&& 31).toUInt32).toInt32) &&& (3 : Int32))), .unset, .unset, .unset, .unset, .unset] [(.long q2)]))
          refine own_F.of (fun _ => XS.l2i S0.here S0.hx rfl (S0.dec at_65) rfl) ?_
          show own_F p e below s Z _ _ _ _ _ (T0.setTop (mkF m 66 #[.val (.int p0), .val (.int p1), .val (.long q2), .second, .val (.int p3), .val (.int (1 : Int32)), .val (.int (((p0.toUInt32 >>> ((1 : Int32) &&& 31).toUInt32).toInt32) &&& (3 : Int32))), .unset, .unset, .unset, .unset, .unset] [(.int (q2.toInt32))]))
          refine own_F.of (fun _ => XS.i2l S0.here S0.hx rfl (S0.dec at_66) rfl) ?_
          show own_F p e below s Z _ _ _ _ _ (T0.setTop (mkF m 67 #[.val (.int p0), .val (.int p1), .val (.long q2), .second, .val (.int p3), .val (.int (1 : Int32)), .val (.int (((p0.toUInt32 >>> ((1 : Int32) &&& 31).toUInt32).toInt32) &&& (3 : Int32))), .unset, .unset, .unset, .unset, .unset] [(.long ((q2.toInt32).toInt64))]))
          refine own_F.of (fun _ => XS.lstore S0.here S0.hx rfl (S0.dec at_67) rfl (l' := #[.val (.int p0), .val (.int p1), .val (.long q2), .second, .val (.int p3), .val (.int (1 : Int32)), .val (.int (((p0.toUInt32 >>> ((1 : Int32) &&& 31).toUInt32).toInt32) &&& (3 : Int32))), .val (.long ((q2.toInt32).toInt64)), .second, .unset, .unset, .unset]) rfl) ?_
          show own_F p e below s Z _ _ _ _ _ (T0.setTop (mkF m 69 #[.val (.int p0), .val (.int p1), .val (.long q2), .second, .val (.int p3), .val (.int (1 : Int32)), .val (.int (((p0.toUInt32 >>> ((1 : Int32) &&& 31).toUInt32).toInt32) &&& (3 : Int32))), .val (.long ((q2.toInt32).toInt64)), .second, .unset, .unset, .unset] []))
          refine own_new S0 (own_w hw 0 rfl) (own_w hw 1 rfl) (own_w hw 2 rfl) at_69 (by decide) (by decide) (fun T44 h44 b44 g44 S44 E44 A44 D44 => ?_)
          have F44_maxint : Fld Z h44 b44 "com/example/manysort/manysort/language/Naturals" "maxint" "Ljava/lang/Integer;" .null := (D44 (Or.inr (own_w hw 10 rfl)) (ty := (.object "java/lang/Integer")) (by decide))
          show own_F p e below s Z _ _ _ _ _ (T44.setTop (mkF m 72 #[.val (.int p0), .val (.int p1), .val (.long q2), .second, .val (.int p3), .val (.int (1 : Int32)), .val (.int (((p0.toUInt32 >>> ((1 : Int32) &&& 31).toUInt32).toInt32) &&& (3 : Int32))), .val (.long ((q2.toInt32).toInt64)), .second, .unset, .unset, .unset] [(.ref b44)]))
          refine own_F.of (fun _ => XS.dup S44.here S44.hx rfl (S44.dec at_72) rfl rfl) ?_
          show own_F p e below s Z _ _ _ _ _ (T44.setTop (mkF m 73 #[.val (.int p0), .val (.int p1), .val (.long q2), .second, .val (.int p3), .val (.int (1 : Int32)), .val (.int (((p0.toUInt32 >>> ((1 : Int32) &&& 31).toUInt32).toInt32) &&& (3 : Int32))), .val (.long ((q2.toInt32).toInt64)), .second, .unset, .unset, .unset] [(.ref b44), (.ref b44)]))
          refine own_F.of (fun _ => XS.iload S44.here S44.hx rfl (S44.dec at_73) rfl) ?_
          show own_F p e below s Z _ _ _ _ _ (T44.setTop (mkF m 75 #[.val (.int p0), .val (.int p1), .val (.long q2), .second, .val (.int p3), .val (.int (1 : Int32)), .val (.int (((p0.toUInt32 >>> ((1 : Int32) &&& 31).toUInt32).toInt32) &&& (3 : Int32))), .val (.long ((q2.toInt32).toInt64)), .second, .unset, .unset, .unset] [(.int (1 : Int32)), (.ref b44), (.ref b44)]))
          refine own_if S44 85 at_75 (by decide) (by decide) (fun (hc75_45 : (1 : Int32) = (0 : Int32)) => False.elim (absurd hc75_45 (by decide))) (fun (hc75_45 : ¬ ((1 : Int32) = (0 : Int32))) => ?_)
          show own_F p e below s Z _ _ _ _ _ (T44.setTop (mkF m 78 #[.val (.int p0), .val (.int p1), .val (.long q2), .second, .val (.int p3), .val (.int (1 : Int32)), .val (.int (((p0.toUInt32 >>> ((1 : Int32) &&& 31).toUInt32).toInt32) &&& (3 : Int32))), .val (.long ((q2.toInt32).toInt64)), .second, .unset, .unset, .unset] [(.ref b44), (.ref b44)]))
          refine own_F.of (fun _ => XS.iloadN S44.here S44.hx rfl (S44.dec at_78) rfl) ?_
          show own_F p e below s Z _ _ _ _ _ (T44.setTop (mkF m 79 #[.val (.int p0), .val (.int p1), .val (.long q2), .second, .val (.int p3), .val (.int (1 : Int32)), .val (.int (((p0.toUInt32 >>> ((1 : Int32) &&& 31).toUInt32).toInt32) &&& (3 : Int32))), .val (.long ((q2.toInt32).toInt64)), .second, .unset, .unset, .unset] [(.int p1), (.ref b44), (.ref b44)]))
          refine own_callS S44 (y := (⟨"java/lang/Integer", "valueOf", "(I)Ljava/lang/Integer;"⟩ : MethodName)) (own_w hw 18 rfl) (own_w hw 19 rfl) (own_w hw 20 rfl) (own_w hw 21 rfl) (by decide) (argsL := [(.int p1)]) (rest := [(.ref b44), (.ref b44)]) (own_vOfI l Z a0 hw p1 aC clC h44 S44.old SHi SCa BX) all0 (by decide +kernel : parseMethodDescriptor "(I)Ljava/lang/Integer;" = some ⟨[.int], some (.object "java/lang/Integer")⟩) rfl rfl rfl at_79 (by decide) (Nat.le_of_ble_eq_true rfl) (by decide) (by decide) (fun T46 h46 v46 S46 K46 q46 => ?_)
          obtain ⟨b46, rfl, X46, F46⟩ := q46
          show own_F p e below s Z _ _ _ _ _ (T46.setTop (mkF m 82 #[.val (.int p0), .val (.int p1), .val (.long q2), .second, .val (.int p3), .val (.int (1 : Int32)), .val (.int (((p0.toUInt32 >>> ((1 : Int32) &&& 31).toUInt32).toInt32) &&& (3 : Int32))), .val (.long ((q2.toInt32).toInt64)), .second, .unset, .unset, .unset] [(.ref b46), (.ref b44), (.ref b44)]))
          refine own_F.of (fun _ => XS.goto S46.here S46.hx rfl (pc0 := 82) (pc' := 86) rfl (S46.dec at_82) (by decide) (by decide)) ?_
          show own_F p e below s Z _ _ _ _ _ (T46.setTop (mkF m 86 #[.val (.int p0), .val (.int p1), .val (.long q2), .second, .val (.int p3), .val (.int (1 : Int32)), .val (.int (((p0.toUInt32 >>> ((1 : Int32) &&& 31).toUInt32).toInt32) &&& (3 : Int32))), .val (.long ((q2.toInt32).toInt64)), .second, .unset, .unset, .unset] [(.ref b46), (.ref b44), (.ref b44)]))
          have f47 := (A44.keep K46)
          have f48 := (F44_maxint.keep K46 nin0)
          refine own_callI S46 (y := (⟨"com/example/manysort/manysort/language/Naturals", "<init>", "(Ljava/lang/Integer;)V"⟩ : MethodName)) rfl (own_w hw 3 rfl) (own_w hw 4 rfl) (own_w hw 2 rfl) (own_w hw 5 rfl) (by decide) (argsL := [(.ref b46)]) (rest := [(.ref b44)]) (own_NatInit l Z a0 hw b44 (.ref b46) h46 S46.old rfl (own_mayN S46 (Or.inr (by rw [g44]; exact S0.size))) f47 f48) (allS (Or.inr (by rw [g44]; exact S0.size)) all0) (by decide +kernel : parseMethodDescriptor "(Ljava/lang/Integer;)V" = some ⟨[(.object "java/lang/Integer")], none⟩) rfl rfl rfl at_86 (by decide) (Nat.le_of_ble_eq_true rfl) (by decide) (by decide) (fun T49 h49 v49 S49 K49 q49 => ?_)
          obtain ⟨rfl, F49⟩ := q49
          show own_F p e below s Z _ _ _ _ _ (T49.setTop (mkF m 89 #[.val (.int p0), .val (.int p1), .val (.long q2), .second, .val (.int p3), .val (.int (1 : Int32)), .val (.int (((p0.toUInt32 >>> ((1 : Int32) &&& 31).toUInt32).toInt32) &&& (3 : Int32))), .val (.long ((q2.toInt32).toInt64)), .second, .unset, .unset, .unset] [(.ref b44)]))
          refine own_F.of (fun _ => XS.astore S49.here S49.hx rfl (S49.dec at_89) rfl rfl (l' := #[.val (.int p0), .val (.int p1), .val (.long q2), .second, .val (.int p3), .val (.int (1 : Int32)), .val (.int (((p0.toUInt32 >>> ((1 : Int32) &&& 31).toUInt32).toInt32) &&& (3 : Int32))), .val (.long ((q2.toInt32).toInt64)), .second, .val (.ref b44), .unset, .unset]) rfl) ?_
          show own_F p e below s Z _ _ _ _ _ (T49.setTop (mkF m 91 #[.val (.int p0), .val (.int p1), .val (.long q2), .second, .val (.int p3), .val (.int (1 : Int32)), .val (.int (((p0.toUInt32 >>> ((1 : Int32) &&& 31).toUInt32).toInt32) &&& (3 : Int32))), .val (.long ((q2.toInt32).toInt64)), .second, .val (.ref b44), .unset, .unset] []))
          refine own_F.of (fun _ => XS.aload S49.here S49.hx rfl (S49.dec at_91) rfl rfl) ?_
          show own_F p e below s Z _ _ _ _ _ (T49.setTop (mkF m 93 #[.val (.int p0), .val (.int p1), .val (.long q2), .second, .val (.int p3), .val (.int (1 : Int32)), .val (.int (((p0.toUInt32 >>> ((1 : Int32) &&& 31).toUInt32).toInt32) &&& (3 : Int32))), .val (.long ((q2.toInt32).toInt64)), .second, .val (.ref b44), .unset, .unset] [(.ref b44)]))
          refine own_F.of (fun _ => XS.lload S49.here S49.hx rfl (S49.dec at_93) rfl) ?_
          show own_F p e below s Z _ _ _ _ _ (T49.setTop (mkF m 95 #[.val (.int p0), .val (.int p1), .val (.long q2), .second, .val (.int p3), .val (.int (1 : Int32)), .val (.int (((p0.toUInt32 >>> ((1 : Int32) &&& 31).toUInt32).toInt32) &&& (3 : Int32))), .val (.long ((q2.toInt32).toInt64)), .second, .val (.ref b44), .unset, .unset] [(.long ((q2.toInt32).toInt64)), (.ref b44)]))
          have f51 := (f47.keep K49)
          refine own_callV S49 (y := (⟨"com/example/manysort/manysort/language/Naturals", "leaveUnbounded", "(J)Z"⟩ : MethodName)) (y' := (⟨"com/example/manysort/manysort/language/Naturals", "leaveUnbounded", "(J)Z"⟩ : MethodName)) (own_w hw 11 rfl) (own_w hw 12 rfl) (own_nf S49 (own_w hw 14 rfl)) (own_w hw 14 rfl) (own_w hw 13 rfl) (own_w hw 15 rfl) (own_w hw 2 rfl) (by decide) f51 (argsL := [(.long ((q2.toInt32).toInt64))]) (rest := []) (own_leaveR l Z a0 hw b44 b46 ((q2.toInt32).toInt64) h49 S49.old F49) all0 (by decide +kernel : parseMethodDescriptor "(J)Z" = some ⟨[.long], some .boolean⟩) rfl rfl rfl at_95 (by decide) (Nat.le_of_ble_eq_true rfl) (by decide) (by decide) (fun T50 h50 v50 S50 K50 q50 => ?_)
          obtain ⟨rfl, rfl⟩ := q50
          show own_F p e below s Z _ _ _ _ _ (T50.setTop (mkF m 98 #[.val (.int p0), .val (.int p1), .val (.long q2), .second, .val (.int p3), .val (.int (1 : Int32)), .val (.int (((p0.toUInt32 >>> ((1 : Int32) &&& 31).toUInt32).toInt32) &&& (3 : Int32))), .val (.long ((q2.toInt32).toInt64)), .second, .val (.ref b44), .unset, .unset] [(.int (0 : Int32))]))
          refine own_F.of (fun _ => XS.istore S50.here S50.hx rfl (S50.dec at_98) rfl (l' := #[.val (.int p0), .val (.int p1), .val (.long q2), .second, .val (.int p3), .val (.int (1 : Int32)), .val (.int (((p0.toUInt32 >>> ((1 : Int32) &&& 31).toUInt32).toInt32) &&& (3 : Int32))), .val (.long ((q2.toInt32).toInt64)), .second, .val (.ref b44), .val (.int (0 : Int32)), .unset]) rfl) ?_
          show own_F p e below s Z _ _ _ _ _ (T50.setTop (mkF m 100 #[.val (.int p0), .val (.int p1), .val (.long q2), .second, .val (.int p3), .val (.int (1 : Int32)), .val (.int (((p0.toUInt32 >>> ((1 : Int32) &&& 31).toUInt32).toInt32) &&& (3 : Int32))), .val (.long ((q2.toInt32).toInt64)), .second, .val (.ref b44), .val (.int (0 : Int32)), .unset] []))
          refine own_F.of (fun _ => XS.iload S50.here S50.hx rfl (S50.dec at_100) rfl) ?_
          show own_F p e below s Z _ _ _ _ _ (T50.setTop (mkF m 102 #[.val (.int p0), .val (.int p1), .val (.long q2), .second, .val (.int p3), .val (.int (1 : Int32)), .val (.int (((p0.toUInt32 >>> ((1 : Int32) &&& 31).toUInt32).toInt32) &&& (3 : Int32))), .val (.long ((q2.toInt32).toInt64)), .second, .val (.ref b44), .val (.int (0 : Int32)), .unset] [(.int (1 : Int32))]))
          refine own_if S50 118 at_102 (by decide) (by decide) (fun (hc102_52 : ¬ ((1 : Int32) = (0 : Int32))) => ?_) (fun (hc102_52 : (1 : Int32) = (0 : Int32)) => False.elim (absurd hc102_52 (by decide)))
          show own_F p e below s Z _ _ _ _ _ (T50.setTop (mkF m 118 #[.val (.int p0), .val (.int p1), .val (.long q2), .second, .val (.int p3), .val (.int (1 : Int32)), .val (.int (((p0.toUInt32 >>> ((1 : Int32) &&& 31).toUInt32).toInt32) &&& (3 : Int32))), .val (.long ((q2.toInt32).toInt64)), .second, .val (.ref b44), .val (.int (0 : Int32)), .unset] []))
          refine own_F.of (fun _ => XS.iconst S50.here S50.hx rfl (S50.dec at_118)) ?_
          show own_F p e below s Z _ _ _ _ _ (T50.setTop (mkF m 119 #[.val (.int p0), .val (.int p1), .val (.long q2), .second, .val (.int p3), .val (.int (1 : Int32)), .val (.int (((p0.toUInt32 >>> ((1 : Int32) &&& 31).toUInt32).toInt32) &&& (3 : Int32))), .val (.long ((q2.toInt32).toInt64)), .second, .val (.ref b44), .val (.int (0 : Int32)), .unset] [(.int (0 : Int32))]))
          refine own_F.of (fun _ => XS.istore S50.here S50.hx rfl (S50.dec at_119) rfl (l' := #[.val (.int p0), .val (.int p1), .val (.long q2), .second, .val (.int p3), .val (.int (1 : Int32)), .val (.int (((p0.toUInt32 >>> ((1 : Int32) &&& 31).toUInt32).toInt32) &&& (3 : Int32))), .val (.long ((q2.toInt32).toInt64)), .second, .val (.ref b44), .val (.int (0 : Int32)), .val (.int (0 : Int32))]) rfl) ?_
          show own_F p e below s Z _ _ _ _ _ (T50.setTop (mkF m 121 #[.val (.int p0), .val (.int p1), .val (.long q2), .second, .val (.int p3), .val (.int (1 : Int32)), .val (.int (((p0.toUInt32 >>> ((1 : Int32) &&& 31).toUInt32).toInt32) &&& (3 : Int32))), .val (.long ((q2.toInt32).toInt64)), .second, .val (.ref b44), .val (.int (0 : Int32)), .val (.int (0 : Int32))] []))
          refine own_F.of (fun _ => XS.iload S50.here S50.hx rfl (S50.dec at_121) rfl) ?_
          show own_F p e below s Z _ _ _ _ _ (T50.setTop (mkF m 123 #[.val (.int p0), .val (.int p1), .val (.long q2), .second, .val (.int p3), .val (.int (1 : Int32)), .val (.int (((p0.toUInt32 >>> ((1 : Int32) &&& 31).toUInt32).toInt32) &&& (3 : Int32))), .val (.long ((q2.toInt32).toInt64)), .second, .val (.ref b44), .val (.int (0 : Int32)), .val (.int (0 : Int32))] [(.int (0 : Int32))]))
          refine own_F.of (fun _ => XS.iload S50.here S50.hx rfl (S50.dec at_123) rfl) ?_
          show own_F p e below s Z _ _ _ _ _ (T50.setTop (mkF m 125 #[.val (.int p0), .val (.int p1), .val (.long q2), .second, .val (.int p3), .val (.int (1 : Int32)), .val (.int (((p0.toUInt32 >>> ((1 : Int32) &&& 31).toUInt32).toInt32) &&& (3 : Int32))), .val (.long ((q2.toInt32).toInt64)), .second, .val (.ref b44), .val (.int (0 : Int32)), .val (.int (0 : Int32))] [(.int (0 : Int32)), (.int (0 : Int32))]))
          refine own_icmp S50 132 at_125 (by decide) (by decide) (fun (hc125_53 : ¬ ((0 : Int32) = (0 : Int32))) => False.elim (absurd hc125_53 (by decide))) (fun (hc125_53 : (0 : Int32) = (0 : Int32)) => ?_)
          show own_F p e below s Z _ _ _ _ _ (T50.setTop (mkF m 128 #[.val (.int p0), .val (.int p1), .val (.long q2), .second, .val (.int p3), .val (.int (1 : Int32)), .val (.int (((p0.toUInt32 >>> ((1 : Int32) &&& 31).toUInt32).toInt32) &&& (3 : Int32))), .val (.long ((q2.toInt32).toInt64)), .second, .val (.ref b44), .val (.int (0 : Int32)), .val (.int (0 : Int32))] []))
          refine own_F.of (fun _ => XS.iconst S50.here S50.hx rfl (S50.dec at_128)) ?_
          show own_F p e below s Z _ _ _ _ _ (T50.setTop (mkF m 129 #[.val (.int p0), .val (.int p1), .val (.long q2), .second, .val (.int p3), .val (.int (1 : Int32)), .val (.int (((p0.toUInt32 >>> ((1 : Int32) &&& 31).toUInt32).toInt32) &&& (3 : Int32))), .val (.long ((q2.toInt32).toInt64)), .second, .val (.ref b44), .val (.int (0 : Int32)), .val (.int (0 : Int32))] [(.int (1 : Int32))]))
          refine own_F.of (fun _ => XS.goto S50.here S50.hx rfl (pc0 := 129) (pc' := 133) rfl (S50.dec at_129) (by decide) (by decide)) ?_
          show own_F p e below s Z _ _ _ _ _ (T50.setTop (mkF m 133 #[.val (.int p0), .val (.int p1), .val (.long q2), .second, .val (.int p3), .val (.int (1 : Int32)), .val (.int (((p0.toUInt32 >>> ((1 : Int32) &&& 31).toUInt32).toInt32) &&& (3 : Int32))), .val (.long ((q2.toInt32).toInt64)), .second, .val (.ref b44), .val (.int (0 : Int32)), .val (.int (0 : Int32))] [(.int (1 : Int32))]))
          refine own_retZ S50 (by simp) at_133 (by decide) (by decide) ?_
          rfl
        · show own_F p e below s Z _ _ _ _ _ (T0.setTop (mkF m 57 #[.val (.int p0), .val (.int p1), .val (.long q2), .second, .val (.int p3), .val (.int (1 : Int32)), .val (.int (((p0.toUInt32 >>> ((1 : Int32) &&& 31).toUInt32).toInt32) &&& (3 : Int32))), .unset, .unset, .unset, .unset, .unset] []))
          refine own_F.of (fun _ => XS.iloadN S0.here S0.hx rfl (S0.dec at_57) rfl) ?_
          show own_F p e below s Z _ _ _ _ _ (T0.setTop (mkF m 58 #[.val (.int p0), .val (.int p1), .val (.long q2), .second, .val (.int p3), .val (.int (1 : Int32)), .val (.int (((p0.toUInt32 >>> ((1 : Int32) &&& 31).toUInt32).toInt32) &&& (3 : Int32))), .unset, .unset, .unset, .unset, .unset] [(.int p1)]))
          refine own_F.of (fun _ => XS.i2l S0.here S0.hx rfl (S0.dec at_58) rfl) ?_
          show own_F p e below s Z _ _ _ _ _ (T0.setTop (mkF m 59 #[.val (.int p0), .val (.int p1), .val (.long q2), .second, .val (.int p3), .val (.int (1 : Int32)), .val (.int (((p0.toUInt32 >>> ((1 : Int32) &&& 31).toUInt32).toInt32) &&& (3 : Int32))), .unset, .unset, .unset, .unset, .unset] [(.long (p1.toInt64))]))
          refine own_F.of (fun _ => XS.lstore S0.here S0.hx rfl (S0.dec at_59) rfl (l' := #[.val (.int p0), .val (.int p1), .val (.long q2), .second, .val (.int p3), .val (.int (1 : Int32)), .val (.int (((p0.toUInt32 >>> ((1 : Int32) &&& 31).toUInt32).toInt32) &&& (3 : Int32))), .val (.long (p1.toInt64)), .second, .unset, .unset, .unset]) rfl) ?_
          show own_F p e below s Z _ _ _ _ _ (T0.setTop (mkF m 61 #[.val (.int p0), .val (.int p1), .val (.long q2), .second, .val (.int p3), .val (.int (1 : Int32)), .val (.int (((p0.toUInt32 >>> ((1 : Int32) &&& 31).toUInt32).toInt32) &&& (3 : Int32))), .val (.long (p1.toInt64)), .second, .unset, .unset, .unset] []))
          refine own_F.of (fun _ => XS.goto S0.here S0.hx rfl (pc0 := 61) (pc' := 69) rfl (S0.dec at_61) (by decide) (by decide)) ?_
          show own_F p e below s Z _ _ _ _ _ (T0.setTop (mkF m 69 #[.val (.int p0), .val (.int p1), .val (.long q2), .second, .val (.int p3), .val (.int (1 : Int32)), .val (.int (((p0.toUInt32 >>> ((1 : Int32) &&& 31).toUInt32).toInt32) &&& (3 : Int32))), .val (.long (p1.toInt64)), .second, .unset, .unset, .unset] []))
          refine own_new S0 (own_w hw 0 rfl) (own_w hw 1 rfl) (own_w hw 2 rfl) at_69 (by decide) (by decide) (fun T54 h54 b54 g54 S54 E54 A54 D54 => ?_)
          have F54_maxint : Fld Z h54 b54 "com/example/manysort/manysort/language/Naturals" "maxint" "Ljava/lang/Integer;" .null := (D54 (Or.inr (own_w hw 10 rfl)) (ty := (.object "java/lang/Integer")) (by decide))
          show own_F p e below s Z _ _ _ _ _ (T54.setTop (mkF m 72 #[.val (.int p0), .val (.int p1), .val (.long q2), .second, .val (.int p3), .val (.int (1 : Int32)), .val (.int (((p0.toUInt32 >>> ((1 : Int32) &&& 31).toUInt32).toInt32) &&& (3 : Int32))), .val (.long (p1.toInt64)), .second, .unset, .unset, .unset] [(.ref b54)]))
          refine own_F.of (fun _ => XS.dup S54.here S54.hx rfl (S54.dec at_72) rfl rfl) ?_
          show own_F p e below s Z _ _ _ _ _ (T54.setTop (mkF m 73 #[.val (.int p0), .val (.int p1), .val (.long q2), .second, .val (.int p3), .val (.int (1 : Int32)), .val (.int (((p0.toUInt32 >>> ((1 : Int32) &&& 31).toUInt32).toInt32) &&& (3 : Int32))), .val (.long (p1.toInt64)), .second, .unset, .unset, .unset] [(.ref b54), (.ref b54)]))
          refine own_F.of (fun _ => XS.iload S54.here S54.hx rfl (S54.dec at_73) rfl) ?_
          show own_F p e below s Z _ _ _ _ _ (T54.setTop (mkF m 75 #[.val (.int p0), .val (.int p1), .val (.long q2), .second, .val (.int p3), .val (.int (1 : Int32)), .val (.int (((p0.toUInt32 >>> ((1 : Int32) &&& 31).toUInt32).toInt32) &&& (3 : Int32))), .val (.long (p1.toInt64)), .second, .unset, .unset, .unset] [(.int (1 : Int32)), (.ref b54), (.ref b54)]))
          refine own_if S54 85 at_75 (by decide) (by decide) (fun (hc75_55 : (1 : Int32) = (0 : Int32)) => False.elim (absurd hc75_55 (by decide))) (fun (hc75_55 : ¬ ((1 : Int32) = (0 : Int32))) => ?_)
          show own_F p e below s Z _ _ _ _ _ (T54.setTop (mkF m 78 #[.val (.int p0), .val (.int p1), .val (.long q2), .second, .val (.int p3), .val (.int (1 : Int32)), .val (.int (((p0.toUInt32 >>> ((1 : Int32) &&& 31).toUInt32).toInt32) &&& (3 : Int32))), .val (.long (p1.toInt64)), .second, .unset, .unset, .unset] [(.ref b54), (.ref b54)]))
          refine own_F.of (fun _ => XS.iloadN S54.here S54.hx rfl (S54.dec at_78) rfl) ?_
          show own_F p e below s Z _ _ _ _ _ (T54.setTop (mkF m 79 #[.val (.int p0), .val (.int p1), .val (.long q2), .second, .val (.int p3), .val (.int (1 : Int32)), .val (.int (((p0.toUInt32 >>> ((1 : Int32) &&& 31).toUInt32).toInt32) &&& (3 : Int32))), .val (.long (p1.toInt64)), .second, .unset, .unset, .unset] [(.int p1), (.ref b54), (.ref b54)]))
          refine own_callS S54 (y := (⟨"java/lang/Integer", "valueOf", "(I)Ljava/lang/Integer;"⟩ : MethodName)) (own_w hw 18 rfl) (own_w hw 19 rfl) (own_w hw 20 rfl) (own_w hw 21 rfl) (by decide) (argsL := [(.int p1)]) (rest := [(.ref b54), (.ref b54)]) (own_vOfI l Z a0 hw p1 aC clC h54 S54.old SHi SCa BX) all0 (by decide +kernel : parseMethodDescriptor "(I)Ljava/lang/Integer;" = some ⟨[.int], some (.object "java/lang/Integer")⟩) rfl rfl rfl at_79 (by decide) (Nat.le_of_ble_eq_true rfl) (by decide) (by decide) (fun T56 h56 v56 S56 K56 q56 => ?_)
          obtain ⟨b56, rfl, X56, F56⟩ := q56
          show own_F p e below s Z _ _ _ _ _ (T56.setTop (mkF m 82 #[.val (.int p0), .val (.int p1), .val (.long q2), .second, .val (.int p3), .val (.int (1 : Int32)), .val (.int (((p0.toUInt32 >>> ((1 : Int32) &&& 31).toUInt32).toInt32) &&& (3 : Int32))), .val (.long (p1.toInt64)), .second, .unset, .unset, .unset] [(.ref b56), (.ref b54), (.ref b54)]))
          refine own_F.of (fun _ => XS.goto S56.here S56.hx rfl (pc0 := 82) (pc' := 86) rfl (S56.dec at_82) (by decide) (by decide)) ?_
          show own_F p e below s Z _ _ _ _ _ (T56.setTop (mkF m 86 #[.val (.int p0), .val (.int p1), .val (.long q2), .second, .val (.int p3), .val (.int (1 : Int32)), .val (.int (((p0.toUInt32 >>> ((1 : Int32) &&& 31).toUInt32).toInt32) &&& (3 : Int32))), .val (.long (p1.toInt64)), .second, .unset, .unset, .unset] [(.ref b56), (.ref b54), (.ref b54)]))
          have f57 := (A54.keep K56)
          have f58 := (F54_maxint.keep K56 nin0)
          refine own_callI S56 (y := (⟨"com/example/manysort/manysort/language/Naturals", "<init>", "(Ljava/lang/Integer;)V"⟩ : MethodName)) rfl (own_w hw 3 rfl) (own_w hw 4 rfl) (own_w hw 2 rfl) (own_w hw 5 rfl) (by decide) (argsL := [(.ref b56)]) (rest := [(.ref b54)]) (own_NatInit l Z a0 hw b54 (.ref b56) h56 S56.old rfl (own_mayN S56 (Or.inr (by rw [g54]; exact S0.size))) f57 f58) (allS (Or.inr (by rw [g54]; exact S0.size)) all0) (by decide +kernel : parseMethodDescriptor "(Ljava/lang/Integer;)V" = some ⟨[(.object "java/lang/Integer")], none⟩) rfl rfl rfl at_86 (by decide) (Nat.le_of_ble_eq_true rfl) (by decide) (by decide) (fun T59 h59 v59 S59 K59 q59 => ?_)
          obtain ⟨rfl, F59⟩ := q59
          show own_F p e below s Z _ _ _ _ _ (T59.setTop (mkF m 89 #[.val (.int p0), .val (.int p1), .val (.long q2), .second, .val (.int p3), .val (.int (1 : Int32)), .val (.int (((p0.toUInt32 >>> ((1 : Int32) &&& 31).toUInt32).toInt32) &&& (3 : Int32))), .val (.long (p1.toInt64)), .second, .unset, .unset, .unset] [(.ref b54)]))
          refine own_F.of (fun _ => XS.astore S59.here S59.hx rfl (S59.dec at_89) rfl rfl (l' := #[.val (.int p0), .val (.int p1), .val (.long q2), .second, .val (.int p3), .val (.int (1 : Int32)), .val (.int (((p0.toUInt32 >>> ((1 : Int32) &&& 31).toUInt32).toInt32) &&& (3 : Int32))), .val (.long (p1.toInt64)), .second, .val (.ref b54), .unset, .unset]) rfl) ?_
          show own_F p e below s Z _ _ _ _ _ (T59.setTop (mkF m 91 #[.val (.int p0), .val (.int p1), .val (.long q2), .second, .val (.int p3), .val (.int (1 : Int32)), .val (.int (((p0.toUInt32 >>> ((1 : Int32) &&& 31).toUInt32).toInt32) &&& (3 : Int32))), .val (.long (p1.toInt64)), .second, .val (.ref b54), .unset, .unset] []))
          refine own_F.of (fun _ => XS.aload S59.here S59.hx rfl (S59.dec at_91) rfl rfl) ?_
          show own_F p e below s Z _ _ _ _ _ (T59.setTop (mkF m 93 #[.val (.int p0), .val (.int p1), .val (.long q2), .second, .val (.int p3), .val (.int (1 : Int32)), .val (.int (((p0.toUInt32 >>> ((1 : Int32) &&& 31).toUInt32).toInt32) &&& (3 : Int32))), .val (.long (p1.toInt64)), .second, .val (.ref b54), .unset, .unset] [(.ref b54)]))
          refine own_F.of (fun _ => XS.lload S59.here S59.hx rfl (S59.dec at_93) rfl) ?_
          show own_F p e below s Z _ _ _ _ _ (T59.setTop (mkF m 95 #[.val (.int p0), .val (.int p1), .val (.long q2), .second, .val (.int p3), .val (.int (1 : Int32)), .val (.int (((p0.toUInt32 >>> ((1 : Int32) &&& 31).toUInt32).toInt32) &&& (3 : Int32))), .val (.long (p1.toInt64)), .second, .val (.ref b54), .unset, .unset] [(.long (p1.toInt64)), (.ref b54)]))
          have f61 := (f57.keep K59)
          refine own_callV S59 (y := (⟨"com/example/manysort/manysort/language/Naturals", "leaveUnbounded", "(J)Z"⟩ : MethodName)) (y' := (⟨"com/example/manysort/manysort/language/Naturals", "leaveUnbounded", "(J)Z"⟩ : MethodName)) (own_w hw 11 rfl) (own_w hw 12 rfl) (own_nf S59 (own_w hw 14 rfl)) (own_w hw 14 rfl) (own_w hw 13 rfl) (own_w hw 15 rfl) (own_w hw 2 rfl) (by decide) f61 (argsL := [(.long (p1.toInt64))]) (rest := []) (own_leaveR l Z a0 hw b54 b56 (p1.toInt64) h59 S59.old F59) all0 (by decide +kernel : parseMethodDescriptor "(J)Z" = some ⟨[.long], some .boolean⟩) rfl rfl rfl at_95 (by decide) (Nat.le_of_ble_eq_true rfl) (by decide) (by decide) (fun T60 h60 v60 S60 K60 q60 => ?_)
          obtain ⟨rfl, rfl⟩ := q60
          show own_F p e below s Z _ _ _ _ _ (T60.setTop (mkF m 98 #[.val (.int p0), .val (.int p1), .val (.long q2), .second, .val (.int p3), .val (.int (1 : Int32)), .val (.int (((p0.toUInt32 >>> ((1 : Int32) &&& 31).toUInt32).toInt32) &&& (3 : Int32))), .val (.long (p1.toInt64)), .second, .val (.ref b54), .unset, .unset] [(.int (0 : Int32))]))
          refine own_F.of (fun _ => XS.istore S60.here S60.hx rfl (S60.dec at_98) rfl (l' := #[.val (.int p0), .val (.int p1), .val (.long q2), .second, .val (.int p3), .val (.int (1 : Int32)), .val (.int (((p0.toUInt32 >>> ((1 : Int32) &&& 31).toUInt32).toInt32) &&& (3 : Int32))), .val (.long (p1.toInt64)), .second, .val (.ref b54), .val (.int (0 : Int32)), .unset]) rfl) ?_
          show own_F p e below s Z _ _ _ _ _ (T60.setTop (mkF m 100 #[.val (.int p0), .val (.int p1), .val (.long q2), .second, .val (.int p3), .val (.int (1 : Int32)), .val (.int (((p0.toUInt32 >>> ((1 : Int32) &&& 31).toUInt32).toInt32) &&& (3 : Int32))), .val (.long (p1.toInt64)), .second, .val (.ref b54), .val (.int (0 : Int32)), .unset] []))
          refine own_F.of (fun _ => XS.iload S60.here S60.hx rfl (S60.dec at_100) rfl) ?_
          show own_F p e below s Z _ _ _ _ _ (T60.setTop (mkF m 102 #[.val (.int p0), .val (.int p1), .val (.long q2), .second, .val (.int p3), .val (.int (1 : Int32)), .val (.int (((p0.toUInt32 >>> ((1 : Int32) &&& 31).toUInt32).toInt32) &&& (3 : Int32))), .val (.long (p1.toInt64)), .second, .val (.ref b54), .val (.int (0 : Int32)), .unset] [(.int (1 : Int32))]))
          refine own_if S60 118 at_102 (by decide) (by decide) (fun (hc102_62 : ¬ ((1 : Int32) = (0 : Int32))) => ?_) (fun (hc102_62 : (1 : Int32) = (0 : Int32)) => False.elim (absurd hc102_62 (by decide)))
          show own_F p e below s Z _ _ _ _ _ (T60.setTop (mkF m 118 #[.val (.int p0), .val (.int p1), .val (.long q2), .second, .val (.int p3), .val (.int (1 : Int32)), .val (.int (((p0.toUInt32 >>> ((1 : Int32) &&& 31).toUInt32).toInt32) &&& (3 : Int32))), .val (.long (p1.toInt64)), .second, .val (.ref b54), .val (.int (0 : Int32)), .unset] []))
          refine own_F.of (fun _ => XS.iconst S60.here S60.hx rfl (S60.dec at_118)) ?_
          show own_F p e below s Z _ _ _ _ _ (T60.setTop (mkF m 119 #[.val (.int p0), .val (.int p1), .val (.long q2), .second, .val (.int p3), .val (.int (1 : Int32)), .val (.int (((p0.toUInt32 >>> ((1 : Int32) &&& 31).toUInt32).toInt32) &&& (3 : Int32))), .val (.long (p1.toInt64)), .second, .val (.ref b54), .val (.int (0 : Int32)), .unset] [(.int (0 : Int32))]))
          refine own_F.of (fun _ => XS.istore S60.here S60.hx rfl (S60.dec at_119) rfl (l' := #[.val (.int p0), .val (.int p1), .val (.long q2), .second, .val (.int p3), .val (.int (1 : Int32)), .val (.int (((p0.toUInt32 >>> ((1 : Int32) &&& 31).toUInt32).toInt32) &&& (3 : Int32))), .val (.long (p1.toInt64)), .second, .val (.ref b54), .val (.int (0 : Int32)), .val (.int (0 : Int32))]) rfl) ?_
          show own_F p e below s Z _ _ _ _ _ (T60.setTop (mkF m 121 #[.val (.int p0), .val (.int p1), .val (.long q2), .second, .val (.int p3), .val (.int (1 : Int32)), .val (.int (((p0.toUInt32 >>> ((1 : Int32) &&& 31).toUInt32).toInt32) &&& (3 : Int32))), .val (.long (p1.toInt64)), .second, .val (.ref b54), .val (.int (0 : Int32)), .val (.int (0 : Int32))] []))
          refine own_F.of (fun _ => XS.iload S60.here S60.hx rfl (S60.dec at_121) rfl) ?_
          show own_F p e below s Z _ _ _ _ _ (T60.setTop (mkF m 123 #[.val (.int p0), .val (.int p1), .val (.long q2), .second, .val (.int p3), .val (.int (1 : Int32)), .val (.int (((p0.toUInt32 >>> ((1 : Int32) &&& 31).toUInt32).toInt32) &&& (3 : Int32))), .val (.long (p1.toInt64)), .second, .val (.ref b54), .val (.int (0 : Int32)), .val (.int (0 : Int32))] [(.int (0 : Int32))]))
          refine own_F.of (fun _ => XS.iload S60.here S60.hx rfl (S60.dec at_123) rfl) ?_
          show own_F p e below s Z _ _ _ _ _ (T60.setTop (mkF m 125 #[.val (.int p0), .val (.int p1), .val (.long q2), .second, .val (.int p3), .val (.int (1 : Int32)), .val (.int (((p0.toUInt32 >>> ((1 : Int32) &&& 31).toUInt32).toInt32) &&& (3 : Int32))), .val (.long (p1.toInt64)), .second, .val (.ref b54), .val (.int (0 : Int32)), .val (.int (0 : Int32))] [(.int (0 : Int32)), (.int (0 : Int32))]))
          refine own_icmp S60 132 at_125 (by decide) (by decide) (fun (hc125_63 : ¬ ((0 : Int32) = (0 : Int32))) => False.elim (absurd hc125_63 (by decide))) (fun (hc125_63 : (0 : Int32) = (0 : Int32)) => ?_)
          show own_F p e below s Z _ _ _ _ _ (T60.setTop (mkF m 128 #[.val (.int p0), .val (.int p1), .val (.long q2), .second, .val (.int p3), .val (.int (1 : Int32)), .val (.int (((p0.toUInt32 >>> ((1 : Int32) &&& 31).toUInt32).toInt32) &&& (3 : Int32))), .val (.long (p1.toInt64)), .second, .val (.ref b54), .val (.int (0 : Int32)), .val (.int (0 : Int32))] []))
          refine own_F.of (fun _ => XS.iconst S60.here S60.hx rfl (S60.dec at_128)) ?_
          show own_F p e below s Z _ _ _ _ _ (T60.setTop (mkF m 129 #[.val (.int p0), .val (.int p1), .val (.long q2), .second, .val (.int p3), .val (.int (1 : Int32)), .val (.int (((p0.toUInt32 >>> ((1 : Int32) &&& 31).toUInt32).toInt32) &&& (3 : Int32))), .val (.long (p1.toInt64)), .second, .val (.ref b54), .val (.int (0 : Int32)), .val (.int (0 : Int32))] [(.int (1 : Int32))]))
          refine own_F.of (fun _ => XS.goto S60.here S60.hx rfl (pc0 := 129) (pc' := 133) rfl (S60.dec at_129) (by decide) (by decide)) ?_
          show own_F p e below s Z _ _ _ _ _ (T60.setTop (mkF m 133 #[.val (.int p0), .val (.int p1), .val (.long q2), .second, .val (.int p3), .val (.int (1 : Int32)), .val (.int (((p0.toUInt32 >>> ((1 : Int32) &&& 31).toUInt32).toInt32) &&& (3 : Int32))), .val (.long (p1.toInt64)), .second, .val (.ref b54), .val (.int (0 : Int32)), .val (.int (0 : Int32))] [(.int (1 : Int32))]))
          refine own_retZ S60 (by simp) at_133 (by decide) (by decide) ?_
          rfl
      · show own_F p e below s Z _ _ _ _ _ (T0.setTop (mkF m 37 #[.val (.int p0), .val (.int p1), .val (.long q2), .second, .val (.int p3), .val (.int (1 : Int32)), .val (.int (((p0.toUInt32 >>> ((1 : Int32) &&& 31).toUInt32).toInt32) &&& (3 : Int32))), .unset, .unset, .unset, .unset, .unset] []))
        refine own_ldcJ S0 (own_w hw 17 rfl) at_37 ?_
        show own_F p e below s Z _ _ _ _ _ (T0.setTop (mkF m 40 #[.val (.int p0), .val (.int p1), .val (.long q2), .second, .val (.int p3), .val (.int (1 : Int32)), .val (.int (((p0.toUInt32 >>> ((1 : Int32) &&& 31).toUInt32).toInt32) &&& (3 : Int32))), .unset, .unset, .unset, .unset, .unset] [(.long (2147483647 : Int64))]))
        refine own_F.of (fun _ => XS.iload S0.here S0.hx rfl (S0.dec at_40) rfl) ?_
        show own_F p e below s Z _ _ _ _ _ (T0.setTop (mkF m 42 #[.val (.int p0), .val (.int p1), .val (.long q2), .second, .val (.int p3), .val (.int (1 : Int32)), .val (.int (((p0.toUInt32 >>> ((1 : Int32) &&& 31).toUInt32).toInt32) &&& (3 : Int32))), .unset, .unset, .unset, .unset, .unset] [(.int p3), (.long (2147483647 : Int64))]))
        refine own_F.of (fun _ => XS.iconst S0.here S0.hx rfl (S0.dec at_42)) ?_
        show own_F p e below s Z _ _ _ _ _ (T0.setTop (mkF m 43 #[.val (.int p0), .val (.int p1), .val (.long q2), .second, .val (.int p3), .val (.int (1 : Int32)), .val (.int (((p0.toUInt32 >>> ((1 : Int32) &&& 31).toUInt32).toInt32) &&& (3 : Int32))), .unset, .unset, .unset, .unset, .unset] [(.int (3 : Int32)), (.int p3), (.long (2147483647 : Int64))]))
        refine own_F.of (fun _ => own_irem S0 at_43 (by decide)) ?_
        show own_F p e below s Z _ _ _ _ _ (T0.setTop (mkF m 44 #[.val (.int p0), .val (.int p1), .val (.long q2), .second, .val (.int p3), .val (.int (1 : Int32)), .val (.int (((p0.toUInt32 >>> ((1 : Int32) &&& 31).toUInt32).toInt32) &&& (3 : Int32))), .unset, .unset, .unset, .unset, .unset] [(.int (p3 % (3 : Int32))), (.long (2147483647 : Int64))]))
        refine own_F.of (fun _ => XS.i2l S0.here S0.hx rfl (S0.dec at_44) rfl) ?_
        show own_F p e below s Z _ _ _ _ _ (T0.setTop (mkF m 45 #[.val (.int p0), .val (.int p1), .val (.long q2), .second, .val (.int p3), .val (.int (1 : Int32)), .val (.int (((p0.toUInt32 >>> ((1 : Int32) &&& 31).toUInt32).toInt32) &&& (3 : Int32))), .unset, .unset, .unset, .unset, .unset] [(.long ((p3 % (3 : Int32)).toInt64)), (.long (2147483647 : Int64))]))
        refine own_F.of (fun _ => XS.ladd S0.here S0.hx rfl (S0.dec at_45) rfl) ?_
        show own_F p e below s Z _ _ _ _ _ (T0.setTop (mkF m 46 #[.val (.int p0), .val (.int p1), .val (.long q2), .second, .val (.int p3), .val (.int (1 : Int32)), .val (.int (((p0.toUInt32 >>> ((1 : Int32) &&& 31).toUInt32).toInt32) &&& (3 : Int32))), .unset, .unset, .unset, .unset, .unset] [(.long ((2147483647 : Int64) + ((p3 % (3 : Int32)).toInt64)))]))
        refine own_F.of (fun _ => XS.lstore S0.here S0.hx rfl (S0.dec at_46) rfl (l' := #[.val (.int p0), .val (.int p1), .val (.long q2), .second, .val (.int p3), .val (.int (1 : Int32)), .val (.int (((p0.toUInt32 >>> ((1 : Int32) &&& 31).toUInt32).toInt32) &&& (3 : Int32))), .val (.long ((2147483647 : Int64) + ((p3 % (3 : Int32)).toInt64))), .second, .unset, .unset, .unset]) rfl) ?_
        show own_F p e below s Z _ _ _ _ _ (T0.setTop (mkF m 48 #[.val (.int p0), .val (.int p1), .val (.long q2), .second, .val (.int p3), .val (.int (1 : Int32)), .val (.int (((p0.toUInt32 >>> ((1 : Int32) &&& 31).toUInt32).toInt32) &&& (3 : Int32))), .val (.long ((2147483647 : Int64) + ((p3 % (3 : Int32)).toInt64))), .second, .unset, .unset, .unset] []))
        refine own_F.of (fun _ => XS.goto S0.here S0.hx rfl (pc0 := 48) (pc' := 69) rfl (S0.dec at_48) (by decide) (by decide)) ?_
        show own_F p e below s Z _ _ _ _ _ (T0.setTop (mkF m 69 #[.val (.int p0), .val (.int p1), .val (.long q2), .second, .val (.int p3), .val (.int (1 : Int32)), .val (.int (((p0.toUInt32 >>> ((1 : Int32) &&& 31).toUInt32).toInt32) &&& (3 : Int32))), .val (.long ((2147483647 : Int64) + ((p3 % (3 : Int32)).toInt64))), .second, .unset, .unset, .unset] []))
        refine own_new S0 (own_w hw 0 rfl) (own_w hw 1 rfl) (own_w hw 2 rfl) at_69 (by decide) (by decide) (fun T64 h64 b64 g64 S64 E64 A64 D64 => ?_)
        have F64_maxint : Fld Z h64 b64 "com/example/manysort/manysort/language/Naturals" "maxint" "Ljava/lang/Integer;" .null := (D64 (Or.inr (own_w hw 10 rfl)) (ty := (.object "java/lang/Integer")) (by decide))
        show own_F p e below s Z _ _ _ _ _ (T64.setTop (mkF m 72 #[.val (.int p0), .val (.int p1), .val (.long q2), .second, .val (.int p3), .val (.int (1 : Int32)), .val (.int (((p0.toUInt32 >>> ((1 : Int32) &&& 31).toUInt32).toInt32) &&& (3 : Int32))), .val (.long ((2147483647 : Int64) + ((p3 % (3 : Int32)).toInt64))), .second, .unset, .unset, .unset] [(.ref b64)]))
        refine own_F.of (fun _ => XS.dup S64.here S64.hx rfl (S64.dec at_72) rfl rfl) ?_
        show own_F p e below s Z _ _ _ _ _ (T64.setTop (mkF m 73 #[.val (.int p0), .val (.int p1), .val (.long q2), .second, .val (.int p3), .val (.int (1 : Int32)), .val (.int (((p0.toUInt32 >>> ((1 : Int32) &&& 31).toUInt32).toInt32) &&& (3 : Int32))), .val (.long ((2147483647 : Int64) + ((p3 % (3 : Int32)).toInt64))), .second, .unset, .unset, .unset] [(.ref b64), (.ref b64)]))
        refine own_F.of (fun _ => XS.iload S64.here S64.hx rfl (S64.dec at_73) rfl) ?_
        show own_F p e below s Z _ _ _ _ _ (T64.setTop (mkF m 75 #[.val (.int p0), .val (.int p1), .val (.long q2), .second, .val (.int p3), .val (.int (1 : Int32)), .val (.int (((p0.toUInt32 >>> ((1 : Int32) &&& 31).toUInt32).toInt32) &&& (3 : Int32))), .val (.long ((2147483647 : Int64) + ((p3 % (3 : Int32)).toInt64))), .second, .unset, .unset, .unset] [(.int (1 : Int32)), (.ref b64), (.ref b64)]))
        refine own_if S64 85 at_75 (by decide) (by decide) (fun (hc75_65 : (1 : Int32) = (0 : Int32)) => False.elim (absurd hc75_65 (by decide))) (fun (hc75_65 : ¬ ((1 : Int32) = (0 : Int32))) => ?_)
        show own_F p e below s Z _ _ _ _ _ (T64.setTop (mkF m 78 #[.val (.int p0), .val (.int p1), .val (.long q2), .second, .val (.int p3), .val (.int (1 : Int32)), .val (.int (((p0.toUInt32 >>> ((1 : Int32) &&& 31).toUInt32).toInt32) &&& (3 : Int32))), .val (.long ((2147483647 : Int64) + ((p3 % (3 : Int32)).toInt64))), .second, .unset, .unset, .unset] [(.ref b64), (.ref b64)]))
        refine own_F.of (fun _ => XS.iloadN S64.here S64.hx rfl (S64.dec at_78) rfl) ?_
        show own_F p e below s Z _ _ _ _ _ (T64.setTop (mkF m 79 #[.val (.int p0), .val (.int p1), .val (.long q2), .second, .val (.int p3), .val (.int (1 : Int32)), .val (.int (((p0.toUInt32 >>> ((1 : Int32) &&& 31).toUInt32).toInt32) &&& (3 : Int32))), .val (.long ((2147483647 : Int64) + ((p3 % (3 : Int32)).toInt64))), .second, .unset, .unset, .unset] [(.int p1), (.ref b64), (.ref b64)]))
        refine own_callS S64 (y := (⟨"java/lang/Integer", "valueOf", "(I)Ljava/lang/Integer;"⟩ : MethodName)) (own_w hw 18 rfl) (own_w hw 19 rfl) (own_w hw 20 rfl) (own_w hw 21 rfl) (by decide) (argsL := [(.int p1)]) (rest := [(.ref b64), (.ref b64)]) (own_vOfI l Z a0 hw p1 aC clC h64 S64.old SHi SCa BX) all0 (by decide +kernel : parseMethodDescriptor "(I)Ljava/lang/Integer;" = some ⟨[.int], some (.object "java/lang/Integer")⟩) rfl rfl rfl at_79 (by decide) (Nat.le_of_ble_eq_true rfl) (by decide) (by decide) (fun T66 h66 v66 S66 K66 q66 => ?_)
        obtain ⟨b66, rfl, X66, F66⟩ := q66
        show own_F p e below s Z _ _ _ _ _ (T66.setTop (mkF m 82 #[.val (.int p0), .val (.int p1), .val (.long q2), .second, .val (.int p3), .val (.int (1 : Int32)), .val (.int (((p0.toUInt32 >>> ((1 : Int32) &&& 31).toUInt32).toInt32) &&& (3 : Int32))), .val (.long ((2147483647 : Int64) + ((p3 % (3 : Int32)).toInt64))), .second, .unset, .unset, .unset] [(.ref b66), (.ref b64), (.ref b64)]))
        refine own_F.of (fun _ => XS.goto S66.here S66.hx rfl (pc0 := 82) (pc' := 86) rfl (S66.dec at_82) (by decide) (by decide)) ?_
        show own_F p e below s Z _ _ _ _ _ (T66.setTop (mkF m 86 #[.val (.int p0), .val (.int p1), .val (.long q2), .second, .val (.int p3), .val (.int (1 : Int32)), .val (.int (((p0.toUInt32 >>> ((1 : Int32) &&& 31).toUInt32).toInt32) &&& (3 : Int32))), .val (.long ((2147483647 : Int64) + ((p3 % (3 : Int32)).toInt64))), .second, .unset, .unset, .unset] [(.ref b66), (.ref b64), (.ref b64)]))
        have f67 := (A64.keep K66)
        have f68 := (F64_maxint.keep K66 nin0)
        refine own_callI S66 (y := (⟨"com/example/manysort/manysort/language/Naturals", "<init>", "(Ljava/lang/Integer;)V"⟩ : MethodName)) rfl (own_w hw 3 rfl) (own_w hw 4 rfl) (own_w hw 2 rfl) (own_w hw 5 rfl) (by decide) (argsL := [(.ref b66)]) (rest := [(.ref b64)]) (own_NatInit l Z a0 hw b64 (.ref b66) h66 S66.old rfl (own_mayN S66 (Or.inr (by rw [g64]; exact S0.size))) f67 f68) (allS (Or.inr (by rw [g64]; exact S0.size)) all0) (by decide +kernel : parseMethodDescriptor "(Ljava/lang/Integer;)V" = some ⟨[(.object "java/lang/Integer")], none⟩) rfl rfl rfl at_86 (by decide) (Nat.le_of_ble_eq_true rfl) (by decide) (by decide) (fun T69 h69 v69 S69 K69 q69 => ?_)
        obtain ⟨rfl, F69⟩ := q69
        show own_F p e below s Z _ _ _ _ _ (T69.setTop (mkF m 89 #[.val (.int p0), .val (.int p1), .val (.long q2), .second, .val (.int p3), .val (.int (1 : Int32)), .val (.int (((p0.toUInt32 >>> ((1 : Int32) &&& 31).toUInt32).toInt32) &&& (3 : Int32))), .val (.long ((2147483647 : Int64) + ((p3 % (3 : Int32)).toInt64))), .second, .unset, .unset, .unset] [(.ref b64)]))
        refine own_F.of (fun _ => XS.astore S69.here S69.hx rfl (S69.dec at_89) rfl rfl (l' := #[.val (.int p0), .val (.int p1), .val (.long q2), .second, .val (.int p3), .val (.int (1 : Int32)), .val (.int (((p0.toUInt32 >>> ((1 : Int32) &&& 31).toUInt32).toInt32) &&& (3 : Int32))), .val (.long ((2147483647 : Int64) + ((p3 % (3 : Int32)).toInt64))), .second, .val (.ref b64), .unset, .unset]) rfl) ?_
        show own_F p e below s Z _ _ _ _ _ (T69.setTop (mkF m 91 #[.val (.int p0), .val (.int p1), .val (.long q2), .second, .val (.int p3), .val (.int (1 : Int32)), .val (.int (((p0.toUInt32 >>> ((1 : Int32) &&& 31).toUInt32).toInt32) &&& (3 : Int32))), .val (.long ((2147483647 : Int64) + ((p3 % (3 : Int32)).toInt64))), .second, .val (.ref b64), .unset, .unset] []))
        refine own_F.of (fun _ => XS.aload S69.here S69.hx rfl (S69.dec at_91) rfl rfl) ?_
        show own_F p e below s Z _ _ _ _ _ (T69.setTop (mkF m 93 #[.val (.int p0), .val (.int p1), .val (.long q2), .second, .val (.int p3), .val (.int (1 : Int32)), .val (.int (((p0.toUInt32 >>> ((1 : Int32) &&& 31).toUInt32).toInt32) &&& (3 : Int32))), .val (.long ((2147483647 : Int64) + ((p3 % (3 : Int32)).toInt64))), .second, .val (.ref b64), .unset, .unset] [(.ref b64)]))
        refine own_F.of (fun _ => XS.lload S69.here S69.hx rfl (S69.dec at_93) rfl) ?_
        show own_F p e below s Z _ _ _ _ _ (T69.setTop (mkF m 95 #[.val (.int p0), .val (.int p1), .val (.long q2), .second, .val (.int p3), .val (.int (1 : Int32)), .val (.int (((p0.toUInt32 >>> ((1 : Int32) &&& 31).toUInt32).toInt32) &&& (3 : Int32))), .val (.long ((2147483647 : Int64) + ((p3 % (3 : Int32)).toInt64))), .second, .val (.ref b64), .unset, .unset] [(.long ((2147483647 : Int64) + ((p3 % (3 : Int32)).toInt64))), (.ref b64)]))
        have f71 := (f67.keep K69)
        refine own_callV S69 (y := (⟨"com/example/manysort/manysort/language/Naturals", "leaveUnbounded", "(J)Z"⟩ : MethodName)) (y' := (⟨"com/example/manysort/manysort/language/Naturals", "leaveUnbounded", "(J)Z"⟩ : MethodName)) (own_w hw 11 rfl) (own_w hw 12 rfl) (own_nf S69 (own_w hw 14 rfl)) (own_w hw 14 rfl) (own_w hw 13 rfl) (own_w hw 15 rfl) (own_w hw 2 rfl) (by decide) f71 (argsL := [(.long ((2147483647 : Int64) + ((p3 % (3 : Int32)).toInt64)))]) (rest := []) (own_leaveR l Z a0 hw b64 b66 ((2147483647 : Int64) + ((p3 % (3 : Int32)).toInt64)) h69 S69.old F69) all0 (by decide +kernel : parseMethodDescriptor "(J)Z" = some ⟨[.long], some .boolean⟩) rfl rfl rfl at_95 (by decide) (Nat.le_of_ble_eq_true rfl) (by decide) (by decide) (fun T70 h70 v70 S70 K70 q70 => ?_)
        obtain ⟨rfl, rfl⟩ := q70
        show own_F p e below s Z _ _ _ _ _ (T70.setTop (mkF m 98 #[.val (.int p0), .val (.int p1), .val (.long q2), .second, .val (.int p3), .val (.int (1 : Int32)), .val (.int (((p0.toUInt32 >>> ((1 : Int32) &&& 31).toUInt32).toInt32) &&& (3 : Int32))), .val (.long ((2147483647 : Int64) + ((p3 % (3 : Int32)).toInt64))), .second, .val (.ref b64), .unset, .unset] [(.int (0 : Int32))]))
        refine own_F.of (fun _ => XS.istore S70.here S70.hx rfl (S70.dec at_98) rfl (l' := #[.val (.int p0), .val (.int p1), .val (.long q2), .second, .val (.int p3), .val (.int (1 : Int32)), .val (.int (((p0.toUInt32 >>> ((1 : Int32) &&& 31).toUInt32).toInt32) &&& (3 : Int32))), .val (.long ((2147483647 : Int64) + ((p3 % (3 : Int32)).toInt64))), .second, .val (.ref b64), .val (.int (0 : Int32)), .unset]) rfl) ?_
        show own_F p e below s Z _ _ _ _ _ (T70.setTop (mkF m 100 #[.val (.int p0), .val (.int p1), .val (.long q2), .second, .val (.int p3), .val (.int (1 : Int32)), .val (.int (((p0.toUInt32 >>> ((1 : Int32) &&& 31).toUInt32).toInt32) &&& (3 : Int32))), .val (.long ((2147483647 : Int64) + ((p3 % (3 : Int32)).toInt64))), .second, .val (.ref b64), .val (.int (0 : Int32)), .unset] []))
        refine own_F.of (fun _ => XS.iload S70.here S70.hx rfl (S70.dec at_100) rfl) ?_
        show own_F p e below s Z _ _ _ _ _ (T70.setTop (mkF m 102 #[.val (.int p0), .val (.int p1), .val (.long q2), .second, .val (.int p3), .val (.int (1 : Int32)), .val (.int (((p0.toUInt32 >>> ((1 : Int32) &&& 31).toUInt32).toInt32) &&& (3 : Int32))), .val (.long ((2147483647 : Int64) + ((p3 % (3 : Int32)).toInt64))), .second, .val (.ref b64), .val (.int (0 : Int32)), .unset] [(.int (1 : Int32))]))
        refine own_if S70 118 at_102 (by decide) (by decide) (fun (hc102_72 : ¬ ((1 : Int32) = (0 : Int32))) => ?_) (fun (hc102_72 : (1 : Int32) = (0 : Int32)) => False.elim (absurd hc102_72 (by decide)))
        show own_F p e below s Z _ _ _ _ _ (T70.setTop (mkF m 118 #[.val (.int p0), .val (.int p1), .val (.long q2), .second, .val (.int p3), .val (.int (1 : Int32)), .val (.int (((p0.toUInt32 >>> ((1 : Int32) &&& 31).toUInt32).toInt32) &&& (3 : Int32))), .val (.long ((2147483647 : Int64) + ((p3 % (3 : Int32)).toInt64))), .second, .val (.ref b64), .val (.int (0 : Int32)), .unset] []))
        refine own_F.of (fun _ => XS.iconst S70.here S70.hx rfl (S70.dec at_118)) ?_
        show own_F p e below s Z _ _ _ _ _ (T70.setTop (mkF m 119 #[.val (.int p0), .val (.int p1), .val (.long q2), .second, .val (.int p3), .val (.int (1 : Int32)), .val (.int (((p0.toUInt32 >>> ((1 : Int32) &&& 31).toUInt32).toInt32) &&& (3 : Int32))), .val (.long ((2147483647 : Int64) + ((p3 % (3 : Int32)).toInt64))), .second, .val (.ref b64), .val (.int (0 : Int32)), .unset] [(.int (0 : Int32))]))
        refine own_F.of (fun _ => XS.istore S70.here S70.hx rfl (S70.dec at_119) rfl (l' := #[.val (.int p0), .val (.int p1), .val (.long q2), .second, .val (.int p3), .val (.int (1 : Int32)), .val (.int (((p0.toUInt32 >>> ((1 : Int32) &&& 31).toUInt32).toInt32) &&& (3 : Int32))), .val (.long ((2147483647 : Int64) + ((p3 % (3 : Int32)).toInt64))), .second, .val (.ref b64), .val (.int (0 : Int32)), .val (.int (0 : Int32))]) rfl) ?_
        show own_F p e below s Z _ _ _ _ _ (T70.setTop (mkF m 121 #[.val (.int p0), .val (.int p1), .val (.long q2), .second, .val (.int p3), .val (.int (1 : Int32)), .val (.int (((p0.toUInt32 >>> ((1 : Int32) &&& 31).toUInt32).toInt32) &&& (3 : Int32))), .val (.long ((2147483647 : Int64) + ((p3 % (3 : Int32)).toInt64))), .second, .val (.ref b64), .val (.int (0 : Int32)), .val (.int (0 : Int32))] []))
        refine own_F.of (fun _ => XS.iload S70.here S70.hx rfl (S70.dec at_121) rfl) ?_
        show own_F p e below s Z _ _ _ _ _ (T70.setTop (mkF m 123 #[.val (.int p0), .val (.int p1), .val (.long q2), .second, .val (.int p3), .val (.int (1 : Int32)), .val (.int (((p0.toUInt32 >>> ((1 : Int32) &&& 31).toUInt32).toInt32) &&& (3 : Int32))), .val (.long ((2147483647 : Int64) + ((p3 % (3 : Int32)).toInt64))), .second, .val (.ref b64), .val (.int (0 : Int32)), .val (.int (0 : Int32))] [(.int (0 : Int32))]))
        refine own_F.of (fun _ => XS.iload S70.here S70.hx rfl (S70.dec at_123) rfl) ?_
        show own_F p e below s Z _ _ _ _ _ (T70.setTop (mkF m 125 #[.val (.int p0), .val (.int p1), .val (.long q2), .second, .val (.int p3), .val (.int (1 : Int32)), .val (.int (((p0.toUInt32 >>> ((1 : Int32) &&& 31).toUInt32).toInt32) &&& (3 : Int32))), .val (.long ((2147483647 : Int64) + ((p3 % (3 : Int32)).toInt64))), .second, .val (.ref b64), .val (.int (0 : Int32)), .val (.int (0 : Int32))] [(.int (0 : Int32)), (.int (0 : Int32))]))
        refine own_icmp S70 132 at_125 (by decide) (by decide) (fun (hc125_73 : ¬ ((0 : Int32) = (0 : Int32))) => False.elim (absurd hc125_73 (by decide))) (fun (hc125_73 : (0 : Int32) = (0 : Int32)) => ?_)
        show own_F p e below s Z _ _ _ _ _ (T70.setTop (mkF m 128 #[.val (.int p0), .val (.int p1), .val (.long q2), .second, .val (.int p3), .val (.int (1 : Int32)), .val (.int (((p0.toUInt32 >>> ((1 : Int32) &&& 31).toUInt32).toInt32) &&& (3 : Int32))), .val (.long ((2147483647 : Int64) + ((p3 % (3 : Int32)).toInt64))), .second, .val (.ref b64), .val (.int (0 : Int32)), .val (.int (0 : Int32))] []))
        refine own_F.of (fun _ => XS.iconst S70.here S70.hx rfl (S70.dec at_128)) ?_
        show own_F p e below s Z _ _ _ _ _ (T70.setTop (mkF m 129 #[.val (.int p0), .val (.int p1), .val (.long q2), .second, .val (.int p3), .val (.int (1 : Int32)), .val (.int (((p0.toUInt32 >>> ((1 : Int32) &&& 31).toUInt32).toInt32) &&& (3 : Int32))), .val (.long ((2147483647 : Int64) + ((p3 % (3 : Int32)).toInt64))), .second, .val (.ref b64), .val (.int (0 : Int32)), .val (.int (0 : Int32))] [(.int (1 : Int32))]))
        refine own_F.of (fun _ => XS.goto S70.here S70.hx rfl (pc0 := 129) (pc' := 133) rfl (S70.dec at_129) (by decide) (by decide)) ?_
        show own_F p e below s Z _ _ _ _ _ (T70.setTop (mkF m 133 #[.val (.int p0), .val (.int p1), .val (.long q2), .second, .val (.int p3), .val (.int (1 : Int32)), .val (.int (((p0.toUInt32 >>> ((1 : Int32) &&& 31).toUInt32).toInt32) &&& (3 : Int32))), .val (.long ((2147483647 : Int64) + ((p3 % (3 : Int32)).toInt64))), .second, .val (.ref b64), .val (.int (0 : Int32)), .val (.int (0 : Int32))] [(.int (1 : Int32))]))
        refine own_retZ S70 (by simp) at_133 (by decide) (by decide) ?_
        rfl
    · show own_F p e below s Z _ _ _ _ _ (T0.setTop (mkF m 25 #[.val (.int p0), .val (.int p1), .val (.long q2), .second, .val (.int p3), .val (.int (1 : Int32)), .val (.int (((p0.toUInt32 >>> ((1 : Int32) &&& 31).toUInt32).toInt32) &&& (3 : Int32))), .unset, .unset, .unset, .unset, .unset] []))
      refine own_F.of (fun _ => XS.lloadN S0.here S0.hx rfl (S0.dec at_25) rfl) ?_
      show own_F p e below s Z _ _ _ _ _ (T0.setTop (mkF m 26 #[.val (.int p0), .val (.int p1), .val (.long q2), .second, .val (.int p3), .val (.int (1 : Int32)), .val (.int (((p0.toUInt32 >>> ((1 : Int32) &&& 31).toUInt32).toInt32) &&& (3 : Int32))), .unset, .unset, .unset, .unset, .unset] [(.long q2)]))
      refine own_F.of (fun _ => XS.lstore S0.here S0.hx rfl (S0.dec at_26) rfl (l' := #[.val (.int p0), .val (.int p1), .val (.long q2), .second, .val (.int p3), .val (.int (1 : Int32)), .val (.int (((p0.toUInt32 >>> ((1 : Int32) &&& 31).toUInt32).toInt32) &&& (3 : Int32))), .val (.long q2), .second, .unset, .unset, .unset]) rfl) ?_
      show own_F p e below s Z _ _ _ _ _ (T0.setTop (mkF m 28 #[.val (.int p0), .val (.int p1), .val (.long q2), .second, .val (.int p3), .val (.int (1 : Int32)), .val (.int (((p0.toUInt32 >>> ((1 : Int32) &&& 31).toUInt32).toInt32) &&& (3 : Int32))), .val (.long q2), .second, .unset, .unset, .unset] []))
      refine own_F.of (fun _ => XS.goto S0.here S0.hx rfl (pc0 := 28) (pc' := 69) rfl (S0.dec at_28) (by decide) (by decide)) ?_
      show own_F p e below s Z _ _ _ _ _ (T0.setTop (mkF m 69 #[.val (.int p0), .val (.int p1), .val (.long q2), .second, .val (.int p3), .val (.int (1 : Int32)), .val (.int (((p0.toUInt32 >>> ((1 : Int32) &&& 31).toUInt32).toInt32) &&& (3 : Int32))), .val (.long q2), .second, .unset, .unset, .unset] []))
      refine own_new S0 (own_w hw 0 rfl) (own_w hw 1 rfl) (own_w hw 2 rfl) at_69 (by decide) (by decide) (fun T74 h74 b74 g74 S74 E74 A74 D74 => ?_)
      have F74_maxint : Fld Z h74 b74 "com/example/manysort/manysort/language/Naturals" "maxint" "Ljava/lang/Integer;" .null := (D74 (Or.inr (own_w hw 10 rfl)) (ty := (.object "java/lang/Integer")) (by decide))
      show own_F p e below s Z _ _ _ _ _ (T74.setTop (mkF m 72 #[.val (.int p0), .val (.int p1), .val (.long q2), .second, .val (.int p3), .val (.int (1 : Int32)), .val (.int (((p0.toUInt32 >>> ((1 : Int32) &&& 31).toUInt32).toInt32) &&& (3 : Int32))), .val (.long q2), .second, .unset, .unset, .unset] [(.ref b74)]))
      refine own_F.of (fun _ => XS.dup S74.here S74.hx rfl (S74.dec at_72) rfl rfl) ?_
      show own_F p e below s Z _ _ _ _ _ (T74.setTop (mkF m 73 #[.val (.int p0), .val (.int p1), .val (.long q2), .second, .val (.int p3), .val (.int (1 : Int32)), .val (.int (((p0.toUInt32 >>> ((1 : Int32) &&& 31).toUInt32).toInt32) &&& (3 : Int32))), .val (.long q2), .second, .unset, .unset, .unset] [(.ref b74), (.ref b74)]))
      refine own_F.of (fun _ => XS.iload S74.here S74.hx rfl (S74.dec at_73) rfl) ?_
      show own_F p e below s Z _ _ _ _ _ (T74.setTop (mkF m 75 #[.val (.int p0), .val (.int p1), .val (.long q2), .second, .val (.int p3), .val (.int (1 : Int32)), .val (.int (((p0.toUInt32 >>> ((1 : Int32) &&& 31).toUInt32).toInt32) &&& (3 : Int32))), .val (.long q2), .second, .unset, .unset, .unset] [(.int (1 : Int32)), (.ref b74), (.ref b74)]))
      refine own_if S74 85 at_75 (by decide) (by decide) (fun (hc75_75 : (1 : Int32) = (0 : Int32)) => False.elim (absurd hc75_75 (by decide))) (fun (hc75_75 : ¬ ((1 : Int32) = (0 : Int32))) => ?_)
      show own_F p e below s Z _ _ _ _ _ (T74.setTop (mkF m 78 #[.val (.int p0), .val (.int p1), .val (.long q2), .second, .val (.int p3), .val (.int (1 : Int32)), .val (.int (((p0.toUInt32 >>> ((1 : Int32) &&& 31).toUInt32).toInt32) &&& (3 : Int32))), .val (.long q2), .second, .unset, .unset, .unset] [(.ref b74), (.ref b74)]))
      refine own_F.of (fun _ => XS.iloadN S74.here S74.hx rfl (S74.dec at_78) rfl) ?_
      show own_F p e below s Z _ _ _ _ _ (T74.setTop (mkF m 79 #[.val (.int p0), .val (.int p1), .val (.long q2), .second, .val (.int p3), .val (.int (1 : Int32)), .val (.int (((p0.toUInt32 >>> ((1 : Int32) &&& 31).toUInt32).toInt32) &&& (3 : Int32))), .val (.long q2), .second, .unset, .unset, .unset] [(.int p1), (.ref b74), (.ref b74)]))
      refine own_callS S74 (y := (⟨"java/lang/Integer", "valueOf", "(I)Ljava/lang/Integer;"⟩ : MethodName)) (own_w hw 18 rfl) (own_w hw 19 rfl) (own_w hw 20 rfl) (own_w hw 21 rfl) (by decide) (argsL := [(.int p1)]) (rest := [(.ref b74), (.ref b74)]) (own_vOfI l Z a0 hw p1 aC clC h74 S74.old SHi SCa BX) all0 (by decide +kernel : parseMethodDescriptor "(I)Ljava/lang/Integer;" = some ⟨[.int], some (.object "java/lang/Integer")⟩) rfl rfl rfl at_79 (by decide) (Nat.le_of_ble_eq_true rfl) (by decide) (by decide) (fun T76 h76 v76 S76 K76 q76 => ?_)
      obtain ⟨b76, rfl, X76, F76⟩ := q76
      show own_F p e below s Z _ _ _ _ _ (T76.setTop (mkF m 82 #[.val (.int p0), .val (.int p1), .val (.long q2), .second, .val (.int p3), .val (.int (1 : Int32)), .val (.int (((p0.toUInt32 >>> ((1 : Int32) &&& 31).toUInt32).toInt32) &&& (3 : Int32))), .val (.long q2), .second, .unset, .unset, .unset] [(.ref b76), (.ref b74), (.ref b74)]))
      refine own_F.of (fun _ => XS.goto S76.here S76.hx rfl (pc0 := 82) (pc' := 86) rfl (S76.dec at_82) (by decide) (by decide)) ?_
      show own_F p e below s Z _ _ _ _ _ (T76.setTop (mkF m 86 #[.val (.int p0), .val (.int p1), .val (.long q2), .second, .val (.int p3), .val (.int (1 : Int32)), .val (.int (((p0.toUInt32 >>> ((1 : Int32) &&& 31).toUInt32).toInt32) &&& (3 : Int32))), .val (.long q2), .second, .unset, .unset, .unset] [(.ref b76), (.ref b74), (.ref b74)]))
      have f77 := (A74.keep K76)
      have f78 := (F74_maxint.keep K76 nin0)
      refine own_callI S76 (y := (⟨"com/example/manysort/manysort/language/Naturals", "<init>", "(Ljava/lang/Integer;)V"⟩ : MethodName)) rfl (own_w hw 3 rfl) (own_w hw 4 rfl) (own_w hw 2 rfl) (own_w hw 5 rfl) (by decide) (argsL := [(.ref b76)]) (rest := [(.ref b74)]) (own_NatInit l Z a0 hw b74 (.ref b76) h76 S76.old rfl (own_mayN S76 (Or.inr (by rw [g74]; exact S0.size))) f77 f78) (allS (Or.inr (by rw [g74]; exact S0.size)) all0) (by decide +kernel : parseMethodDescriptor "(Ljava/lang/Integer;)V" = some ⟨[(.object "java/lang/Integer")], none⟩) rfl rfl rfl at_86 (by decide) (Nat.le_of_ble_eq_true rfl) (by decide) (by decide) (fun T79 h79 v79 S79 K79 q79 => ?_)
      obtain ⟨rfl, F79⟩ := q79
      show own_F p e below s Z _ _ _ _ _ (T79.setTop (mkF m 89 #[.val (.int p0), .val (.int p1), .val (.long q2), .second, .val (.int p3), .val (.int (1 : Int32)), .val (.int (((p0.toUInt32 >>> ((1 : Int32) &&& 31).toUInt32).toInt32) &&& (3 : Int32))), .val (.long q2), .second, .unset, .unset, .unset] [(.ref b74)]))
      refine own_F.of (fun _ => XS.astore S79.here S79.hx rfl (S79.dec at_89) rfl rfl (l' := #[.val (.int p0), .val (.int p1), .val (.long q2), .second, .val (.int p3), .val (.int (1 : Int32)), .val (.int (((p0.toUInt32 >>> ((1 : Int32) &&& 31).toUInt32).toInt32) &&& (3 : Int32))), .val (.long q2), .second, .val (.ref b74), .unset, .unset]) rfl) ?_
      show own_F p e below s Z _ _ _ _ _ (T79.setTop (mkF m 91 #[.val (.int p0), .val (.int p1), .val (.long q2), .second, .val (.int p3), .val (.int (1 : Int32)), .val (.int (((p0.toUInt32 >>> ((1 : Int32) &&& 31).toUInt32).toInt32) &&& (3 : Int32))), .val (.long q2), .second, .val (.ref b74), .unset, .unset] []))
      refine own_F.of (fun _ => XS.aload S79.here S79.hx rfl (S79.dec at_91) rfl rfl) ?_
      show own_F p e below s Z _ _ _ _ _ (T79.setTop (mkF m 93 #[.val (.int p0), .val (.int p1), .val (.long q2), .second, .val (.int p3), .val (.int (1 : Int32)), .val (.int (((p0.toUInt32 >>> ((1 : Int32) &&& 31).toUInt32).toInt32) &&& (3 : Int32))), .val (.long q2), .second, .val (.ref b74), .unset, .unset] [(.ref b74)]))
      refine own_F.of (fun _ => XS.lload S79.here S79.hx rfl (S79.dec at_93) rfl) ?_
      show own_F p e below s Z _ _ _ _ _ (T79.setTop (mkF m 95 #[.val (.int p0), .val (.int p1), .val (.long q2), .second, .val (.int p3), .val (.int (1 : Int32)), .val (.int (((p0.toUInt32 >>> ((1 : Int32) &&& 31).toUInt32).toInt32) &&& (3 : Int32))), .val (.long q2), .second, .val (.ref b74), .unset, .unset] [(.long q2), (.ref b74)]))
      have f81 := (f77.keep K79)
      refine own_callV S79 (y := (⟨"com/example/manysort/manysort/language/Naturals", "leaveUnbounded", "(J)Z"⟩ : MethodName)) (y' := (⟨"com/example/manysort/manysort/language/Naturals", "leaveUnbounded", "(J)Z"⟩ : MethodName)) (own_w hw 11 rfl) (own_w hw 12 rfl) (own_nf S79 (own_w hw 14 rfl)) (own_w hw 14 rfl) (own_w hw 13 rfl) (own_w hw 15 rfl) (own_w hw 2 rfl) (by decide) f81 (argsL := [(.long q2)]) (rest := []) (own_leaveR l Z a0 hw b74 b76 q2 h79 S79.old F79) all0 (by decide +kernel : parseMethodDescriptor "(J)Z" = some ⟨[.long], some .boolean⟩) rfl rfl rfl at_95 (by decide) (Nat.le_of_ble_eq_true rfl) (by decide) (by decide) (fun T80 h80 v80 S80 K80 q80 => ?_)
      obtain ⟨rfl, rfl⟩ := q80
      show own_F p e below s Z _ _ _ _ _ (T80.setTop (mkF m 98 #[.val (.int p0), .val (.int p1), .val (.long q2), .second, .val (.int p3), .val (.int (1 : Int32)), .val (.int (((p0.toUInt32 >>> ((1 : Int32) &&& 31).toUInt32).toInt32) &&& (3 : Int32))), .val (.long q2), .second, .val (.ref b74), .unset, .unset] [(.int (0 : Int32))]))
      refine own_F.of (fun _ => XS.istore S80.here S80.hx rfl (S80.dec at_98) rfl (l' := #[.val (.int p0), .val (.int p1), .val (.long q2), .second, .val (.int p3), .val (.int (1 : Int32)), .val (.int (((p0.toUInt32 >>> ((1 : Int32) &&& 31).toUInt32).toInt32) &&& (3 : Int32))), .val (.long q2), .second, .val (.ref b74), .val (.int (0 : Int32)), .unset]) rfl) ?_
      show own_F p e below s Z _ _ _ _ _ (T80.setTop (mkF m 100 #[.val (.int p0), .val (.int p1), .val (.long q2), .second, .val (.int p3), .val (.int (1 : Int32)), .val (.int (((p0.toUInt32 >>> ((1 : Int32) &&& 31).toUInt32).toInt32) &&& (3 : Int32))), .val (.long q2), .second, .val (.ref b74), .val (.int (0 : Int32)), .unset] []))
      refine own_F.of (fun _ => XS.iload S80.here S80.hx rfl (S80.dec at_100) rfl) ?_
      show own_F p e below s Z _ _ _ _ _ (T80.setTop (mkF m 102 #[.val (.int p0), .val (.int p1), .val (.long q2), .second, .val (.int p3), .val (.int (1 : Int32)), .val (.int (((p0.toUInt32 >>> ((1 : Int32) &&& 31).toUInt32).toInt32) &&& (3 : Int32))), .val (.long q2), .second, .val (.ref b74), .val (.int (0 : Int32)), .unset] [(.int (1 : Int32))]))
      refine own_if S80 118 at_102 (by decide) (by decide) (fun (hc102_82 : ¬ ((1 : Int32) = (0 : Int32))) => ?_) (fun (hc102_82 : (1 : Int32) = (0 : Int32)) => False.elim (absurd hc102_82 (by decide)))
      show own_F p e below s Z _ _ _ _ _ (T80.setTop (mkF m 118 #[.val (.int p0), .val (.int p1), .val (.long q2), .second, .val (.int p3), .val (.int (1 : Int32)), .val (.int (((p0.toUInt32 >>> ((1 : Int32) &&& 31).toUInt32).toInt32) &&& (3 : Int32))), .val (.long q2), .second, .val (.ref b74), .val (.int (0 : Int32)), .unset] []))
      refine own_F.of (fun _ => XS.iconst S80.here S80.hx rfl (S80.dec at_118)) ?_
      show own_F p e below s Z _ _ _ _ _ (T80.setTop (mkF m 119 #[.val (.int p0), .val (.int p1), .val (.long q2), .second, .val (.int p3), .val (.int (1 : Int32)), .val (.int (((p0.toUInt32 >>> ((1 : Int32) &&& 31).toUInt32).toInt32) &&& (3 : Int32))), .val (.long q2), .second, .val (.ref b74), .val (.int (0 : Int32)), .unset] [(.int (0 : Int32))]))
      refine own_F.of (fun _ => XS.istore S80.here S80.hx rfl (S80.dec at_119) rfl (l' := #[.val (.int p0), .val (.int p1), .val (.long q2), .second, .val (.int p3), .val (.int (1 : Int32)), .val (.int (((p0.toUInt32 >>> ((1 : Int32) &&& 31).toUInt32).toInt32) &&& (3 : Int32))), .val (.long q2), .second, .val (.ref b74), .val (.int (0 : Int32)), .val (.int (0 : Int32))]) rfl) ?_
      show own_F p e below s Z _ _ _ _ _ (T80.setTop (mkF m 121 #[.val (.int p0), .val (.int p1), .val (.long q2), .second, .val (.int p3), .val (.int (1 : Int32)), .val (.int (((p0.toUInt32 >>> ((1 : Int32) &&& 31).toUInt32).toInt32) &&& (3 : Int32))), .val (.long q2), .second, .val (.ref b74), .val (.int (0 : Int32)), .val (.int (0 : Int32))] []))
      refine own_F.of (fun _ => XS.iload S80.here S80.hx rfl (S80.dec at_121) rfl) ?_
      show own_F p e below s Z _ _ _ _ _ (T80.setTop (mkF m 123 #[.val (.int p0), .val (.int p1), .val (.long q2), .second, .val (.int p3), .val (.int (1 : Int32)), .val (.int (((p0.toUInt32 >>> ((1 : Int32) &&& 31).toUInt32).toInt32) &&& (3 : Int32))), .val (.long q2), .second, .val (.ref b74), .val (.int (0 : Int32)), .val (.int (0 : Int32))] [(.int (0 : Int32))]))
      refine own_F.of (fun _ => XS.iload S80.here S80.hx rfl (S80.dec at_123) rfl) ?_
      show own_F p e below s Z _ _ _ _ _ (T80.setTop (mkF m 125 #[.val (.int p0), .val (.int p1), .val (.long q2), .second, .val (.int p3), .val (.int (1 : Int32)), .val (.int (((p0.toUInt32 >>> ((1 : Int32) &&& 31).toUInt32).toInt32) &&& (3 : Int32))), .val (.long q2), .second, .val (.ref b74), .val (.int (0 : Int32)), .val (.int (0 : Int32))] [(.int (0 : Int32)), (.int (0 : Int32))]))
      refine own_icmp S80 132 at_125 (by decide) (by decide) (fun (hc125_83 : ¬ ((0 : Int32) = (0 : Int32))) => False.elim (absurd hc125_83 (by decide))) (fun (hc125_83 : (0 : Int32) = (0 : Int32)) => ?_)
      show own_F p e below s Z _ _ _ _ _ (T80.setTop (mkF m 128 #[.val (.int p0), .val (.int p1), .val (.long q2), .second, .val (.int p3), .val (.int (1 : Int32)), .val (.int (((p0.toUInt32 >>> ((1 : Int32) &&& 31).toUInt32).toInt32) &&& (3 : Int32))), .val (.long q2), .second, .val (.ref b74), .val (.int (0 : Int32)), .val (.int (0 : Int32))] []))
      refine own_F.of (fun _ => XS.iconst S80.here S80.hx rfl (S80.dec at_128)) ?_
      show own_F p e below s Z _ _ _ _ _ (T80.setTop (mkF m 129 #[.val (.int p0), .val (.int p1), .val (.long q2), .second, .val (.int p3), .val (.int (1 : Int32)), .val (.int (((p0.toUInt32 >>> ((1 : Int32) &&& 31).toUInt32).toInt32) &&& (3 : Int32))), .val (.long q2), .second, .val (.ref b74), .val (.int (0 : Int32)), .val (.int (0 : Int32))] [(.int (1 : Int32))]))
      refine own_F.of (fun _ => XS.goto S80.here S80.hx rfl (pc0 := 129) (pc' := 133) rfl (S80.dec at_129) (by decide) (by decide)) ?_
      show own_F p e below s Z _ _ _ _ _ (T80.setTop (mkF m 133 #[.val (.int p0), .val (.int p1), .val (.long q2), .second, .val (.int p3), .val (.int (1 : Int32)), .val (.int (((p0.toUInt32 >>> ((1 : Int32) &&& 31).toUInt32).toInt32) &&& (3 : Int32))), .val (.long q2), .second, .val (.ref b74), .val (.int (0 : Int32)), .val (.int (0 : Int32))] [(.int (1 : Int32))]))
      refine own_retZ S80 (by simp) at_133 (by decide) (by decide) ?_
      rfl
set_option maxRecDepth 65536 in
set_option maxHeartbeats 40000000 in
theorem comes_1 {Post : Tables → Env → Array Value → State → Outcome → State → Prop} (hpost : ∀ tb e args s v u, (limb_1_1.after args s (.returned v) u = true ∧ limb_1_2.after args s (.returned v) u = true ∧ True) → FrameEnd s (.returned v) u (Jvm.fieldLocs frame_1_writes args s ++ Jvm.arrayLocs frame_1_arrays args s ++ Jvm.staticLocs frame_1_statics s) 16 128 → Post tb e args s (.returned v) u) :
    ArmFor flags0 classFile x code maxLocals ret World_1 tables_1 room_1 Calls_1 rest_1 Pre_1 Post := by
  intro l hfl _ _ p e ha hc hk s m args below hf hA hF happ hP
  obtain ⟨hcalls, hrest, hpre⟩ := hP
  obtain ⟨-, -, -, hnamed, -, -, -, hat⟩ := (Spec.applies_iff hf).mp happ
  obtain ⟨hg, hn⟩ := and_e (Cond.before_iff.mp (show (Jvm.Cond.and given_1 narrow_1).before args s = true from hpre))
  obtain ⟨g1, g2⟩ := and_e hg
  obtain ⟨g3, g4⟩ := and_e g2
  obtain ⟨g5, g6⟩ := and_e g4
  obtain ⟨g7, g8⟩ := and_e g6
  obtain ⟨w0, w1, w2, w3, rfl⟩ : ∃ w0 w1 w2 w3 : Value, args = #[w0, w1, w2, w3] := by
    have hs : args.size = 4 := by simpa [Cond.value, given_1] using g1
    obtain ⟨L⟩ := args
    match L, hs with
    | [w0, w1, w2, w3], _ => exact ⟨w0, w1, w2, w3, rfl⟩
  have hw := fun d (hd : d ∈ tables_1) => atoms_spec (ws := Jvm.Cond.code x code maxLocals ret :: tables_1) hat d (List.mem_cons_of_mem _ hd)
  have hfit : Fit s := fun {y c} hc i hi => by
    obtain ⟨ha, rfl⟩ := Array.getElem?_eq_some_iff.mp hc
    have q := List.all_eq_true.mp ((Array.all_eq_true_iff_forall_mem.mp hF) _ (Array.getElem_mem ha)) i (List.mem_range.mpr hi)
    simpa [Array.getElem?_eq_getElem hi] using q
  obtain ⟨hsets, hown0⟩ := atoms_of _ (rest_1_c_eq ▸ (show rest_1_c.before _ s = true from hrest))
  have hr0 := Cond.before_iff.mp hown0
  obtain ⟨i0, ei0⟩ := is_v g3
  obtain rfl : w0 = (.int i0) := Option.some.inj ei0
  obtain ⟨i1, ei1⟩ := is_v g5
  obtain rfl : w1 = (.int i1) := Option.some.inj ei1
  obtain ⟨i2, ei2⟩ := isL_v g7
  obtain rfl : w2 = (.long i2) := Option.some.inj ei2
  obtain ⟨i3, ei3⟩ := is_v g8
  obtain rfl : w3 = (.int i3) := Option.some.inj ei3
  have SHi := own_staI (Cond.before_iff.mp (hsets _ (List.mem_of_getElem? (i := 3) rfl))) (Or.inl (hsets _ (List.mem_of_getElem? (i := 1) rfl)))
  have yAI := Cond.before_iff.mp (hsets _ (List.mem_of_getElem? (i := 4) rfl))
  have yLI := Cond.before_iff.mp (hsets _ (List.mem_of_getElem? (i := 6) rfl))
  have yEI := Cond.before_iff.mp (hsets _ (List.mem_of_getElem? (i := 7) rfl))
  obtain ⟨aCI, evCI⟩ := arr_v yAI
  have SCaI := Sta.start evCI (Or.inr ⟨(own_w hw 23 rfl), (hsets _ (List.mem_of_getElem? (i := 2) rfl))⟩)
  obtain ⟨clCI, ArCI, lC1I, lC2I, -⟩ := own_A.start evCI yAI yLI
  have BXI : Bxs s aCI clCI "java/lang/Integer" "I" 256 (fun j => .int (j - 128)) := Bxs.start (fun _ => evCI) ArCI lC1I lC2I (by decide) yEI (fun X j hj hq => eqv_i (own_sub_at (i := 0) hj) hq)
  obtain ⟨n, o, h1, h2, h3, _, L, rfl, ⟨N, K, rfl⟩, hq⟩ := own_law l s _ hw i0 i1 i2 i3 aCI clCI s.heap (own_extRefl _) SHi SCaI BXI p e ha hc hk s m _ below hf ((Spec.applies_iff_loose hf).mp happ).1 ⟨rfl, State.Warmed39.refl s, rfl⟩ trivial
  refine ⟨n, _, h1, h2, h3, hpost _ _ _ _ _ _ ⟨Cond.after_iff.mpr rfl, Cond.after_iff.mpr (eq_i res_at (Term.int_eval (1)) rfl), trivial⟩ ⟨hq.1, hq.2.1, (hq.2.2.sift fun y hy => Or.inr (N y hy)).mono (by decide) (by decide)⟩⟩
theorem main_1_1 : Claimed_1_1 := comes_1 fun _ _ _ _ _ _ h hF => ⟨h.1, hF⟩
theorem main_1_2 : Claimed_1_2 := comes_1 fun _ _ _ _ _ _ h hF => ⟨h.2.1, hF⟩
end Jvm.Pilot.@@N@@
namespace Jvm.Pilot.@@N@@
open Jvm Jvm.ClassFile Sem Op Lib Jvm.Free Jvm.Stand Jvm.Pilot.@@N@@.Jvm.D
/-! MADE BY PROGRAM (witnessworld.py) out of the Statement's table words and the real class files: 16 classes; the members and pool entries that the words name. The judged class is class 1, her method 1. -/
namespace start1
open Jvm.ClassFile
def u (s : String) : CpInfo := .utf8 (stringToUtf16 s)
/-- a pool by its gaps: so many unusable entries, then the entry; so many at the end -/
def gap : Nat → List CpInfo → List CpInfo
  | 0, r => r
  | n + 1, r => .unusable :: gap n r
def poolList (es : List (Nat × CpInfo)) (last : Nat) : List CpInfo := es.foldr (fun e r => gap e.1 (e.2 :: r)) (gap last [])
def pool (es : List (Nat × CpInfo)) (last : Nat) : Array CpInfo := ⟨poolList es last⟩
def fileOf (pool : Array CpInfo) (this : Nat) (attrs : Array Attribute := #[]) (ms : Array MethodInfo := #[]) (fl : Nat := 33) (sup : Nat := 0) (ifs : Array Nat := #[]) (fds : Array FieldInfo := #[]) : ClassFile where
  minorVersion := 0
  majorVersion := 65
  constantPool := pool
  accessFlags := fl
  thisClass := this
  superClass := sup
  interfaces := ifs
  fields := fds
  methods := ms
  attributes := attrs
def plain (name : String) (sup : Option ClassId) : Class where
  name := name
  kind := .ordinary
  loader := none
  accessFlags := 33
  super := sup
  interfaces := #[]
  cf := none
  fields := #[]
  methods := #[]
  instanceTypes := #[]
  staticTypes := #[]
  resolved := #[]
  callSites := []
  init := .initialized
  statics := none
  mirror := none

def pool0 : Array CpInfo := pool [(5, u "<init>"), (0, u "()V"), (1, .class_ 10), (1, u "java/lang/Object")] 113

def k0c0 : Code := { maxStack := 0, maxLocals := 1, code := object_method_1_code, exceptionTable := #[], attributes := #[] }
def k0m0 : Method := { name := "<init>", desc := "()V", sig := { parameters := [], returnType := none }, accessFlags := 1, code := some k0c0 }
/-- java/lang/Object -/
def k0 : Class := { plain "java/lang/Object" none with
  accessFlags := 33
  interfaces := #[]
  cf := some (fileOf pool0 8 #[] #[{ accessFlags := 1, nameIndex := 5, descriptorIndex := 6, attributes := #[] }] 33 0 #[] #[])
  fields := #[]
  methods := #[k0m0]
  instanceTypes := #[]
  staticTypes := #[]
  resolved := Array.replicate 124 none
  statics := none }

def pool1 : Array CpInfo := pool [(2, .class_ 4), (1, u "java/lang/Object"), (0, u "<init>"), (0, u "()V"), (0, .long 2147483647), (1, .class_ 10), (0, u "com/example/manysort/manysort/language/Naturals"), (0, .methodref 12 13), (0, .class_ 14), (0, .nameAndType 15 16), (0, u "java/lang/Integer"), (0, u "valueOf"), (0, u "(I)Ljava/lang/Integer;"), (0, .methodref 9 18), (0, .nameAndType 5 19), (0, u "(Ljava/lang/Integer;)V"), (0, .methodref 9 21), (0, .nameAndType 22 23), (0, u "leaveUnbounded"), (0, u "(J)Z"), (0, .class_ 25), (0, u "com/example/manysort/manysort/language/NaturalsLeaveUnboundedPinLaw"), (2, u "law"), (0, u "(IIJI)Z")] 3

def k1m0 : Method := { name := "<init>", desc := "()V", sig := { parameters := [], returnType := none }, accessFlags := 1, code := none }
def k1c1 : Code := { maxStack := 4, maxLocals := 12, code := code, exceptionTable := #[], attributes := #[] }
def k1m1 : Method := { name := "law", desc := "(IIJI)Z", sig := { parameters := [.int, .int, .long, .int], returnType := some .boolean }, accessFlags := 9, code := some k1c1 }
/-- com/example/manysort/manysort/language/NaturalsLeaveUnboundedPinLaw -/
def k1 : Class := { plain "com/example/manysort/manysort/language/NaturalsLeaveUnboundedPinLaw" (some 0) with
  accessFlags := 49
  interfaces := #[]
  cf := some (fileOf pool1 24 #[] #[{ accessFlags := 1, nameIndex := 5, descriptorIndex := 6, attributes := #[] }, { accessFlags := 9, nameIndex := 28, descriptorIndex := 29, attributes := #[] }] 49 2 #[] #[])
  fields := #[]
  methods := #[k1m0, k1m1]
  instanceTypes := #[]
  staticTypes := #[]
  resolved := Array.replicate 33 none
  statics := none }

def pool2 : Array CpInfo := pool [(3, .methodref 4 5), (0, .class_ 6), (0, .nameAndType 7 8), (0, u "java/lang/Object"), (0, u "<init>"), (0, u "()V"), (0, .fieldref 10 11), (0, .class_ 12), (0, .nameAndType 13 14), (0, u "com/example/manysort/manysort/language/Naturals"), (0, u "maxint"), (0, u "Ljava/lang/Integer;"), (14, .long 2147483647), (1, u "LARGEST_NUMBER"), (0, u "I"), (1, u "(Ljava/lang/Integer;)V"), (7, u "leaveUnbounded"), (0, u "(J)Z")] 2

def k2c0 : Code := { maxStack := 2, maxLocals := 2, code := prog_64_method_1_code, exceptionTable := #[], attributes := #[] }
def k2m0 : Method := { name := "<init>", desc := "(Ljava/lang/Integer;)V", sig := { parameters := [(.object "java/lang/Integer")], returnType := none }, accessFlags := 0, code := some k2c0 }
def k2c1 : Code := { maxStack := 4, maxLocals := 3, code := prog_64_method_5_code, exceptionTable := #[], attributes := #[] }
def k2m1 : Method := { name := "leaveUnbounded", desc := "(J)Z", sig := { parameters := [.long], returnType := some .boolean }, accessFlags := 0, code := some k2c1 }
/-- com/example/manysort/manysort/language/Naturals -/
def k2 : Class := { plain "com/example/manysort/manysort/language/Naturals" (some 0) with
  accessFlags := 48
  interfaces := #[]
  cf := some (fileOf pool2 10 #[] #[{ accessFlags := 0, nameIndex := 7, descriptorIndex := 34, attributes := #[] }, { accessFlags := 0, nameIndex := 42, descriptorIndex := 43, attributes := #[] }] 48 4 #[] #[{ accessFlags := 26, nameIndex := 31, descriptorIndex := 32, attributes := #[] }, { accessFlags := 18, nameIndex := 13, descriptorIndex := 14, attributes := #[] }])
  fields := #[{ name := "LARGEST_NUMBER", type := .int, accessFlags := 26, slot := 0, constantValue := 0 }, { name := "maxint", type := (.object "java/lang/Integer"), accessFlags := 18, slot := 0, constantValue := 0 }]
  methods := #[k2m0, k2m1]
  instanceTypes := #[(.object "java/lang/Integer")]
  staticTypes := #[.int]
  resolved := Array.replicate 46 none
  statics := none }

def pool3 : Array CpInfo := pool [(1, .class_ 2), (0, u "java/io/Serializable"), (0, .class_ 4), (0, u "java/lang/Object")] 2

/-- java/io/Serializable -/
def k3 : Class := { plain "java/io/Serializable" (some 0) with
  accessFlags := 1537
  interfaces := #[]
  cf := some (fileOf pool3 1 #[] #[] 1537 3 #[] #[])
  fields := #[]
  methods := #[]
  instanceTypes := #[]
  staticTypes := #[]
  resolved := Array.replicate 7 none
  statics := none }

def pool4 : Array CpInfo := pool [(1, .methodref 2 3), (0, .class_ 4), (0, .nameAndType 5 6), (0, u "java/lang/Object"), (0, u "<init>"), (0, u "()V"), (1, .class_ 10), (1, u "java/lang/Number"), (2, .class_ 14), (0, u "java/io/Serializable"), (0, u "serialVersionUID"), (0, u "J")] 20

def k4c0 : Code := { maxStack := 1, maxLocals := 1, code := jdk_18_method_1_code, exceptionTable := #[], attributes := #[] }
def k4m0 : Method := { name := "<init>", desc := "()V", sig := { parameters := [], returnType := none }, accessFlags := 1, code := some k4c0 }
/-- java/lang/Number -/
def k4 : Class := { plain "java/lang/Number" (some 0) with
  accessFlags := 1057
  interfaces := #[3]
  cf := some (fileOf pool4 8 #[] #[{ accessFlags := 1, nameIndex := 5, descriptorIndex := 6, attributes := #[] }] 1057 2 #[13] #[{ accessFlags := 26, nameIndex := 15, descriptorIndex := 16, attributes := #[] }])
  fields := #[{ name := "serialVersionUID", type := .long, accessFlags := 26, slot := 0, constantValue := 0 }]
  methods := #[k4m0]
  instanceTypes := #[]
  staticTypes := #[.long]
  resolved := Array.replicate 37 none
  statics := none }

def pool5 : Array CpInfo := pool [(1, .class_ 2), (0, u "java/lang/Comparable"), (0, .class_ 4), (0, u "java/lang/Object")] 7

/-- java/lang/Comparable -/
def k5 : Class := { plain "java/lang/Comparable" (some 0) with
  accessFlags := 1537
  interfaces := #[]
  cf := some (fileOf pool5 1 #[] #[] 1537 3 #[] #[])
  fields := #[]
  methods := #[]
  instanceTypes := #[]
  staticTypes := #[]
  resolved := Array.replicate 12 none
  statics := none }

def pool6 : Array CpInfo := pool [(1, .class_ 2), (0, u "java/lang/constant/Constable"), (0, .class_ 4), (0, u "java/lang/Object")] 6

/-- java/lang/constant/Constable -/
def k6 : Class := { plain "java/lang/constant/Constable" (some 0) with
  accessFlags := 1537
  interfaces := #[]
  cf := some (fileOf pool6 1 #[] #[] 1537 3 #[] #[])
  fields := #[]
  methods := #[]
  instanceTypes := #[]
  staticTypes := #[]
  resolved := Array.replicate 11 none
  statics := none }

def pool7 : Array CpInfo := pool [(1, .class_ 2), (0, u "java/lang/constant/ConstantDesc"), (0, .class_ 4), (0, u "java/lang/Object")] 32

/-- java/lang/constant/ConstantDesc -/
def k7 : Class := { plain "java/lang/constant/ConstantDesc" (some 0) with
  accessFlags := 1537
  interfaces := #[]
  cf := some (fileOf pool7 1 #[] #[] 1537 3 #[] #[])
  fields := #[]
  methods := #[]
  instanceTypes := #[]
  staticTypes := #[]
  resolved := Array.replicate 37 none
  statics := none }

def pool8 : Array CpInfo := pool [(1, .class_ 2), (0, u "java/lang/Integer"), (16, u "digits"), (0, u "[C"), (46, u "<init>"), (17, u "DigitOnes"), (0, u "[B"), (2, u "DigitTens"), (10, .nameAndType 67 101), (0, u "()V"), (85, u "valueOf"), (0, u "(I)Ljava/lang/Integer;"), (0, .class_ 190), (0, u "java/lang/Integer$IntegerCache"), (0, .fieldref 189 192), (0, .nameAndType 193 194), (0, u "high"), (0, u "I"), (0, .fieldref 189 196), (0, .nameAndType 197 198), (0, u "cache"), (0, u "[Ljava/lang/Integer;"), (0, .methodref 1 200), (0, .nameAndType 67 201), (0, u "(I)V"), (0, .methodref 203 100), (0, .class_ 204), (0, u "java/lang/Number"), (0, .fieldref 1 206), (0, .nameAndType 207 194), (0, u "value"), (94, u "TYPE"), (0, u "Ljava/lang/Class;"), (0, .class_ 305), (0, u "java/lang/Comparable"), (0, .class_ 307), (0, u "java/lang/constant/Constable"), (0, .class_ 309), (0, u "java/lang/constant/ConstantDesc"), (0, u "MIN_VALUE"), (1, u "MAX_VALUE"), (3, u "SIZE"), (1, u "BYTES"), (1, u "serialVersionUID"), (0, u "J")] 131

def k8c0 : Code := { maxStack := 3, maxLocals := 1, code := jdk_33_method_22_code, exceptionTable := #[], attributes := #[] }
def k8m0 : Method := { name := "valueOf", desc := "(I)Ljava/lang/Integer;", sig := { parameters := [.int], returnType := some (.object "java/lang/Integer") }, accessFlags := 9, code := some k8c0 }
def k8c1 : Code := { maxStack := 2, maxLocals := 2, code := jdk_33_method_23_code, exceptionTable := #[], attributes := #[] }
def k8m1 : Method := { name := "<init>", desc := "(I)V", sig := { parameters := [.int], returnType := none }, accessFlags := 1, code := some k8c1 }
/-- java/lang/Integer -/
def k8 : Class := { plain "java/lang/Integer" (some 4) with
  accessFlags := 49
  interfaces := #[5, 6, 7]
  cf := some (fileOf pool8 1 #[.nestMembers #[189]] #[{ accessFlags := 9, nameIndex := 187, descriptorIndex := 188, attributes := #[] }, { accessFlags := 1, nameIndex := 67, descriptorIndex := 201, attributes := #[] }] 49 203 #[304, 306, 308] #[{ accessFlags := 25, nameIndex := 310, descriptorIndex := 194, attributes := #[] }, { accessFlags := 25, nameIndex := 312, descriptorIndex := 194, attributes := #[] }, { accessFlags := 25, nameIndex := 302, descriptorIndex := 303, attributes := #[] }, { accessFlags := 24, nameIndex := 19, descriptorIndex := 20, attributes := #[] }, { accessFlags := 24, nameIndex := 89, descriptorIndex := 86, attributes := #[] }, { accessFlags := 24, nameIndex := 85, descriptorIndex := 86, attributes := #[] }, { accessFlags := 18, nameIndex := 207, descriptorIndex := 194, attributes := #[] }, { accessFlags := 25, nameIndex := 316, descriptorIndex := 194, attributes := #[] }, { accessFlags := 25, nameIndex := 318, descriptorIndex := 194, attributes := #[] }, { accessFlags := 26, nameIndex := 320, descriptorIndex := 321, attributes := #[] }])
  fields := #[{ name := "MIN_VALUE", type := .int, accessFlags := 25, slot := 0, constantValue := 0 }, { name := "MAX_VALUE", type := .int, accessFlags := 25, slot := 1, constantValue := 0 }, { name := "TYPE", type := (.object "java/lang/Class"), accessFlags := 25, slot := 2, constantValue := 0 }, { name := "digits", type := (.array .char), accessFlags := 24, slot := 3, constantValue := 0 }, { name := "DigitTens", type := (.array .byte), accessFlags := 24, slot := 4, constantValue := 0 }, { name := "DigitOnes", type := (.array .byte), accessFlags := 24, slot := 5, constantValue := 0 }, { name := "value", type := .int, accessFlags := 18, slot := 0, constantValue := 0 }, { name := "SIZE", type := .int, accessFlags := 25, slot := 6, constantValue := 0 }, { name := "BYTES", type := .int, accessFlags := 25, slot := 7, constantValue := 0 }, { name := "serialVersionUID", type := .long, accessFlags := 26, slot := 8, constantValue := 0 }]
  methods := #[k8m0, k8m1]
  instanceTypes := #[.int]
  staticTypes := #[.int, .int, (.object "java/lang/Class"), (.array .char), (.array .byte), (.array .byte), .int, .int, .long]
  resolved := Array.replicate 453 none
  statics := none }

def pool9 : Array CpInfo := pool [(2, .class_ 4), (1, u "java/lang/Object"), (0, u "<init>"), (0, u "()V"), (0, .class_ 8), (0, u "java/lang/Integer"), (7, .class_ 18), (1, u "java/lang/Integer$IntegerCache"), (0, u "$assertionsDisabled"), (0, u "Z"), (26, u "high"), (0, u "I"), (8, u "archivedCache"), (0, u "[Ljava/lang/Integer;"), (12, u "cache"), (0, u "low")] 27

def k9m0 : Method := { name := "<init>", desc := "()V", sig := { parameters := [], returnType := none }, accessFlags := 2, code := none }
/-- java/lang/Integer$IntegerCache -/
def k9 : Class := { plain "java/lang/Integer$IntegerCache" (some 0) with
  accessFlags := 48
  interfaces := #[]
  cf := some (fileOf pool9 16 #[.nestHost 7] #[{ accessFlags := 2, nameIndex := 5, descriptorIndex := 6, attributes := #[] }] 48 2 #[] #[{ accessFlags := 24, nameIndex := 72, descriptorIndex := 48, attributes := #[] }, { accessFlags := 24, nameIndex := 47, descriptorIndex := 48, attributes := #[] }, { accessFlags := 24, nameIndex := 71, descriptorIndex := 58, attributes := #[] }, { accessFlags := 8, nameIndex := 57, descriptorIndex := 58, attributes := #[] }, { accessFlags := 4120, nameIndex := 19, descriptorIndex := 20, attributes := #[] }])
  fields := #[{ name := "low", type := .int, accessFlags := 24, slot := 0, constantValue := 0 }, { name := "high", type := .int, accessFlags := 24, slot := 1, constantValue := 0 }, { name := "cache", type := (.array (.object "java/lang/Integer")), accessFlags := 24, slot := 2, constantValue := 0 }, { name := "archivedCache", type := (.array (.object "java/lang/Integer")), accessFlags := 8, slot := 3, constantValue := 0 }, { name := "$assertionsDisabled", type := .boolean, accessFlags := 4120, slot := 4, constantValue := 0 }]
  methods := #[k9m0]
  instanceTypes := #[]
  staticTypes := #[.int, .int, (.array (.object "java/lang/Integer")), (.array (.object "java/lang/Integer")), .boolean]
  resolved := Array.replicate 100 none
  statics := some 0 }

def pool10 : Array CpInfo := pool [(1, u "java/lang/Cloneable"), (0, .class_ 1), (0, u "java/lang/Object"), (0, .class_ 3)] 3

/-- java/lang/Cloneable -/
def k10 : Class := { plain "java/lang/Cloneable" (some 0) with
  accessFlags := 1537
  interfaces := #[]
  cf := some (fileOf pool10 2 #[] #[] 1537 4 #[] #[])
  fields := #[]
  methods := #[]
  instanceTypes := #[]
  staticTypes := #[]
  resolved := Array.replicate 8 none
  statics := none }

/-- the primitive byte -/
def k11 : Class := { plain "byte" none with kind := .primitive 'B', accessFlags := 0x411 }
/-- [B -/
def k12 : Class := { plain "[B" (some 0) with kind := .array 11 .byte, interfaces := #[10, 3], accessFlags := 1041 }

/-- the primitive int -/
def k13 : Class := { plain "int" none with kind := .primitive 'I', accessFlags := 0x411 }
/-- [I -/
def k14 : Class := { plain "[I" (some 0) with kind := .array 13 .int, interfaces := #[10, 3], accessFlags := 1041 }

/-- [Ljava/lang/Integer; -/
def k15 : Class := { plain "[Ljava/lang/Integer;" (some 0) with kind := .array 8 (.object "java/lang/Integer"), interfaces := #[10, 3], accessFlags := 1041 }

def heap : Heap := #[{ cls := 9, slots := #[.int 0, .int 127, .ref 1, .null, .int 0], vm := .statics 9 },
  { cls := 15, slots := #[.ref 2, .ref 3, .ref 4, .ref 5, .ref 6, .ref 7, .ref 8, .ref 9, .ref 10, .ref 11, .ref 12, .ref 13, .ref 14, .ref 15, .ref 16, .ref 17, .ref 18, .ref 19, .ref 20, .ref 21, .ref 22, .ref 23, .ref 24, .ref 25, .ref 26, .ref 27, .ref 28, .ref 29, .ref 30, .ref 31, .ref 32, .ref 33, .ref 34, .ref 35, .ref 36, .ref 37, .ref 38, .ref 39, .ref 40, .ref 41, .ref 42, .ref 43, .ref 44, .ref 45, .ref 46, .ref 47, .ref 48, .ref 49, .ref 50, .ref 51, .ref 52, .ref 53, .ref 54, .ref 55, .ref 56, .ref 57, .ref 58, .ref 59, .ref 60, .ref 61, .ref 62, .ref 63, .ref 64, .ref 65, .ref 66, .ref 67, .ref 68, .ref 69, .ref 70, .ref 71, .ref 72, .ref 73, .ref 74, .ref 75, .ref 76, .ref 77, .ref 78, .ref 79, .ref 80, .ref 81, .ref 82, .ref 83, .ref 84, .ref 85, .ref 86, .ref 87, .ref 88, .ref 89, .ref 90, .ref 91, .ref 92, .ref 93, .ref 94, .ref 95, .ref 96, .ref 97, .ref 98, .ref 99, .ref 100, .ref 101, .ref 102, .ref 103, .ref 104, .ref 105, .ref 106, .ref 107, .ref 108, .ref 109, .ref 110, .ref 111, .ref 112, .ref 113, .ref 114, .ref 115, .ref 116, .ref 117, .ref 118, .ref 119, .ref 120, .ref 121, .ref 122, .ref 123, .ref 124, .ref 125, .ref 126, .ref 127, .ref 128, .ref 129, .ref 130, .ref 131, .ref 132, .ref 133, .ref 134, .ref 135, .ref 136, .ref 137, .ref 138, .ref 139, .ref 140, .ref 141, .ref 142, .ref 143, .ref 144, .ref 145, .ref 146, .ref 147, .ref 148, .ref 149, .ref 150, .ref 151, .ref 152, .ref 153, .ref 154, .ref 155, .ref 156, .ref 157, .ref 158, .ref 159, .ref 160, .ref 161, .ref 162, .ref 163, .ref 164, .ref 165, .ref 166, .ref 167, .ref 168, .ref 169, .ref 170, .ref 171, .ref 172, .ref 173, .ref 174, .ref 175, .ref 176, .ref 177, .ref 178, .ref 179, .ref 180, .ref 181, .ref 182, .ref 183, .ref 184, .ref 185, .ref 186, .ref 187, .ref 188, .ref 189, .ref 190, .ref 191, .ref 192, .ref 193, .ref 194, .ref 195, .ref 196, .ref 197, .ref 198, .ref 199, .ref 200, .ref 201, .ref 202, .ref 203, .ref 204, .ref 205, .ref 206, .ref 207, .ref 208, .ref 209, .ref 210, .ref 211, .ref 212, .ref 213, .ref 214, .ref 215, .ref 216, .ref 217, .ref 218, .ref 219, .ref 220, .ref 221, .ref 222, .ref 223, .ref 224, .ref 225, .ref 226, .ref 227, .ref 228, .ref 229, .ref 230, .ref 231, .ref 232, .ref 233, .ref 234, .ref 235, .ref 236, .ref 237, .ref 238, .ref 239, .ref 240, .ref 241, .ref 242, .ref 243, .ref 244, .ref 245, .ref 246, .ref 247, .ref 248, .ref 249, .ref 250, .ref 251, .ref 252, .ref 253, .ref 254, .ref 255, .ref 256, .ref 257], vm := .none },
  { cls := 8, slots := #[.int (-128)], vm := .none },
  { cls := 8, slots := #[.int (-127)], vm := .none },
  { cls := 8, slots := #[.int (-126)], vm := .none },
  { cls := 8, slots := #[.int (-125)], vm := .none },
  { cls := 8, slots := #[.int (-124)], vm := .none },
  { cls := 8, slots := #[.int (-123)], vm := .none },
  { cls := 8, slots := #[.int (-122)], vm := .none },
  { cls := 8, slots := #[.int (-121)], vm := .none },
  { cls := 8, slots := #[.int (-120)], vm := .none },
  { cls := 8, slots := #[.int (-119)], vm := .none },
  { cls := 8, slots := #[.int (-118)], vm := .none },
  { cls := 8, slots := #[.int (-117)], vm := .none },
  { cls := 8, slots := #[.int (-116)], vm := .none },
  { cls := 8, slots := #[.int (-115)], vm := .none },
  { cls := 8, slots := #[.int (-114)], vm := .none },
  { cls := 8, slots := #[.int (-113)], vm := .none },
  { cls := 8, slots := #[.int (-112)], vm := .none },
  { cls := 8, slots := #[.int (-111)], vm := .none },
  { cls := 8, slots := #[.int (-110)], vm := .none },
  { cls := 8, slots := #[.int (-109)], vm := .none },
  { cls := 8, slots := #[.int (-108)], vm := .none },
  { cls := 8, slots := #[.int (-107)], vm := .none },
  { cls := 8, slots := #[.int (-106)], vm := .none },
  { cls := 8, slots := #[.int (-105)], vm := .none },
  { cls := 8, slots := #[.int (-104)], vm := .none },
  { cls := 8, slots := #[.int (-103)], vm := .none },
  { cls := 8, slots := #[.int (-102)], vm := .none },
  { cls := 8, slots := #[.int (-101)], vm := .none },
  { cls := 8, slots := #[.int (-100)], vm := .none },
  { cls := 8, slots := #[.int (-99)], vm := .none },
  { cls := 8, slots := #[.int (-98)], vm := .none },
  { cls := 8, slots := #[.int (-97)], vm := .none },
  { cls := 8, slots := #[.int (-96)], vm := .none },
  { cls := 8, slots := #[.int (-95)], vm := .none },
  { cls := 8, slots := #[.int (-94)], vm := .none },
  { cls := 8, slots := #[.int (-93)], vm := .none },
  { cls := 8, slots := #[.int (-92)], vm := .none },
  { cls := 8, slots := #[.int (-91)], vm := .none },
  { cls := 8, slots := #[.int (-90)], vm := .none },
  { cls := 8, slots := #[.int (-89)], vm := .none },
  { cls := 8, slots := #[.int (-88)], vm := .none },
  { cls := 8, slots := #[.int (-87)], vm := .none },
  { cls := 8, slots := #[.int (-86)], vm := .none },
  { cls := 8, slots := #[.int (-85)], vm := .none },
  { cls := 8, slots := #[.int (-84)], vm := .none },
  { cls := 8, slots := #[.int (-83)], vm := .none },
  { cls := 8, slots := #[.int (-82)], vm := .none },
  { cls := 8, slots := #[.int (-81)], vm := .none },
  { cls := 8, slots := #[.int (-80)], vm := .none },
  { cls := 8, slots := #[.int (-79)], vm := .none },
  { cls := 8, slots := #[.int (-78)], vm := .none },
  { cls := 8, slots := #[.int (-77)], vm := .none },
  { cls := 8, slots := #[.int (-76)], vm := .none },
  { cls := 8, slots := #[.int (-75)], vm := .none },
  { cls := 8, slots := #[.int (-74)], vm := .none },
  { cls := 8, slots := #[.int (-73)], vm := .none },
  { cls := 8, slots := #[.int (-72)], vm := .none },
  { cls := 8, slots := #[.int (-71)], vm := .none },
  { cls := 8, slots := #[.int (-70)], vm := .none },
  { cls := 8, slots := #[.int (-69)], vm := .none },
  { cls := 8, slots := #[.int (-68)], vm := .none },
  { cls := 8, slots := #[.int (-67)], vm := .none },
  { cls := 8, slots := #[.int (-66)], vm := .none },
  { cls := 8, slots := #[.int (-65)], vm := .none },
  { cls := 8, slots := #[.int (-64)], vm := .none },
  { cls := 8, slots := #[.int (-63)], vm := .none },
  { cls := 8, slots := #[.int (-62)], vm := .none },
  { cls := 8, slots := #[.int (-61)], vm := .none },
  { cls := 8, slots := #[.int (-60)], vm := .none },
  { cls := 8, slots := #[.int (-59)], vm := .none },
  { cls := 8, slots := #[.int (-58)], vm := .none },
  { cls := 8, slots := #[.int (-57)], vm := .none },
  { cls := 8, slots := #[.int (-56)], vm := .none },
  { cls := 8, slots := #[.int (-55)], vm := .none },
  { cls := 8, slots := #[.int (-54)], vm := .none },
  { cls := 8, slots := #[.int (-53)], vm := .none },
  { cls := 8, slots := #[.int (-52)], vm := .none },
  { cls := 8, slots := #[.int (-51)], vm := .none },
  { cls := 8, slots := #[.int (-50)], vm := .none },
  { cls := 8, slots := #[.int (-49)], vm := .none },
  { cls := 8, slots := #[.int (-48)], vm := .none },
  { cls := 8, slots := #[.int (-47)], vm := .none },
  { cls := 8, slots := #[.int (-46)], vm := .none },
  { cls := 8, slots := #[.int (-45)], vm := .none },
  { cls := 8, slots := #[.int (-44)], vm := .none },
  { cls := 8, slots := #[.int (-43)], vm := .none },
  { cls := 8, slots := #[.int (-42)], vm := .none },
  { cls := 8, slots := #[.int (-41)], vm := .none },
  { cls := 8, slots := #[.int (-40)], vm := .none },
  { cls := 8, slots := #[.int (-39)], vm := .none },
  { cls := 8, slots := #[.int (-38)], vm := .none },
  { cls := 8, slots := #[.int (-37)], vm := .none },
  { cls := 8, slots := #[.int (-36)], vm := .none },
  { cls := 8, slots := #[.int (-35)], vm := .none },
  { cls := 8, slots := #[.int (-34)], vm := .none },
  { cls := 8, slots := #[.int (-33)], vm := .none },
  { cls := 8, slots := #[.int (-32)], vm := .none },
  { cls := 8, slots := #[.int (-31)], vm := .none },
  { cls := 8, slots := #[.int (-30)], vm := .none },
  { cls := 8, slots := #[.int (-29)], vm := .none },
  { cls := 8, slots := #[.int (-28)], vm := .none },
  { cls := 8, slots := #[.int (-27)], vm := .none },
  { cls := 8, slots := #[.int (-26)], vm := .none },
  { cls := 8, slots := #[.int (-25)], vm := .none },
  { cls := 8, slots := #[.int (-24)], vm := .none },
  { cls := 8, slots := #[.int (-23)], vm := .none },
  { cls := 8, slots := #[.int (-22)], vm := .none },
  { cls := 8, slots := #[.int (-21)], vm := .none },
  { cls := 8, slots := #[.int (-20)], vm := .none },
  { cls := 8, slots := #[.int (-19)], vm := .none },
  { cls := 8, slots := #[.int (-18)], vm := .none },
  { cls := 8, slots := #[.int (-17)], vm := .none },
  { cls := 8, slots := #[.int (-16)], vm := .none },
  { cls := 8, slots := #[.int (-15)], vm := .none },
  { cls := 8, slots := #[.int (-14)], vm := .none },
  { cls := 8, slots := #[.int (-13)], vm := .none },
  { cls := 8, slots := #[.int (-12)], vm := .none },
  { cls := 8, slots := #[.int (-11)], vm := .none },
  { cls := 8, slots := #[.int (-10)], vm := .none },
  { cls := 8, slots := #[.int (-9)], vm := .none },
  { cls := 8, slots := #[.int (-8)], vm := .none },
  { cls := 8, slots := #[.int (-7)], vm := .none },
  { cls := 8, slots := #[.int (-6)], vm := .none },
  { cls := 8, slots := #[.int (-5)], vm := .none },
  { cls := 8, slots := #[.int (-4)], vm := .none },
  { cls := 8, slots := #[.int (-3)], vm := .none },
  { cls := 8, slots := #[.int (-2)], vm := .none },
  { cls := 8, slots := #[.int (-1)], vm := .none },
  { cls := 8, slots := #[.int (0)], vm := .none },
  { cls := 8, slots := #[.int (1)], vm := .none },
  { cls := 8, slots := #[.int (2)], vm := .none },
  { cls := 8, slots := #[.int (3)], vm := .none },
  { cls := 8, slots := #[.int (4)], vm := .none },
  { cls := 8, slots := #[.int (5)], vm := .none },
  { cls := 8, slots := #[.int (6)], vm := .none },
  { cls := 8, slots := #[.int (7)], vm := .none },
  { cls := 8, slots := #[.int (8)], vm := .none },
  { cls := 8, slots := #[.int (9)], vm := .none },
  { cls := 8, slots := #[.int (10)], vm := .none },
  { cls := 8, slots := #[.int (11)], vm := .none },
  { cls := 8, slots := #[.int (12)], vm := .none },
  { cls := 8, slots := #[.int (13)], vm := .none },
  { cls := 8, slots := #[.int (14)], vm := .none },
  { cls := 8, slots := #[.int (15)], vm := .none },
  { cls := 8, slots := #[.int (16)], vm := .none },
  { cls := 8, slots := #[.int (17)], vm := .none },
  { cls := 8, slots := #[.int (18)], vm := .none },
  { cls := 8, slots := #[.int (19)], vm := .none },
  { cls := 8, slots := #[.int (20)], vm := .none },
  { cls := 8, slots := #[.int (21)], vm := .none },
  { cls := 8, slots := #[.int (22)], vm := .none },
  { cls := 8, slots := #[.int (23)], vm := .none },
  { cls := 8, slots := #[.int (24)], vm := .none },
  { cls := 8, slots := #[.int (25)], vm := .none },
  { cls := 8, slots := #[.int (26)], vm := .none },
  { cls := 8, slots := #[.int (27)], vm := .none },
  { cls := 8, slots := #[.int (28)], vm := .none },
  { cls := 8, slots := #[.int (29)], vm := .none },
  { cls := 8, slots := #[.int (30)], vm := .none },
  { cls := 8, slots := #[.int (31)], vm := .none },
  { cls := 8, slots := #[.int (32)], vm := .none },
  { cls := 8, slots := #[.int (33)], vm := .none },
  { cls := 8, slots := #[.int (34)], vm := .none },
  { cls := 8, slots := #[.int (35)], vm := .none },
  { cls := 8, slots := #[.int (36)], vm := .none },
  { cls := 8, slots := #[.int (37)], vm := .none },
  { cls := 8, slots := #[.int (38)], vm := .none },
  { cls := 8, slots := #[.int (39)], vm := .none },
  { cls := 8, slots := #[.int (40)], vm := .none },
  { cls := 8, slots := #[.int (41)], vm := .none },
  { cls := 8, slots := #[.int (42)], vm := .none },
  { cls := 8, slots := #[.int (43)], vm := .none },
  { cls := 8, slots := #[.int (44)], vm := .none },
  { cls := 8, slots := #[.int (45)], vm := .none },
  { cls := 8, slots := #[.int (46)], vm := .none },
  { cls := 8, slots := #[.int (47)], vm := .none },
  { cls := 8, slots := #[.int (48)], vm := .none },
  { cls := 8, slots := #[.int (49)], vm := .none },
  { cls := 8, slots := #[.int (50)], vm := .none },
  { cls := 8, slots := #[.int (51)], vm := .none },
  { cls := 8, slots := #[.int (52)], vm := .none },
  { cls := 8, slots := #[.int (53)], vm := .none },
  { cls := 8, slots := #[.int (54)], vm := .none },
  { cls := 8, slots := #[.int (55)], vm := .none },
  { cls := 8, slots := #[.int (56)], vm := .none },
  { cls := 8, slots := #[.int (57)], vm := .none },
  { cls := 8, slots := #[.int (58)], vm := .none },
  { cls := 8, slots := #[.int (59)], vm := .none },
  { cls := 8, slots := #[.int (60)], vm := .none },
  { cls := 8, slots := #[.int (61)], vm := .none },
  { cls := 8, slots := #[.int (62)], vm := .none },
  { cls := 8, slots := #[.int (63)], vm := .none },
  { cls := 8, slots := #[.int (64)], vm := .none },
  { cls := 8, slots := #[.int (65)], vm := .none },
  { cls := 8, slots := #[.int (66)], vm := .none },
  { cls := 8, slots := #[.int (67)], vm := .none },
  { cls := 8, slots := #[.int (68)], vm := .none },
  { cls := 8, slots := #[.int (69)], vm := .none },
  { cls := 8, slots := #[.int (70)], vm := .none },
  { cls := 8, slots := #[.int (71)], vm := .none },
  { cls := 8, slots := #[.int (72)], vm := .none },
  { cls := 8, slots := #[.int (73)], vm := .none },
  { cls := 8, slots := #[.int (74)], vm := .none },
  { cls := 8, slots := #[.int (75)], vm := .none },
  { cls := 8, slots := #[.int (76)], vm := .none },
  { cls := 8, slots := #[.int (77)], vm := .none },
  { cls := 8, slots := #[.int (78)], vm := .none },
  { cls := 8, slots := #[.int (79)], vm := .none },
  { cls := 8, slots := #[.int (80)], vm := .none },
  { cls := 8, slots := #[.int (81)], vm := .none },
  { cls := 8, slots := #[.int (82)], vm := .none },
  { cls := 8, slots := #[.int (83)], vm := .none },
  { cls := 8, slots := #[.int (84)], vm := .none },
  { cls := 8, slots := #[.int (85)], vm := .none },
  { cls := 8, slots := #[.int (86)], vm := .none },
  { cls := 8, slots := #[.int (87)], vm := .none },
  { cls := 8, slots := #[.int (88)], vm := .none },
  { cls := 8, slots := #[.int (89)], vm := .none },
  { cls := 8, slots := #[.int (90)], vm := .none },
  { cls := 8, slots := #[.int (91)], vm := .none },
  { cls := 8, slots := #[.int (92)], vm := .none },
  { cls := 8, slots := #[.int (93)], vm := .none },
  { cls := 8, slots := #[.int (94)], vm := .none },
  { cls := 8, slots := #[.int (95)], vm := .none },
  { cls := 8, slots := #[.int (96)], vm := .none },
  { cls := 8, slots := #[.int (97)], vm := .none },
  { cls := 8, slots := #[.int (98)], vm := .none },
  { cls := 8, slots := #[.int (99)], vm := .none },
  { cls := 8, slots := #[.int (100)], vm := .none },
  { cls := 8, slots := #[.int (101)], vm := .none },
  { cls := 8, slots := #[.int (102)], vm := .none },
  { cls := 8, slots := #[.int (103)], vm := .none },
  { cls := 8, slots := #[.int (104)], vm := .none },
  { cls := 8, slots := #[.int (105)], vm := .none },
  { cls := 8, slots := #[.int (106)], vm := .none },
  { cls := 8, slots := #[.int (107)], vm := .none },
  { cls := 8, slots := #[.int (108)], vm := .none },
  { cls := 8, slots := #[.int (109)], vm := .none },
  { cls := 8, slots := #[.int (110)], vm := .none },
  { cls := 8, slots := #[.int (111)], vm := .none },
  { cls := 8, slots := #[.int (112)], vm := .none },
  { cls := 8, slots := #[.int (113)], vm := .none },
  { cls := 8, slots := #[.int (114)], vm := .none },
  { cls := 8, slots := #[.int (115)], vm := .none },
  { cls := 8, slots := #[.int (116)], vm := .none },
  { cls := 8, slots := #[.int (117)], vm := .none },
  { cls := 8, slots := #[.int (118)], vm := .none },
  { cls := 8, slots := #[.int (119)], vm := .none },
  { cls := 8, slots := #[.int (120)], vm := .none },
  { cls := 8, slots := #[.int (121)], vm := .none },
  { cls := 8, slots := #[.int (122)], vm := .none },
  { cls := 8, slots := #[.int (123)], vm := .none },
  { cls := 8, slots := #[.int (124)], vm := .none },
  { cls := 8, slots := #[.int (125)], vm := .none },
  { cls := 8, slots := #[.int (126)], vm := .none },
  { cls := 8, slots := #[.int (127)], vm := .none }]
def classes : Array Class := #[k0, k1, k2, k3, k4, k5, k6, k7, k8, k9, k10, k11, k12, k13, k14, k15]
def interned : List (Array UInt16 × Addr) := []
def slotsUsed : Nat := 517
def theMethod : MethodId := ⟨1, 1⟩
def args0 : Array Value := #[.int 3, .int 7, .long 9, .int 2]
def aboutOver (below : List Frame) : State where
  vm := { classes := classes, interned := interned.toArray }
  heap := heap
  slotsUsed := slotsUsed
  threads := #[{ frames := .invoking theMethod args0 :: below }]
def below0 : List Frame := [.native { method := ⟨0, 0⟩, args := #[] }]
def about1 : State := aboutOver below0
def p0 : Program := .bare "" "" ""
def e0 : Env := launch0.env 0 0 0
theorem w_frames : about1.frames = Frame.invoking theMethod args0 :: below0 := rfl
set_option maxRecDepth 65536 in
theorem w_args : argsFit about1.vm theMethod args0 = true := by decide +kernel
set_option maxRecDepth 65536 in
theorem w_heap : heapFits about1 = true := by decide +kernel
set_option maxRecDepth 65536 in
theorem w_runnable : about1.curStatus? = some .runnable := by decide +kernel
set_option maxRecDepth 65536 in
theorem w_alone : about1.alone = true := by decide +kernel
set_option maxRecDepth 65536 in
theorem w_named : about1.methodNamed? x = some theMethod := by decide +kernel
set_option maxRecDepth 65536 in
theorem w_hears : about1.hears theMethod below0 = true := by decide +kernel
set_option maxRecDepth 65536 in
theorem w_ripe : about1.ripe theMethod args0 below0 = true := by decide +kernel
theorem w_running : about1.status = .running := rfl
set_option maxRecDepth 65536 in
theorem w_room : about1.hasRoom e0.platform room_1 = true :=
  launch0.hasRoom_least _ room_1 (by decide +kernel) (by decide +kernel) (by decide +kernel) (by decide +kernel) (by decide +kernel) (by decide +kernel)
theorem allAtoms_all (ts : List Jvm.Cond) (a : Array Jvm.Value) (st : Jvm.State) : (allAtoms ts).before a st = ts.all (fun c => c.before a st) := by
  induction ts with
  | nil => rfl
  | cons c t ih =>
    show (Jvm.Cond.and c (allAtoms t)).before a st = _
    rw [Jvm.Cond.before_and, ih, List.all_cons]
def words1 : List Jvm.Cond := Jvm.Cond.code x code maxLocals ret :: tables_1
/-- a 'code' word, met by the world's own term for the bytes: nothing is compared byte by byte -/
theorem code_word {y : MethodName} {bytes : ByteArray} {mx : Nat} {rt : Option FieldType} {a : Array Value} {s : State} {m : MethodId} {meth : Method} {c : Code} (h1 : s.methodNamed? y = some m) (h2 : s.vm.method? m = some meth) (h3 : meth.code = some c) (h4 : c.code = bytes)
    (h5 : (c.maxLocals == mx && c.exceptionTable.isEmpty && decide (c.maxStack ≤ mostOperands) && decide (meth.sig.returnType = rt) && !meth.locks && decide (parseMethodDescriptor y.desc = some meth.sig)) = true) : (Jvm.Cond.code y bytes mx rt).before a s = true := by
  simp only [Bool.and_eq_true, beq_iff_eq, Bool.not_eq_true', decide_eq_true_eq] at h5
  obtain ⟨⟨⟨⟨⟨g1, g2⟩, g3⟩, g4⟩, g5⟩, g6⟩ := h5
  simp [Cond.before, Cond.holds, Cond.value, h1, h2, h3, h4, g1, g2, g3, g4, g5, g6]
def isCode : Jvm.Cond → Bool
  | .code _ _ _ _ => true
  | _ => false
theorem all_split {L : List Jvm.Cond} {P : Jvm.Cond → Bool} (h1 : L.all (fun c => isCode c || P c) = true) (h2 : ∀ c ∈ L.filter isCode, P c = true) : L.all P = true := by
  refine List.all_eq_true.mpr fun c hc => ?_
  have h := List.all_eq_true.mp h1 c hc
  rcases Bool.eq_false_or_eq_true (isCode c) with hi | hi
  · exact h2 c (List.mem_filter.mpr ⟨hc, hi⟩)
  · simpa [hi] using h
set_option maxRecDepth 65536 in
theorem w_c0 : (Jvm.Cond.code x code maxLocals ret).before args0 about1 = true := code_word (m := ⟨1, 1⟩) (meth := k1m1) (c := k1c1) (by decide +kernel) rfl rfl rfl (by decide +kernel)
set_option maxRecDepth 65536 in
theorem w_c1 : (Jvm.Cond.code ({ cls := "com/example/manysort/manysort/language/Naturals", name := "<init>", desc := "(Ljava/lang/Integer;)V" } : Jvm.MethodName) prog_64_method_1_code (2 : Nat) (Option.none : Option Jvm.ClassFile.FieldType)).before args0 about1 = true := code_word (m := ⟨2, 0⟩) (meth := k2m0) (c := k2c0) (by decide +kernel) rfl rfl rfl (by decide +kernel)
set_option maxRecDepth 65536 in
theorem w_c2 : (Jvm.Cond.code ({ cls := "java/lang/Object", name := "<init>", desc := "()V" } : Jvm.MethodName) object_method_1_code (1 : Nat) (Option.none : Option Jvm.ClassFile.FieldType)).before args0 about1 = true := code_word (m := ⟨0, 0⟩) (meth := k0m0) (c := k0c0) (by decide +kernel) rfl rfl rfl (by decide +kernel)
set_option maxRecDepth 65536 in
theorem w_c3 : (Jvm.Cond.code ({ cls := "com/example/manysort/manysort/language/Naturals", name := "leaveUnbounded", desc := "(J)Z" } : Jvm.MethodName) prog_64_method_5_code (3 : Nat) (Option.some Jvm.ClassFile.FieldType.boolean)).before args0 about1 = true := code_word (m := ⟨2, 1⟩) (meth := k2m1) (c := k2c1) (by decide +kernel) rfl rfl rfl (by decide +kernel)
set_option maxRecDepth 65536 in
theorem w_c4 : (Jvm.Cond.code ({ cls := "java/lang/Integer", name := "valueOf", desc := "(I)Ljava/lang/Integer;" } : Jvm.MethodName) jdk_33_method_22_code (1 : Nat) (Option.some (Jvm.ClassFile.FieldType.object "java/lang/Integer"))).before args0 about1 = true := code_word (m := ⟨8, 0⟩) (meth := k8m0) (c := k8c0) (by decide +kernel) rfl rfl rfl (by decide +kernel)
set_option maxRecDepth 65536 in
theorem w_c5 : (Jvm.Cond.code ({ cls := "java/lang/Integer", name := "<init>", desc := "(I)V" } : Jvm.MethodName) jdk_33_method_23_code (2 : Nat) (Option.none : Option Jvm.ClassFile.FieldType)).before args0 about1 = true := code_word (m := ⟨8, 1⟩) (meth := k8m1) (c := k8c1) (by decide +kernel) rfl rfl rfl (by decide +kernel)
set_option maxRecDepth 65536 in
theorem w_c6 : (Jvm.Cond.code ({ cls := "java/lang/Number", name := "<init>", desc := "()V" } : Jvm.MethodName) jdk_18_method_1_code (1 : Nat) (Option.none : Option Jvm.ClassFile.FieldType)).before args0 about1 = true := code_word (m := ⟨4, 0⟩) (meth := k4m0) (c := k4c0) (by decide +kernel) rfl rfl rfl (by decide +kernel)
def codes1 : List Jvm.Cond := [Jvm.Cond.code x code maxLocals ret, Jvm.Cond.code ({ cls := "com/example/manysort/manysort/language/Naturals", name := "<init>", desc := "(Ljava/lang/Integer;)V" } : Jvm.MethodName) prog_64_method_1_code (2 : Nat) (Option.none : Option Jvm.ClassFile.FieldType), Jvm.Cond.code ({ cls := "java/lang/Object", name := "<init>", desc := "()V" } : Jvm.MethodName) object_method_1_code (1 : Nat) (Option.none : Option Jvm.ClassFile.FieldType), Jvm.Cond.code ({ cls := "com/example/manysort/manysort/language/Naturals", name := "leaveUnbounded", desc := "(J)Z" } : Jvm.MethodName) prog_64_method_5_code (3 : Nat) (Option.some Jvm.ClassFile.FieldType.boolean), Jvm.Cond.code ({ cls := "java/lang/Integer", name := "valueOf", desc := "(I)Ljava/lang/Integer;" } : Jvm.MethodName) jdk_33_method_22_code (1 : Nat) (Option.some (Jvm.ClassFile.FieldType.object "java/lang/Integer")), Jvm.Cond.code ({ cls := "java/lang/Integer", name := "<init>", desc := "(I)V" } : Jvm.MethodName) jdk_33_method_23_code (2 : Nat) (Option.none : Option Jvm.ClassFile.FieldType), Jvm.Cond.code ({ cls := "java/lang/Number", name := "<init>", desc := "()V" } : Jvm.MethodName) jdk_18_method_1_code (1 : Nat) (Option.none : Option Jvm.ClassFile.FieldType)]
set_option maxRecDepth 65536 in
theorem codes_eq : words1.filter isCode = codes1 := rfl
theorem w_codes : ∀ c ∈ words1.filter isCode, c.before args0 about1 = true := by
  rw [codes_eq]
  intro c hc
  simp only [codes1, List.mem_cons, List.not_mem_nil, or_false] at hc
  rcases hc with rfl | rfl | rfl | rfl | rfl | rfl | rfl
  · exact w_c0
  · exact w_c1
  · exact w_c2
  · exact w_c3
  · exact w_c4
  · exact w_c5
  · exact w_c6
set_option maxRecDepth 65536 in
theorem w_t1 : (words1.take 24).all (fun c => isCode c || c.before args0 about1) = true := by decide +kernel
set_option maxRecDepth 65536 in
theorem w_t2 : (words1.drop 24).all (fun c => isCode c || c.before args0 about1) = true := by decide +kernel
theorem w_tables : (allAtoms (Jvm.Cond.code x code maxLocals ret :: tables_1)).before args0 about1 = true := by
  rw [allAtoms_all]
  show words1.all (fun c => c.before args0 about1) = true
  refine all_split ?_ w_codes
  rw [← List.take_append_drop 24 words1, List.all_append, w_t1, w_t2]
  rfl
set_option maxRecDepth 65536 in
theorem w_rest : rest_1_c.before args0 about1 = true := by decide +kernel
set_option maxRecDepth 65536 in
theorem w_case : (Jvm.Cond.and given_1 narrow_1).before args0 about1 = true := by decide +kernel
theorem w_applies : (headSpec (Jvm.Cond.code x code maxLocals ret :: tables_1) room_1).applies x e0.platform about1 = true :=
  (Spec.applies_iff w_frames).mpr ⟨w_running, w_runnable, w_alone, w_named, w_hears, w_ripe, w_room, w_tables⟩
theorem atStart : AtStart classFile x code maxLocals ret World_1 tables_1 room_1 Calls_1 rest_1 Pre_1 launch0 p0 e0 about1 theMethod args0 below0 :=
  ⟨lists_1, trivial, launch0.admits_env _ _ _, launch0.least_env, fairChoices_fair.cas, fairChoices_fair.clock, w_frames, w_args, w_heap, w_applies, trivial, w_rest, w_case⟩
end start1
theorem witness_1 : WitnessClaimed_1 := ⟨start1.p0, start1.e0, start1.about1, start1.theMethod, start1.args0, start1.below0, start1.atStart⟩
end Jvm.Pilot.@@N@@
