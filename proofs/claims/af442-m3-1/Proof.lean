import JvmDerived
import JvmDerived.Pilot.@@N@@Statement
import JvmDerived.Pilot.@@N@@Code
set_option linter.unusedVariables false
set_option linter.unusedSimpArgs false
namespace Jvm.Pilot.@@N@@
open Jvm Jvm.ClassFile Sem Op Lib Jvm.Free Jvm.Stand Jvm.LawKit Jvm.RoadKit Bundle Jvm.Pilot.@@N@@.Jvm.D
/-! OWN PRELUDE (the same text in every proof of this seat): the walk as a goal that goes forward -/
section OwnPrelude
variable {Z : State} {hs : Heap} {W : List Addr} {own : String} {bytes : ByteArray} {maxL : Nat} {ret : Option FieldType} {nm : String}
  {p : Program} {l : Launch} {e : Env} {R : Room} {s : State} {m : MethodId} {args : Array Value} {below : List Frame} {meth : Method} {c : Code}
  {T : State} {h : Heap} {cells slots : Nat} {k n : Nat} {Q : Option Value → Heap → Prop} {a0 : Array Value} {pc : Nat} {Ls : Array Slot} {st rest : List Value}

/-- what stays the same while one body is walked -/
def own_G (Z : State) (hs : Heap) (W : List Addr) (own : String) (bytes : ByteArray) (maxL : Nat) (ret : Option FieldType) (nm : String) (p : Program) (s : State) (m : MethodId) (meth : Method) (c : Code) : Prop :=
  p.tables.exec = Jvm.exec ∧ Z.Warmed39 s.vm ∧ s.vm.findClass own = some m.cls ∧ c.code = bytes ∧ c.maxLocals = maxL ∧ meth.sig.returnType = ret ∧ meth.locks = false ∧ meth.name = nm ∧ Ext Z.heap hs ∧ ∀ a ∈ W, Z.heap.size ≤ a
/-- where the walk stands: state T, heap h, so many cells and slots made; nothing old but W was written -/
def own_S (Z : State) (hs : Heap) (W : List Addr) (own : String) (bytes : ByteArray) (maxL : Nat) (ret : Option FieldType) (nm : String) (p : Program) (l : Launch) (e : Env) (R : Room) (s : State) (m : MethodId) (args : Array Value) (below : List Frame) (meth : Method) (c : Code)
    (T : State) (h : Heap) (cells slots : Nat) : Prop :=
  own_G Z hs W own bytes maxL ret nm p s m meth c ∧ ∃ locs, Stand p l e R s m args below meth c T locs cells slots ∧ Fr Z.heap.size locs ∧ T.heap = h ∧ Keep hs h W
/-- from A the call comes to its end, and there Q holds -/
def own_F (p : Program) (e : Env) (below : List Frame) (s : State) (Z : State) (hs : Heap) (W : List Addr) (k n : Nat) (Q : Option Value → Heap → Prop) (A : State) : Prop :=
  ∃ s₂ o, Steps p.tables e below A s₂ ∧ s₂.status = .running ∧ Ended s₂ below o ∧ ∃ v L, o = .returned v ∧ (Fr Z.heap.size L ∧ Keep hs s₂.heap W ∧ Q v s₂.heap) ∧ FrameEnd s o s₂ L k n
/-- a body's contract -/
def own_C (l : Launch) (Z : State) (y : MethodName) (bytes : ByteArray) (maxL : Nat) (ret : Option FieldType) (ws : List Jvm.Cond) (rm : Room) (W : List Addr) (as' : Array Value) (h0 : Heap) (Q : Option Value → Heap → Prop) : Prop :=
  MetFree l y (head1 (Jvm.Cond.code y bytes maxL ret :: ws) rm) (fun a U => a = as' ∧ Z.Warmed39 U.vm ∧ U.heap = h0) (fun _ _ _ _ _ => True)
    (fun _ U o U' => ∃ v L, o = .returned v ∧ (Fr Z.heap.size L ∧ Keep h0 U'.heap W ∧ Q v U'.heap) ∧ FrameEnd U o U' L rm.cells rm.slots)

theorem own_C.of {y : MethodName} {ws : List Jvm.Cond} {rm : Room} {as' : Array Value} {h0 : Heap} (hpl : plainFor y = true) (hO : Ext Z.heap h0) (hW : ∀ a ∈ W, Z.heap.size ≤ a)
    (body : ∀ p e s m below meth c T, own_S Z h0 W y.cls bytes maxL ret y.name p l e rm s m as' below meth c T h0 0 0 → own_F p e below s Z h0 W rm.cells rm.slots Q (T.setTop (entryFrame m as' maxL))) :
    own_C l Z y bytes maxL ret ws rm W as' h0 Q := by
  refine MetFree.of_bodySF hpl hisR ?_
  intro p e s m args below meth c s₁ Bd hml hP hK
  obtain ⟨rfl, hZ, hh⟩ := hP
  exact body p e s m below meth c s₁ ⟨⟨Bd.exec, hZ, findClass_of_methodNamed Bd.named, Bd.bytes, hml, Bd.returns, Bd.notSynchronized, (name_of_methodNamed Bd.named Bd.method).1, hO, hW⟩, [], Stand.of_body Bd, Fr.nil _, (by rw [← hh, Bd.state]; rfl), Keep.refl _ _⟩

theorem own_F.of {A B : State} (h : ∀ t, Steps p.tables e below B t → Steps p.tables e below A t) (f : own_F p e below s Z hs W k n Q B) : own_F p e below s Z hs W k n Q A := by
  obtain ⟨s₂, o, h1, r⟩ := f
  exact ⟨s₂, o, h _ h1, r⟩
theorem own_F.to {A B : State} (h : Steps p.tables e below A B) (f : own_F p e below s Z hs W k n Q B) : own_F p e below s Z hs W k n Q A := own_F.of (fun _ => h.trans) f
theorem own_F.cast {g g' : JFrame} (q : g = g') (f : own_F p e below s Z hs W k n Q (T.setTop g')) : own_F p e below s Z hs W k n Q (T.setTop g) := q ▸ f
theorem own_F.mono {A : State} {Q' : Option Value → Heap → Prop} (f : own_F p e below s Z hs W k n Q A) (q : ∀ v h, Q v h → Q' v h) : own_F p e below s Z hs W k n Q' A := by
  obtain ⟨s₂, o, h1, h2, h3, v, L, h4, ⟨h5, h6, h7⟩, h8⟩ := f
  exact ⟨s₂, o, h1, h2, h3, v, L, h4, ⟨h5, h6, q _ _ h7⟩, h8⟩
theorem own_C.mono {y : MethodName} {ws : List Jvm.Cond} {rm : Room} {as' : Array Value} {h0 : Heap} {Q' : Option Value → Heap → Prop} (f : own_C l Z y bytes maxL ret ws rm W as' h0 Q) (q : ∀ v h, Q v h → Q' v h) : own_C l Z y bytes maxL ret ws rm W as' h0 Q' := by
  intro p e ha hc hk s m args below hf happ hP hK
  obtain ⟨n, o, h1, h2, h3, v, L, h4, ⟨h5, h6, h7⟩, h8⟩ := f p e ha hc hk s m args below hf happ hP hK
  exact ⟨n, o, h1, h2, h3, v, L, h4, ⟨h5, h6, q _ _ h7⟩, h8⟩

theorem own_S.hx (S : own_S Z hs W own bytes maxL ret nm p l e R s m args below meth c T h cells slots) : p.tables.exec = Jvm.exec := S.1.1
theorem own_S.hZ (S : own_S Z hs W own bytes maxL ret nm p l e R s m args below meth c T h cells slots) : Z.Warmed39 s.vm := S.1.2.1
theorem own_S.hown (S : own_S Z hs W own bytes maxL ret nm p l e R s m args below meth c T h cells slots) : s.vm.findClass own = some m.cls := S.1.2.2.1
theorem own_S.hby (S : own_S Z hs W own bytes maxL ret nm p l e R s m args below meth c T h cells slots) : c.code = bytes := S.1.2.2.2.1
theorem own_S.hml (S : own_S Z hs W own bytes maxL ret nm p l e R s m args below meth c T h cells slots) : c.maxLocals = maxL := S.1.2.2.2.2.1
theorem own_S.hret (S : own_S Z hs W own bytes maxL ret nm p l e R s m args below meth c T h cells slots) : meth.sig.returnType = ret := S.1.2.2.2.2.2.1
theorem own_S.hlk (S : own_S Z hs W own bytes maxL ret nm p l e R s m args below meth c T h cells slots) : meth.locks = false := S.1.2.2.2.2.2.2.1
theorem own_S.hnm (S : own_S Z hs W own bytes maxL ret nm p l e R s m args below meth c T h cells slots) : meth.name = nm := S.1.2.2.2.2.2.2.2.1
theorem own_S.hO (S : own_S Z hs W own bytes maxL ret nm p l e R s m args below meth c T h cells slots) : Ext Z.heap hs := S.1.2.2.2.2.2.2.2.2.1
theorem own_S.hW (S : own_S Z hs W own bytes maxL ret nm p l e R s m args below meth c T h cells slots) : ∀ a ∈ W, Z.heap.size ≤ a := S.1.2.2.2.2.2.2.2.2.2
theorem own_S.keep (S : own_S Z hs W own bytes maxL ret nm p l e R s m args below meth c T h cells slots) : Keep hs h W := by obtain ⟨-, _, -, -, -, K⟩ := S; exact K
theorem own_S.size (S : own_S Z hs W own bytes maxL ret nm p l e R s m args below meth c T h cells slots) : hs.size ≤ h.size := S.keep.1
theorem own_S.old (S : own_S Z hs W own bytes maxL ret nm p l e R s m args below meth c T h cells slots) : Ext Z.heap h :=
  ⟨Nat.le_trans S.hO.1 S.size, fun x cc q => S.keep.2.1 x cc (S.hO.2 x cc q) fun r => absurd (Array.getElem?_eq_some_iff.mp q).1 (Nat.not_lt.mpr (S.hW x r))⟩
theorem own_S.here (S : own_S Z hs W own bytes maxL ret nm p l e R s m args below meth c T h cells slots) : At T m c below := by obtain ⟨-, _, X, -⟩ := S; exact X.here
theorem own_S.dec (S : own_S Z hs W own bytes maxL ret nm p l e R s m args below meth c T h cells slots) {r : Except ClassFile.DecodeError (ClassFile.Instr × Nat)} (h2 : decode bytes pc = r) : decode c.code pc = r := hb S.hby h2
theorem own_S.may (S : own_S Z hs W own bytes maxL ret nm p l e R s m args below meth c T h cells slots) {a : Addr} (q : a ∈ W ∨ hs.size ≤ a) : Z.heap.size ≤ a := q.elim (S.hW a) (Nat.le_trans S.hO.1)
theorem own_S.more (S : own_S Z hs W own bytes maxL ret nm p l e R s m args below meth c T h cells slots) {k' n' : Nat} (hk : cells ≤ k') (hn : slots ≤ n') : own_S Z hs W own bytes maxL ret nm p l e R s m args below meth c T h k' n' := by
  obtain ⟨G, locs, X, r⟩ := S
  exact ⟨G, locs, X.more hk hn, r⟩

/-! the ends -/
theorem own_S.leave (S : own_S Z hs W own bytes maxL ret nm p l e R s m args below meth c T h cells slots) {A : State} {v : Option Value} (hk : cells ≤ k) (hn : slots ≤ n) (hv : ret = none → v = none) (hq : Q v h)
    (go : ∀ (locs : List Loc) (_ : Stand p l e R s m args below meth c T locs cells slots) (fs : List Frame), (∀ (f : JFrame) (acts : List Action), f.method = m → f.locked = none → f.entered = [] → (doReturn e (T.setTop f) acts v).1 = T.setFrames fs) → Steps p.tables e below A (T.setFrames fs)) : own_F p e below s Z hs W k n Q A := by
  obtain ⟨G, locs, X, N, e0, K⟩ := S
  have hlk : meth.locks = false := own_S.hlk (⟨G, locs, X, N, e0, K⟩ : own_S Z hs W own bytes maxL ret nm p l e R s m args below meth c T h cells slots)
  have hret : meth.sig.returnType = ret := own_S.hret (⟨G, locs, X, N, e0, K⟩ : own_S Z hs W own bytes maxL ret nm p l e R s m args below meth c T h cells slots)
  obtain ⟨fs, hr, hrun, hended, hW, hsame⟩ := X.leave (v := v) (fun q => hv (hret ▸ q)) hlk
  subst e0
  exact ⟨_, _, go locs X fs hr, hrun, hended, _, _, rfl, ⟨N, K, hq⟩, ⟨_, rfl⟩, hW, hsame.mono hk hn⟩
theorem own_retV (S : own_S Z hs W own bytes maxL none nm p l e R s m args below meth c T h cells slots) (hd : decode bytes pc = .ok (.return_, 1)) (hk : cells ≤ k) (hn : slots ≤ n) (hq : Q none h) : own_F p e below s Z hs W k n Q (T.setTop (mkF m pc Ls [])) :=
  S.leave hk hn (fun _ => rfl) hq fun locs X fs hr => X.returnOut S.hx S.hret (S.dec hd) hr
theorem own_retZ {t : FieldType} (S : own_S Z hs W own bytes maxL (some t) nm p l e R s m args below meth c T h cells slots) {z : Int32} (ht : t = .boolean ∨ t = .byte ∨ t = .char ∨ t = .short) (hd : decode bytes pc = .ok (.ireturn, 1)) (hk : cells ≤ k) (hn : slots ≤ n) (hq : Q (some (.int (nar t z))) h) : own_F p e below s Z hs W k n Q (T.setTop (mkF m pc Ls (.int z :: rest))) :=
  S.leave hk hn (fun q => by cases q) hq fun locs X fs hr => retN X S.hx S.hret ht (S.dec hd) hr
theorem own_retI (S : own_S Z hs W own bytes maxL (some .int) nm p l e R s m args below meth c T h cells slots) {z : Int32} (hd : decode bytes pc = .ok (.ireturn, 1)) (hk : cells ≤ k) (hn : slots ≤ n) (hq : Q (some (.int z)) h) : own_F p e below s Z hs W k n Q (T.setTop (mkF m pc Ls (.int z :: rest))) :=
  S.leave hk hn (fun q => by cases q) hq fun locs X fs hr => retOut X S.hx S.hret rfl (Or.inl ⟨rfl, Or.inl rfl, _, rfl⟩) (S.dec hd) hr
theorem own_retJ (S : own_S Z hs W own bytes maxL (some .long) nm p l e R s m args below meth c T h cells slots) {z : Int64} (hd : decode bytes pc = .ok (.lreturn, 1)) (hk : cells ≤ k) (hn : slots ≤ n) (hq : Q (some (.long z)) h) : own_F p e below s Z hs W k n Q (T.setTop (mkF m pc Ls (.long z :: rest))) :=
  S.leave hk hn (fun q => by cases q) hq fun locs X fs hr => retOut X S.hx S.hret rfl (Or.inr (Or.inl ⟨rfl, rfl, _, rfl⟩)) (S.dec hd) hr
theorem own_retD (S : own_S Z hs W own bytes maxL (some .double) nm p l e R s m args below meth c T h cells slots) {z : UInt64} (hd : decode bytes pc = .ok (.dreturn, 1)) (hk : cells ≤ k) (hn : slots ≤ n) (hq : Q (some (.double z)) h) : own_F p e below s Z hs W k n Q (T.setTop (mkF m pc Ls (.double z :: rest))) :=
  S.leave hk hn (fun q => by cases q) hq fun locs X fs hr => retOut X S.hx S.hret rfl (Or.inr (Or.inr (Or.inl ⟨rfl, rfl, _, rfl⟩))) (S.dec hd) hr
theorem own_retA {t : FieldType} (S : own_S Z hs W own bytes maxL (some t) nm p l e R s m args below meth c T h cells slots) {w : Value} (ht : t.isReference = true) (hw : w.isRef = true) (hd : decode bytes pc = .ok (.areturn, 1)) (hk : cells ≤ k) (hn : slots ≤ n) (hq : Q (some w) h) : own_F p e below s Z hs W k n Q (T.setTop (mkF m pc Ls (w :: rest))) :=
  S.leave hk hn (fun q => by cases q) hq fun locs X fs hr => retOut X S.hx S.hret (by cases w <;> simp [Value.isRef] at hw <;> cases t <;> simp [FieldType.isReference] at ht <;> rfl) (Or.inr (Or.inr (Or.inr (Or.inr ⟨rfl, ht, hw⟩)))) (S.dec hd) hr

/-! branches -/
def own_cd : ClassFile.Cond → Int32 → Int32 → Prop
  | .eq, x, y => x = y
  | .ne, x, y => ¬ x = y
  | .lt, x, y => x < y
  | .ge, x, y => ¬ x < y
  | .gt, x, y => y < x
  | .le, x, y => ¬ y < x
theorem own_cd_t {cd : ClassFile.Cond} {x y : Int32} (q : own_cd cd x y) : if_icmp.holds cd x y = true := by
  cases cd
  · exact (teq q).1
  · exact (feq q).2
  · exact (tlt q).1
  · exact (flt q).2.1
  · exact (tlt q).2.2.1
  · exact (flt q).2.2.2
def own_cn : ClassFile.Cond → Int32 → Int32 → Prop
  | .eq, x, y => ¬ x = y
  | .ne, x, y => x = y
  | .lt, x, y => ¬ x < y
  | .ge, x, y => x < y
  | .gt, x, y => ¬ y < x
  | .le, x, y => y < x
theorem own_cd_f {cd : ClassFile.Cond} {x y : Int32} (q : own_cn cd x y) : if_icmp.holds cd x y = false := by
  cases cd
  · exact (feq q).1
  · exact (teq q).2
  · exact (flt q).1
  · exact (tlt q).2.1
  · exact (flt q).2.2.1
  · exact (tlt q).2.2.2
theorem own_cd_em (cd : ClassFile.Cond) (x y : Int32) : own_cd cd x y ∨ own_cn cd x y := by
  cases cd
  · exact Classical.em (x = y)
  · exact (Classical.em (x = y)).symm
  · exact Classical.em (x < y)
  · exact (Classical.em (x < y)).symm
  · exact Classical.em (y < x)
  · exact (Classical.em (y < x)).symm
theorem own_icmp (S : own_S Z hs W own bytes maxL ret nm p l e R s m args below meth c T h cells slots) {cd : ClassFile.Cond} {o : Int} {x y : Int32} (pc' : Nat) (hd : decode bytes pc = .ok (.if_icmp cd o, 3)) (ho : 0 ≤ (pc : Int) + o) (hp : ((pc : Int) + o).toNat = pc')
    (ft : own_cd cd x y → own_F p e below s Z hs W k n Q (T.setTop (mkF m pc' Ls rest))) (ff : own_cn cd x y → own_F p e below s Z hs W k n Q (T.setTop (mkF m (pc + 3) Ls rest))) : own_F p e below s Z hs W k n Q (T.setTop (mkF m pc Ls (.int y :: .int x :: rest))) := by
  rcases own_cd_em cd x y with q | q
  · exact own_F.of (fun _ => XS.icmpYes S.here S.hx rfl (pc0 := pc) rfl (S.dec hd) rfl (own_cd_t q) ho hp) (ft q)
  · exact own_F.of (fun _ => XS.icmpNo S.here S.hx rfl (S.dec hd) rfl (own_cd_f q)) (ff q)
theorem own_if (S : own_S Z hs W own bytes maxL ret nm p l e R s m args below meth c T h cells slots) {cd : ClassFile.Cond} {o : Int} {x : Int32} (pc' : Nat) (hd : decode bytes pc = .ok (.ifCond cd o, 3)) (ho : 0 ≤ (pc : Int) + o) (hp : ((pc : Int) + o).toNat = pc')
    (ft : own_cd cd x 0 → own_F p e below s Z hs W k n Q (T.setTop (mkF m pc' Ls rest))) (ff : own_cn cd x 0 → own_F p e below s Z hs W k n Q (T.setTop (mkF m (pc + 3) Ls rest))) : own_F p e below s Z hs W k n Q (T.setTop (mkF m pc Ls (.int x :: rest))) := by
  rcases own_cd_em cd x 0 with q | q
  · exact own_F.of (fun _ => XS.ifYes S.here S.hx rfl (pc0 := pc) rfl (S.dec hd) rfl ((if0 _ _).trans (own_cd_t q)) ho hp) (ft q)
  · exact own_F.of (fun _ => XS.ifNo S.here S.hx rfl (S.dec hd) rfl ((if0 _ _).trans (own_cd_f q))) (ff q)
def own_ac : ACond → Value → Value → Prop
  | .eq, x, y => x = y
  | .ne, x, y => ¬ x = y
def own_an : ACond → Value → Value → Prop
  | .eq, x, y => ¬ x = y
  | .ne, x, y => x = y
theorem own_acmp (S : own_S Z hs W own bytes maxL ret nm p l e R s m args below meth c T h cells slots) {cd : ACond} {o : Int} {x y : Value} (h1 : x.isRef = true) (h2 : y.isRef = true) (pc' : Nat) (hd : decode bytes pc = .ok (.if_acmp cd o, 3)) (ho : 0 ≤ (pc : Int) + o) (hp : ((pc : Int) + o).toNat = pc')
    (ft : own_ac cd x y → own_F p e below s Z hs W k n Q (T.setTop (mkF m pc' Ls rest))) (ff : own_an cd x y → own_F p e below s Z hs W k n Q (T.setTop (mkF m (pc + 3) Ls rest))) : own_F p e below s Z hs W k n Q (T.setTop (mkF m pc Ls (y :: x :: rest))) := by
  obtain ⟨locs, X, -⟩ := S.2
  cases cd <;> rcases Classical.em (x = y) with q | q
  · exact own_F.of (fun _ => Jvm.RoadKit.acmp (g := mkF m pc Ls (y :: x :: rest)) X S.hx rfl h1 h2 (pc0 := pc) (pc' := pc') (same := true) rfl (S.dec hd) rfl (decide_eq_true q) ho (by simp [acV, ← hp])) (ft q)
  · exact own_F.of (fun _ => Jvm.RoadKit.acmp (g := mkF m pc Ls (y :: x :: rest)) X S.hx rfl h1 h2 (pc0 := pc) (pc' := pc + 3) (same := false) rfl (S.dec hd) rfl (decide_eq_false q) ho (by simp [acV])) (ff q)
  · exact own_F.of (fun _ => Jvm.RoadKit.acmp (g := mkF m pc Ls (y :: x :: rest)) X S.hx rfl h1 h2 (pc0 := pc) (pc' := pc + 3) (same := true) rfl (S.dec hd) rfl (decide_eq_true q) ho (by simp [acV])) (ff q)
  · exact own_F.of (fun _ => Jvm.RoadKit.acmp (g := mkF m pc Ls (y :: x :: rest)) X S.hx rfl h1 h2 (pc0 := pc) (pc' := pc') (same := false) rfl (S.dec hd) rfl (decide_eq_false q) ho (by simp [acV, ← hp])) (ft q)

/-! the heap -/
theorem own_getF (S : own_S Z hs W own bytes maxL ret nm p l e R s m args below meth c T h cells slots) {R0 O fn d host : String} {index : Nat} (w : (Jvm.Cond.fieldLink own index R0 fn d).before a0 Z = true ∨ (Jvm.Cond.fieldLinkNest own index R0 fn d host).before a0 Z = true) (via : Via Z R0 O fn d)
    {a : Addr} {v : Value} (F : Fld Z h a O fn d v) (hd : decode bytes pc = .ok (.getfield index, 3))
    (f : ∀ T', own_S Z hs W own bytes maxL ret nm p l e R s m args below meth c T' h cells slots → own_F p e below s Z hs W k n Q (T'.setTop (mkF m (pc + 3) Ls (v :: rest)))) : own_F p e below s Z hs W k n Q (T.setTop (mkF m pc Ls (.ref a :: rest))) := by
  have S' := S
  obtain ⟨G, locs, X, N, e0, K⟩ := S
  obtain ⟨T', X', e', st⟩ := getF X S'.hx S'.hZ S'.hown w via e0 F (g := mkF m pc Ls (.ref a :: rest)) rfl rfl (S'.dec hd)
  exact own_F.of st (f T' ⟨G, locs, X', N, e', K⟩)
theorem own_getS (S : own_S Z hs W own bytes maxL ret nm p l e R s m args below meth c T h cells slots) {R0 O fn d host : String} {index : Nat} (w : (Jvm.Cond.fieldLink own index R0 fn d).before a0 Z = true ∨ (Jvm.Cond.fieldLinkNest own index R0 fn d host).before a0 Z = true) (via : Via Z R0 O fn d)
    {v : Value} (F : Sta Z h O fn d v) (hd : decode bytes pc = .ok (.getstatic index, 3))
    (f : ∀ T', own_S Z hs W own bytes maxL ret nm p l e R s m args below meth c T' h cells slots → own_F p e below s Z hs W k n Q (T'.setTop (mkF m (pc + 3) Ls (v :: st)))) : own_F p e below s Z hs W k n Q (T.setTop (mkF m pc Ls st)) := by
  have S' := S
  obtain ⟨G, locs, X, N, e0, K⟩ := S
  obtain ⟨T', X', e', st⟩ := getS2 X S'.hx S'.hZ S'.hown w via e0 F (g := mkF m pc Ls st) rfl (S'.dec hd)
  exact own_F.of st (f T' ⟨G, locs, X', N, e', K⟩)
theorem own_putF (S : own_S Z hs W own bytes maxL ret nm p l e R s m args below meth c T h cells slots) {R0 O fn d host C : String} {index kk : Nat} {ty : FieldType} (w : (Jvm.Cond.fieldLink own index R0 fn d).before a0 Z = true ∨ (Jvm.Cond.fieldLinkNest own index R0 fn d host).before a0 Z = true) (via : Via Z R0 O fn d)
    {a : Addr} {v old : Value} (F : Fld Z h a O fn d old) (E : Exa Z h a C) (L : (Jvm.Cond.lays C O fn d).before a0 Z = true ∨ ((Jvm.Cond.laysFinal C O fn d).before a0 Z = true ∧ own = O ∧ nm = "<init>")) (wi : (Jvm.Cond.instantiable C kk).before a0 Z = true)
    (hty : parseFieldDescriptor d = some ty) (hn : narrow ty v = v) (hf : fits ty v = true) (hd : decode bytes pc = .ok (.putfield index, 3)) (ok : a ∈ W ∨ hs.size ≤ a)
    (f : ∀ T' h', own_S Z hs W own bytes maxL ret nm p l e R s m args below meth c T' h' cells slots → Wr h h' a (Jvm.RoadKit.slotOf Z O fn d) v → own_F p e below s Z hs W k n Q (T'.setTop (mkF m (pc + 3) Ls rest))) : own_F p e below s Z hs W k n Q (T.setTop (mkF m pc Ls (v :: .ref a :: rest))) := by
  have S' := S
  obtain ⟨G, locs, X, N, e0, K⟩ := S
  obtain ⟨T', h', X', e', Wt, st⟩ := putF X S'.hx S'.hZ S'.hown w via e0 F E (L.imp id fun q => ⟨q.1, q.2.1, S'.hnm.trans q.2.2⟩) wi hty hn hf (g := mkF m pc Ls (v :: .ref a :: rest)) rfl rfl (S'.dec hd)
  exact own_F.of st (f T' h' ⟨G, _, X', Fr.snoc X' N (S'.may ok), e', K.wr Wt ok⟩ Wt)
theorem own_new (S : own_S Z hs W own bytes maxL ret nm p l e R s m args below meth c T h cells slots) {C : String} {index sl : Nat} (w : (Jvm.Cond.classLink own index C).before a0 Z = true) (wi : (Jvm.Cond.instantiable C sl).before a0 Z = true) (wz : (Jvm.Cond.initialized C).before a0 Z = true)
    (hd : decode bytes pc = .ok (.new index, 3)) (hc : cells + 1 ≤ R.cells) (hl : slots + sl ≤ R.slots)
    (f : ∀ T' h' a, a = h.size → own_S Z hs W own bytes maxL ret nm p l e R s m args below meth c T' h' (cells + 1) (slots + sl) → Ext h h' → Exa Z h' a C → (∀ {O fn d : String} {ty : FieldType}, Laid Z a0 C O fn d → parseFieldDescriptor d = some ty → Fld Z h' a O fn d (defaultValue ty)) →
      own_F p e below s Z hs W k n Q (T'.setTop (mkF m (pc + 3) Ls (.ref a :: st)))) : own_F p e below s Z hs W k n Q (T.setTop (mkF m pc Ls st)) := by
  have S' := S
  obtain ⟨G, locs, X, N, e0, K⟩ := S
  obtain ⟨T', h', X', e', E, A, D, -, st⟩ := newO X S'.hx S'.hZ S'.hown w wi wz e0 (g := mkF m pc Ls st) rfl (S'.dec hd) hc hl
  exact own_F.of st (f T' h' _ rfl ⟨G, _, X', N, e', K.ext E⟩ E A D)
theorem own_initO (S : own_S Z hs W own bytes maxL ret nm p l e R s m args below meth c T h cells slots) {index : Nat} (w1 : (Jvm.Cond.methodLink own index Lib.objectInit).before a0 Z = true) (w2 : (Jvm.Cond.instanceMethod Lib.objectInit).before a0 Z = true)
    (w3 : (Jvm.Cond.code Lib.objectInit ⟨#[0xb1]⟩ 1 none).before a0 Z = true) {a : Addr} (hsz : Ls.size = maxL) (hd : decode bytes pc = .ok (.invokespecial index, 3)) (hf : 1 ≤ R.frames) (hl : (rest.map fun v => v.category).sum + 12 ≤ R.locals)
    (f : ∀ T', own_S Z hs W own bytes maxL ret nm p l e R s m args below meth c T' h cells slots → own_F p e below s Z hs W k n Q (T'.setTop (mkF m (pc + 3) Ls rest))) : own_F p e below s Z hs W k n Q (T.setTop (mkF m pc Ls (.ref a :: rest))) := by
  have S' := S
  obtain ⟨G, locs, X, N, e0, K⟩ := S
  obtain ⟨T', X', e', st⟩ := initO X S'.hx S'.hZ S'.hown w1 w2 w3 e0 (g := mkF m pc Ls (.ref a :: rest)) rfl (hsz.trans S'.hml.symm) rfl (S'.dec hd) hf (W := (rest.map fun v => v.category).sum) (by show 2 * 0 + _ ≤ _; omega) hl
  exact own_F.of st (f T' ⟨G, locs, X', N, e', K⟩)

/-! calls -/
variable {index : Nat} {y y' : MethodName} {bytes' : ByteArray} {maxL' : Nat} {ret' : Option FieldType} {rm : Room} {W' : List Addr} {Q' : Option Value → Heap → Prop} {argsL : List Value} {ps : List FieldType} {rt : Option FieldType}
theorem own_callS (S : own_S Z hs W own bytes maxL ret nm p l e R s m args below meth c T h cells slots)
    (w1 : (Jvm.Cond.methodLink own index y).before a0 Z = true) (w2 : (Jvm.Cond.static y).before a0 Z = true) (w3 : (Jvm.Cond.initialized y.cls).before a0 Z = true) (w4 : (Jvm.Cond.code y bytes' maxL' ret').before a0 Z = true) (hy : y.cls ≠ "java/lang/invoke/MethodHandle" ∧ y.cls ≠ "java/lang/invoke/VarHandle")
    (C : own_C l Z y bytes' maxL' ret' [] rm W' argsL.toArray h Q') (hWW : ∀ a ∈ W', a ∈ W ∨ hs.size ≤ a) (pd : parseMethodDescriptor y.desc = some ⟨ps, rt⟩) (hlen : argsL.length = ps.length) (hsz : Ls.size = maxL) (hst : st = argsL.reverse ++ rest)
    (hd : decode bytes pc = .ok (.invokestatic index, 3)) (hfr : rm.frames + 1 ≤ R.frames) (hlo : (rest.map fun v => v.category).sum + (maxL' + 11) + rm.locals ≤ R.locals) (hc : cells + rm.cells ≤ R.cells) (hsl : slots + rm.slots ≤ R.slots)
    (f : ∀ T' h' v, own_S Z hs W own bytes maxL ret nm p l e R s m args below meth c T' h' (cells + rm.cells) (slots + rm.slots) → Keep h h' W' → Q' v h' → own_F p e below s Z hs W k n Q (T'.setTop (mkF m (pc + 3) Ls (v.toList ++ rest)))) : own_F p e below s Z hs W k n Q (T.setTop (mkF m pc Ls st)) := by
  have S' := S
  obtain ⟨G, locs, X, N, e0, K⟩ := S
  obtain ⟨v, _, ⟨T', L', k', n'⟩, -, X', ⟨Lc, hQ, h1, h2, h3⟩, st⟩ := Jvm.LawKit.callS X S'.hx (y := y) S'.hown (mvT S'.hZ w1) (mvT S'.hZ w2) (mvT S'.hZ w3) (mvT S'.hZ w4) hy (backOf (W := (rest.map fun v => v.category).sum) (Q := fun v hh L => Fr Z.heap.size L ∧ Keep h hh W' ∧ Q' v hh) C S'.hZ w4 w3 hfr hlo) (g := mkF m pc Ls st) rfl (hsz.trans S'.hml.symm) (argsL := argsL) (rest := rest) (lenOf pd hlen) hst (by show 2 * 0 + _ ≤ _; omega) (S'.dec hd) (fun _ _ => ⟨rfl, e0, hc, hsl⟩)
  dsimp only [Pt.U, Pt.locs, Pt.cells, Pt.slots] at X' h1 h2 h3 st hQ
  subst h1 h2 h3
  obtain ⟨N', K', q⟩ := hQ
  exact own_F.of st (f T' T'.heap v ⟨G, _, X', Fr.app N N', rfl, K.trans K' hWW⟩ K' q)
theorem own_callI (S : own_S Z hs W own bytes maxL ret nm p l e R s m args below meth c T h cells slots) (hy1 : y.name = "<init>")
    (w1 : (Jvm.Cond.methodLink own index y).before a0 Z = true) (w2 : (Jvm.Cond.instanceMethod y).before a0 Z = true) (w3 : (Jvm.Cond.initialized y.cls).before a0 Z = true) (w4 : (Jvm.Cond.code y bytes' maxL' none).before a0 Z = true) (hy : y.cls ≠ "java/lang/invoke/MethodHandle" ∧ y.cls ≠ "java/lang/invoke/VarHandle")
    {a : Addr} (C : own_C l Z y bytes' maxL' none [] rm W' (.ref a :: argsL).toArray h Q') (hWW : ∀ a ∈ W', a ∈ W ∨ hs.size ≤ a) (pd : parseMethodDescriptor y.desc = some ⟨ps, rt⟩) (hlen : argsL.length = ps.length) (hsz : Ls.size = maxL) (hst : st = argsL.reverse ++ .ref a :: rest)
    (hd : decode bytes pc = .ok (.invokespecial index, 3)) (hfr : rm.frames + 1 ≤ R.frames) (hlo : (rest.map fun v => v.category).sum + (maxL' + 11) + rm.locals ≤ R.locals) (hc : cells + rm.cells ≤ R.cells) (hsl : slots + rm.slots ≤ R.slots)
    (f : ∀ T' h' v, own_S Z hs W own bytes maxL ret nm p l e R s m args below meth c T' h' (cells + rm.cells) (slots + rm.slots) → Keep h h' W' → Q' v h' → own_F p e below s Z hs W k n Q (T'.setTop (mkF m (pc + 3) Ls (v.toList ++ rest)))) : own_F p e below s Z hs W k n Q (T.setTop (mkF m pc Ls st)) := by
  have S' := S
  obtain ⟨G, locs, X, N, e0, K⟩ := S
  obtain ⟨v, _, ⟨T', L', k', n'⟩, -, X', ⟨Lc, hQ, h1, h2, h3⟩, st⟩ := X.specialBack S'.hx (y := y) hy1 S'.hown (mvT S'.hZ w1) (mvT S'.hZ w2) (mvT S'.hZ w4) hy (backOf (W := (rest.map fun v => v.category).sum) (Q := fun v hh L => Fr Z.heap.size L ∧ Keep h hh W' ∧ Q' v hh) C S'.hZ w4 w3 hfr hlo) (g := mkF m pc Ls st) rfl (hsz.trans S'.hml.symm) (Steps.refl _) (a := a) (argsL := argsL) (rest := rest) (lenOf pd hlen) hst (by show 2 * 0 + _ ≤ _; omega) (S'.dec hd) (fun _ _ => ⟨rfl, e0, hc, hsl⟩)
  dsimp only [Pt.U, Pt.locs, Pt.cells, Pt.slots] at X' h1 h2 h3 st hQ
  subst h1 h2 h3
  obtain ⟨N', K', q⟩ := hQ
  exact own_F.to st (f T' T'.heap v ⟨G, _, X', Fr.app N N', rfl, K.trans K' hWW⟩ K' q)
theorem own_callV (S : own_S Z hs W own bytes maxL ret nm p l e R s m args below meth c T h cells slots) {Cn : String}
    (w1 : (Jvm.Cond.methodLink own index y).before a0 Z = true) (w2 : (Jvm.Cond.declares y).before a0 Z = true) (nf : NotFace s y) (w3 : (Jvm.Cond.selects Cn y y').before a0 Z = true) (w4 : (Jvm.Cond.instanceMethod y').before a0 Z = true) (w5 : (Jvm.Cond.code y' bytes' maxL' ret').before a0 Z = true) (w6 : (Jvm.Cond.initialized y'.cls).before a0 Z = true) (hy : y.cls ≠ "java/lang/invoke/MethodHandle" ∧ y.cls ≠ "java/lang/invoke/VarHandle")
    {a : Addr} (E : Exa Z h a Cn) (C : own_C l Z y' bytes' maxL' ret' [] rm W' (.ref a :: argsL).toArray h Q') (hWW : ∀ a ∈ W', a ∈ W ∨ hs.size ≤ a) (pd : parseMethodDescriptor y.desc = some ⟨ps, rt⟩) (hlen : argsL.length = ps.length) (hsz : Ls.size = maxL) (hst : st = argsL.reverse ++ .ref a :: rest)
    (hd : decode bytes pc = .ok (.invokevirtual index, 3)) (hfr : rm.frames + 1 ≤ R.frames) (hlo : (rest.map fun v => v.category).sum + (maxL' + 11) + rm.locals ≤ R.locals) (hc : cells + rm.cells ≤ R.cells) (hsl : slots + rm.slots ≤ R.slots)
    (f : ∀ T' h' v, own_S Z hs W own bytes maxL ret nm p l e R s m args below meth c T' h' (cells + rm.cells) (slots + rm.slots) → Keep h h' W' → Q' v h' → own_F p e below s Z hs W k n Q (T'.setTop (mkF m (pc + 3) Ls (v.toList ++ rest)))) : own_F p e below s Z hs W k n Q (T.setTop (mkF m pc Ls st)) := by
  have S' := S
  obtain ⟨G, locs, X, N, e0, K⟩ := S
  obtain ⟨cq, kq, qa, qb, qc⟩ := isOf S'.hZ e0 E
  obtain ⟨v, _, ⟨T', L', k', n'⟩, -, X', ⟨Lc, hQ, h1, h2, h3⟩, st⟩ := X.virtualBack S'.hx (y := y) (z := y') S'.hown (mvT S'.hZ w1) (mvT S'.hZ w2) nf (mvT S'.hZ w3) (mvT S'.hZ w4) hy (backOf (W := (rest.map fun v => v.category).sum) (Q := fun v hh L => Fr Z.heap.size L ∧ Keep h hh W' ∧ Q' v hh) C S'.hZ w5 w6 hfr hlo) qa qc (g := mkF m pc Ls st) rfl (hsz.trans S'.hml.symm) (Steps.refl _) (argsL := argsL) (rest := rest) (lenOf pd hlen) hst (by show 2 * 0 + _ ≤ _; omega) (S'.dec hd) (fun _ _ => ⟨rfl, e0, hc, hsl⟩)
  dsimp only [Pt.U, Pt.locs, Pt.cells, Pt.slots] at X' h1 h2 h3 st hQ
  subst h1 h2 h3
  obtain ⟨N', K', q⟩ := hQ
  exact own_F.to st (f T' T'.heap v ⟨G, _, X', Fr.app N N', rfl, K.trans K' hWW⟩ K' q)
theorem own_nf (S : own_S Z hs W own bytes maxL ret nm p l e R s m args below meth c T h cells slots) {Cn : String} (w : (Jvm.Cond.selects Cn y y).before a0 Z = true) : NotFace s y := notFace_of_selects (args := #[]) (mvT S.hZ w)
theorem own_callX (S : own_S Z hs W own bytes maxL ret nm p l e R s m args below meth c T h cells slots) {Cn : String} {cnt : Nat}
    (w1 : (Jvm.Cond.methodLink own index y).before a0 Z = true) (w2 : (Jvm.Cond.declares y).before a0 Z = true) (w7 : (Jvm.Cond.interfaceMethod y.cls y.cls y.name y.desc).before a0 Z = true) (w3 : (Jvm.Cond.selects Cn y y').before a0 Z = true) (w4 : (Jvm.Cond.instanceMethod y').before a0 Z = true) (w8 : (Jvm.Cond.publicMethod y').before a0 Z = true) (w9 : (Jvm.Cond.unhidden Cn y.name y.desc).before a0 Z = true) (w10 : (Jvm.Cond.castable Cn y.cls).before a0 Z = true)
    (w5 : (Jvm.Cond.code y' bytes' maxL' ret').before a0 Z = true) (w6 : (Jvm.Cond.initialized y'.cls).before a0 Z = true) (hy : y.cls ≠ "java/lang/invoke/MethodHandle" ∧ y.cls ≠ "java/lang/invoke/VarHandle")
    {a : Addr} (E : Exa Z h a Cn) (C : own_C l Z y' bytes' maxL' ret' [] rm W' (.ref a :: argsL).toArray h Q') (hWW : ∀ a ∈ W', a ∈ W ∨ hs.size ≤ a) (pd : parseMethodDescriptor y.desc = some ⟨ps, rt⟩) (hlen : argsL.length = ps.length) (hsz : Ls.size = maxL) (hst : st = argsL.reverse ++ .ref a :: rest)
    (hd : decode bytes pc = .ok (.invokeinterface index cnt, 5)) (hfr : rm.frames + 1 ≤ R.frames) (hlo : (rest.map fun v => v.category).sum + (maxL' + 11) + rm.locals ≤ R.locals) (hc : cells + rm.cells ≤ R.cells) (hsl : slots + rm.slots ≤ R.slots)
    (f : ∀ T' h' v, own_S Z hs W own bytes maxL ret nm p l e R s m args below meth c T' h' (cells + rm.cells) (slots + rm.slots) → Keep h h' W' → Q' v h' → own_F p e below s Z hs W k n Q (T'.setTop (mkF m (pc + 5) Ls (v.toList ++ rest)))) : own_F p e below s Z hs W k n Q (T.setTop (mkF m pc Ls st)) := by
  have S' := S
  obtain ⟨G, locs, X, N, e0, K⟩ := S
  obtain ⟨cq, kq, qa, qb, qc⟩ := isOf S'.hZ e0 E
  obtain ⟨v, _, ⟨T', L', k', n'⟩, -, X', ⟨Lc, hQ, h1, h2, h3⟩, st⟩ := X.interfaceBack S'.hx (xi := y) (y := y') S'.hown (mvT S'.hZ w1) (mvT S'.hZ w2) (mvT S'.hZ w7 (by simp [Cond.onTables, Cond.keepsFace, Cond.keeps, Cond.steady, Cond.faceAtom, hy])) (mvT S'.hZ w3) (mvT S'.hZ w4) (mvT S'.hZ w8) (mvT S'.hZ w9) (mvT S'.hZ w10) hy (backOf (W := (rest.map fun v => v.category).sum) (Q := fun v hh L => Fr Z.heap.size L ∧ Keep h hh W' ∧ Q' v hh) C S'.hZ w5 w6 hfr hlo) qa qb qc (g := mkF m pc Ls st) rfl (hsz.trans S'.hml.symm) (Steps.refl _) (argsL := argsL) (rest := rest) (lenOf pd hlen) hst (by show 2 * 0 + _ ≤ _; omega) (S'.dec hd) (fun _ _ => ⟨rfl, e0, hc, hsl⟩)
  dsimp only [Pt.U, Pt.locs, Pt.cells, Pt.slots] at X' h1 h2 h3 st hQ
  subst h1 h2 h3
  obtain ⟨N', K', q⟩ := hQ
  exact own_F.to st (f T' T'.heap v ⟨G, _, X', Fr.app N N', rfl, K.trans K' hWW⟩ K' q)
theorem own_callP (S : own_S Z hs W own bytes maxL ret nm p l e R s m args below meth c T h cells slots)
    (w1 : (Jvm.Cond.methodLink own index y).before a0 Z = true) (w2 : (Jvm.Cond.instanceMethod y).before a0 Z = true) (w3 : (Jvm.Cond.selects y.cls y y).before a0 Z = true) (wp : (Jvm.Cond.privateMethod y).before a0 Z = true) (w5 : (Jvm.Cond.code y bytes' maxL' ret').before a0 Z = true) (w6 : (Jvm.Cond.initialized y.cls).before a0 Z = true) (hy : y.cls ≠ "java/lang/invoke/MethodHandle" ∧ y.cls ≠ "java/lang/invoke/VarHandle")
    {a : Addr} {Cn : String} (E : Exa Z h a Cn) (C : own_C l Z y bytes' maxL' ret' [] rm W' (.ref a :: argsL).toArray h Q') (hWW : ∀ a ∈ W', a ∈ W ∨ hs.size ≤ a) (pd : parseMethodDescriptor y.desc = some ⟨ps, rt⟩) (hlen : argsL.length = ps.length) (hsz : Ls.size = maxL) (hst : st = argsL.reverse ++ .ref a :: rest)
    (hd : decode bytes pc = .ok (.invokevirtual index, 3)) (hfr : rm.frames + 1 ≤ R.frames) (hlo : (rest.map fun v => v.category).sum + (maxL' + 11) + rm.locals ≤ R.locals) (hc : cells + rm.cells ≤ R.cells) (hsl : slots + rm.slots ≤ R.slots)
    (f : ∀ T' h' v, own_S Z hs W own bytes maxL ret nm p l e R s m args below meth c T' h' (cells + rm.cells) (slots + rm.slots) → Keep h h' W' → Q' v h' → own_F p e below s Z hs W k n Q (T'.setTop (mkF m (pc + 3) Ls (v.toList ++ rest)))) : own_F p e below s Z hs W k n Q (T.setTop (mkF m pc Ls st)) := by
  have S' := S
  obtain ⟨G, locs, X, N, e0, K⟩ := S
  obtain ⟨cq, qq, qq'⟩ := E.cell
  obtain ⟨v, _, ⟨T', L', k', n'⟩, -, X', ⟨Lc, hQ, h1, h2, h3⟩, st⟩ := X.privateBack S'.hx (y := y) S'.hown (mvT S'.hZ w1) (mvT S'.hZ w2) (mvT S'.hZ w3) (Cond.privateMethod_at (mvP S'.hZ wp (args := #[]))) (mvT S'.hZ w5) hy (backOf (W := (rest.map fun v => v.category).sum) (Q := fun v hh L => Fr Z.heap.size L ∧ Keep h hh W' ∧ Q' v hh) C S'.hZ w5 w6 hfr hlo) (g := mkF m pc Ls st) rfl (hsz.trans S'.hml.symm) (Steps.refl _) (a := a) (by rw [e0]; exact qq) qq' (argsL := argsL) (rest := rest) (lenOf pd hlen) hst (by show 2 * 0 + _ ≤ _; omega) (S'.dec hd) (fun _ _ => ⟨rfl, e0, hc, hsl⟩)
  dsimp only [Pt.U, Pt.locs, Pt.cells, Pt.slots] at X' h1 h2 h3 st hQ
  subst h1 h2 h3
  obtain ⟨N', K', q⟩ := hQ
  exact own_F.to st (f T' T'.heap v ⟨G, _, X', Fr.app N N', rfl, K.trans K' hWW⟩ K' q)
theorem own_callU (S : own_S Z hs W own bytes maxL ret nm p l e R s m args below meth c T h cells slots) {Cn owner : String}
    (w1 : (Jvm.Cond.methodLink own index y).before a0 Z = true) (w2 : (Jvm.Cond.sameMethod y.cls owner y.name y.desc).before a0 Z = true) (w7 : (Jvm.Cond.declares ⟨owner, y.name, y.desc⟩).before a0 Z = true) (hy : owner ≠ "java/lang/invoke/MethodHandle" ∧ owner ≠ "java/lang/invoke/VarHandle") (w3 : (Jvm.Cond.selects Cn y y').before a0 Z = true) (w4 : (Jvm.Cond.instanceMethod y').before a0 Z = true) (w5 : (Jvm.Cond.code y' bytes' maxL' ret').before a0 Z = true) (w6 : (Jvm.Cond.initialized y'.cls).before a0 Z = true)
    {a : Addr} (E : Exa Z h a Cn) (C : own_C l Z y' bytes' maxL' ret' [] rm W' (.ref a :: argsL).toArray h Q') (hWW : ∀ a ∈ W', a ∈ W ∨ hs.size ≤ a) (pd : parseMethodDescriptor y.desc = some ⟨ps, rt⟩) (hlen : argsL.length = ps.length) (hsz : Ls.size = maxL) (hst : st = argsL.reverse ++ .ref a :: rest)
    (hd : decode bytes pc = .ok (.invokevirtual index, 3)) (hfr : rm.frames + 1 ≤ R.frames) (hlo : (rest.map fun v => v.category).sum + (maxL' + 11) + rm.locals ≤ R.locals) (hc : cells + rm.cells ≤ R.cells) (hsl : slots + rm.slots ≤ R.slots)
    (f : ∀ T' h' v, own_S Z hs W own bytes maxL ret nm p l e R s m args below meth c T' h' (cells + rm.cells) (slots + rm.slots) → Keep h h' W' → Q' v h' → own_F p e below s Z hs W k n Q (T'.setTop (mkF m (pc + 3) Ls (v.toList ++ rest)))) : own_F p e below s Z hs W k n Q (T.setTop (mkF m pc Ls st)) := by
  have S' := S
  obtain ⟨G, locs, X, N, e0, K⟩ := S
  obtain ⟨cq, kq, qa, qb, qc⟩ := isOf S'.hZ e0 E
  obtain ⟨v, _, ⟨T', L', k', n'⟩, -, X', ⟨Lc, hQ, h1, h2, h3⟩, st⟩ := X.virtualBackUp S'.hx (x := y) (y := y') S'.hown (mvT S'.hZ w1) (mvT S'.hZ w2) (mvT S'.hZ w7) hy (mvT S'.hZ w3) (mvT S'.hZ w4) (backOf (W := (rest.map fun v => v.category).sum) (Q := fun v hh L => Fr Z.heap.size L ∧ Keep h hh W' ∧ Q' v hh) C S'.hZ w5 w6 hfr hlo) qa qc (g := mkF m pc Ls st) rfl (hsz.trans S'.hml.symm) (Steps.refl _) (argsL := argsL) (rest := rest) (lenOf pd hlen) hst (by show 2 * 0 + _ ≤ _; omega) (S'.dec hd) (fun _ _ => ⟨rfl, e0, hc, hsl⟩)
  dsimp only [Pt.U, Pt.locs, Pt.cells, Pt.slots] at X' h1 h2 h3 st hQ
  subst h1 h2 h3
  obtain ⟨N', K', q⟩ := hQ
  exact own_F.to st (f T' T'.heap v ⟨G, _, X', Fr.app N N', rfl, K.trans K' hWW⟩ K' q)
/-! casts and tests of classes -/
theorem own_cast (S : own_S Z hs W own bytes maxL ret nm p l e R s m args below meth c T h cells slots) {Kn : String} {a : Addr} (w : (Jvm.Cond.classLink own index Kn).before a0 Z = true) (F : Ins Z h a Kn true) (hd : decode bytes pc = .ok (.checkcast index, 3))
    (f : ∀ T', own_S Z hs W own bytes maxL ret nm p l e R s m args below meth c T' h cells slots → own_F p e below s Z hs W k n Q (T'.setTop (mkF m (pc + 3) Ls (.ref a :: rest)))) : own_F p e below s Z hs W k n Q (T.setTop (mkF m pc Ls (.ref a :: rest))) := by
  have S' := S
  obtain ⟨G, locs, X, N, e0, K⟩ := S
  obtain ⟨T', X', e', st⟩ := castY X S'.hx S'.hZ S'.hown w e0 F (g := mkF m pc Ls (.ref a :: rest)) rfl rfl (S'.dec hd)
  exact own_F.of st (f T' ⟨G, locs, X', N, e', K⟩)
theorem own_inst (S : own_S Z hs W own bytes maxL ret nm p l e R s m args below meth c T h cells slots) {Kn : String} {a : Addr} (w : (Jvm.Cond.classLink own index Kn).before a0 Z = true) (F : Ins Z h a Kn true) (hd : decode bytes pc = .ok (.instanceof index, 3))
    (f : ∀ T', own_S Z hs W own bytes maxL ret nm p l e R s m args below meth c T' h cells slots → own_F p e below s Z hs W k n Q (T'.setTop (mkF m (pc + 3) Ls (.int (1 : Int32) :: rest)))) : own_F p e below s Z hs W k n Q (T.setTop (mkF m pc Ls (.ref a :: rest))) := by
  have S' := S
  obtain ⟨G, locs, X, N, e0, K⟩ := S
  obtain ⟨T', X', e', st⟩ := instY X S'.hx S'.hZ S'.hown w e0 F (g := mkF m pc Ls (.ref a :: rest)) rfl rfl (S'.dec hd)
  exact own_F.of st (f T' ⟨G, locs, X', N, e', K⟩)

/-! more single steps -/
theorem own_irem (S : own_S Z hs W own bytes maxL ret nm p l e R s m args below meth c T h cells slots) {x y : Int32} {t : State} (hd : decode bytes pc = .ok (.irem, 1)) (hy : y ≠ 0) (k : Steps p.tables e below (T.setTop (mkF m (pc + 1) Ls (.int (x % y) :: rest))) t) : Steps p.tables e below (T.setTop (mkF m pc Ls (.int y :: .int x :: rest))) t := by
  obtain ⟨locs, X, -⟩ := S.2
  exact iremM X S.hx (g := mkF m pc Ls (.int y :: .int x :: rest)) rfl (S.dec hd) rfl hy k
theorem own_lrem (S : own_S Z hs W own bytes maxL ret nm p l e R s m args below meth c T h cells slots) {x y : Int64} {t : State} (hd : decode bytes pc = .ok (.lrem, 1)) (hy : y ≠ 0) (k : Steps p.tables e below (T.setTop (mkF m (pc + 1) Ls (.long (x % y) :: rest))) t) : Steps p.tables e below (T.setTop (mkF m pc Ls (.long y :: .long x :: rest))) t := by
  have q : x - x / y * y = x % y := lrem_mod x y
  exact XS.lrem S.here S.hx (g := mkF m pc Ls (.long y :: .long x :: rest)) rfl (S.dec hd) rfl hy (by rw [q]; exact k)
theorem own_ldcI (S : own_S Z hs W own bytes maxL ret nm p l e R s m args below meth c T h cells slots) {i : Nat} {v : Int32} (w : (Jvm.Cond.constant own i v).before a0 Z = true) (hd : decode bytes pc = .ok (.ldc i, 2)) (f : own_F p e below s Z hs W k n Q (T.setTop (mkF m (pc + 2) Ls (.int v :: st)))) : own_F p e below s Z hs W k n Q (T.setTop (mkF m pc Ls st)) := by
  obtain ⟨locs, X, -⟩ := S.2
  exact own_F.of (X.ldcInt S.hx S.hown (mvT S.hZ w) (g := mkF m pc Ls st) rfl (S.dec hd)) f
theorem own_ldcIw (S : own_S Z hs W own bytes maxL ret nm p l e R s m args below meth c T h cells slots) {i : Nat} {v : Int32} (w : (Jvm.Cond.constant own i v).before a0 Z = true) (hd : decode bytes pc = .ok (.ldc_w i, 3)) (f : own_F p e below s Z hs W k n Q (T.setTop (mkF m (pc + 3) Ls (.int v :: st)))) : own_F p e below s Z hs W k n Q (T.setTop (mkF m pc Ls st)) := by
  obtain ⟨locs, X, -⟩ := S.2
  exact own_F.of (X.ldcwInt S.hx S.hown (mvT S.hZ w) (g := mkF m pc Ls st) rfl (S.dec hd)) f
theorem own_ldcJ (S : own_S Z hs W own bytes maxL ret nm p l e R s m args below meth c T h cells slots) {i : Nat} {v : Int64} (w : (Jvm.Cond.constantLong own i v).before a0 Z = true) (hd : decode bytes pc = .ok (.ldc2_w i, 3)) (f : own_F p e below s Z hs W k n Q (T.setTop (mkF m (pc + 3) Ls (.long v :: st)))) : own_F p e below s Z hs W k n Q (T.setTop (mkF m pc Ls st)) := by
  obtain ⟨locs, X, -⟩ := S.2
  exact own_F.of (X.ldc2Long S.hx S.hown (mvT S.hZ w) (g := mkF m pc Ls st) rfl (S.dec hd)) f
theorem own_tsw (S : own_S Z hs W own bytes maxL ret nm p l e R s m args below meth c T h cells slots) {dflt low high : Int} {offs : Array Int} {len : Nat} {i : Int32} (v o : Int) (pc' : Nat) (hd : decode bytes pc = .ok (.tableswitch dflt low high offs, len)) (hv : i.toInt = v) (hin : ¬ (v < low ∨ v > high)) (hoff : offs[(v - low).toNat]? = some o) (ho : 0 ≤ (pc : Int) + o) (hp : ((pc : Int) + o).toNat = pc')
    (f : own_F p e below s Z hs W k n Q (T.setTop (mkF m pc' Ls rest))) : own_F p e below s Z hs W k n Q (T.setTop (mkF m pc Ls (.int i :: rest))) := by
  subst hv
  exact own_F.of (fun _ => XS.tswIn S.here S.hx (g := mkF m pc Ls (.int i :: rest)) rfl (pc0 := pc) (pc' := pc') rfl (S.dec hd) rfl hin hoff ho hp) f
theorem own_narR {ty : FieldType} {v : Value} (ht : ty.isReference = true) (hv : v.isRef = true) : narrow ty v = v := by cases v <;> simp [Value.isRef] at hv <;> cases ty <;> simp [FieldType.isReference] at ht <;> rfl
theorem own_fitR {ty : FieldType} {v : Value} (ht : ty.isReference = true) (hv : v.isRef = true) : fits ty v = true := by cases v <;> simp [Value.isRef] at hv <;> cases ty <;> simp [FieldType.isReference] at ht <;> rfl

/-! from the case's words to facts of the start -/
theorem own_extRefl (h : Heap) : Ext h h := ⟨Nat.le_refl _, fun _ _ q => q⟩
theorem own_sta {C fn d K : String} (hx : (Jvm.Cond.exactly (.static C fn d) K).value a0 Z none Z [] = some true) (w1 : (Jvm.Cond.initialized C).before a0 Z = true) (w2 : (Jvm.Cond.laysStatic C fn d).before a0 Z = true) :
    ∃ a, (Term.static C fn d).eval a0 Z none [] Z = some (.ref a) ∧ Sta Z Z.heap C fn d (.ref a) ∧ Exa Z Z.heap a K := by
  obtain ⟨a, ev⟩ := exa_v hx
  exact ⟨a, ev, Sta.start ev (Or.inr ⟨w1, w2⟩), Exa.start ev hx⟩
theorem own_fldI {t : Term} {C fn d : String} {a : Addr} {v : Int32} (ev : t.eval a0 Z none [] Z = some (.ref a)) (hx : (Jvm.Cond.eq (.field t C fn d) (.int v)).value a0 Z none Z [] = some true) : Fld Z Z.heap a C fn d (.int v) := by
  obtain ⟨x, y, h1, h2, -⟩ := cmp_v (Or.inl hx)
  have h2' : y = .int v := by simpa [Term.eval] using h2.symm
  subst h2'
  have h3 : x = .int v := by
    simp only [Jvm.Cond.value, h1, h2] at hx
    cases x <;> simp at hx
    rw [hx]
  subst h3
  refine Fld.start ?_
  simpa [Term.eval, ev] using h1
end OwnPrelude

theorem own_w {a0 : Array Value} {Z : State} (hw : ∀ d ∈ tables_1, d.before a0 Z = true) {d : Jvm.Cond} (i : Nat) (q : tables_1[i]? = some d) : d.before a0 Z = true := hw _ (List.mem_of_getElem? q)

theorem own_mayN {Z : State} {hs : Heap} {W : List Addr} {own : String} {bytes : ByteArray} {maxL : Nat} {ret : Option FieldType} {nm : String} {p : Program} {l : Launch} {e : Env} {R : Room} {s : State} {m : MethodId} {args : Array Value} {below : List Frame} {meth : Method} {c : Code} {T : State} {h : Heap} {cells slots : Nat}
    (S : own_S Z hs W own bytes maxL ret nm p l e R s m args below meth c T h cells slots) {a : Addr} (q : a ∈ W ∨ hs.size ≤ a) : Z.heap.size ≤ a := S.may q

def own_cmp (x y : Int32) : Int32 := if x < y then -1 else if x = y then 0 else 1
def own_or (a b d : Addr) : Int32 := if a = b then 0 else if a = d then 0 else 1
def own_h0 (z : Int32) : Int32 := if z = 0 then 1 else 0
def own_h1 (z : Int32) : Int32 := if z = 0 then 0 else 1
def own_h2 (z : Int32) : Int32 := if z < 0 then 1 else 0
def own_h3 (z : Int32) : Int32 := if 0 < z then 0 else 1
def own_h4 (z : Int32) : Int32 := if 0 < z then 1 else 0
def own_h5 (z : Int32) : Int32 := if z < 0 then 0 else 1
theorem own_cmps {x y : Int32} (h : ¬ x = y) : (own_cmp x y = -1 ∧ own_cmp y x = 1) ∨ (own_cmp x y = 1 ∧ own_cmp y x = -1) := by
  have h' : ¬ y = x := fun q => h q.symm
  by_cases q : x < y
  · have q' : ¬ y < x := fun r => Int32.lt_irrefl (Int32.lt_trans q r)
    exact Or.inl ⟨by simp [own_cmp, q], by simp [own_cmp, q', h']⟩
  · have q' : y < x := by
      rw [Int32.lt_iff_toInt_lt] at q ⊢
      have : x.toInt ≠ y.toInt := fun r => h (Int32.toInt_inj.mp r)
      omega
    exact Or.inr ⟨by simp [own_cmp, q, h], by simp [own_cmp, q']⟩
theorem own_e0 {x y : Int32} (h : ¬ x = y) : own_h0 (own_cmp x y) = own_h0 (own_cmp y x) := by rcases own_cmps h with ⟨a, b⟩ | ⟨a, b⟩ <;> rw [a, b] <;> rfl
theorem own_e1 {x y : Int32} (h : ¬ x = y) : own_h1 (own_cmp x y) = own_h1 (own_cmp y x) := by rcases own_cmps h with ⟨a, b⟩ | ⟨a, b⟩ <;> rw [a, b] <;> rfl
theorem own_e2 {x y : Int32} (h : ¬ x = y) : ¬ own_h2 (own_cmp x y) = own_h2 (own_cmp y x) := by rcases own_cmps h with ⟨a, b⟩ | ⟨a, b⟩ <;> rw [a, b] <;> decide
theorem own_e3 {x y : Int32} (h : ¬ x = y) : ¬ own_h3 (own_cmp x y) = own_h3 (own_cmp y x) := by rcases own_cmps h with ⟨a, b⟩ | ⟨a, b⟩ <;> rw [a, b] <;> decide
theorem own_e4 {x y : Int32} (h : ¬ x = y) : ¬ own_h4 (own_cmp x y) = own_h4 (own_cmp y x) := by rcases own_cmps h with ⟨a, b⟩ | ⟨a, b⟩ <;> rw [a, b] <;> decide
theorem own_e5 {x y : Int32} (h : ¬ x = y) : ¬ own_h5 (own_cmp x y) = own_h5 (own_cmp y x) := by rcases own_cmps h with ⟨a, b⟩ | ⟨a, b⟩ <;> rw [a, b] <;> decide

theorem d1_0 : decode method_2_code 0 = .ok (.iload_n 0, 1) := by decide +kernel
theorem d1_1 : decode method_2_code 1 = .ok (.ifCond .ne 7, 3) := by decide +kernel
theorem d1_4 : decode method_2_code 4 = .ok (.getstatic 7, 3) := by decide +kernel
theorem d1_7 : decode method_2_code 7 = .ok (.areturn, 1) := by decide +kernel
theorem d1_8 : decode method_2_code 8 = .ok (.iload_n 0, 1) := by decide +kernel
theorem d1_9 : decode method_2_code 9 = .ok (.iconst 1, 1) := by decide +kernel
theorem d1_10 : decode method_2_code 10 = .ok (.if_icmp .ne 7, 3) := by decide +kernel
theorem d1_13 : decode method_2_code 13 = .ok (.getstatic 13, 3) := by decide +kernel
theorem d1_16 : decode method_2_code 16 = .ok (.areturn, 1) := by decide +kernel
theorem d1_17 : decode method_2_code 17 = .ok (.iload_n 0, 1) := by decide +kernel
theorem d1_18 : decode method_2_code 18 = .ok (.iconst 2, 1) := by decide +kernel
theorem d1_19 : decode method_2_code 19 = .ok (.if_icmp .ne 7, 3) := by decide +kernel
theorem d1_22 : decode method_2_code 22 = .ok (.getstatic 16, 3) := by decide +kernel
theorem d1_25 : decode method_2_code 25 = .ok (.areturn, 1) := by decide +kernel
theorem d1_26 : decode method_2_code 26 = .ok (.iload_n 0, 1) := by decide +kernel
theorem d1_27 : decode method_2_code 27 = .ok (.iconst 3, 1) := by decide +kernel
theorem d1_28 : decode method_2_code 28 = .ok (.if_icmp .ne 7, 3) := by decide +kernel
theorem d1_31 : decode method_2_code 31 = .ok (.getstatic 19, 3) := by decide +kernel
theorem d1_34 : decode method_2_code 34 = .ok (.areturn, 1) := by decide +kernel
theorem d1_35 : decode method_2_code 35 = .ok (.iload_n 0, 1) := by decide +kernel
theorem d1_36 : decode method_2_code 36 = .ok (.iconst 4, 1) := by decide +kernel
theorem d1_37 : decode method_2_code 37 = .ok (.if_icmp .ne 7, 3) := by decide +kernel
theorem d1_40 : decode method_2_code 40 = .ok (.getstatic 22, 3) := by decide +kernel
theorem d1_43 : decode method_2_code 43 = .ok (.areturn, 1) := by decide +kernel
theorem d1_44 : decode method_2_code 44 = .ok (.getstatic 25, 3) := by decide +kernel
theorem d1_47 : decode method_2_code 47 = .ok (.areturn, 1) := by decide +kernel
theorem pn1 : plainFor (⟨"com/example/manysort/manysort/language/RelationOrdersPinLaw", "pick", "(I)Lcom/example/manysort/manysort/language/Comparison$Relation;"⟩ : MethodName) = true := plainFor_of_name (by first | (simp [plainName, overriddenIn]; done) | decide +kernel)
set_option maxRecDepth 65536 in
set_option maxHeartbeats 40000000 in
theorem own_pick (l : Launch) (Z : State) (a0 : Array Value) (hw : ∀ d ∈ tables_1, d.before a0 Z = true) (p1 : Int32) (a_EQUAL : Addr) (a_NOT_EQUAL : Addr) (a_LESS : Addr) (a_LESS_OR_EQUAL : Addr) (a_GREATER : Addr) (a_GREATER_OR_EQUAL : Addr) (h0 : Heap) (hO : Ext Z.heap h0) (S_EQUAL : Sta Z Z.heap "com/example/manysort/manysort/language/Comparison$Relation" "EQUAL" "Lcom/example/manysort/manysort/language/Comparison$Relation;" (.ref a_EQUAL)) (S_NOT_EQUAL : Sta Z Z.heap "com/example/manysort/manysort/language/Comparison$Relation" "NOT_EQUAL" "Lcom/example/manysort/manysort/language/Comparison$Relation;" (.ref a_NOT_EQUAL)) (S_LESS : Sta Z Z.heap "com/example/manysort/manysort/language/Comparison$Relation" "LESS" "Lcom/example/manysort/manysort/language/Comparison$Relation;" (.ref a_LESS)) (S_LESS_OR_EQUAL : Sta Z Z.heap "com/example/manysort/manysort/language/Comparison$Relation" "LESS_OR_EQUAL" "Lcom/example/manysort/manysort/language/Comparison$Relation;" (.ref a_LESS_OR_EQUAL)) (S_GREATER : Sta Z Z.heap "com/example/manysort/manysort/language/Comparison$Relation" "GREATER" "Lcom/example/manysort/manysort/language/Comparison$Relation;" (.ref a_GREATER)) (S_GREATER_OR_EQUAL : Sta Z Z.heap "com/example/manysort/manysort/language/Comparison$Relation" "GREATER_OR_EQUAL" "Lcom/example/manysort/manysort/language/Comparison$Relation;" (.ref a_GREATER_OR_EQUAL)) :
    own_C l Z (⟨"com/example/manysort/manysort/language/RelationOrdersPinLaw", "pick", "(I)Lcom/example/manysort/manysort/language/Comparison$Relation;"⟩ : MethodName) method_2_code 1 (some (.object "com/example/manysort/manysort/language/Comparison$Relation")) [] ({ frames := 0, cells := 0, slots := 0, locals := 0 } : Room) [] #[(.int p1)] h0 (fun v h => h0 = h ∧ (v = some (.ref a_EQUAL) ∨ v = some (.ref a_NOT_EQUAL) ∨ v = some (.ref a_LESS) ∨ v = some (.ref a_LESS_OR_EQUAL) ∨ v = some (.ref a_GREATER) ∨ v = some (.ref a_GREATER_OR_EQUAL))) := by
  refine own_C.of pn1 hO all0 ?_
  intro p e s m below meth c T0 S0
  refine own_F.cast (by first | (simp [entryFrame, mkF, argsToLocals, Value.category]; done) | rfl : entryFrame m #[(.int p1)] 1 = mkF m 0 #[.val (.int p1)] []) ?_
  show own_F p e below s Z _ _ _ _ _ (T0.setTop (mkF m 0 #[.val (.int p1)] []))
  refine own_F.of (fun _ => XS.iloadN S0.here S0.hx rfl (S0.dec d1_0) rfl) ?_
  show own_F p e below s Z _ _ _ _ _ (T0.setTop (mkF m 1 #[.val (.int p1)] [(.int p1)]))
  refine own_if S0 8 d1_1 (by decide) (by decide) (fun (hc1_1 : ¬ (p1 = (0 : Int32))) => ?_) (fun (hc1_1 : p1 = (0 : Int32)) => ?_)
  · show own_F p e below s Z _ _ _ _ _ (T0.setTop (mkF m 8 #[.val (.int p1)] []))
    refine own_F.of (fun _ => XS.iloadN S0.here S0.hx rfl (S0.dec d1_8) rfl) ?_
    show own_F p e below s Z _ _ _ _ _ (T0.setTop (mkF m 9 #[.val (.int p1)] [(.int p1)]))
    refine own_F.of (fun _ => XS.iconst S0.here S0.hx rfl (S0.dec d1_9)) ?_
    show own_F p e below s Z _ _ _ _ _ (T0.setTop (mkF m 10 #[.val (.int p1)] [(.int (1 : Int32)), (.int p1)]))
    refine own_icmp S0 17 d1_10 (by decide) (by decide) (fun (hc10_2 : ¬ (p1 = (1 : Int32))) => ?_) (fun (hc10_2 : p1 = (1 : Int32)) => ?_)
    · show own_F p e below s Z _ _ _ _ _ (T0.setTop (mkF m 17 #[.val (.int p1)] []))
      refine own_F.of (fun _ => XS.iloadN S0.here S0.hx rfl (S0.dec d1_17) rfl) ?_
      show own_F p e below s Z _ _ _ _ _ (T0.setTop (mkF m 18 #[.val (.int p1)] [(.int p1)]))
      refine own_F.of (fun _ => XS.iconst S0.here S0.hx rfl (S0.dec d1_18)) ?_
      show own_F p e below s Z _ _ _ _ _ (T0.setTop (mkF m 19 #[.val (.int p1)] [(.int (2 : Int32)), (.int p1)]))
      refine own_icmp S0 26 d1_19 (by decide) (by decide) (fun (hc19_3 : ¬ (p1 = (2 : Int32))) => ?_) (fun (hc19_3 : p1 = (2 : Int32)) => ?_)
      · show own_F p e below s Z _ _ _ _ _ (T0.setTop (mkF m 26 #[.val (.int p1)] []))
        refine own_F.of (fun _ => XS.iloadN S0.here S0.hx rfl (S0.dec d1_26) rfl) ?_
        show own_F p e below s Z _ _ _ _ _ (T0.setTop (mkF m 27 #[.val (.int p1)] [(.int p1)]))
        refine own_F.of (fun _ => XS.iconst S0.here S0.hx rfl (S0.dec d1_27)) ?_
        show own_F p e below s Z _ _ _ _ _ (T0.setTop (mkF m 28 #[.val (.int p1)] [(.int (3 : Int32)), (.int p1)]))
        refine own_icmp S0 35 d1_28 (by decide) (by decide) (fun (hc28_4 : ¬ (p1 = (3 : Int32))) => ?_) (fun (hc28_4 : p1 = (3 : Int32)) => ?_)
        · show own_F p e below s Z _ _ _ _ _ (T0.setTop (mkF m 35 #[.val (.int p1)] []))
          refine own_F.of (fun _ => XS.iloadN S0.here S0.hx rfl (S0.dec d1_35) rfl) ?_
          show own_F p e below s Z _ _ _ _ _ (T0.setTop (mkF m 36 #[.val (.int p1)] [(.int p1)]))
          refine own_F.of (fun _ => XS.iconst S0.here S0.hx rfl (S0.dec d1_36)) ?_
          show own_F p e below s Z _ _ _ _ _ (T0.setTop (mkF m 37 #[.val (.int p1)] [(.int (4 : Int32)), (.int p1)]))
          refine own_icmp S0 44 d1_37 (by decide) (by decide) (fun (hc37_5 : ¬ (p1 = (4 : Int32))) => ?_) (fun (hc37_5 : p1 = (4 : Int32)) => ?_)
          · show own_F p e below s Z _ _ _ _ _ (T0.setTop (mkF m 44 #[.val (.int p1)] []))
            refine own_getS S0 (host := "") (Or.inl (own_w hw 76 rfl)) Via.refl (S_GREATER_OR_EQUAL.ext S0.old) d1_44 (fun T6 S6 => ?_)
            show own_F p e below s Z _ _ _ _ _ (T6.setTop (mkF m 47 #[.val (.int p1)] [(.ref a_GREATER_OR_EQUAL)]))
            refine own_retA S6 rfl rfl d1_47 (by decide) (by decide) ?_
            exact ⟨rfl, Or.inr (Or.inr (Or.inr (Or.inr (Or.inr (rfl)))))⟩
          · show own_F p e below s Z _ _ _ _ _ (T0.setTop (mkF m 40 #[.val (.int p1)] []))
            refine own_getS S0 (host := "") (Or.inl (own_w hw 82 rfl)) Via.refl (S_GREATER.ext S0.old) d1_40 (fun T7 S7 => ?_)
            show own_F p e below s Z _ _ _ _ _ (T7.setTop (mkF m 43 #[.val (.int p1)] [(.ref a_GREATER)]))
            refine own_retA S7 rfl rfl d1_43 (by decide) (by decide) ?_
            exact ⟨rfl, Or.inr (Or.inr (Or.inr (Or.inr (Or.inl rfl))))⟩
        · show own_F p e below s Z _ _ _ _ _ (T0.setTop (mkF m 31 #[.val (.int p1)] []))
          refine own_getS S0 (host := "") (Or.inl (own_w hw 80 rfl)) Via.refl (S_LESS_OR_EQUAL.ext S0.old) d1_31 (fun T8 S8 => ?_)
          show own_F p e below s Z _ _ _ _ _ (T8.setTop (mkF m 34 #[.val (.int p1)] [(.ref a_LESS_OR_EQUAL)]))
          refine own_retA S8 rfl rfl d1_34 (by decide) (by decide) ?_
          exact ⟨rfl, Or.inr (Or.inr (Or.inr (Or.inl rfl)))⟩
      · show own_F p e below s Z _ _ _ _ _ (T0.setTop (mkF m 22 #[.val (.int p1)] []))
        refine own_getS S0 (host := "") (Or.inl (own_w hw 72 rfl)) Via.refl (S_LESS.ext S0.old) d1_22 (fun T9 S9 => ?_)
        show own_F p e below s Z _ _ _ _ _ (T9.setTop (mkF m 25 #[.val (.int p1)] [(.ref a_LESS)]))
        refine own_retA S9 rfl rfl d1_25 (by decide) (by decide) ?_
        exact ⟨rfl, Or.inr (Or.inr (Or.inl rfl))⟩
    · show own_F p e below s Z _ _ _ _ _ (T0.setTop (mkF m 13 #[.val (.int p1)] []))
      refine own_getS S0 (host := "") (Or.inl (own_w hw 69 rfl)) Via.refl (S_NOT_EQUAL.ext S0.old) d1_13 (fun T10 S10 => ?_)
      show own_F p e below s Z _ _ _ _ _ (T10.setTop (mkF m 16 #[.val (.int p1)] [(.ref a_NOT_EQUAL)]))
      refine own_retA S10 rfl rfl d1_16 (by decide) (by decide) ?_
      exact ⟨rfl, Or.inr (Or.inl rfl)⟩
  · show own_F p e below s Z _ _ _ _ _ (T0.setTop (mkF m 4 #[.val (.int p1)] []))
    refine own_getS S0 (host := "") (Or.inl (own_w hw 5 rfl)) Via.refl (S_EQUAL.ext S0.old) d1_4 (fun T11 S11 => ?_)
    show own_F p e below s Z _ _ _ _ _ (T11.setTop (mkF m 7 #[.val (.int p1)] [(.ref a_EQUAL)]))
    refine own_retA S11 rfl rfl d1_7 (by decide) (by decide) ?_
    exact ⟨rfl, Or.inl rfl⟩
theorem d4_0 : decode prog_101_method_1_code 0 = .ok (.aload_n 0, 1) := by decide +kernel
theorem d4_1 : decode prog_101_method_1_code 1 = .ok (.invokespecial 1, 3) := by decide +kernel
theorem d4_4 : decode prog_101_method_1_code 4 = .ok (.return_, 1) := by decide +kernel
theorem pn4 : plainFor (⟨"com/example/manysort/manysort/language/Term", "<init>", "()V"⟩ : MethodName) = true := plainFor_of_name (by first | (simp [plainName, overriddenIn]; done) | decide +kernel)
set_option maxRecDepth 65536 in
set_option maxHeartbeats 40000000 in
theorem own_TermInit (l : Launch) (Z : State) (a0 : Array Value) (hw : ∀ d ∈ tables_1, d.before a0 Z = true) (a1 : Addr) (h0 : Heap) (hO : Ext Z.heap h0) :
    own_C l Z (⟨"com/example/manysort/manysort/language/Term", "<init>", "()V"⟩ : MethodName) prog_101_method_1_code 1 none [] ({ frames := 1, cells := 0, slots := 0, locals := 12 } : Room) [] #[(.ref a1)] h0 (fun v h => v = none ∧ h0 = h) := by
  refine own_C.of pn4 hO all0 ?_
  intro p e s m below meth c T0 S0
  refine own_F.cast (by first | (simp [entryFrame, mkF, argsToLocals, Value.category]; done) | rfl : entryFrame m #[(.ref a1)] 1 = mkF m 0 #[.val (.ref a1)] []) ?_
  show own_F p e below s Z _ _ _ _ _ (T0.setTop (mkF m 0 #[.val (.ref a1)] []))
  refine own_F.of (fun _ => XS.aloadN S0.here S0.hx rfl (S0.dec d4_0) rfl rfl) ?_
  show own_F p e below s Z _ _ _ _ _ (T0.setTop (mkF m 1 #[.val (.ref a1)] [(.ref a1)]))
  refine own_initO S0 (own_w hw 22 rfl) (own_w hw 23 rfl) (own_w hw 24 rfl) rfl d4_1 (by decide) (Nat.le_of_ble_eq_true rfl) (fun T1 S1 => ?_)
  show own_F p e below s Z _ _ _ _ _ (T1.setTop (mkF m 4 #[.val (.ref a1)] []))
  refine own_retV S1 d4_4 (by decide) (by decide) ?_
  exact ⟨rfl, rfl⟩
theorem d3_0 : decode prog_63_method_2_code 0 = .ok (.aload_n 0, 1) := by decide +kernel
theorem d3_1 : decode prog_63_method_2_code 1 = .ok (.invokespecial 7, 3) := by decide +kernel
theorem d3_4 : decode prog_63_method_2_code 4 = .ok (.aload_n 0, 1) := by decide +kernel
theorem d3_5 : decode prog_63_method_2_code 5 = .ok (.iload_n 1, 1) := by decide +kernel
theorem d3_6 : decode prog_63_method_2_code 6 = .ok (.putfield 12, 3) := by decide +kernel
theorem d3_9 : decode prog_63_method_2_code 9 = .ok (.aload_n 0, 1) := by decide +kernel
theorem d3_10 : decode prog_63_method_2_code 10 = .ok (.aload_n 2, 1) := by decide +kernel
theorem d3_11 : decode prog_63_method_2_code 11 = .ok (.putfield 16, 3) := by decide +kernel
theorem d3_14 : decode prog_63_method_2_code 14 = .ok (.return_, 1) := by decide +kernel
theorem pn3 : plainFor (⟨"com/example/manysort/manysort/language/NaturalNumber", "<init>", "(ILjava/lang/String;)V"⟩ : MethodName) = true := plainFor_of_name (by first | (simp [plainName, overriddenIn]; done) | decide +kernel)
set_option maxRecDepth 65536 in
set_option maxHeartbeats 40000000 in
theorem own_NN2 (l : Launch) (Z : State) (a0 : Array Value) (hw : ∀ d ∈ tables_1, d.before a0 Z = true) (a1 : Addr) (p2 : Int32) (v3 : Value) (h0 : Heap) (hO : Ext Z.heap h0) (hv : v3.isRef = true) (ga : Z.heap.size ≤ a1) (E_a1 : Exa Z h0 a1 "com/example/manysort/manysort/language/NaturalNumber") (F_value : Fld Z h0 a1 "com/example/manysort/manysort/language/NaturalNumber" "value" "I" (.int 0)) (F_written : Fld Z h0 a1 "com/example/manysort/manysort/language/NaturalNumber" "written" "Ljava/lang/String;" .null) :
    own_C l Z (⟨"com/example/manysort/manysort/language/NaturalNumber", "<init>", "(ILjava/lang/String;)V"⟩ : MethodName) prog_63_method_2_code 3 none [] ({ frames := 2, cells := 0, slots := 0, locals := 24 } : Room) [a1] #[(.ref a1), (.int p2), v3] h0 (fun v h => v = none ∧ Fld Z h a1 "com/example/manysort/manysort/language/NaturalNumber" "value" "I" (.int p2)) := by
  refine own_C.of pn3 hO (allS ga all0) ?_
  intro p e s m below meth c T0 S0
  refine own_F.cast (by rcases XT.refc hv with rfl | ⟨_, rfl⟩ <;> first | (simp [entryFrame, mkF, argsToLocals, Value.category]; done) | rfl : entryFrame m #[(.ref a1), (.int p2), v3] 3 = mkF m 0 #[.val (.ref a1), .val (.int p2), .val v3] []) ?_
  show own_F p e below s Z _ _ _ _ _ (T0.setTop (mkF m 0 #[.val (.ref a1), .val (.int p2), .val v3] []))
  refine own_F.of (fun _ => XS.aloadN S0.here S0.hx rfl (S0.dec d3_0) rfl rfl) ?_
  show own_F p e below s Z _ _ _ _ _ (T0.setTop (mkF m 1 #[.val (.ref a1), .val (.int p2), .val v3] [(.ref a1)]))
  refine own_callI S0 (y := (⟨"com/example/manysort/manysort/language/Term", "<init>", "()V"⟩ : MethodName)) rfl (own_w hw 17 rfl) (own_w hw 18 rfl) (own_w hw 20 rfl) (own_w hw 21 rfl) (by decide) (argsL := []) (rest := []) (own_TermInit l Z a0 hw a1 h0 S0.old) all0 (by decide +kernel : parseMethodDescriptor "()V" = some ⟨[], none⟩) rfl rfl rfl d3_1 (by decide) (Nat.le_of_ble_eq_true rfl) (by decide) (by decide) (fun T1 h1 v1 S1 K1 q1 => ?_)
  obtain ⟨rfl, rfl⟩ := q1
  show own_F p e below s Z _ _ _ _ _ (T1.setTop (mkF m 4 #[.val (.ref a1), .val (.int p2), .val v3] []))
  refine own_F.of (fun _ => XS.aloadN S1.here S1.hx rfl (S1.dec d3_4) rfl rfl) ?_
  show own_F p e below s Z _ _ _ _ _ (T1.setTop (mkF m 5 #[.val (.ref a1), .val (.int p2), .val v3] [(.ref a1)]))
  refine own_F.of (fun _ => XS.iloadN S1.here S1.hx rfl (S1.dec d3_5) rfl) ?_
  show own_F p e below s Z _ _ _ _ _ (T1.setTop (mkF m 6 #[.val (.ref a1), .val (.int p2), .val v3] [(.int p2), (.ref a1)]))
  refine own_putF S1 (host := "") (Or.inl (own_w hw 25 rfl)) Via.refl F_value E_a1 (Or.inr ⟨(own_w hw 26 rfl), rfl, rfl⟩) (own_w hw 9 rfl) (ty := .int) (by decide) rfl rfl d3_6 (Or.inl (List.mem_of_getElem? (i := 0) rfl)) (fun T2 h2 S2 W2 => ?_)
  have Fw2 := F_value.same W2
  show own_F p e below s Z _ _ _ _ _ (T2.setTop (mkF m 9 #[.val (.ref a1), .val (.int p2), .val v3] []))
  refine own_F.of (fun _ => XS.aloadN S2.here S2.hx rfl (S2.dec d3_9) rfl rfl) ?_
  show own_F p e below s Z _ _ _ _ _ (T2.setTop (mkF m 10 #[.val (.ref a1), .val (.int p2), .val v3] [(.ref a1)]))
  refine own_F.of (fun _ => XS.aloadN S2.here S2.hx rfl (S2.dec d3_10) rfl hv) ?_
  show own_F p e below s Z _ _ _ _ _ (T2.setTop (mkF m 11 #[.val (.ref a1), .val (.int p2), .val v3] [v3, (.ref a1)]))
  have f3 := (F_written.other W2 (Or.inr (slot_ne (C := "com/example/manysort/manysort/language/NaturalNumber") (Or.inr (own_w hw 28 rfl)) (Or.inr (own_w hw 26 rfl)) (by decide) (t := (.object "java/lang/String")) (t' := .int) (by decide) (by decide))))
  have f4 := (E_a1.wr W2)
  refine own_putF S2 (host := "") (Or.inl (own_w hw 27 rfl)) Via.refl f3 f4 (Or.inr ⟨(own_w hw 28 rfl), rfl, rfl⟩) (own_w hw 9 rfl) (ty := (.object "java/lang/String")) (by decide) (own_narR (by decide) hv) (own_fitR (by decide) hv) d3_11 (Or.inl (List.mem_of_getElem? (i := 0) rfl)) (fun T5 h5 S5 W5 => ?_)
  have Fw5 := f3.same W5
  show own_F p e below s Z _ _ _ _ _ (T5.setTop (mkF m 14 #[.val (.ref a1), .val (.int p2), .val v3] []))
  have f6 := (Fw2.other W5 (Or.inr (slot_ne (C := "com/example/manysort/manysort/language/NaturalNumber") (Or.inr (own_w hw 26 rfl)) (Or.inr (own_w hw 28 rfl)) (by decide) (t := .int) (t' := (.object "java/lang/String")) (by decide) (by decide))))
  refine own_retV S5 d3_14 (by decide) (by decide) ?_
  exact ⟨rfl, f6⟩
theorem d2_0 : decode prog_63_method_1_code 0 = .ok (.aload_n 0, 1) := by decide +kernel
theorem d2_1 : decode prog_63_method_1_code 1 = .ok (.iload_n 1, 1) := by decide +kernel
theorem d2_2 : decode prog_63_method_1_code 2 = .ok (.aconst_null, 1) := by decide +kernel
theorem d2_3 : decode prog_63_method_1_code 3 = .ok (.invokespecial 1, 3) := by decide +kernel
theorem d2_6 : decode prog_63_method_1_code 6 = .ok (.return_, 1) := by decide +kernel
theorem pn2 : plainFor (⟨"com/example/manysort/manysort/language/NaturalNumber", "<init>", "(I)V"⟩ : MethodName) = true := plainFor_of_name (by first | (simp [plainName, overriddenIn]; done) | decide +kernel)
set_option maxRecDepth 65536 in
set_option maxHeartbeats 40000000 in
theorem own_NN1 (l : Launch) (Z : State) (a0 : Array Value) (hw : ∀ d ∈ tables_1, d.before a0 Z = true) (a1 : Addr) (p2 : Int32) (h0 : Heap) (hO : Ext Z.heap h0) (ga : Z.heap.size ≤ a1) (E_a1 : Exa Z h0 a1 "com/example/manysort/manysort/language/NaturalNumber") (F_value : Fld Z h0 a1 "com/example/manysort/manysort/language/NaturalNumber" "value" "I" (.int 0)) (F_written : Fld Z h0 a1 "com/example/manysort/manysort/language/NaturalNumber" "written" "Ljava/lang/String;" .null) :
    own_C l Z (⟨"com/example/manysort/manysort/language/NaturalNumber", "<init>", "(I)V"⟩ : MethodName) prog_63_method_1_code 2 none [] ({ frames := 3, cells := 0, slots := 0, locals := 38 } : Room) [a1] #[(.ref a1), (.int p2)] h0 (fun v h => v = none ∧ Fld Z h a1 "com/example/manysort/manysort/language/NaturalNumber" "value" "I" (.int p2)) := by
  refine own_C.of pn2 hO (allS ga all0) ?_
  intro p e s m below meth c T0 S0
  refine own_F.cast (by first | (simp [entryFrame, mkF, argsToLocals, Value.category]; done) | rfl : entryFrame m #[(.ref a1), (.int p2)] 2 = mkF m 0 #[.val (.ref a1), .val (.int p2)] []) ?_
  show own_F p e below s Z _ _ _ _ _ (T0.setTop (mkF m 0 #[.val (.ref a1), .val (.int p2)] []))
  refine own_F.of (fun _ => XS.aloadN S0.here S0.hx rfl (S0.dec d2_0) rfl rfl) ?_
  show own_F p e below s Z _ _ _ _ _ (T0.setTop (mkF m 1 #[.val (.ref a1), .val (.int p2)] [(.ref a1)]))
  refine own_F.of (fun _ => XS.iloadN S0.here S0.hx rfl (S0.dec d2_1) rfl) ?_
  show own_F p e below s Z _ _ _ _ _ (T0.setTop (mkF m 2 #[.val (.ref a1), .val (.int p2)] [(.int p2), (.ref a1)]))
  refine own_F.of (fun _ => XS.aconstNull S0.here S0.hx rfl (S0.dec d2_2)) ?_
  show own_F p e below s Z _ _ _ _ _ (T0.setTop (mkF m 3 #[.val (.ref a1), .val (.int p2)] [.null, (.int p2), (.ref a1)]))
  refine own_callI S0 (y := (⟨"com/example/manysort/manysort/language/NaturalNumber", "<init>", "(ILjava/lang/String;)V"⟩ : MethodName)) rfl (own_w hw 14 rfl) (own_w hw 15 rfl) (own_w hw 10 rfl) (own_w hw 16 rfl) (by decide) (argsL := [(.int p2), .null]) (rest := []) (own_NN2 l Z a0 hw a1 p2 .null h0 S0.old rfl ga E_a1 F_value F_written) (allS (Or.inl (List.mem_of_getElem? (i := 0) rfl)) all0) (by decide +kernel : parseMethodDescriptor "(ILjava/lang/String;)V" = some ⟨[.int, (.object "java/lang/String")], none⟩) rfl rfl rfl d2_3 (by decide) (Nat.le_of_ble_eq_true rfl) (by decide) (by decide) (fun T1 h1 v1 S1 K1 q1 => ?_)
  obtain ⟨rfl, F1⟩ := q1
  show own_F p e below s Z _ _ _ _ _ (T1.setTop (mkF m 6 #[.val (.ref a1), .val (.int p2)] []))
  refine own_retV S1 d2_6 (by decide) (by decide) ?_
  exact ⟨rfl, F1⟩
theorem d6_0 : decode prog_21_method_6_code 0 = .ok (.aload_n 0, 1) := by decide +kernel
theorem d6_1 : decode prog_21_method_6_code 1 = .ok (.getstatic 3, 3) := by decide +kernel
theorem d6_4 : decode prog_21_method_6_code 4 = .ok (.if_acmp .eq 14, 3) := by decide +kernel
theorem d6_7 : decode prog_21_method_6_code 7 = .ok (.aload_n 0, 1) := by decide +kernel
theorem d6_8 : decode prog_21_method_6_code 8 = .ok (.getstatic 7, 3) := by decide +kernel
theorem d6_11 : decode prog_21_method_6_code 11 = .ok (.if_acmp .eq 7, 3) := by decide +kernel
theorem d6_14 : decode prog_21_method_6_code 14 = .ok (.iconst 1, 1) := by decide +kernel
theorem d6_15 : decode prog_21_method_6_code 15 = .ok (.goto 4, 3) := by decide +kernel
theorem d6_18 : decode prog_21_method_6_code 18 = .ok (.iconst 0, 1) := by decide +kernel
theorem d6_19 : decode prog_21_method_6_code 19 = .ok (.ireturn, 1) := by decide +kernel
theorem pn6 : plainFor (⟨"com/example/manysort/manysort/language/Comparison$Relation", "orders", "()Z"⟩ : MethodName) = true := plainFor_of_name (by first | (simp [plainName, overriddenIn]; done) | decide +kernel)
set_option maxRecDepth 65536 in
set_option maxHeartbeats 40000000 in
theorem own_orders (l : Launch) (Z : State) (a0 : Array Value) (hw : ∀ d ∈ tables_1, d.before a0 Z = true) (a1 : Addr) (a_EQUAL : Addr) (a_NOT_EQUAL : Addr) (a_LESS : Addr) (a_LESS_OR_EQUAL : Addr) (a_GREATER : Addr) (a_GREATER_OR_EQUAL : Addr) (h0 : Heap) (hO : Ext Z.heap h0) (S_EQUAL : Sta Z Z.heap "com/example/manysort/manysort/language/Comparison$Relation" "EQUAL" "Lcom/example/manysort/manysort/language/Comparison$Relation;" (.ref a_EQUAL)) (S_NOT_EQUAL : Sta Z Z.heap "com/example/manysort/manysort/language/Comparison$Relation" "NOT_EQUAL" "Lcom/example/manysort/manysort/language/Comparison$Relation;" (.ref a_NOT_EQUAL)) (S_LESS : Sta Z Z.heap "com/example/manysort/manysort/language/Comparison$Relation" "LESS" "Lcom/example/manysort/manysort/language/Comparison$Relation;" (.ref a_LESS)) (S_LESS_OR_EQUAL : Sta Z Z.heap "com/example/manysort/manysort/language/Comparison$Relation" "LESS_OR_EQUAL" "Lcom/example/manysort/manysort/language/Comparison$Relation;" (.ref a_LESS_OR_EQUAL)) (S_GREATER : Sta Z Z.heap "com/example/manysort/manysort/language/Comparison$Relation" "GREATER" "Lcom/example/manysort/manysort/language/Comparison$Relation;" (.ref a_GREATER)) (S_GREATER_OR_EQUAL : Sta Z Z.heap "com/example/manysort/manysort/language/Comparison$Relation" "GREATER_OR_EQUAL" "Lcom/example/manysort/manysort/language/Comparison$Relation;" (.ref a_GREATER_OR_EQUAL)) :
    own_C l Z (⟨"com/example/manysort/manysort/language/Comparison$Relation", "orders", "()Z"⟩ : MethodName) prog_21_method_6_code 1 (some .boolean) [] ({ frames := 0, cells := 0, slots := 0, locals := 0 } : Room) [] #[(.ref a1)] h0 (fun v h => v = some (.int (own_or a1 a_EQUAL a_NOT_EQUAL)) ∧ h0 = h) := by
  refine own_C.of pn6 hO all0 ?_
  intro p e s m below meth c T0 S0
  refine own_F.cast (by first | (simp [entryFrame, mkF, argsToLocals, Value.category]; done) | rfl : entryFrame m #[(.ref a1)] 1 = mkF m 0 #[.val (.ref a1)] []) ?_
  show own_F p e below s Z _ _ _ _ _ (T0.setTop (mkF m 0 #[.val (.ref a1)] []))
  refine own_F.of (fun _ => XS.aloadN S0.here S0.hx rfl (S0.dec d6_0) rfl rfl) ?_
  show own_F p e below s Z _ _ _ _ _ (T0.setTop (mkF m 1 #[.val (.ref a1)] [(.ref a1)]))
  refine own_getS S0 (host := "") (Or.inl (own_w hw 34 rfl)) Via.refl (S_EQUAL.ext S0.old) d6_1 (fun T1 S1 => ?_)
  show own_F p e below s Z _ _ _ _ _ (T1.setTop (mkF m 4 #[.val (.ref a1)] [(.ref a_EQUAL), (.ref a1)]))
  refine own_acmp S1 rfl rfl 18 d6_4 (by decide) (by decide) (fun (hc4_2 : (Value.ref a1) = (Value.ref a_EQUAL)) => ?_) (fun (hc4_2 : ¬ ((Value.ref a1) = (Value.ref a_EQUAL))) => ?_)
  · show own_F p e below s Z _ _ _ _ _ (T1.setTop (mkF m 18 #[.val (.ref a1)] []))
    refine own_F.of (fun _ => XS.iconst S1.here S1.hx rfl (S1.dec d6_18)) ?_
    show own_F p e below s Z _ _ _ _ _ (T1.setTop (mkF m 19 #[.val (.ref a1)] [(.int (0 : Int32))]))
    refine own_retZ S1 (by simp) d6_19 (by decide) (by decide) ?_
    have hh : own_or a1 a_EQUAL a_NOT_EQUAL = (0 : Int32) := by simp_all [own_or]
    rw [hh]; exact ⟨rfl, rfl⟩
  · show own_F p e below s Z _ _ _ _ _ (T1.setTop (mkF m 7 #[.val (.ref a1)] []))
    refine own_F.of (fun _ => XS.aloadN S1.here S1.hx rfl (S1.dec d6_7) rfl rfl) ?_
    show own_F p e below s Z _ _ _ _ _ (T1.setTop (mkF m 8 #[.val (.ref a1)] [(.ref a1)]))
    refine own_getS S1 (host := "") (Or.inl (own_w hw 71 rfl)) Via.refl (S_NOT_EQUAL.ext S1.old) d6_8 (fun T3 S3 => ?_)
    show own_F p e below s Z _ _ _ _ _ (T3.setTop (mkF m 11 #[.val (.ref a1)] [(.ref a_NOT_EQUAL), (.ref a1)]))
    refine own_acmp S3 rfl rfl 18 d6_11 (by decide) (by decide) (fun (hc11_4 : (Value.ref a1) = (Value.ref a_NOT_EQUAL)) => ?_) (fun (hc11_4 : ¬ ((Value.ref a1) = (Value.ref a_NOT_EQUAL))) => ?_)
    · show own_F p e below s Z _ _ _ _ _ (T3.setTop (mkF m 18 #[.val (.ref a1)] []))
      refine own_F.of (fun _ => XS.iconst S3.here S3.hx rfl (S3.dec d6_18)) ?_
      show own_F p e below s Z _ _ _ _ _ (T3.setTop (mkF m 19 #[.val (.ref a1)] [(.int (0 : Int32))]))
      refine own_retZ S3 (by simp) d6_19 (by decide) (by decide) ?_
      have hh : own_or a1 a_EQUAL a_NOT_EQUAL = (0 : Int32) := by simp_all [own_or]
      rw [hh]; exact ⟨rfl, rfl⟩
    · show own_F p e below s Z _ _ _ _ _ (T3.setTop (mkF m 14 #[.val (.ref a1)] []))
      refine own_F.of (fun _ => XS.iconst S3.here S3.hx rfl (S3.dec d6_14)) ?_
      show own_F p e below s Z _ _ _ _ _ (T3.setTop (mkF m 15 #[.val (.ref a1)] [(.int (1 : Int32))]))
      refine own_F.of (fun _ => XS.goto S3.here S3.hx rfl (pc0 := 15) (pc' := 19) rfl (S3.dec d6_15) (by decide) (by decide)) ?_
      show own_F p e below s Z _ _ _ _ _ (T3.setTop (mkF m 19 #[.val (.ref a1)] [(.int (1 : Int32))]))
      refine own_retZ S3 (by simp) d6_19 (by decide) (by decide) ?_
      have hh : own_or a1 a_EQUAL a_NOT_EQUAL = (1 : Int32) := by simp_all [own_or]
      rw [hh]; exact ⟨rfl, rfl⟩
theorem d9_0 : decode prog_63_method_4_code 0 = .ok (.aload_n 0, 1) := by decide +kernel
theorem d9_1 : decode prog_63_method_4_code 1 = .ok (.getfield 12, 3) := by decide +kernel
theorem d9_4 : decode prog_63_method_4_code 4 = .ok (.ireturn, 1) := by decide +kernel
theorem pn9 : plainFor (⟨"com/example/manysort/manysort/language/NaturalNumber", "getValue", "()I"⟩ : MethodName) = true := plainFor_of_name (by first | (simp [plainName, overriddenIn]; done) | decide +kernel)
set_option maxRecDepth 65536 in
set_option maxHeartbeats 40000000 in
theorem own_getValue (l : Launch) (Z : State) (a0 : Array Value) (hw : ∀ d ∈ tables_1, d.before a0 Z = true) (a1 : Addr) (x : Int32) (h0 : Heap) (hO : Ext Z.heap h0) (F_v : Fld Z h0 a1 "com/example/manysort/manysort/language/NaturalNumber" "value" "I" (.int x)) :
    own_C l Z (⟨"com/example/manysort/manysort/language/NaturalNumber", "getValue", "()I"⟩ : MethodName) prog_63_method_4_code 1 (some .int) [] ({ frames := 0, cells := 0, slots := 0, locals := 0 } : Room) [] #[(.ref a1)] h0 (fun v h => v = some (.int x) ∧ h0 = h) := by
  refine own_C.of pn9 hO all0 ?_
  intro p e s m below meth c T0 S0
  refine own_F.cast (by first | (simp [entryFrame, mkF, argsToLocals, Value.category]; done) | rfl : entryFrame m #[(.ref a1)] 1 = mkF m 0 #[.val (.ref a1)] []) ?_
  show own_F p e below s Z _ _ _ _ _ (T0.setTop (mkF m 0 #[.val (.ref a1)] []))
  refine own_F.of (fun _ => XS.aloadN S0.here S0.hx rfl (S0.dec d9_0) rfl rfl) ?_
  show own_F p e below s Z _ _ _ _ _ (T0.setTop (mkF m 1 #[.val (.ref a1)] [(.ref a1)]))
  refine own_getF S0 (host := "") (Or.inl (own_w hw 25 rfl)) Via.refl F_v d9_1 (fun T1 S1 => ?_)
  show own_F p e below s Z _ _ _ _ _ (T1.setTop (mkF m 4 #[.val (.ref a1)] [(.int x)]))
  refine own_retI S1 d9_4 (by decide) (by decide) ?_
  exact ⟨rfl, rfl⟩
theorem d10_0 : decode jdk_33_method_40_code 0 = .ok (.iload_n 0, 1) := by decide +kernel
theorem d10_1 : decode jdk_33_method_40_code 1 = .ok (.iload_n 1, 1) := by decide +kernel
theorem d10_2 : decode jdk_33_method_40_code 2 = .ok (.if_icmp .ge 7, 3) := by decide +kernel
theorem d10_5 : decode jdk_33_method_40_code 5 = .ok (.iconst (-1), 1) := by decide +kernel
theorem d10_6 : decode jdk_33_method_40_code 6 = .ok (.goto 13, 3) := by decide +kernel
theorem d10_9 : decode jdk_33_method_40_code 9 = .ok (.iload_n 0, 1) := by decide +kernel
theorem d10_10 : decode jdk_33_method_40_code 10 = .ok (.iload_n 1, 1) := by decide +kernel
theorem d10_11 : decode jdk_33_method_40_code 11 = .ok (.if_icmp .ne 7, 3) := by decide +kernel
theorem d10_14 : decode jdk_33_method_40_code 14 = .ok (.iconst 0, 1) := by decide +kernel
theorem d10_15 : decode jdk_33_method_40_code 15 = .ok (.goto 4, 3) := by decide +kernel
theorem d10_18 : decode jdk_33_method_40_code 18 = .ok (.iconst 1, 1) := by decide +kernel
theorem d10_19 : decode jdk_33_method_40_code 19 = .ok (.ireturn, 1) := by decide +kernel
theorem pn10 : plainFor (⟨"java/lang/Integer", "compare", "(II)I"⟩ : MethodName) = true := plainFor_of_name (by first | (simp [plainName, overriddenIn]; done) | decide +kernel)
set_option maxRecDepth 65536 in
set_option maxHeartbeats 40000000 in
theorem own_compare (l : Launch) (Z : State) (a0 : Array Value) (hw : ∀ d ∈ tables_1, d.before a0 Z = true) (p1 p2 : Int32) (h0 : Heap) (hO : Ext Z.heap h0) :
    own_C l Z (⟨"java/lang/Integer", "compare", "(II)I"⟩ : MethodName) jdk_33_method_40_code 2 (some .int) [] ({ frames := 0, cells := 0, slots := 0, locals := 0 } : Room) [] #[(.int p1), (.int p2)] h0 (fun v h => v = some (.int (own_cmp p1 p2)) ∧ h0 = h) := by
  refine own_C.of pn10 hO all0 ?_
  intro p e s m below meth c T0 S0
  refine own_F.cast (by first | (simp [entryFrame, mkF, argsToLocals, Value.category]; done) | rfl : entryFrame m #[(.int p1), (.int p2)] 2 = mkF m 0 #[.val (.int p1), .val (.int p2)] []) ?_
  show own_F p e below s Z _ _ _ _ _ (T0.setTop (mkF m 0 #[.val (.int p1), .val (.int p2)] []))
  refine own_F.of (fun _ => XS.iloadN S0.here S0.hx rfl (S0.dec d10_0) rfl) ?_
  show own_F p e below s Z _ _ _ _ _ (T0.setTop (mkF m 1 #[.val (.int p1), .val (.int p2)] [(.int p1)]))
  refine own_F.of (fun _ => XS.iloadN S0.here S0.hx rfl (S0.dec d10_1) rfl) ?_
  show own_F p e below s Z _ _ _ _ _ (T0.setTop (mkF m 2 #[.val (.int p1), .val (.int p2)] [(.int p2), (.int p1)]))
  refine own_icmp S0 9 d10_2 (by decide) (by decide) (fun (hc2_1 : ¬ (p1 < p2)) => ?_) (fun (hc2_1 : p1 < p2) => ?_)
  · show own_F p e below s Z _ _ _ _ _ (T0.setTop (mkF m 9 #[.val (.int p1), .val (.int p2)] []))
    refine own_F.of (fun _ => XS.iloadN S0.here S0.hx rfl (S0.dec d10_9) rfl) ?_
    show own_F p e below s Z _ _ _ _ _ (T0.setTop (mkF m 10 #[.val (.int p1), .val (.int p2)] [(.int p1)]))
    refine own_F.of (fun _ => XS.iloadN S0.here S0.hx rfl (S0.dec d10_10) rfl) ?_
    show own_F p e below s Z _ _ _ _ _ (T0.setTop (mkF m 11 #[.val (.int p1), .val (.int p2)] [(.int p2), (.int p1)]))
    refine own_icmp S0 18 d10_11 (by decide) (by decide) (fun (hc11_2 : ¬ (p1 = p2)) => ?_) (fun (hc11_2 : p1 = p2) => ?_)
    · show own_F p e below s Z _ _ _ _ _ (T0.setTop (mkF m 18 #[.val (.int p1), .val (.int p2)] []))
      refine own_F.of (fun _ => XS.iconst S0.here S0.hx rfl (S0.dec d10_18)) ?_
      show own_F p e below s Z _ _ _ _ _ (T0.setTop (mkF m 19 #[.val (.int p1), .val (.int p2)] [(.int (1 : Int32))]))
      refine own_retI S0 d10_19 (by decide) (by decide) ?_
      have hh : own_cmp p1 p2 = (1 : Int32) := by simp [own_cmp, hc2_1, hc11_2]
      rw [hh]; exact ⟨rfl, rfl⟩
    · show own_F p e below s Z _ _ _ _ _ (T0.setTop (mkF m 14 #[.val (.int p1), .val (.int p2)] []))
      refine own_F.of (fun _ => XS.iconst S0.here S0.hx rfl (S0.dec d10_14)) ?_
      show own_F p e below s Z _ _ _ _ _ (T0.setTop (mkF m 15 #[.val (.int p1), .val (.int p2)] [(.int (0 : Int32))]))
      refine own_F.of (fun _ => XS.goto S0.here S0.hx rfl (pc0 := 15) (pc' := 19) rfl (S0.dec d10_15) (by decide) (by decide)) ?_
      show own_F p e below s Z _ _ _ _ _ (T0.setTop (mkF m 19 #[.val (.int p1), .val (.int p2)] [(.int (0 : Int32))]))
      refine own_retI S0 d10_19 (by decide) (by decide) ?_
      have hh : own_cmp p1 p2 = (0 : Int32) := by simp [own_cmp, hc2_1, hc11_2]
      rw [hh]; exact ⟨rfl, rfl⟩
  · show own_F p e below s Z _ _ _ _ _ (T0.setTop (mkF m 5 #[.val (.int p1), .val (.int p2)] []))
    refine own_F.of (fun _ => XS.iconst S0.here S0.hx rfl (S0.dec d10_5)) ?_
    show own_F p e below s Z _ _ _ _ _ (T0.setTop (mkF m 6 #[.val (.int p1), .val (.int p2)] [(.int (-1 : Int32))]))
    refine own_F.of (fun _ => XS.goto S0.here S0.hx rfl (pc0 := 6) (pc' := 19) rfl (S0.dec d10_6) (by decide) (by decide)) ?_
    show own_F p e below s Z _ _ _ _ _ (T0.setTop (mkF m 19 #[.val (.int p1), .val (.int p2)] [(.int (-1 : Int32))]))
    refine own_retI S0 d10_19 (by decide) (by decide) ?_
    have hh : own_cmp p1 p2 = (-1 : Int32) := by simp [own_cmp, hc2_1]
    rw [hh]; exact ⟨rfl, rfl⟩
theorem d11_0 : decode jdk_37_method_2_code 0 = .ok (.aload_n 0, 1) := by decide +kernel
theorem d11_1 : decode jdk_37_method_2_code 1 = .ok (.getfield 7, 3) := by decide +kernel
theorem d11_4 : decode jdk_37_method_2_code 4 = .ok (.ireturn, 1) := by decide +kernel
theorem pn11 : plainFor (⟨"java/lang/Enum", "ordinal", "()I"⟩ : MethodName) = true := plainFor_of_name (by first | (simp [plainName, overriddenIn]; done) | decide +kernel)
set_option maxRecDepth 65536 in
set_option maxHeartbeats 40000000 in
theorem own_ordinal (l : Launch) (Z : State) (a0 : Array Value) (hw : ∀ d ∈ tables_1, d.before a0 Z = true) (a1 : Addr) (o : Int32) (h0 : Heap) (hO : Ext Z.heap h0) (F_o : Fld Z Z.heap a1 "java/lang/Enum" "ordinal" "I" (.int o)) :
    own_C l Z (⟨"java/lang/Enum", "ordinal", "()I"⟩ : MethodName) jdk_37_method_2_code 1 (some .int) [] ({ frames := 0, cells := 0, slots := 0, locals := 0 } : Room) [] #[(.ref a1)] h0 (fun v h => v = some (.int o) ∧ h0 = h) := by
  refine own_C.of pn11 hO all0 ?_
  intro p e s m below meth c T0 S0
  refine own_F.cast (by first | (simp [entryFrame, mkF, argsToLocals, Value.category]; done) | rfl : entryFrame m #[(.ref a1)] 1 = mkF m 0 #[.val (.ref a1)] []) ?_
  show own_F p e below s Z _ _ _ _ _ (T0.setTop (mkF m 0 #[.val (.ref a1)] []))
  refine own_F.of (fun _ => XS.aloadN S0.here S0.hx rfl (S0.dec d11_0) rfl rfl) ?_
  show own_F p e below s Z _ _ _ _ _ (T0.setTop (mkF m 1 #[.val (.ref a1)] [(.ref a1)]))
  refine own_getF S0 (host := "") (Or.inl (own_w hw 62 rfl)) Via.refl (F_o.ext S0.old) d11_1 (fun T1 S1 => ?_)
  show own_F p e below s Z _ _ _ _ _ (T1.setTop (mkF m 4 #[.val (.ref a1)] [(.int o)]))
  refine own_retI S1 d11_4 (by decide) (by decide) ?_
  exact ⟨rfl, rfl⟩
theorem d8_0 : decode prog_20_method_7_code 0 = .ok (.aload_n 0, 1) := by decide +kernel
theorem d8_1 : decode prog_20_method_7_code 1 = .ok (.aload_n 1, 1) := by decide +kernel
theorem d8_2 : decode prog_20_method_7_code 2 = .ok (.if_acmp .ne 8, 3) := by decide +kernel
theorem d8_5 : decode prog_20_method_7_code 5 = .ok (.iconst 0, 1) := by decide +kernel
theorem d8_6 : decode prog_20_method_7_code 6 = .ok (.istore_n 2, 1) := by decide +kernel
theorem d8_7 : decode prog_20_method_7_code 7 = .ok (.goto 163, 3) := by decide +kernel
theorem d8_10 : decode prog_20_method_7_code 10 = .ok (.aload_n 0, 1) := by decide +kernel
theorem d8_11 : decode prog_20_method_7_code 11 = .ok (.instanceof 27, 3) := by decide +kernel
theorem d8_14 : decode prog_20_method_7_code 14 = .ok (.ifCond .eq 31, 3) := by decide +kernel
theorem d8_17 : decode prog_20_method_7_code 17 = .ok (.aload_n 1, 1) := by decide +kernel
theorem d8_18 : decode prog_20_method_7_code 18 = .ok (.instanceof 27, 3) := by decide +kernel
theorem d8_21 : decode prog_20_method_7_code 21 = .ok (.ifCond .eq 24, 3) := by decide +kernel
theorem d8_24 : decode prog_20_method_7_code 24 = .ok (.aload_n 0, 1) := by decide +kernel
theorem d8_25 : decode prog_20_method_7_code 25 = .ok (.checkcast 27, 3) := by decide +kernel
theorem d8_28 : decode prog_20_method_7_code 28 = .ok (.invokevirtual 29, 3) := by decide +kernel
theorem d8_31 : decode prog_20_method_7_code 31 = .ok (.aload_n 1, 1) := by decide +kernel
theorem d8_32 : decode prog_20_method_7_code 32 = .ok (.checkcast 27, 3) := by decide +kernel
theorem d8_35 : decode prog_20_method_7_code 35 = .ok (.invokevirtual 29, 3) := by decide +kernel
theorem d8_38 : decode prog_20_method_7_code 38 = .ok (.invokestatic 33, 3) := by decide +kernel
theorem d8_41 : decode prog_20_method_7_code 41 = .ok (.istore_n 2, 1) := by decide +kernel
theorem d8_42 : decode prog_20_method_7_code 42 = .ok (.goto 128, 3) := by decide +kernel
theorem d8_45 : decode prog_20_method_7_code 45 = .ok (.aload_n 0, 1) := by decide +kernel
theorem d8_46 : decode prog_20_method_7_code 46 = .ok (.instanceof 27, 3) := by decide +kernel
theorem d8_49 : decode prog_20_method_7_code 49 = .ok (.ifCond .ne 10, 3) := by decide +kernel
theorem d8_52 : decode prog_20_method_7_code 52 = .ok (.aload_n 1, 1) := by decide +kernel
theorem d8_53 : decode prog_20_method_7_code 53 = .ok (.instanceof 27, 3) := by decide +kernel
theorem d8_56 : decode prog_20_method_7_code 56 = .ok (.ifCond .eq 19, 3) := by decide +kernel
theorem d8_59 : decode prog_20_method_7_code 59 = .ok (.aload_n 0, 1) := by decide +kernel
theorem d8_60 : decode prog_20_method_7_code 60 = .ok (.instanceof 27, 3) := by decide +kernel
theorem d8_63 : decode prog_20_method_7_code 63 = .ok (.ifCond .eq 7, 3) := by decide +kernel
theorem d8_66 : decode prog_20_method_7_code 66 = .ok (.iconst (-1), 1) := by decide +kernel
theorem d8_67 : decode prog_20_method_7_code 67 = .ok (.goto 4, 3) := by decide +kernel
theorem d8_70 : decode prog_20_method_7_code 70 = .ok (.iconst 1, 1) := by decide +kernel
theorem d8_71 : decode prog_20_method_7_code 71 = .ok (.istore_n 2, 1) := by decide +kernel
theorem d8_72 : decode prog_20_method_7_code 72 = .ok (.goto 98, 3) := by decide +kernel
theorem d8_75 : decode prog_20_method_7_code 75 = .ok (.aload_n 0, 1) := by decide +kernel
theorem d8_76 : decode prog_20_method_7_code 76 = .ok (.invokestatic 39, 3) := by decide +kernel
theorem d8_79 : decode prog_20_method_7_code 79 = .ok (.astore_n 3, 1) := by decide +kernel
theorem d8_80 : decode prog_20_method_7_code 80 = .ok (.aload_n 1, 1) := by decide +kernel
theorem d8_81 : decode prog_20_method_7_code 81 = .ok (.invokestatic 39, 3) := by decide +kernel
theorem d8_84 : decode prog_20_method_7_code 84 = .ok (.astore 4, 2) := by decide +kernel
theorem d8_86 : decode prog_20_method_7_code 86 = .ok (.aload_n 3, 1) := by decide +kernel
theorem d8_87 : decode prog_20_method_7_code 87 = .ok (.invokeinterface 43 1, 5) := by decide +kernel
theorem d8_92 : decode prog_20_method_7_code 92 = .ok (.aload 4, 2) := by decide +kernel
theorem d8_94 : decode prog_20_method_7_code 94 = .ok (.invokeinterface 43 1, 5) := by decide +kernel
theorem d8_99 : decode prog_20_method_7_code 99 = .ok (.invokestatic 33, 3) := by decide +kernel
theorem d8_102 : decode prog_20_method_7_code 102 = .ok (.istore_n 2, 1) := by decide +kernel
theorem d8_103 : decode prog_20_method_7_code 103 = .ok (.iload_n 2, 1) := by decide +kernel
theorem d8_104 : decode prog_20_method_7_code 104 = .ok (.ifCond .ne 15, 3) := by decide +kernel
theorem d8_107 : decode prog_20_method_7_code 107 = .ok (.aload_n 0, 1) := by decide +kernel
theorem d8_108 : decode prog_20_method_7_code 108 = .ok (.invokestatic 48, 3) := by decide +kernel
theorem d8_111 : decode prog_20_method_7_code 111 = .ok (.aload_n 1, 1) := by decide +kernel
theorem d8_112 : decode prog_20_method_7_code 112 = .ok (.invokestatic 48, 3) := by decide +kernel
theorem d8_115 : decode prog_20_method_7_code 115 = .ok (.invokevirtual 52, 3) := by decide +kernel
theorem d8_118 : decode prog_20_method_7_code 118 = .ok (.istore_n 2, 1) := by decide +kernel
theorem d8_119 : decode prog_20_method_7_code 119 = .ok (.iconst 0, 1) := by decide +kernel
theorem d8_120 : decode prog_20_method_7_code 120 = .ok (.istore 5, 2) := by decide +kernel
theorem d8_122 : decode prog_20_method_7_code 122 = .ok (.iload_n 2, 1) := by decide +kernel
theorem d8_123 : decode prog_20_method_7_code 123 = .ok (.ifCond .ne 47, 3) := by decide +kernel
theorem d8_126 : decode prog_20_method_7_code 126 = .ok (.iload 5, 2) := by decide +kernel
theorem d8_128 : decode prog_20_method_7_code 128 = .ok (.aload_n 3, 1) := by decide +kernel
theorem d8_129 : decode prog_20_method_7_code 129 = .ok (.invokeinterface 43 1, 5) := by decide +kernel
theorem d8_134 : decode prog_20_method_7_code 134 = .ok (.if_icmp .ge 36, 3) := by decide +kernel
theorem d8_137 : decode prog_20_method_7_code 137 = .ok (.aload_n 3, 1) := by decide +kernel
theorem d8_138 : decode prog_20_method_7_code 138 = .ok (.iload 5, 2) := by decide +kernel
theorem d8_140 : decode prog_20_method_7_code 140 = .ok (.invokeinterface 58 2, 5) := by decide +kernel
theorem d8_145 : decode prog_20_method_7_code 145 = .ok (.checkcast 62, 3) := by decide +kernel
theorem d8_148 : decode prog_20_method_7_code 148 = .ok (.aload 4, 2) := by decide +kernel
theorem d8_150 : decode prog_20_method_7_code 150 = .ok (.iload 5, 2) := by decide +kernel
theorem d8_152 : decode prog_20_method_7_code 152 = .ok (.invokeinterface 58 2, 5) := by decide +kernel
theorem d8_157 : decode prog_20_method_7_code 157 = .ok (.checkcast 62, 3) := by decide +kernel
theorem d8_160 : decode prog_20_method_7_code 160 = .ok (.invokestatic 64, 3) := by decide +kernel
theorem d8_163 : decode prog_20_method_7_code 163 = .ok (.istore_n 2, 1) := by decide +kernel
theorem d8_164 : decode prog_20_method_7_code 164 = .ok (.iinc 5 1, 3) := by decide +kernel
theorem d8_167 : decode prog_20_method_7_code 167 = .ok (.goto (-45), 3) := by decide +kernel
theorem d8_170 : decode prog_20_method_7_code 170 = .ok (.iload_n 2, 1) := by decide +kernel
theorem d8_171 : decode prog_20_method_7_code 171 = .ok (.ireturn, 1) := by decide +kernel
theorem pn8 : plainFor (⟨"com/example/manysort/manysort/language/Comparison", "order", "(Lcom/example/manysort/manysort/language/Term;Lcom/example/manysort/manysort/language/Term;)I"⟩ : MethodName) = true := plainFor_of_name (by first | (simp [plainName, overriddenIn]; done) | decide +kernel)
set_option maxRecDepth 65536 in
set_option maxHeartbeats 40000000 in
theorem own_order (l : Launch) (Z : State) (a0 : Array Value) (hw : ∀ d ∈ tables_1, d.before a0 Z = true) (a1 a2 : Addr) (x y : Int32) (h0 : Heap) (hO : Ext Z.heap h0) (E1 : Exa Z h0 a1 "com/example/manysort/manysort/language/NaturalNumber") (E2 : Exa Z h0 a2 "com/example/manysort/manysort/language/NaturalNumber") (F1 : Fld Z h0 a1 "com/example/manysort/manysort/language/NaturalNumber" "value" "I" (.int x)) (F2 : Fld Z h0 a2 "com/example/manysort/manysort/language/NaturalNumber" "value" "I" (.int y)) (ne : a1 ≠ a2) :
    own_C l Z (⟨"com/example/manysort/manysort/language/Comparison", "order", "(Lcom/example/manysort/manysort/language/Term;Lcom/example/manysort/manysort/language/Term;)I"⟩ : MethodName) prog_20_method_7_code 6 (some .int) [] ({ frames := 1, cells := 0, slots := 0, locals := 13 } : Room) [] #[(.ref a1), (.ref a2)] h0 (fun v h => v = some (.int (own_cmp x y)) ∧ h0 = h) := by
  refine own_C.of pn8 hO all0 ?_
  intro p e s m below meth c T0 S0
  refine own_F.cast (by first | (simp [entryFrame, mkF, argsToLocals, Value.category]; done) | rfl : entryFrame m #[(.ref a1), (.ref a2)] 6 = mkF m 0 #[.val (.ref a1), .val (.ref a2), .unset, .unset, .unset, .unset] []) ?_
  show own_F p e below s Z _ _ _ _ _ (T0.setTop (mkF m 0 #[.val (.ref a1), .val (.ref a2), .unset, .unset, .unset, .unset] []))
  refine own_F.of (fun _ => XS.aloadN S0.here S0.hx rfl (S0.dec d8_0) rfl rfl) ?_
  show own_F p e below s Z _ _ _ _ _ (T0.setTop (mkF m 1 #[.val (.ref a1), .val (.ref a2), .unset, .unset, .unset, .unset] [(.ref a1)]))
  refine own_F.of (fun _ => XS.aloadN S0.here S0.hx rfl (S0.dec d8_1) rfl rfl) ?_
  show own_F p e below s Z _ _ _ _ _ (T0.setTop (mkF m 2 #[.val (.ref a1), .val (.ref a2), .unset, .unset, .unset, .unset] [(.ref a2), (.ref a1)]))
  refine own_acmp S0 rfl rfl 10 d8_2 (by decide) (by decide) (fun (hc2_1 : ¬ ((Value.ref a1) = (Value.ref a2))) => ?_) (fun (hc2_1 : (Value.ref a1) = (Value.ref a2)) => False.elim (ne (Value.ref.inj hc2_1)))
  show own_F p e below s Z _ _ _ _ _ (T0.setTop (mkF m 10 #[.val (.ref a1), .val (.ref a2), .unset, .unset, .unset, .unset] []))
  refine own_F.of (fun _ => XS.aloadN S0.here S0.hx rfl (S0.dec d8_10) rfl rfl) ?_
  show own_F p e below s Z _ _ _ _ _ (T0.setTop (mkF m 11 #[.val (.ref a1), .val (.ref a2), .unset, .unset, .unset, .unset] [(.ref a1)]))
  refine own_inst S0 (own_w hw 44 rfl) (Ins.self E1) d8_11 (fun T2 S2 => ?_)
  show own_F p e below s Z _ _ _ _ _ (T2.setTop (mkF m 14 #[.val (.ref a1), .val (.ref a2), .unset, .unset, .unset, .unset] [(.int (1 : Int32))]))
  refine own_if S2 45 d8_14 (by decide) (by decide) (fun (hc14_3 : (1 : Int32) = (0 : Int32)) => False.elim (absurd hc14_3 (by decide))) (fun (hc14_3 : ¬ ((1 : Int32) = (0 : Int32))) => ?_)
  show own_F p e below s Z _ _ _ _ _ (T2.setTop (mkF m 17 #[.val (.ref a1), .val (.ref a2), .unset, .unset, .unset, .unset] []))
  refine own_F.of (fun _ => XS.aloadN S2.here S2.hx rfl (S2.dec d8_17) rfl rfl) ?_
  show own_F p e below s Z _ _ _ _ _ (T2.setTop (mkF m 18 #[.val (.ref a1), .val (.ref a2), .unset, .unset, .unset, .unset] [(.ref a2)]))
  refine own_inst S2 (own_w hw 44 rfl) (Ins.self E2) d8_18 (fun T4 S4 => ?_)
  show own_F p e below s Z _ _ _ _ _ (T4.setTop (mkF m 21 #[.val (.ref a1), .val (.ref a2), .unset, .unset, .unset, .unset] [(.int (1 : Int32))]))
  refine own_if S4 45 d8_21 (by decide) (by decide) (fun (hc21_5 : (1 : Int32) = (0 : Int32)) => False.elim (absurd hc21_5 (by decide))) (fun (hc21_5 : ¬ ((1 : Int32) = (0 : Int32))) => ?_)
  show own_F p e below s Z _ _ _ _ _ (T4.setTop (mkF m 24 #[.val (.ref a1), .val (.ref a2), .unset, .unset, .unset, .unset] []))
  refine own_F.of (fun _ => XS.aloadN S4.here S4.hx rfl (S4.dec d8_24) rfl rfl) ?_
  show own_F p e below s Z _ _ _ _ _ (T4.setTop (mkF m 25 #[.val (.ref a1), .val (.ref a2), .unset, .unset, .unset, .unset] [(.ref a1)]))
  refine own_cast S4 (own_w hw 44 rfl) (Ins.self E1) d8_25 (fun T6 S6 => ?_)
  show own_F p e below s Z _ _ _ _ _ (T6.setTop (mkF m 28 #[.val (.ref a1), .val (.ref a2), .unset, .unset, .unset, .unset] [(.ref a1)]))
  refine own_callV S6 (y := (⟨"com/example/manysort/manysort/language/NaturalNumber", "getValue", "()I"⟩ : MethodName)) (y' := (⟨"com/example/manysort/manysort/language/NaturalNumber", "getValue", "()I"⟩ : MethodName)) (own_w hw 46 rfl) (own_w hw 47 rfl) (own_nf S6 (own_w hw 49 rfl)) (own_w hw 49 rfl) (own_w hw 48 rfl) (own_w hw 50 rfl) (own_w hw 10 rfl) (by decide) E1 (argsL := []) (rest := []) (own_getValue l Z a0 hw a1 x h0 S6.old F1) all0 (by decide +kernel : parseMethodDescriptor "()I" = some ⟨[], some .int⟩) rfl rfl rfl d8_28 (by decide) (Nat.le_of_ble_eq_true rfl) (by decide) (by decide) (fun T7 h7 v7 S7 K7 q7 => ?_)
  obtain ⟨rfl, rfl⟩ := q7
  show own_F p e below s Z _ _ _ _ _ (T7.setTop (mkF m 31 #[.val (.ref a1), .val (.ref a2), .unset, .unset, .unset, .unset] [(.int x)]))
  refine own_F.of (fun _ => XS.aloadN S7.here S7.hx rfl (S7.dec d8_31) rfl rfl) ?_
  show own_F p e below s Z _ _ _ _ _ (T7.setTop (mkF m 32 #[.val (.ref a1), .val (.ref a2), .unset, .unset, .unset, .unset] [(.ref a2), (.int x)]))
  refine own_cast S7 (own_w hw 44 rfl) (Ins.self E2) d8_32 (fun T8 S8 => ?_)
  show own_F p e below s Z _ _ _ _ _ (T8.setTop (mkF m 35 #[.val (.ref a1), .val (.ref a2), .unset, .unset, .unset, .unset] [(.ref a2), (.int x)]))
  refine own_callV S8 (y := (⟨"com/example/manysort/manysort/language/NaturalNumber", "getValue", "()I"⟩ : MethodName)) (y' := (⟨"com/example/manysort/manysort/language/NaturalNumber", "getValue", "()I"⟩ : MethodName)) (own_w hw 46 rfl) (own_w hw 47 rfl) (own_nf S8 (own_w hw 49 rfl)) (own_w hw 49 rfl) (own_w hw 48 rfl) (own_w hw 50 rfl) (own_w hw 10 rfl) (by decide) E2 (argsL := []) (rest := [(.int x)]) (own_getValue l Z a0 hw a2 y h0 S8.old F2) all0 (by decide +kernel : parseMethodDescriptor "()I" = some ⟨[], some .int⟩) rfl rfl rfl d8_35 (by decide) (Nat.le_of_ble_eq_true rfl) (by decide) (by decide) (fun T9 h9 v9 S9 K9 q9 => ?_)
  obtain ⟨rfl, rfl⟩ := q9
  show own_F p e below s Z _ _ _ _ _ (T9.setTop (mkF m 38 #[.val (.ref a1), .val (.ref a2), .unset, .unset, .unset, .unset] [(.int y), (.int x)]))
  refine own_callS S9 (y := (⟨"java/lang/Integer", "compare", "(II)I"⟩ : MethodName)) (own_w hw 51 rfl) (own_w hw 52 rfl) (own_w hw 53 rfl) (own_w hw 54 rfl) (by decide) (argsL := [(.int x), (.int y)]) (rest := []) (own_compare l Z a0 hw x y h0 S9.old) all0 (by decide +kernel : parseMethodDescriptor "(II)I" = some ⟨[.int, .int], some .int⟩) rfl rfl rfl d8_38 (by decide) (Nat.le_of_ble_eq_true rfl) (by decide) (by decide) (fun T10 h10 v10 S10 K10 q10 => ?_)
  obtain ⟨rfl, rfl⟩ := q10
  show own_F p e below s Z _ _ _ _ _ (T10.setTop (mkF m 41 #[.val (.ref a1), .val (.ref a2), .unset, .unset, .unset, .unset] [(.int (own_cmp x y))]))
  refine own_F.of (fun _ => XS.istoreN S10.here S10.hx rfl (S10.dec d8_41) rfl (l' := #[.val (.ref a1), .val (.ref a2), .val (.int (own_cmp x y)), .unset, .unset, .unset]) rfl) ?_
  show own_F p e below s Z _ _ _ _ _ (T10.setTop (mkF m 42 #[.val (.ref a1), .val (.ref a2), .val (.int (own_cmp x y)), .unset, .unset, .unset] []))
  refine own_F.of (fun _ => XS.goto S10.here S10.hx rfl (pc0 := 42) (pc' := 170) rfl (S10.dec d8_42) (by decide) (by decide)) ?_
  show own_F p e below s Z _ _ _ _ _ (T10.setTop (mkF m 170 #[.val (.ref a1), .val (.ref a2), .val (.int (own_cmp x y)), .unset, .unset, .unset] []))
  refine own_F.of (fun _ => XS.iloadN S10.here S10.hx rfl (S10.dec d8_170) rfl) ?_
  show own_F p e below s Z _ _ _ _ _ (T10.setTop (mkF m 171 #[.val (.ref a1), .val (.ref a2), .val (.int (own_cmp x y)), .unset, .unset, .unset] [(.int (own_cmp x y))]))
  refine own_retI S10 d8_171 (by decide) (by decide) ?_
  exact ⟨rfl, rfl⟩
theorem d7_0 : decode prog_21_method_9_code 0 = .ok (.aload_n 1, 1) := by decide +kernel
theorem d7_1 : decode prog_21_method_9_code 1 = .ok (.aload_n 2, 1) := by decide +kernel
theorem d7_2 : decode prog_21_method_9_code 2 = .ok (.invokestatic 64, 3) := by decide +kernel
theorem d7_5 : decode prog_21_method_9_code 5 = .ok (.istore_n 3, 1) := by decide +kernel
theorem d7_6 : decode prog_21_method_9_code 6 = .ok (.aload_n 0, 1) := by decide +kernel
theorem d7_7 : decode prog_21_method_9_code 7 = .ok (.invokevirtual 55, 3) := by decide +kernel
theorem d7_10 : decode prog_21_method_9_code 10 = .ok (.tableswitch 38 0 5 #[48, 60, 72, 84, 96, 108], 38) := by decide +kernel
theorem d7_48 : decode prog_21_method_9_code 48 = .ok (.new 59, 3) := by decide +kernel
theorem d7_51 : decode prog_21_method_9_code 51 = .ok (.dup, 1) := by decide +kernel
theorem d7_52 : decode prog_21_method_9_code 52 = .ok (.aconst_null, 1) := by decide +kernel
theorem d7_53 : decode prog_21_method_9_code 53 = .ok (.aconst_null, 1) := by decide +kernel
theorem d7_54 : decode prog_21_method_9_code 54 = .ok (.invokespecial 61, 3) := by decide +kernel
theorem d7_57 : decode prog_21_method_9_code 57 = .ok (.athrow, 1) := by decide +kernel
theorem d7_58 : decode prog_21_method_9_code 58 = .ok (.iload_n 3, 1) := by decide +kernel
theorem d7_59 : decode prog_21_method_9_code 59 = .ok (.ifCond .ne 7, 3) := by decide +kernel
theorem d7_62 : decode prog_21_method_9_code 62 = .ok (.iconst 1, 1) := by decide +kernel
theorem d7_63 : decode prog_21_method_9_code 63 = .ok (.goto 64, 3) := by decide +kernel
theorem d7_66 : decode prog_21_method_9_code 66 = .ok (.iconst 0, 1) := by decide +kernel
theorem d7_67 : decode prog_21_method_9_code 67 = .ok (.goto 60, 3) := by decide +kernel
theorem d7_70 : decode prog_21_method_9_code 70 = .ok (.iload_n 3, 1) := by decide +kernel
theorem d7_71 : decode prog_21_method_9_code 71 = .ok (.ifCond .eq 7, 3) := by decide +kernel
theorem d7_74 : decode prog_21_method_9_code 74 = .ok (.iconst 1, 1) := by decide +kernel
theorem d7_75 : decode prog_21_method_9_code 75 = .ok (.goto 52, 3) := by decide +kernel
theorem d7_78 : decode prog_21_method_9_code 78 = .ok (.iconst 0, 1) := by decide +kernel
theorem d7_79 : decode prog_21_method_9_code 79 = .ok (.goto 48, 3) := by decide +kernel
theorem d7_82 : decode prog_21_method_9_code 82 = .ok (.iload_n 3, 1) := by decide +kernel
theorem d7_83 : decode prog_21_method_9_code 83 = .ok (.ifCond .ge 7, 3) := by decide +kernel
theorem d7_86 : decode prog_21_method_9_code 86 = .ok (.iconst 1, 1) := by decide +kernel
theorem d7_87 : decode prog_21_method_9_code 87 = .ok (.goto 40, 3) := by decide +kernel
theorem d7_90 : decode prog_21_method_9_code 90 = .ok (.iconst 0, 1) := by decide +kernel
theorem d7_91 : decode prog_21_method_9_code 91 = .ok (.goto 36, 3) := by decide +kernel
theorem d7_94 : decode prog_21_method_9_code 94 = .ok (.iload_n 3, 1) := by decide +kernel
theorem d7_95 : decode prog_21_method_9_code 95 = .ok (.ifCond .gt 7, 3) := by decide +kernel
theorem d7_98 : decode prog_21_method_9_code 98 = .ok (.iconst 1, 1) := by decide +kernel
theorem d7_99 : decode prog_21_method_9_code 99 = .ok (.goto 28, 3) := by decide +kernel
theorem d7_102 : decode prog_21_method_9_code 102 = .ok (.iconst 0, 1) := by decide +kernel
theorem d7_103 : decode prog_21_method_9_code 103 = .ok (.goto 24, 3) := by decide +kernel
theorem d7_106 : decode prog_21_method_9_code 106 = .ok (.iload_n 3, 1) := by decide +kernel
theorem d7_107 : decode prog_21_method_9_code 107 = .ok (.ifCond .le 7, 3) := by decide +kernel
theorem d7_110 : decode prog_21_method_9_code 110 = .ok (.iconst 1, 1) := by decide +kernel
theorem d7_111 : decode prog_21_method_9_code 111 = .ok (.goto 16, 3) := by decide +kernel
theorem d7_114 : decode prog_21_method_9_code 114 = .ok (.iconst 0, 1) := by decide +kernel
theorem d7_115 : decode prog_21_method_9_code 115 = .ok (.goto 12, 3) := by decide +kernel
theorem d7_118 : decode prog_21_method_9_code 118 = .ok (.iload_n 3, 1) := by decide +kernel
theorem d7_119 : decode prog_21_method_9_code 119 = .ok (.ifCond .lt 7, 3) := by decide +kernel
theorem d7_122 : decode prog_21_method_9_code 122 = .ok (.iconst 1, 1) := by decide +kernel
theorem d7_123 : decode prog_21_method_9_code 123 = .ok (.goto 4, 3) := by decide +kernel
theorem d7_126 : decode prog_21_method_9_code 126 = .ok (.iconst 0, 1) := by decide +kernel
theorem d7_127 : decode prog_21_method_9_code 127 = .ok (.ireturn, 1) := by decide +kernel
theorem pn7 : plainFor (⟨"com/example/manysort/manysort/language/Comparison$Relation", "holds", "(Lcom/example/manysort/manysort/language/Term;Lcom/example/manysort/manysort/language/Term;)Z"⟩ : MethodName) = true := plainFor_of_name (by first | (simp [plainName, overriddenIn]; done) | decide +kernel)
set_option maxRecDepth 65536 in
set_option maxHeartbeats 40000000 in
theorem own_holds0 (l : Launch) (Z : State) (a0 : Array Value) (hw : ∀ d ∈ tables_1, d.before a0 Z = true) (r a1 a2 : Addr) (x y : Int32) (h0 : Heap) (hO : Ext Z.heap h0) (X_r : Exa Z Z.heap r "com/example/manysort/manysort/language/Comparison$Relation") (F_o : Fld Z Z.heap r "java/lang/Enum" "ordinal" "I" (.int (0 : Int32))) (E1 : Exa Z h0 a1 "com/example/manysort/manysort/language/NaturalNumber") (E2 : Exa Z h0 a2 "com/example/manysort/manysort/language/NaturalNumber") (F1 : Fld Z h0 a1 "com/example/manysort/manysort/language/NaturalNumber" "value" "I" (.int x)) (F2 : Fld Z h0 a2 "com/example/manysort/manysort/language/NaturalNumber" "value" "I" (.int y)) (ne : a1 ≠ a2) :
    own_C l Z (⟨"com/example/manysort/manysort/language/Comparison$Relation", "holds", "(Lcom/example/manysort/manysort/language/Term;Lcom/example/manysort/manysort/language/Term;)Z"⟩ : MethodName) prog_21_method_9_code 4 (some .boolean) [] ({ frames := 2, cells := 0, slots := 0, locals := 30 } : Room) [] #[(.ref r), (.ref a1), (.ref a2)] h0 (fun v h => v = some (.int (own_h0 (own_cmp x y))) ∧ h0 = h) := by
  refine own_C.of pn7 hO all0 ?_
  intro p e s m below meth c T0 S0
  refine own_F.cast (by first | (simp [entryFrame, mkF, argsToLocals, Value.category]; done) | rfl : entryFrame m #[(.ref r), (.ref a1), (.ref a2)] 4 = mkF m 0 #[.val (.ref r), .val (.ref a1), .val (.ref a2), .unset] []) ?_
  show own_F p e below s Z _ _ _ _ _ (T0.setTop (mkF m 0 #[.val (.ref r), .val (.ref a1), .val (.ref a2), .unset] []))
  refine own_F.of (fun _ => XS.aloadN S0.here S0.hx rfl (S0.dec d7_0) rfl rfl) ?_
  show own_F p e below s Z _ _ _ _ _ (T0.setTop (mkF m 1 #[.val (.ref r), .val (.ref a1), .val (.ref a2), .unset] [(.ref a1)]))
  refine own_F.of (fun _ => XS.aloadN S0.here S0.hx rfl (S0.dec d7_1) rfl rfl) ?_
  show own_F p e below s Z _ _ _ _ _ (T0.setTop (mkF m 2 #[.val (.ref r), .val (.ref a1), .val (.ref a2), .unset] [(.ref a2), (.ref a1)]))
  refine own_callS S0 (y := (⟨"com/example/manysort/manysort/language/Comparison", "order", "(Lcom/example/manysort/manysort/language/Term;Lcom/example/manysort/manysort/language/Term;)I"⟩ : MethodName)) (own_w hw 40 rfl) (own_w hw 41 rfl) (own_w hw 42 rfl) (own_w hw 43 rfl) (by decide) (argsL := [(.ref a1), (.ref a2)]) (rest := []) (own_order l Z a0 hw a1 a2 x y h0 S0.old E1 E2 F1 F2 ne) all0 (by decide +kernel : parseMethodDescriptor "(Lcom/example/manysort/manysort/language/Term;Lcom/example/manysort/manysort/language/Term;)I" = some ⟨[(.object "com/example/manysort/manysort/language/Term"), (.object "com/example/manysort/manysort/language/Term")], some .int⟩) rfl rfl rfl d7_2 (by decide) (Nat.le_of_ble_eq_true rfl) (by decide) (by decide) (fun T1 h1 v1 S1 K1 q1 => ?_)
  obtain ⟨rfl, rfl⟩ := q1
  show own_F p e below s Z _ _ _ _ _ (T1.setTop (mkF m 5 #[.val (.ref r), .val (.ref a1), .val (.ref a2), .unset] [(.int (own_cmp x y))]))
  refine own_F.of (fun _ => XS.istoreN S1.here S1.hx rfl (S1.dec d7_5) rfl (l' := #[.val (.ref r), .val (.ref a1), .val (.ref a2), .val (.int (own_cmp x y))]) rfl) ?_
  show own_F p e below s Z _ _ _ _ _ (T1.setTop (mkF m 6 #[.val (.ref r), .val (.ref a1), .val (.ref a2), .val (.int (own_cmp x y))] []))
  refine own_F.of (fun _ => XS.aloadN S1.here S1.hx rfl (S1.dec d7_6) rfl rfl) ?_
  show own_F p e below s Z _ _ _ _ _ (T1.setTop (mkF m 7 #[.val (.ref r), .val (.ref a1), .val (.ref a2), .val (.int (own_cmp x y))] [(.ref r)]))
  refine own_callU S1 (y := (⟨"com/example/manysort/manysort/language/Comparison$Relation", "ordinal", "()I"⟩ : MethodName)) (y' := (⟨"java/lang/Enum", "ordinal", "()I"⟩ : MethodName)) (own_w hw 55 rfl) (own_w hw 56 rfl) (own_w hw 57 rfl) (by decide) (own_w hw 59 rfl) (own_w hw 58 rfl) (own_w hw 61 rfl) (own_w hw 60 rfl) (X_r.ext S1.old) (argsL := []) (rest := []) (own_ordinal l Z a0 hw r (0 : Int32) h0 S1.old F_o) all0 (by decide +kernel : parseMethodDescriptor "()I" = some ⟨[], some .int⟩) rfl rfl rfl d7_7 (by decide) (Nat.le_of_ble_eq_true rfl) (by decide) (by decide) (fun T2 h2 v2 S2 K2 q2 => ?_)
  obtain ⟨rfl, rfl⟩ := q2
  show own_F p e below s Z _ _ _ _ _ (T2.setTop (mkF m 10 #[.val (.ref r), .val (.ref a1), .val (.ref a2), .val (.int (own_cmp x y))] [(.int (0 : Int32))]))
  refine own_tsw S2 0 48 58 d7_10 (by decide) (by decide) (by decide) (by decide) (by decide) ?_
  show own_F p e below s Z _ _ _ _ _ (T2.setTop (mkF m 58 #[.val (.ref r), .val (.ref a1), .val (.ref a2), .val (.int (own_cmp x y))] []))
  refine own_F.of (fun _ => XS.iloadN S2.here S2.hx rfl (S2.dec d7_58) rfl) ?_
  show own_F p e below s Z _ _ _ _ _ (T2.setTop (mkF m 59 #[.val (.ref r), .val (.ref a1), .val (.ref a2), .val (.int (own_cmp x y))] [(.int (own_cmp x y))]))
  refine own_if S2 66 d7_59 (by decide) (by decide) (fun (hc59_3 : ¬ ((own_cmp x y) = (0 : Int32))) => ?_) (fun (hc59_3 : (own_cmp x y) = (0 : Int32)) => ?_)
  · show own_F p e below s Z _ _ _ _ _ (T2.setTop (mkF m 66 #[.val (.ref r), .val (.ref a1), .val (.ref a2), .val (.int (own_cmp x y))] []))
    refine own_F.of (fun _ => XS.iconst S2.here S2.hx rfl (S2.dec d7_66)) ?_
    show own_F p e below s Z _ _ _ _ _ (T2.setTop (mkF m 67 #[.val (.ref r), .val (.ref a1), .val (.ref a2), .val (.int (own_cmp x y))] [(.int (0 : Int32))]))
    refine own_F.of (fun _ => XS.goto S2.here S2.hx rfl (pc0 := 67) (pc' := 127) rfl (S2.dec d7_67) (by decide) (by decide)) ?_
    show own_F p e below s Z _ _ _ _ _ (T2.setTop (mkF m 127 #[.val (.ref r), .val (.ref a1), .val (.ref a2), .val (.int (own_cmp x y))] [(.int (0 : Int32))]))
    refine own_retZ S2 (by simp) d7_127 (by decide) (by decide) ?_
    have hh : own_h0 (own_cmp x y) = (0 : Int32) := by simp [own_h0, hc59_3]
    rw [hh]; exact ⟨rfl, rfl⟩
  · show own_F p e below s Z _ _ _ _ _ (T2.setTop (mkF m 62 #[.val (.ref r), .val (.ref a1), .val (.ref a2), .val (.int (own_cmp x y))] []))
    refine own_F.of (fun _ => XS.iconst S2.here S2.hx rfl (S2.dec d7_62)) ?_
    show own_F p e below s Z _ _ _ _ _ (T2.setTop (mkF m 63 #[.val (.ref r), .val (.ref a1), .val (.ref a2), .val (.int (own_cmp x y))] [(.int (1 : Int32))]))
    refine own_F.of (fun _ => XS.goto S2.here S2.hx rfl (pc0 := 63) (pc' := 127) rfl (S2.dec d7_63) (by decide) (by decide)) ?_
    show own_F p e below s Z _ _ _ _ _ (T2.setTop (mkF m 127 #[.val (.ref r), .val (.ref a1), .val (.ref a2), .val (.int (own_cmp x y))] [(.int (1 : Int32))]))
    refine own_retZ S2 (by simp) d7_127 (by decide) (by decide) ?_
    have hh : own_h0 (own_cmp x y) = (1 : Int32) := by simp [own_h0, hc59_3]
    rw [hh]; exact ⟨rfl, rfl⟩
set_option maxRecDepth 65536 in
set_option maxHeartbeats 40000000 in
theorem own_holds1 (l : Launch) (Z : State) (a0 : Array Value) (hw : ∀ d ∈ tables_1, d.before a0 Z = true) (r a1 a2 : Addr) (x y : Int32) (h0 : Heap) (hO : Ext Z.heap h0) (X_r : Exa Z Z.heap r "com/example/manysort/manysort/language/Comparison$Relation") (F_o : Fld Z Z.heap r "java/lang/Enum" "ordinal" "I" (.int (1 : Int32))) (E1 : Exa Z h0 a1 "com/example/manysort/manysort/language/NaturalNumber") (E2 : Exa Z h0 a2 "com/example/manysort/manysort/language/NaturalNumber") (F1 : Fld Z h0 a1 "com/example/manysort/manysort/language/NaturalNumber" "value" "I" (.int x)) (F2 : Fld Z h0 a2 "com/example/manysort/manysort/language/NaturalNumber" "value" "I" (.int y)) (ne : a1 ≠ a2) :
    own_C l Z (⟨"com/example/manysort/manysort/language/Comparison$Relation", "holds", "(Lcom/example/manysort/manysort/language/Term;Lcom/example/manysort/manysort/language/Term;)Z"⟩ : MethodName) prog_21_method_9_code 4 (some .boolean) [] ({ frames := 2, cells := 0, slots := 0, locals := 30 } : Room) [] #[(.ref r), (.ref a1), (.ref a2)] h0 (fun v h => v = some (.int (own_h1 (own_cmp x y))) ∧ h0 = h) := by
  refine own_C.of pn7 hO all0 ?_
  intro p e s m below meth c T0 S0
  refine own_F.cast (by first | (simp [entryFrame, mkF, argsToLocals, Value.category]; done) | rfl : entryFrame m #[(.ref r), (.ref a1), (.ref a2)] 4 = mkF m 0 #[.val (.ref r), .val (.ref a1), .val (.ref a2), .unset] []) ?_
  show own_F p e below s Z _ _ _ _ _ (T0.setTop (mkF m 0 #[.val (.ref r), .val (.ref a1), .val (.ref a2), .unset] []))
  refine own_F.of (fun _ => XS.aloadN S0.here S0.hx rfl (S0.dec d7_0) rfl rfl) ?_
  show own_F p e below s Z _ _ _ _ _ (T0.setTop (mkF m 1 #[.val (.ref r), .val (.ref a1), .val (.ref a2), .unset] [(.ref a1)]))
  refine own_F.of (fun _ => XS.aloadN S0.here S0.hx rfl (S0.dec d7_1) rfl rfl) ?_
  show own_F p e below s Z _ _ _ _ _ (T0.setTop (mkF m 2 #[.val (.ref r), .val (.ref a1), .val (.ref a2), .unset] [(.ref a2), (.ref a1)]))
  refine own_callS S0 (y := (⟨"com/example/manysort/manysort/language/Comparison", "order", "(Lcom/example/manysort/manysort/language/Term;Lcom/example/manysort/manysort/language/Term;)I"⟩ : MethodName)) (own_w hw 40 rfl) (own_w hw 41 rfl) (own_w hw 42 rfl) (own_w hw 43 rfl) (by decide) (argsL := [(.ref a1), (.ref a2)]) (rest := []) (own_order l Z a0 hw a1 a2 x y h0 S0.old E1 E2 F1 F2 ne) all0 (by decide +kernel : parseMethodDescriptor "(Lcom/example/manysort/manysort/language/Term;Lcom/example/manysort/manysort/language/Term;)I" = some ⟨[(.object "com/example/manysort/manysort/language/Term"), (.object "com/example/manysort/manysort/language/Term")], some .int⟩) rfl rfl rfl d7_2 (by decide) (Nat.le_of_ble_eq_true rfl) (by decide) (by decide) (fun T1 h1 v1 S1 K1 q1 => ?_)
  obtain ⟨rfl, rfl⟩ := q1
  show own_F p e below s Z _ _ _ _ _ (T1.setTop (mkF m 5 #[.val (.ref r), .val (.ref a1), .val (.ref a2), .unset] [(.int (own_cmp x y))]))
  refine own_F.of (fun _ => XS.istoreN S1.here S1.hx rfl (S1.dec d7_5) rfl (l' := #[.val (.ref r), .val (.ref a1), .val (.ref a2), .val (.int (own_cmp x y))]) rfl) ?_
  show own_F p e below s Z _ _ _ _ _ (T1.setTop (mkF m 6 #[.val (.ref r), .val (.ref a1), .val (.ref a2), .val (.int (own_cmp x y))] []))
  refine own_F.of (fun _ => XS.aloadN S1.here S1.hx rfl (S1.dec d7_6) rfl rfl) ?_
  show own_F p e below s Z _ _ _ _ _ (T1.setTop (mkF m 7 #[.val (.ref r), .val (.ref a1), .val (.ref a2), .val (.int (own_cmp x y))] [(.ref r)]))
  refine own_callU S1 (y := (⟨"com/example/manysort/manysort/language/Comparison$Relation", "ordinal", "()I"⟩ : MethodName)) (y' := (⟨"java/lang/Enum", "ordinal", "()I"⟩ : MethodName)) (own_w hw 55 rfl) (own_w hw 56 rfl) (own_w hw 57 rfl) (by decide) (own_w hw 59 rfl) (own_w hw 58 rfl) (own_w hw 61 rfl) (own_w hw 60 rfl) (X_r.ext S1.old) (argsL := []) (rest := []) (own_ordinal l Z a0 hw r (1 : Int32) h0 S1.old F_o) all0 (by decide +kernel : parseMethodDescriptor "()I" = some ⟨[], some .int⟩) rfl rfl rfl d7_7 (by decide) (Nat.le_of_ble_eq_true rfl) (by decide) (by decide) (fun T2 h2 v2 S2 K2 q2 => ?_)
  obtain ⟨rfl, rfl⟩ := q2
  show own_F p e below s Z _ _ _ _ _ (T2.setTop (mkF m 10 #[.val (.ref r), .val (.ref a1), .val (.ref a2), .val (.int (own_cmp x y))] [(.int (1 : Int32))]))
  refine own_tsw S2 1 60 70 d7_10 (by decide) (by decide) (by decide) (by decide) (by decide) ?_
  show own_F p e below s Z _ _ _ _ _ (T2.setTop (mkF m 70 #[.val (.ref r), .val (.ref a1), .val (.ref a2), .val (.int (own_cmp x y))] []))
  refine own_F.of (fun _ => XS.iloadN S2.here S2.hx rfl (S2.dec d7_70) rfl) ?_
  show own_F p e below s Z _ _ _ _ _ (T2.setTop (mkF m 71 #[.val (.ref r), .val (.ref a1), .val (.ref a2), .val (.int (own_cmp x y))] [(.int (own_cmp x y))]))
  refine own_if S2 78 d7_71 (by decide) (by decide) (fun (hc71_3 : (own_cmp x y) = (0 : Int32)) => ?_) (fun (hc71_3 : ¬ ((own_cmp x y) = (0 : Int32))) => ?_)
  · show own_F p e below s Z _ _ _ _ _ (T2.setTop (mkF m 78 #[.val (.ref r), .val (.ref a1), .val (.ref a2), .val (.int (own_cmp x y))] []))
    refine own_F.of (fun _ => XS.iconst S2.here S2.hx rfl (S2.dec d7_78)) ?_
    show own_F p e below s Z _ _ _ _ _ (T2.setTop (mkF m 79 #[.val (.ref r), .val (.ref a1), .val (.ref a2), .val (.int (own_cmp x y))] [(.int (0 : Int32))]))
    refine own_F.of (fun _ => XS.goto S2.here S2.hx rfl (pc0 := 79) (pc' := 127) rfl (S2.dec d7_79) (by decide) (by decide)) ?_
    show own_F p e below s Z _ _ _ _ _ (T2.setTop (mkF m 127 #[.val (.ref r), .val (.ref a1), .val (.ref a2), .val (.int (own_cmp x y))] [(.int (0 : Int32))]))
    refine own_retZ S2 (by simp) d7_127 (by decide) (by decide) ?_
    have hh : own_h1 (own_cmp x y) = (0 : Int32) := by simp [own_h1, hc71_3]
    rw [hh]; exact ⟨rfl, rfl⟩
  · show own_F p e below s Z _ _ _ _ _ (T2.setTop (mkF m 74 #[.val (.ref r), .val (.ref a1), .val (.ref a2), .val (.int (own_cmp x y))] []))
    refine own_F.of (fun _ => XS.iconst S2.here S2.hx rfl (S2.dec d7_74)) ?_
    show own_F p e below s Z _ _ _ _ _ (T2.setTop (mkF m 75 #[.val (.ref r), .val (.ref a1), .val (.ref a2), .val (.int (own_cmp x y))] [(.int (1 : Int32))]))
    refine own_F.of (fun _ => XS.goto S2.here S2.hx rfl (pc0 := 75) (pc' := 127) rfl (S2.dec d7_75) (by decide) (by decide)) ?_
    show own_F p e below s Z _ _ _ _ _ (T2.setTop (mkF m 127 #[.val (.ref r), .val (.ref a1), .val (.ref a2), .val (.int (own_cmp x y))] [(.int (1 : Int32))]))
    refine own_retZ S2 (by simp) d7_127 (by decide) (by decide) ?_
    have hh : own_h1 (own_cmp x y) = (1 : Int32) := by simp [own_h1, hc71_3]
    rw [hh]; exact ⟨rfl, rfl⟩
set_option maxRecDepth 65536 in
set_option maxHeartbeats 40000000 in
theorem own_holds2 (l : Launch) (Z : State) (a0 : Array Value) (hw : ∀ d ∈ tables_1, d.before a0 Z = true) (r a1 a2 : Addr) (x y : Int32) (h0 : Heap) (hO : Ext Z.heap h0) (X_r : Exa Z Z.heap r "com/example/manysort/manysort/language/Comparison$Relation") (F_o : Fld Z Z.heap r "java/lang/Enum" "ordinal" "I" (.int (2 : Int32))) (E1 : Exa Z h0 a1 "com/example/manysort/manysort/language/NaturalNumber") (E2 : Exa Z h0 a2 "com/example/manysort/manysort/language/NaturalNumber") (F1 : Fld Z h0 a1 "com/example/manysort/manysort/language/NaturalNumber" "value" "I" (.int x)) (F2 : Fld Z h0 a2 "com/example/manysort/manysort/language/NaturalNumber" "value" "I" (.int y)) (ne : a1 ≠ a2) :
    own_C l Z (⟨"com/example/manysort/manysort/language/Comparison$Relation", "holds", "(Lcom/example/manysort/manysort/language/Term;Lcom/example/manysort/manysort/language/Term;)Z"⟩ : MethodName) prog_21_method_9_code 4 (some .boolean) [] ({ frames := 2, cells := 0, slots := 0, locals := 30 } : Room) [] #[(.ref r), (.ref a1), (.ref a2)] h0 (fun v h => v = some (.int (own_h2 (own_cmp x y))) ∧ h0 = h) := by
  refine own_C.of pn7 hO all0 ?_
  intro p e s m below meth c T0 S0
  refine own_F.cast (by first | (simp [entryFrame, mkF, argsToLocals, Value.category]; done) | rfl : entryFrame m #[(.ref r), (.ref a1), (.ref a2)] 4 = mkF m 0 #[.val (.ref r), .val (.ref a1), .val (.ref a2), .unset] []) ?_
  show own_F p e below s Z _ _ _ _ _ (T0.setTop (mkF m 0 #[.val (.ref r), .val (.ref a1), .val (.ref a2), .unset] []))
  refine own_F.of (fun _ => XS.aloadN S0.here S0.hx rfl (S0.dec d7_0) rfl rfl) ?_
  show own_F p e below s Z _ _ _ _ _ (T0.setTop (mkF m 1 #[.val (.ref r), .val (.ref a1), .val (.ref a2), .unset] [(.ref a1)]))
  refine own_F.of (fun _ => XS.aloadN S0.here S0.hx rfl (S0.dec d7_1) rfl rfl) ?_
  show own_F p e below s Z _ _ _ _ _ (T0.setTop (mkF m 2 #[.val (.ref r), .val (.ref a1), .val (.ref a2), .unset] [(.ref a2), (.ref a1)]))
  refine own_callS S0 (y := (⟨"com/example/manysort/manysort/language/Comparison", "order", "(Lcom/example/manysort/manysort/language/Term;Lcom/example/manysort/manysort/language/Term;)I"⟩ : MethodName)) (own_w hw 40 rfl) (own_w hw 41 rfl) (own_w hw 42 rfl) (own_w hw 43 rfl) (by decide) (argsL := [(.ref a1), (.ref a2)]) (rest := []) (own_order l Z a0 hw a1 a2 x y h0 S0.old E1 E2 F1 F2 ne) all0 (by decide +kernel : parseMethodDescriptor "(Lcom/example/manysort/manysort/language/Term;Lcom/example/manysort/manysort/language/Term;)I" = some ⟨[(.object "com/example/manysort/manysort/language/Term"), (.object "com/example/manysort/manysort/language/Term")], some .int⟩) rfl rfl rfl d7_2 (by decide) (Nat.le_of_ble_eq_true rfl) (by decide) (by decide) (fun T1 h1 v1 S1 K1 q1 => ?_)
  obtain ⟨rfl, rfl⟩ := q1
  show own_F p e below s Z _ _ _ _ _ (T1.setTop (mkF m 5 #[.val (.ref r), .val (.ref a1), .val (.ref a2), .unset] [(.int (own_cmp x y))]))
  refine own_F.of (fun _ => XS.istoreN S1.here S1.hx rfl (S1.dec d7_5) rfl (l' := #[.val (.ref r), .val (.ref a1), .val (.ref a2), .val (.int (own_cmp x y))]) rfl) ?_
  show own_F p e below s Z _ _ _ _ _ (T1.setTop (mkF m 6 #[.val (.ref r), .val (.ref a1), .val (.ref a2), .val (.int (own_cmp x y))] []))
  refine own_F.of (fun _ => XS.aloadN S1.here S1.hx rfl (S1.dec d7_6) rfl rfl) ?_
  show own_F p e below s Z _ _ _ _ _ (T1.setTop (mkF m 7 #[.val (.ref r), .val (.ref a1), .val (.ref a2), .val (.int (own_cmp x y))] [(.ref r)]))
  refine own_callU S1 (y := (⟨"com/example/manysort/manysort/language/Comparison$Relation", "ordinal", "()I"⟩ : MethodName)) (y' := (⟨"java/lang/Enum", "ordinal", "()I"⟩ : MethodName)) (own_w hw 55 rfl) (own_w hw 56 rfl) (own_w hw 57 rfl) (by decide) (own_w hw 59 rfl) (own_w hw 58 rfl) (own_w hw 61 rfl) (own_w hw 60 rfl) (X_r.ext S1.old) (argsL := []) (rest := []) (own_ordinal l Z a0 hw r (2 : Int32) h0 S1.old F_o) all0 (by decide +kernel : parseMethodDescriptor "()I" = some ⟨[], some .int⟩) rfl rfl rfl d7_7 (by decide) (Nat.le_of_ble_eq_true rfl) (by decide) (by decide) (fun T2 h2 v2 S2 K2 q2 => ?_)
  obtain ⟨rfl, rfl⟩ := q2
  show own_F p e below s Z _ _ _ _ _ (T2.setTop (mkF m 10 #[.val (.ref r), .val (.ref a1), .val (.ref a2), .val (.int (own_cmp x y))] [(.int (2 : Int32))]))
  refine own_tsw S2 2 72 82 d7_10 (by decide) (by decide) (by decide) (by decide) (by decide) ?_
  show own_F p e below s Z _ _ _ _ _ (T2.setTop (mkF m 82 #[.val (.ref r), .val (.ref a1), .val (.ref a2), .val (.int (own_cmp x y))] []))
  refine own_F.of (fun _ => XS.iloadN S2.here S2.hx rfl (S2.dec d7_82) rfl) ?_
  show own_F p e below s Z _ _ _ _ _ (T2.setTop (mkF m 83 #[.val (.ref r), .val (.ref a1), .val (.ref a2), .val (.int (own_cmp x y))] [(.int (own_cmp x y))]))
  refine own_if S2 90 d7_83 (by decide) (by decide) (fun (hc83_3 : ¬ ((own_cmp x y) < (0 : Int32))) => ?_) (fun (hc83_3 : (own_cmp x y) < (0 : Int32)) => ?_)
  · show own_F p e below s Z _ _ _ _ _ (T2.setTop (mkF m 90 #[.val (.ref r), .val (.ref a1), .val (.ref a2), .val (.int (own_cmp x y))] []))
    refine own_F.of (fun _ => XS.iconst S2.here S2.hx rfl (S2.dec d7_90)) ?_
    show own_F p e below s Z _ _ _ _ _ (T2.setTop (mkF m 91 #[.val (.ref r), .val (.ref a1), .val (.ref a2), .val (.int (own_cmp x y))] [(.int (0 : Int32))]))
    refine own_F.of (fun _ => XS.goto S2.here S2.hx rfl (pc0 := 91) (pc' := 127) rfl (S2.dec d7_91) (by decide) (by decide)) ?_
    show own_F p e below s Z _ _ _ _ _ (T2.setTop (mkF m 127 #[.val (.ref r), .val (.ref a1), .val (.ref a2), .val (.int (own_cmp x y))] [(.int (0 : Int32))]))
    refine own_retZ S2 (by simp) d7_127 (by decide) (by decide) ?_
    have hh : own_h2 (own_cmp x y) = (0 : Int32) := by simp [own_h2, hc83_3]
    rw [hh]; exact ⟨rfl, rfl⟩
  · show own_F p e below s Z _ _ _ _ _ (T2.setTop (mkF m 86 #[.val (.ref r), .val (.ref a1), .val (.ref a2), .val (.int (own_cmp x y))] []))
    refine own_F.of (fun _ => XS.iconst S2.here S2.hx rfl (S2.dec d7_86)) ?_
    show own_F p e below s Z _ _ _ _ _ (T2.setTop (mkF m 87 #[.val (.ref r), .val (.ref a1), .val (.ref a2), .val (.int (own_cmp x y))] [(.int (1 : Int32))]))
    refine own_F.of (fun _ => XS.goto S2.here S2.hx rfl (pc0 := 87) (pc' := 127) rfl (S2.dec d7_87) (by decide) (by decide)) ?_
    show own_F p e below s Z _ _ _ _ _ (T2.setTop (mkF m 127 #[.val (.ref r), .val (.ref a1), .val (.ref a2), .val (.int (own_cmp x y))] [(.int (1 : Int32))]))
    refine own_retZ S2 (by simp) d7_127 (by decide) (by decide) ?_
    have hh : own_h2 (own_cmp x y) = (1 : Int32) := by simp [own_h2, hc83_3]
    rw [hh]; exact ⟨rfl, rfl⟩
set_option maxRecDepth 65536 in
set_option maxHeartbeats 40000000 in
theorem own_holds3 (l : Launch) (Z : State) (a0 : Array Value) (hw : ∀ d ∈ tables_1, d.before a0 Z = true) (r a1 a2 : Addr) (x y : Int32) (h0 : Heap) (hO : Ext Z.heap h0) (X_r : Exa Z Z.heap r "com/example/manysort/manysort/language/Comparison$Relation") (F_o : Fld Z Z.heap r "java/lang/Enum" "ordinal" "I" (.int (3 : Int32))) (E1 : Exa Z h0 a1 "com/example/manysort/manysort/language/NaturalNumber") (E2 : Exa Z h0 a2 "com/example/manysort/manysort/language/NaturalNumber") (F1 : Fld Z h0 a1 "com/example/manysort/manysort/language/NaturalNumber" "value" "I" (.int x)) (F2 : Fld Z h0 a2 "com/example/manysort/manysort/language/NaturalNumber" "value" "I" (.int y)) (ne : a1 ≠ a2) :
    own_C l Z (⟨"com/example/manysort/manysort/language/Comparison$Relation", "holds", "(Lcom/example/manysort/manysort/language/Term;Lcom/example/manysort/manysort/language/Term;)Z"⟩ : MethodName) prog_21_method_9_code 4 (some .boolean) [] ({ frames := 2, cells := 0, slots := 0, locals := 30 } : Room) [] #[(.ref r), (.ref a1), (.ref a2)] h0 (fun v h => v = some (.int (own_h3 (own_cmp x y))) ∧ h0 = h) := by
  refine own_C.of pn7 hO all0 ?_
  intro p e s m below meth c T0 S0
  refine own_F.cast (by first | (simp [entryFrame, mkF, argsToLocals, Value.category]; done) | rfl : entryFrame m #[(.ref r), (.ref a1), (.ref a2)] 4 = mkF m 0 #[.val (.ref r), .val (.ref a1), .val (.ref a2), .unset] []) ?_
  show own_F p e below s Z _ _ _ _ _ (T0.setTop (mkF m 0 #[.val (.ref r), .val (.ref a1), .val (.ref a2), .unset] []))
  refine own_F.of (fun _ => XS.aloadN S0.here S0.hx rfl (S0.dec d7_0) rfl rfl) ?_
  show own_F p e below s Z _ _ _ _ _ (T0.setTop (mkF m 1 #[.val (.ref r), .val (.ref a1), .val (.ref a2), .unset] [(.ref a1)]))
  refine own_F.of (fun _ => XS.aloadN S0.here S0.hx rfl (S0.dec d7_1) rfl rfl) ?_
  show own_F p e below s Z _ _ _ _ _ (T0.setTop (mkF m 2 #[.val (.ref r), .val (.ref a1), .val (.ref a2), .unset] [(.ref a2), (.ref a1)]))
  refine own_callS S0 (y := (⟨"com/example/manysort/manysort/language/Comparison", "order", "(Lcom/example/manysort/manysort/language/Term;Lcom/example/manysort/manysort/language/Term;)I"⟩ : MethodName)) (own_w hw 40 rfl) (own_w hw 41 rfl) (own_w hw 42 rfl) (own_w hw 43 rfl) (by decide) (argsL := [(.ref a1), (.ref a2)]) (rest := []) (own_order l Z a0 hw a1 a2 x y h0 S0.old E1 E2 F1 F2 ne) all0 (by decide +kernel : parseMethodDescriptor "(Lcom/example/manysort/manysort/language/Term;Lcom/example/manysort/manysort/language/Term;)I" = some ⟨[(.object "com/example/manysort/manysort/language/Term"), (.object "com/example/manysort/manysort/language/Term")], some .int⟩) rfl rfl rfl d7_2 (by decide) (Nat.le_of_ble_eq_true rfl) (by decide) (by decide) (fun T1 h1 v1 S1 K1 q1 => ?_)
  obtain ⟨rfl, rfl⟩ := q1
  show own_F p e below s Z _ _ _ _ _ (T1.setTop (mkF m 5 #[.val (.ref r), .val (.ref a1), .val (.ref a2), .unset] [(.int (own_cmp x y))]))
  refine own_F.of (fun _ => XS.istoreN S1.here S1.hx rfl (S1.dec d7_5) rfl (l' := #[.val (.ref r), .val (.ref a1), .val (.ref a2), .val (.int (own_cmp x y))]) rfl) ?_
  show own_F p e below s Z _ _ _ _ _ (T1.setTop (mkF m 6 #[.val (.ref r), .val (.ref a1), .val (.ref a2), .val (.int (own_cmp x y))] []))
  refine own_F.of (fun _ => XS.aloadN S1.here S1.hx rfl (S1.dec d7_6) rfl rfl) ?_
  show own_F p e below s Z _ _ _ _ _ (T1.setTop (mkF m 7 #[.val (.ref r), .val (.ref a1), .val (.ref a2), .val (.int (own_cmp x y))] [(.ref r)]))
  refine own_callU S1 (y := (⟨"com/example/manysort/manysort/language/Comparison$Relation", "ordinal", "()I"⟩ : MethodName)) (y' := (⟨"java/lang/Enum", "ordinal", "()I"⟩ : MethodName)) (own_w hw 55 rfl) (own_w hw 56 rfl) (own_w hw 57 rfl) (by decide) (own_w hw 59 rfl) (own_w hw 58 rfl) (own_w hw 61 rfl) (own_w hw 60 rfl) (X_r.ext S1.old) (argsL := []) (rest := []) (own_ordinal l Z a0 hw r (3 : Int32) h0 S1.old F_o) all0 (by decide +kernel : parseMethodDescriptor "()I" = some ⟨[], some .int⟩) rfl rfl rfl d7_7 (by decide) (Nat.le_of_ble_eq_true rfl) (by decide) (by decide) (fun T2 h2 v2 S2 K2 q2 => ?_)
  obtain ⟨rfl, rfl⟩ := q2
  show own_F p e below s Z _ _ _ _ _ (T2.setTop (mkF m 10 #[.val (.ref r), .val (.ref a1), .val (.ref a2), .val (.int (own_cmp x y))] [(.int (3 : Int32))]))
  refine own_tsw S2 3 84 94 d7_10 (by decide) (by decide) (by decide) (by decide) (by decide) ?_
  show own_F p e below s Z _ _ _ _ _ (T2.setTop (mkF m 94 #[.val (.ref r), .val (.ref a1), .val (.ref a2), .val (.int (own_cmp x y))] []))
  refine own_F.of (fun _ => XS.iloadN S2.here S2.hx rfl (S2.dec d7_94) rfl) ?_
  show own_F p e below s Z _ _ _ _ _ (T2.setTop (mkF m 95 #[.val (.ref r), .val (.ref a1), .val (.ref a2), .val (.int (own_cmp x y))] [(.int (own_cmp x y))]))
  refine own_if S2 102 d7_95 (by decide) (by decide) (fun (hc95_3 : (0 : Int32) < (own_cmp x y)) => ?_) (fun (hc95_3 : ¬ ((0 : Int32) < (own_cmp x y))) => ?_)
  · show own_F p e below s Z _ _ _ _ _ (T2.setTop (mkF m 102 #[.val (.ref r), .val (.ref a1), .val (.ref a2), .val (.int (own_cmp x y))] []))
    refine own_F.of (fun _ => XS.iconst S2.here S2.hx rfl (S2.dec d7_102)) ?_
    show own_F p e below s Z _ _ _ _ _ (T2.setTop (mkF m 103 #[.val (.ref r), .val (.ref a1), .val (.ref a2), .val (.int (own_cmp x y))] [(.int (0 : Int32))]))
    refine own_F.of (fun _ => XS.goto S2.here S2.hx rfl (pc0 := 103) (pc' := 127) rfl (S2.dec d7_103) (by decide) (by decide)) ?_
    show own_F p e below s Z _ _ _ _ _ (T2.setTop (mkF m 127 #[.val (.ref r), .val (.ref a1), .val (.ref a2), .val (.int (own_cmp x y))] [(.int (0 : Int32))]))
    refine own_retZ S2 (by simp) d7_127 (by decide) (by decide) ?_
    have hh : own_h3 (own_cmp x y) = (0 : Int32) := by simp [own_h3, hc95_3]
    rw [hh]; exact ⟨rfl, rfl⟩
  · show own_F p e below s Z _ _ _ _ _ (T2.setTop (mkF m 98 #[.val (.ref r), .val (.ref a1), .val (.ref a2), .val (.int (own_cmp x y))] []))
    refine own_F.of (fun _ => XS.iconst S2.here S2.hx rfl (S2.dec d7_98)) ?_
    show own_F p e below s Z _ _ _ _ _ (T2.setTop (mkF m 99 #[.val (.ref r), .val (.ref a1), .val (.ref a2), .val (.int (own_cmp x y))] [(.int (1 : Int32))]))
    refine own_F.of (fun _ => XS.goto S2.here S2.hx rfl (pc0 := 99) (pc' := 127) rfl (S2.dec d7_99) (by decide) (by decide)) ?_
    show own_F p e below s Z _ _ _ _ _ (T2.setTop (mkF m 127 #[.val (.ref r), .val (.ref a1), .val (.ref a2), .val (.int (own_cmp x y))] [(.int (1 : Int32))]))
    refine own_retZ S2 (by simp) d7_127 (by decide) (by decide) ?_
    have hh : own_h3 (own_cmp x y) = (1 : Int32) := by simp [own_h3, hc95_3]
    rw [hh]; exact ⟨rfl, rfl⟩
set_option maxRecDepth 65536 in
set_option maxHeartbeats 40000000 in
theorem own_holds4 (l : Launch) (Z : State) (a0 : Array Value) (hw : ∀ d ∈ tables_1, d.before a0 Z = true) (r a1 a2 : Addr) (x y : Int32) (h0 : Heap) (hO : Ext Z.heap h0) (X_r : Exa Z Z.heap r "com/example/manysort/manysort/language/Comparison$Relation") (F_o : Fld Z Z.heap r "java/lang/Enum" "ordinal" "I" (.int (4 : Int32))) (E1 : Exa Z h0 a1 "com/example/manysort/manysort/language/NaturalNumber") (E2 : Exa Z h0 a2 "com/example/manysort/manysort/language/NaturalNumber") (F1 : Fld Z h0 a1 "com/example/manysort/manysort/language/NaturalNumber" "value" "I" (.int x)) (F2 : Fld Z h0 a2 "com/example/manysort/manysort/language/NaturalNumber" "value" "I" (.int y)) (ne : a1 ≠ a2) :
    own_C l Z (⟨"com/example/manysort/manysort/language/Comparison$Relation", "holds", "(Lcom/example/manysort/manysort/language/Term;Lcom/example/manysort/manysort/language/Term;)Z"⟩ : MethodName) prog_21_method_9_code 4 (some .boolean) [] ({ frames := 2, cells := 0, slots := 0, locals := 30 } : Room) [] #[(.ref r), (.ref a1), (.ref a2)] h0 (fun v h => v = some (.int (own_h4 (own_cmp x y))) ∧ h0 = h) := by
  refine own_C.of pn7 hO all0 ?_
  intro p e s m below meth c T0 S0
  refine own_F.cast (by first | (simp [entryFrame, mkF, argsToLocals, Value.category]; done) | rfl : entryFrame m #[(.ref r), (.ref a1), (.ref a2)] 4 = mkF m 0 #[.val (.ref r), .val (.ref a1), .val (.ref a2), .unset] []) ?_
  show own_F p e below s Z _ _ _ _ _ (T0.setTop (mkF m 0 #[.val (.ref r), .val (.ref a1), .val (.ref a2), .unset] []))
  refine own_F.of (fun _ => XS.aloadN S0.here S0.hx rfl (S0.dec d7_0) rfl rfl) ?_
  show own_F p e below s Z _ _ _ _ _ (T0.setTop (mkF m 1 #[.val (.ref r), .val (.ref a1), .val (.ref a2), .unset] [(.ref a1)]))
  refine own_F.of (fun _ => XS.aloadN S0.here S0.hx rfl (S0.dec d7_1) rfl rfl) ?_
  show own_F p e below s Z _ _ _ _ _ (T0.setTop (mkF m 2 #[.val (.ref r), .val (.ref a1), .val (.ref a2), .unset] [(.ref a2), (.ref a1)]))
  refine own_callS S0 (y := (⟨"com/example/manysort/manysort/language/Comparison", "order", "(Lcom/example/manysort/manysort/language/Term;Lcom/example/manysort/manysort/language/Term;)I"⟩ : MethodName)) (own_w hw 40 rfl) (own_w hw 41 rfl) (own_w hw 42 rfl) (own_w hw 43 rfl) (by decide) (argsL := [(.ref a1), (.ref a2)]) (rest := []) (own_order l Z a0 hw a1 a2 x y h0 S0.old E1 E2 F1 F2 ne) all0 (by decide +kernel : parseMethodDescriptor "(Lcom/example/manysort/manysort/language/Term;Lcom/example/manysort/manysort/language/Term;)I" = some ⟨[(.object "com/example/manysort/manysort/language/Term"), (.object "com/example/manysort/manysort/language/Term")], some .int⟩) rfl rfl rfl d7_2 (by decide) (Nat.le_of_ble_eq_true rfl) (by decide) (by decide) (fun T1 h1 v1 S1 K1 q1 => ?_)
  obtain ⟨rfl, rfl⟩ := q1
  show own_F p e below s Z _ _ _ _ _ (T1.setTop (mkF m 5 #[.val (.ref r), .val (.ref a1), .val (.ref a2), .unset] [(.int (own_cmp x y))]))
  refine own_F.of (fun _ => XS.istoreN S1.here S1.hx rfl (S1.dec d7_5) rfl (l' := #[.val (.ref r), .val (.ref a1), .val (.ref a2), .val (.int (own_cmp x y))]) rfl) ?_
  show own_F p e below s Z _ _ _ _ _ (T1.setTop (mkF m 6 #[.val (.ref r), .val (.ref a1), .val (.ref a2), .val (.int (own_cmp x y))] []))
  refine own_F.of (fun _ => XS.aloadN S1.here S1.hx rfl (S1.dec d7_6) rfl rfl) ?_
  show own_F p e below s Z _ _ _ _ _ (T1.setTop (mkF m 7 #[.val (.ref r), .val (.ref a1), .val (.ref a2), .val (.int (own_cmp x y))] [(.ref r)]))
  refine own_callU S1 (y := (⟨"com/example/manysort/manysort/language/Comparison$Relation", "ordinal", "()I"⟩ : MethodName)) (y' := (⟨"java/lang/Enum", "ordinal", "()I"⟩ : MethodName)) (own_w hw 55 rfl) (own_w hw 56 rfl) (own_w hw 57 rfl) (by decide) (own_w hw 59 rfl) (own_w hw 58 rfl) (own_w hw 61 rfl) (own_w hw 60 rfl) (X_r.ext S1.old) (argsL := []) (rest := []) (own_ordinal l Z a0 hw r (4 : Int32) h0 S1.old F_o) all0 (by decide +kernel : parseMethodDescriptor "()I" = some ⟨[], some .int⟩) rfl rfl rfl d7_7 (by decide) (Nat.le_of_ble_eq_true rfl) (by decide) (by decide) (fun T2 h2 v2 S2 K2 q2 => ?_)
  obtain ⟨rfl, rfl⟩ := q2
  show own_F p e below s Z _ _ _ _ _ (T2.setTop (mkF m 10 #[.val (.ref r), .val (.ref a1), .val (.ref a2), .val (.int (own_cmp x y))] [(.int (4 : Int32))]))
  refine own_tsw S2 4 96 106 d7_10 (by decide) (by decide) (by decide) (by decide) (by decide) ?_
  show own_F p e below s Z _ _ _ _ _ (T2.setTop (mkF m 106 #[.val (.ref r), .val (.ref a1), .val (.ref a2), .val (.int (own_cmp x y))] []))
  refine own_F.of (fun _ => XS.iloadN S2.here S2.hx rfl (S2.dec d7_106) rfl) ?_
  show own_F p e below s Z _ _ _ _ _ (T2.setTop (mkF m 107 #[.val (.ref r), .val (.ref a1), .val (.ref a2), .val (.int (own_cmp x y))] [(.int (own_cmp x y))]))
  refine own_if S2 114 d7_107 (by decide) (by decide) (fun (hc107_3 : ¬ ((0 : Int32) < (own_cmp x y))) => ?_) (fun (hc107_3 : (0 : Int32) < (own_cmp x y)) => ?_)
  · show own_F p e below s Z _ _ _ _ _ (T2.setTop (mkF m 114 #[.val (.ref r), .val (.ref a1), .val (.ref a2), .val (.int (own_cmp x y))] []))
    refine own_F.of (fun _ => XS.iconst S2.here S2.hx rfl (S2.dec d7_114)) ?_
    show own_F p e below s Z _ _ _ _ _ (T2.setTop (mkF m 115 #[.val (.ref r), .val (.ref a1), .val (.ref a2), .val (.int (own_cmp x y))] [(.int (0 : Int32))]))
    refine own_F.of (fun _ => XS.goto S2.here S2.hx rfl (pc0 := 115) (pc' := 127) rfl (S2.dec d7_115) (by decide) (by decide)) ?_
    show own_F p e below s Z _ _ _ _ _ (T2.setTop (mkF m 127 #[.val (.ref r), .val (.ref a1), .val (.ref a2), .val (.int (own_cmp x y))] [(.int (0 : Int32))]))
    refine own_retZ S2 (by simp) d7_127 (by decide) (by decide) ?_
    have hh : own_h4 (own_cmp x y) = (0 : Int32) := by simp [own_h4, hc107_3]
    rw [hh]; exact ⟨rfl, rfl⟩
  · show own_F p e below s Z _ _ _ _ _ (T2.setTop (mkF m 110 #[.val (.ref r), .val (.ref a1), .val (.ref a2), .val (.int (own_cmp x y))] []))
    refine own_F.of (fun _ => XS.iconst S2.here S2.hx rfl (S2.dec d7_110)) ?_
    show own_F p e below s Z _ _ _ _ _ (T2.setTop (mkF m 111 #[.val (.ref r), .val (.ref a1), .val (.ref a2), .val (.int (own_cmp x y))] [(.int (1 : Int32))]))
    refine own_F.of (fun _ => XS.goto S2.here S2.hx rfl (pc0 := 111) (pc' := 127) rfl (S2.dec d7_111) (by decide) (by decide)) ?_
    show own_F p e below s Z _ _ _ _ _ (T2.setTop (mkF m 127 #[.val (.ref r), .val (.ref a1), .val (.ref a2), .val (.int (own_cmp x y))] [(.int (1 : Int32))]))
    refine own_retZ S2 (by simp) d7_127 (by decide) (by decide) ?_
    have hh : own_h4 (own_cmp x y) = (1 : Int32) := by simp [own_h4, hc107_3]
    rw [hh]; exact ⟨rfl, rfl⟩
set_option maxRecDepth 65536 in
set_option maxHeartbeats 40000000 in
theorem own_holds5 (l : Launch) (Z : State) (a0 : Array Value) (hw : ∀ d ∈ tables_1, d.before a0 Z = true) (r a1 a2 : Addr) (x y : Int32) (h0 : Heap) (hO : Ext Z.heap h0) (X_r : Exa Z Z.heap r "com/example/manysort/manysort/language/Comparison$Relation") (F_o : Fld Z Z.heap r "java/lang/Enum" "ordinal" "I" (.int (5 : Int32))) (E1 : Exa Z h0 a1 "com/example/manysort/manysort/language/NaturalNumber") (E2 : Exa Z h0 a2 "com/example/manysort/manysort/language/NaturalNumber") (F1 : Fld Z h0 a1 "com/example/manysort/manysort/language/NaturalNumber" "value" "I" (.int x)) (F2 : Fld Z h0 a2 "com/example/manysort/manysort/language/NaturalNumber" "value" "I" (.int y)) (ne : a1 ≠ a2) :
    own_C l Z (⟨"com/example/manysort/manysort/language/Comparison$Relation", "holds", "(Lcom/example/manysort/manysort/language/Term;Lcom/example/manysort/manysort/language/Term;)Z"⟩ : MethodName) prog_21_method_9_code 4 (some .boolean) [] ({ frames := 2, cells := 0, slots := 0, locals := 30 } : Room) [] #[(.ref r), (.ref a1), (.ref a2)] h0 (fun v h => v = some (.int (own_h5 (own_cmp x y))) ∧ h0 = h) := by
  refine own_C.of pn7 hO all0 ?_
  intro p e s m below meth c T0 S0
  refine own_F.cast (by first | (simp [entryFrame, mkF, argsToLocals, Value.category]; done) | rfl : entryFrame m #[(.ref r), (.ref a1), (.ref a2)] 4 = mkF m 0 #[.val (.ref r), .val (.ref a1), .val (.ref a2), .unset] []) ?_
  show own_F p e below s Z _ _ _ _ _ (T0.setTop (mkF m 0 #[.val (.ref r), .val (.ref a1), .val (.ref a2), .unset] []))
  refine own_F.of (fun _ => XS.aloadN S0.here S0.hx rfl (S0.dec d7_0) rfl rfl) ?_
  show own_F p e below s Z _ _ _ _ _ (T0.setTop (mkF m 1 #[.val (.ref r), .val (.ref a1), .val (.ref a2), .unset] [(.ref a1)]))
  refine own_F.of (fun _ => XS.aloadN S0.here S0.hx rfl (S0.dec d7_1) rfl rfl) ?_
  show own_F p e below s Z _ _ _ _ _ (T0.setTop (mkF m 2 #[.val (.ref r), .val (.ref a1), .val (.ref a2), .unset] [(.ref a2), (.ref a1)]))
  refine own_callS S0 (y := (⟨"com/example/manysort/manysort/language/Comparison", "order", "(Lcom/example/manysort/manysort/language/Term;Lcom/example/manysort/manysort/language/Term;)I"⟩ : MethodName)) (own_w hw 40 rfl) (own_w hw 41 rfl) (own_w hw 42 rfl) (own_w hw 43 rfl) (by decide) (argsL := [(.ref a1), (.ref a2)]) (rest := []) (own_order l Z a0 hw a1 a2 x y h0 S0.old E1 E2 F1 F2 ne) all0 (by decide +kernel : parseMethodDescriptor "(Lcom/example/manysort/manysort/language/Term;Lcom/example/manysort/manysort/language/Term;)I" = some ⟨[(.object "com/example/manysort/manysort/language/Term"), (.object "com/example/manysort/manysort/language/Term")], some .int⟩) rfl rfl rfl d7_2 (by decide) (Nat.le_of_ble_eq_true rfl) (by decide) (by decide) (fun T1 h1 v1 S1 K1 q1 => ?_)
  obtain ⟨rfl, rfl⟩ := q1
  show own_F p e below s Z _ _ _ _ _ (T1.setTop (mkF m 5 #[.val (.ref r), .val (.ref a1), .val (.ref a2), .unset] [(.int (own_cmp x y))]))
  refine own_F.of (fun _ => XS.istoreN S1.here S1.hx rfl (S1.dec d7_5) rfl (l' := #[.val (.ref r), .val (.ref a1), .val (.ref a2), .val (.int (own_cmp x y))]) rfl) ?_
  show own_F p e below s Z _ _ _ _ _ (T1.setTop (mkF m 6 #[.val (.ref r), .val (.ref a1), .val (.ref a2), .val (.int (own_cmp x y))] []))
  refine own_F.of (fun _ => XS.aloadN S1.here S1.hx rfl (S1.dec d7_6) rfl rfl) ?_
  show own_F p e below s Z _ _ _ _ _ (T1.setTop (mkF m 7 #[.val (.ref r), .val (.ref a1), .val (.ref a2), .val (.int (own_cmp x y))] [(.ref r)]))
  refine own_callU S1 (y := (⟨"com/example/manysort/manysort/language/Comparison$Relation", "ordinal", "()I"⟩ : MethodName)) (y' := (⟨"java/lang/Enum", "ordinal", "()I"⟩ : MethodName)) (own_w hw 55 rfl) (own_w hw 56 rfl) (own_w hw 57 rfl) (by decide) (own_w hw 59 rfl) (own_w hw 58 rfl) (own_w hw 61 rfl) (own_w hw 60 rfl) (X_r.ext S1.old) (argsL := []) (rest := []) (own_ordinal l Z a0 hw r (5 : Int32) h0 S1.old F_o) all0 (by decide +kernel : parseMethodDescriptor "()I" = some ⟨[], some .int⟩) rfl rfl rfl d7_7 (by decide) (Nat.le_of_ble_eq_true rfl) (by decide) (by decide) (fun T2 h2 v2 S2 K2 q2 => ?_)
  obtain ⟨rfl, rfl⟩ := q2
  show own_F p e below s Z _ _ _ _ _ (T2.setTop (mkF m 10 #[.val (.ref r), .val (.ref a1), .val (.ref a2), .val (.int (own_cmp x y))] [(.int (5 : Int32))]))
  refine own_tsw S2 5 108 118 d7_10 (by decide) (by decide) (by decide) (by decide) (by decide) ?_
  show own_F p e below s Z _ _ _ _ _ (T2.setTop (mkF m 118 #[.val (.ref r), .val (.ref a1), .val (.ref a2), .val (.int (own_cmp x y))] []))
  refine own_F.of (fun _ => XS.iloadN S2.here S2.hx rfl (S2.dec d7_118) rfl) ?_
  show own_F p e below s Z _ _ _ _ _ (T2.setTop (mkF m 119 #[.val (.ref r), .val (.ref a1), .val (.ref a2), .val (.int (own_cmp x y))] [(.int (own_cmp x y))]))
  refine own_if S2 126 d7_119 (by decide) (by decide) (fun (hc119_3 : (own_cmp x y) < (0 : Int32)) => ?_) (fun (hc119_3 : ¬ ((own_cmp x y) < (0 : Int32))) => ?_)
  · show own_F p e below s Z _ _ _ _ _ (T2.setTop (mkF m 126 #[.val (.ref r), .val (.ref a1), .val (.ref a2), .val (.int (own_cmp x y))] []))
    refine own_F.of (fun _ => XS.iconst S2.here S2.hx rfl (S2.dec d7_126)) ?_
    show own_F p e below s Z _ _ _ _ _ (T2.setTop (mkF m 127 #[.val (.ref r), .val (.ref a1), .val (.ref a2), .val (.int (own_cmp x y))] [(.int (0 : Int32))]))
    refine own_retZ S2 (by simp) d7_127 (by decide) (by decide) ?_
    have hh : own_h5 (own_cmp x y) = (0 : Int32) := by simp [own_h5, hc119_3]
    rw [hh]; exact ⟨rfl, rfl⟩
  · show own_F p e below s Z _ _ _ _ _ (T2.setTop (mkF m 122 #[.val (.ref r), .val (.ref a1), .val (.ref a2), .val (.int (own_cmp x y))] []))
    refine own_F.of (fun _ => XS.iconst S2.here S2.hx rfl (S2.dec d7_122)) ?_
    show own_F p e below s Z _ _ _ _ _ (T2.setTop (mkF m 123 #[.val (.ref r), .val (.ref a1), .val (.ref a2), .val (.int (own_cmp x y))] [(.int (1 : Int32))]))
    refine own_F.of (fun _ => XS.goto S2.here S2.hx rfl (pc0 := 123) (pc' := 127) rfl (S2.dec d7_123) (by decide) (by decide)) ?_
    show own_F p e below s Z _ _ _ _ _ (T2.setTop (mkF m 127 #[.val (.ref r), .val (.ref a1), .val (.ref a2), .val (.int (own_cmp x y))] [(.int (1 : Int32))]))
    refine own_retZ S2 (by simp) d7_127 (by decide) (by decide) ?_
    have hh : own_h5 (own_cmp x y) = (1 : Int32) := by simp [own_h5, hc119_3]
    rw [hh]; exact ⟨rfl, rfl⟩
theorem d12_0 : decode prog_21_method_8_code 0 = .ok (.aload_n 0, 1) := by decide +kernel
theorem d12_1 : decode prog_21_method_8_code 1 = .ok (.invokevirtual 55, 3) := by decide +kernel
theorem d12_4 : decode prog_21_method_8_code 4 = .ok (.tableswitch 40 0 5 #[50, 56, 62, 68, 74, 80], 40) := by decide +kernel
theorem d12_44 : decode prog_21_method_8_code 44 = .ok (.new 59, 3) := by decide +kernel
theorem d12_47 : decode prog_21_method_8_code 47 = .ok (.dup, 1) := by decide +kernel
theorem d12_48 : decode prog_21_method_8_code 48 = .ok (.aconst_null, 1) := by decide +kernel
theorem d12_49 : decode prog_21_method_8_code 49 = .ok (.aconst_null, 1) := by decide +kernel
theorem d12_50 : decode prog_21_method_8_code 50 = .ok (.invokespecial 61, 3) := by decide +kernel
theorem d12_53 : decode prog_21_method_8_code 53 = .ok (.athrow, 1) := by decide +kernel
theorem d12_54 : decode prog_21_method_8_code 54 = .ok (.getstatic 3, 3) := by decide +kernel
theorem d12_57 : decode prog_21_method_8_code 57 = .ok (.goto 30, 3) := by decide +kernel
theorem d12_60 : decode prog_21_method_8_code 60 = .ok (.getstatic 7, 3) := by decide +kernel
theorem d12_63 : decode prog_21_method_8_code 63 = .ok (.goto 24, 3) := by decide +kernel
theorem d12_66 : decode prog_21_method_8_code 66 = .ok (.getstatic 16, 3) := by decide +kernel
theorem d12_69 : decode prog_21_method_8_code 69 = .ok (.goto 18, 3) := by decide +kernel
theorem d12_72 : decode prog_21_method_8_code 72 = .ok (.getstatic 19, 3) := by decide +kernel
theorem d12_75 : decode prog_21_method_8_code 75 = .ok (.goto 12, 3) := by decide +kernel
theorem d12_78 : decode prog_21_method_8_code 78 = .ok (.getstatic 10, 3) := by decide +kernel
theorem d12_81 : decode prog_21_method_8_code 81 = .ok (.goto 6, 3) := by decide +kernel
theorem d12_84 : decode prog_21_method_8_code 84 = .ok (.getstatic 13, 3) := by decide +kernel
theorem d12_87 : decode prog_21_method_8_code 87 = .ok (.areturn, 1) := by decide +kernel
theorem pn12 : plainFor (⟨"com/example/manysort/manysort/language/Comparison$Relation", "converse", "()Lcom/example/manysort/manysort/language/Comparison$Relation;"⟩ : MethodName) = true := plainFor_of_name (by first | (simp [plainName, overriddenIn]; done) | decide +kernel)
set_option maxRecDepth 65536 in
set_option maxHeartbeats 40000000 in
theorem own_conv0 (l : Launch) (Z : State) (a0 : Array Value) (hw : ∀ d ∈ tables_1, d.before a0 Z = true) (r : Addr) (a_EQUAL : Addr) (a_NOT_EQUAL : Addr) (a_LESS : Addr) (a_LESS_OR_EQUAL : Addr) (a_GREATER : Addr) (a_GREATER_OR_EQUAL : Addr) (h0 : Heap) (hO : Ext Z.heap h0) (X_r : Exa Z Z.heap r "com/example/manysort/manysort/language/Comparison$Relation") (F_o : Fld Z Z.heap r "java/lang/Enum" "ordinal" "I" (.int (0 : Int32))) (S_EQUAL : Sta Z Z.heap "com/example/manysort/manysort/language/Comparison$Relation" "EQUAL" "Lcom/example/manysort/manysort/language/Comparison$Relation;" (.ref a_EQUAL)) (S_NOT_EQUAL : Sta Z Z.heap "com/example/manysort/manysort/language/Comparison$Relation" "NOT_EQUAL" "Lcom/example/manysort/manysort/language/Comparison$Relation;" (.ref a_NOT_EQUAL)) (S_LESS : Sta Z Z.heap "com/example/manysort/manysort/language/Comparison$Relation" "LESS" "Lcom/example/manysort/manysort/language/Comparison$Relation;" (.ref a_LESS)) (S_LESS_OR_EQUAL : Sta Z Z.heap "com/example/manysort/manysort/language/Comparison$Relation" "LESS_OR_EQUAL" "Lcom/example/manysort/manysort/language/Comparison$Relation;" (.ref a_LESS_OR_EQUAL)) (S_GREATER : Sta Z Z.heap "com/example/manysort/manysort/language/Comparison$Relation" "GREATER" "Lcom/example/manysort/manysort/language/Comparison$Relation;" (.ref a_GREATER)) (S_GREATER_OR_EQUAL : Sta Z Z.heap "com/example/manysort/manysort/language/Comparison$Relation" "GREATER_OR_EQUAL" "Lcom/example/manysort/manysort/language/Comparison$Relation;" (.ref a_GREATER_OR_EQUAL)) :
    own_C l Z (⟨"com/example/manysort/manysort/language/Comparison$Relation", "converse", "()Lcom/example/manysort/manysort/language/Comparison$Relation;"⟩ : MethodName) prog_21_method_8_code 1 (some (.object "com/example/manysort/manysort/language/Comparison$Relation")) [] ({ frames := 1, cells := 0, slots := 0, locals := 12 } : Room) [] #[(.ref r)] h0 (fun v h => v = some (.ref a_EQUAL) ∧ h0 = h) := by
  refine own_C.of pn12 hO all0 ?_
  intro p e s m below meth c T0 S0
  refine own_F.cast (by first | (simp [entryFrame, mkF, argsToLocals, Value.category]; done) | rfl : entryFrame m #[(.ref r)] 1 = mkF m 0 #[.val (.ref r)] []) ?_
  show own_F p e below s Z _ _ _ _ _ (T0.setTop (mkF m 0 #[.val (.ref r)] []))
  refine own_F.of (fun _ => XS.aloadN S0.here S0.hx rfl (S0.dec d12_0) rfl rfl) ?_
  show own_F p e below s Z _ _ _ _ _ (T0.setTop (mkF m 1 #[.val (.ref r)] [(.ref r)]))
  refine own_callU S0 (y := (⟨"com/example/manysort/manysort/language/Comparison$Relation", "ordinal", "()I"⟩ : MethodName)) (y' := (⟨"java/lang/Enum", "ordinal", "()I"⟩ : MethodName)) (own_w hw 55 rfl) (own_w hw 56 rfl) (own_w hw 57 rfl) (by decide) (own_w hw 59 rfl) (own_w hw 58 rfl) (own_w hw 61 rfl) (own_w hw 60 rfl) (X_r.ext S0.old) (argsL := []) (rest := []) (own_ordinal l Z a0 hw r (0 : Int32) h0 S0.old F_o) all0 (by decide +kernel : parseMethodDescriptor "()I" = some ⟨[], some .int⟩) rfl rfl rfl d12_1 (by decide) (Nat.le_of_ble_eq_true rfl) (by decide) (by decide) (fun T1 h1 v1 S1 K1 q1 => ?_)
  obtain ⟨rfl, rfl⟩ := q1
  show own_F p e below s Z _ _ _ _ _ (T1.setTop (mkF m 4 #[.val (.ref r)] [(.int (0 : Int32))]))
  refine own_tsw S1 0 50 54 d12_4 (by decide) (by decide) (by decide) (by decide) (by decide) ?_
  show own_F p e below s Z _ _ _ _ _ (T1.setTop (mkF m 54 #[.val (.ref r)] []))
  refine own_getS S1 (host := "") (Or.inl (own_w hw 34 rfl)) Via.refl (S_EQUAL.ext S1.old) d12_54 (fun T2 S2 => ?_)
  show own_F p e below s Z _ _ _ _ _ (T2.setTop (mkF m 57 #[.val (.ref r)] [(.ref a_EQUAL)]))
  refine own_F.of (fun _ => XS.goto S2.here S2.hx rfl (pc0 := 57) (pc' := 87) rfl (S2.dec d12_57) (by decide) (by decide)) ?_
  show own_F p e below s Z _ _ _ _ _ (T2.setTop (mkF m 87 #[.val (.ref r)] [(.ref a_EQUAL)]))
  refine own_retA S2 rfl rfl d12_87 (by decide) (by decide) ?_
  exact ⟨rfl, rfl⟩
set_option maxRecDepth 65536 in
set_option maxHeartbeats 40000000 in
theorem own_conv1 (l : Launch) (Z : State) (a0 : Array Value) (hw : ∀ d ∈ tables_1, d.before a0 Z = true) (r : Addr) (a_EQUAL : Addr) (a_NOT_EQUAL : Addr) (a_LESS : Addr) (a_LESS_OR_EQUAL : Addr) (a_GREATER : Addr) (a_GREATER_OR_EQUAL : Addr) (h0 : Heap) (hO : Ext Z.heap h0) (X_r : Exa Z Z.heap r "com/example/manysort/manysort/language/Comparison$Relation") (F_o : Fld Z Z.heap r "java/lang/Enum" "ordinal" "I" (.int (1 : Int32))) (S_EQUAL : Sta Z Z.heap "com/example/manysort/manysort/language/Comparison$Relation" "EQUAL" "Lcom/example/manysort/manysort/language/Comparison$Relation;" (.ref a_EQUAL)) (S_NOT_EQUAL : Sta Z Z.heap "com/example/manysort/manysort/language/Comparison$Relation" "NOT_EQUAL" "Lcom/example/manysort/manysort/language/Comparison$Relation;" (.ref a_NOT_EQUAL)) (S_LESS : Sta Z Z.heap "com/example/manysort/manysort/language/Comparison$Relation" "LESS" "Lcom/example/manysort/manysort/language/Comparison$Relation;" (.ref a_LESS)) (S_LESS_OR_EQUAL : Sta Z Z.heap "com/example/manysort/manysort/language/Comparison$Relation" "LESS_OR_EQUAL" "Lcom/example/manysort/manysort/language/Comparison$Relation;" (.ref a_LESS_OR_EQUAL)) (S_GREATER : Sta Z Z.heap "com/example/manysort/manysort/language/Comparison$Relation" "GREATER" "Lcom/example/manysort/manysort/language/Comparison$Relation;" (.ref a_GREATER)) (S_GREATER_OR_EQUAL : Sta Z Z.heap "com/example/manysort/manysort/language/Comparison$Relation" "GREATER_OR_EQUAL" "Lcom/example/manysort/manysort/language/Comparison$Relation;" (.ref a_GREATER_OR_EQUAL)) :
    own_C l Z (⟨"com/example/manysort/manysort/language/Comparison$Relation", "converse", "()Lcom/example/manysort/manysort/language/Comparison$Relation;"⟩ : MethodName) prog_21_method_8_code 1 (some (.object "com/example/manysort/manysort/language/Comparison$Relation")) [] ({ frames := 1, cells := 0, slots := 0, locals := 12 } : Room) [] #[(.ref r)] h0 (fun v h => v = some (.ref a_NOT_EQUAL) ∧ h0 = h) := by
  refine own_C.of pn12 hO all0 ?_
  intro p e s m below meth c T0 S0
  refine own_F.cast (by first | (simp [entryFrame, mkF, argsToLocals, Value.category]; done) | rfl : entryFrame m #[(.ref r)] 1 = mkF m 0 #[.val (.ref r)] []) ?_
  show own_F p e below s Z _ _ _ _ _ (T0.setTop (mkF m 0 #[.val (.ref r)] []))
  refine own_F.of (fun _ => XS.aloadN S0.here S0.hx rfl (S0.dec d12_0) rfl rfl) ?_
  show own_F p e below s Z _ _ _ _ _ (T0.setTop (mkF m 1 #[.val (.ref r)] [(.ref r)]))
  refine own_callU S0 (y := (⟨"com/example/manysort/manysort/language/Comparison$Relation", "ordinal", "()I"⟩ : MethodName)) (y' := (⟨"java/lang/Enum", "ordinal", "()I"⟩ : MethodName)) (own_w hw 55 rfl) (own_w hw 56 rfl) (own_w hw 57 rfl) (by decide) (own_w hw 59 rfl) (own_w hw 58 rfl) (own_w hw 61 rfl) (own_w hw 60 rfl) (X_r.ext S0.old) (argsL := []) (rest := []) (own_ordinal l Z a0 hw r (1 : Int32) h0 S0.old F_o) all0 (by decide +kernel : parseMethodDescriptor "()I" = some ⟨[], some .int⟩) rfl rfl rfl d12_1 (by decide) (Nat.le_of_ble_eq_true rfl) (by decide) (by decide) (fun T1 h1 v1 S1 K1 q1 => ?_)
  obtain ⟨rfl, rfl⟩ := q1
  show own_F p e below s Z _ _ _ _ _ (T1.setTop (mkF m 4 #[.val (.ref r)] [(.int (1 : Int32))]))
  refine own_tsw S1 1 56 60 d12_4 (by decide) (by decide) (by decide) (by decide) (by decide) ?_
  show own_F p e below s Z _ _ _ _ _ (T1.setTop (mkF m 60 #[.val (.ref r)] []))
  refine own_getS S1 (host := "") (Or.inl (own_w hw 71 rfl)) Via.refl (S_NOT_EQUAL.ext S1.old) d12_60 (fun T2 S2 => ?_)
  show own_F p e below s Z _ _ _ _ _ (T2.setTop (mkF m 63 #[.val (.ref r)] [(.ref a_NOT_EQUAL)]))
  refine own_F.of (fun _ => XS.goto S2.here S2.hx rfl (pc0 := 63) (pc' := 87) rfl (S2.dec d12_63) (by decide) (by decide)) ?_
  show own_F p e below s Z _ _ _ _ _ (T2.setTop (mkF m 87 #[.val (.ref r)] [(.ref a_NOT_EQUAL)]))
  refine own_retA S2 rfl rfl d12_87 (by decide) (by decide) ?_
  exact ⟨rfl, rfl⟩
set_option maxRecDepth 65536 in
set_option maxHeartbeats 40000000 in
theorem own_conv2 (l : Launch) (Z : State) (a0 : Array Value) (hw : ∀ d ∈ tables_1, d.before a0 Z = true) (r : Addr) (a_EQUAL : Addr) (a_NOT_EQUAL : Addr) (a_LESS : Addr) (a_LESS_OR_EQUAL : Addr) (a_GREATER : Addr) (a_GREATER_OR_EQUAL : Addr) (h0 : Heap) (hO : Ext Z.heap h0) (X_r : Exa Z Z.heap r "com/example/manysort/manysort/language/Comparison$Relation") (F_o : Fld Z Z.heap r "java/lang/Enum" "ordinal" "I" (.int (2 : Int32))) (S_EQUAL : Sta Z Z.heap "com/example/manysort/manysort/language/Comparison$Relation" "EQUAL" "Lcom/example/manysort/manysort/language/Comparison$Relation;" (.ref a_EQUAL)) (S_NOT_EQUAL : Sta Z Z.heap "com/example/manysort/manysort/language/Comparison$Relation" "NOT_EQUAL" "Lcom/example/manysort/manysort/language/Comparison$Relation;" (.ref a_NOT_EQUAL)) (S_LESS : Sta Z Z.heap "com/example/manysort/manysort/language/Comparison$Relation" "LESS" "Lcom/example/manysort/manysort/language/Comparison$Relation;" (.ref a_LESS)) (S_LESS_OR_EQUAL : Sta Z Z.heap "com/example/manysort/manysort/language/Comparison$Relation" "LESS_OR_EQUAL" "Lcom/example/manysort/manysort/language/Comparison$Relation;" (.ref a_LESS_OR_EQUAL)) (S_GREATER : Sta Z Z.heap "com/example/manysort/manysort/language/Comparison$Relation" "GREATER" "Lcom/example/manysort/manysort/language/Comparison$Relation;" (.ref a_GREATER)) (S_GREATER_OR_EQUAL : Sta Z Z.heap "com/example/manysort/manysort/language/Comparison$Relation" "GREATER_OR_EQUAL" "Lcom/example/manysort/manysort/language/Comparison$Relation;" (.ref a_GREATER_OR_EQUAL)) :
    own_C l Z (⟨"com/example/manysort/manysort/language/Comparison$Relation", "converse", "()Lcom/example/manysort/manysort/language/Comparison$Relation;"⟩ : MethodName) prog_21_method_8_code 1 (some (.object "com/example/manysort/manysort/language/Comparison$Relation")) [] ({ frames := 1, cells := 0, slots := 0, locals := 12 } : Room) [] #[(.ref r)] h0 (fun v h => v = some (.ref a_GREATER) ∧ h0 = h) := by
  refine own_C.of pn12 hO all0 ?_
  intro p e s m below meth c T0 S0
  refine own_F.cast (by first | (simp [entryFrame, mkF, argsToLocals, Value.category]; done) | rfl : entryFrame m #[(.ref r)] 1 = mkF m 0 #[.val (.ref r)] []) ?_
  show own_F p e below s Z _ _ _ _ _ (T0.setTop (mkF m 0 #[.val (.ref r)] []))
  refine own_F.of (fun _ => XS.aloadN S0.here S0.hx rfl (S0.dec d12_0) rfl rfl) ?_
  show own_F p e below s Z _ _ _ _ _ (T0.setTop (mkF m 1 #[.val (.ref r)] [(.ref r)]))
  refine own_callU S0 (y := (⟨"com/example/manysort/manysort/language/Comparison$Relation", "ordinal", "()I"⟩ : MethodName)) (y' := (⟨"java/lang/Enum", "ordinal", "()I"⟩ : MethodName)) (own_w hw 55 rfl) (own_w hw 56 rfl) (own_w hw 57 rfl) (by decide) (own_w hw 59 rfl) (own_w hw 58 rfl) (own_w hw 61 rfl) (own_w hw 60 rfl) (X_r.ext S0.old) (argsL := []) (rest := []) (own_ordinal l Z a0 hw r (2 : Int32) h0 S0.old F_o) all0 (by decide +kernel : parseMethodDescriptor "()I" = some ⟨[], some .int⟩) rfl rfl rfl d12_1 (by decide) (Nat.le_of_ble_eq_true rfl) (by decide) (by decide) (fun T1 h1 v1 S1 K1 q1 => ?_)
  obtain ⟨rfl, rfl⟩ := q1
  show own_F p e below s Z _ _ _ _ _ (T1.setTop (mkF m 4 #[.val (.ref r)] [(.int (2 : Int32))]))
  refine own_tsw S1 2 62 66 d12_4 (by decide) (by decide) (by decide) (by decide) (by decide) ?_
  show own_F p e below s Z _ _ _ _ _ (T1.setTop (mkF m 66 #[.val (.ref r)] []))
  refine own_getS S1 (host := "") (Or.inl (own_w hw 74 rfl)) Via.refl (S_GREATER.ext S1.old) d12_66 (fun T2 S2 => ?_)
  show own_F p e below s Z _ _ _ _ _ (T2.setTop (mkF m 69 #[.val (.ref r)] [(.ref a_GREATER)]))
  refine own_F.of (fun _ => XS.goto S2.here S2.hx rfl (pc0 := 69) (pc' := 87) rfl (S2.dec d12_69) (by decide) (by decide)) ?_
  show own_F p e below s Z _ _ _ _ _ (T2.setTop (mkF m 87 #[.val (.ref r)] [(.ref a_GREATER)]))
  refine own_retA S2 rfl rfl d12_87 (by decide) (by decide) ?_
  exact ⟨rfl, rfl⟩
set_option maxRecDepth 65536 in
set_option maxHeartbeats 40000000 in
theorem own_conv3 (l : Launch) (Z : State) (a0 : Array Value) (hw : ∀ d ∈ tables_1, d.before a0 Z = true) (r : Addr) (a_EQUAL : Addr) (a_NOT_EQUAL : Addr) (a_LESS : Addr) (a_LESS_OR_EQUAL : Addr) (a_GREATER : Addr) (a_GREATER_OR_EQUAL : Addr) (h0 : Heap) (hO : Ext Z.heap h0) (X_r : Exa Z Z.heap r "com/example/manysort/manysort/language/Comparison$Relation") (F_o : Fld Z Z.heap r "java/lang/Enum" "ordinal" "I" (.int (3 : Int32))) (S_EQUAL : Sta Z Z.heap "com/example/manysort/manysort/language/Comparison$Relation" "EQUAL" "Lcom/example/manysort/manysort/language/Comparison$Relation;" (.ref a_EQUAL)) (S_NOT_EQUAL : Sta Z Z.heap "com/example/manysort/manysort/language/Comparison$Relation" "NOT_EQUAL" "Lcom/example/manysort/manysort/language/Comparison$Relation;" (.ref a_NOT_EQUAL)) (S_LESS : Sta Z Z.heap "com/example/manysort/manysort/language/Comparison$Relation" "LESS" "Lcom/example/manysort/manysort/language/Comparison$Relation;" (.ref a_LESS)) (S_LESS_OR_EQUAL : Sta Z Z.heap "com/example/manysort/manysort/language/Comparison$Relation" "LESS_OR_EQUAL" "Lcom/example/manysort/manysort/language/Comparison$Relation;" (.ref a_LESS_OR_EQUAL)) (S_GREATER : Sta Z Z.heap "com/example/manysort/manysort/language/Comparison$Relation" "GREATER" "Lcom/example/manysort/manysort/language/Comparison$Relation;" (.ref a_GREATER)) (S_GREATER_OR_EQUAL : Sta Z Z.heap "com/example/manysort/manysort/language/Comparison$Relation" "GREATER_OR_EQUAL" "Lcom/example/manysort/manysort/language/Comparison$Relation;" (.ref a_GREATER_OR_EQUAL)) :
    own_C l Z (⟨"com/example/manysort/manysort/language/Comparison$Relation", "converse", "()Lcom/example/manysort/manysort/language/Comparison$Relation;"⟩ : MethodName) prog_21_method_8_code 1 (some (.object "com/example/manysort/manysort/language/Comparison$Relation")) [] ({ frames := 1, cells := 0, slots := 0, locals := 12 } : Room) [] #[(.ref r)] h0 (fun v h => v = some (.ref a_GREATER_OR_EQUAL) ∧ h0 = h) := by
  refine own_C.of pn12 hO all0 ?_
  intro p e s m below meth c T0 S0
  refine own_F.cast (by first | (simp [entryFrame, mkF, argsToLocals, Value.category]; done) | rfl : entryFrame m #[(.ref r)] 1 = mkF m 0 #[.val (.ref r)] []) ?_
  show own_F p e below s Z _ _ _ _ _ (T0.setTop (mkF m 0 #[.val (.ref r)] []))
  refine own_F.of (fun _ => XS.aloadN S0.here S0.hx rfl (S0.dec d12_0) rfl rfl) ?_
  show own_F p e below s Z _ _ _ _ _ (T0.setTop (mkF m 1 #[.val (.ref r)] [(.ref r)]))
  refine own_callU S0 (y := (⟨"com/example/manysort/manysort/language/Comparison$Relation", "ordinal", "()I"⟩ : MethodName)) (y' := (⟨"java/lang/Enum", "ordinal", "()I"⟩ : MethodName)) (own_w hw 55 rfl) (own_w hw 56 rfl) (own_w hw 57 rfl) (by decide) (own_w hw 59 rfl) (own_w hw 58 rfl) (own_w hw 61 rfl) (own_w hw 60 rfl) (X_r.ext S0.old) (argsL := []) (rest := []) (own_ordinal l Z a0 hw r (3 : Int32) h0 S0.old F_o) all0 (by decide +kernel : parseMethodDescriptor "()I" = some ⟨[], some .int⟩) rfl rfl rfl d12_1 (by decide) (Nat.le_of_ble_eq_true rfl) (by decide) (by decide) (fun T1 h1 v1 S1 K1 q1 => ?_)
  obtain ⟨rfl, rfl⟩ := q1
  show own_F p e below s Z _ _ _ _ _ (T1.setTop (mkF m 4 #[.val (.ref r)] [(.int (3 : Int32))]))
  refine own_tsw S1 3 68 72 d12_4 (by decide) (by decide) (by decide) (by decide) (by decide) ?_
  show own_F p e below s Z _ _ _ _ _ (T1.setTop (mkF m 72 #[.val (.ref r)] []))
  refine own_getS S1 (host := "") (Or.inl (own_w hw 81 rfl)) Via.refl (S_GREATER_OR_EQUAL.ext S1.old) d12_72 (fun T2 S2 => ?_)
  show own_F p e below s Z _ _ _ _ _ (T2.setTop (mkF m 75 #[.val (.ref r)] [(.ref a_GREATER_OR_EQUAL)]))
  refine own_F.of (fun _ => XS.goto S2.here S2.hx rfl (pc0 := 75) (pc' := 87) rfl (S2.dec d12_75) (by decide) (by decide)) ?_
  show own_F p e below s Z _ _ _ _ _ (T2.setTop (mkF m 87 #[.val (.ref r)] [(.ref a_GREATER_OR_EQUAL)]))
  refine own_retA S2 rfl rfl d12_87 (by decide) (by decide) ?_
  exact ⟨rfl, rfl⟩
set_option maxRecDepth 65536 in
set_option maxHeartbeats 40000000 in
theorem own_conv4 (l : Launch) (Z : State) (a0 : Array Value) (hw : ∀ d ∈ tables_1, d.before a0 Z = true) (r : Addr) (a_EQUAL : Addr) (a_NOT_EQUAL : Addr) (a_LESS : Addr) (a_LESS_OR_EQUAL : Addr) (a_GREATER : Addr) (a_GREATER_OR_EQUAL : Addr) (h0 : Heap) (hO : Ext Z.heap h0) (X_r : Exa Z Z.heap r "com/example/manysort/manysort/language/Comparison$Relation") (F_o : Fld Z Z.heap r "java/lang/Enum" "ordinal" "I" (.int (4 : Int32))) (S_EQUAL : Sta Z Z.heap "com/example/manysort/manysort/language/Comparison$Relation" "EQUAL" "Lcom/example/manysort/manysort/language/Comparison$Relation;" (.ref a_EQUAL)) (S_NOT_EQUAL : Sta Z Z.heap "com/example/manysort/manysort/language/Comparison$Relation" "NOT_EQUAL" "Lcom/example/manysort/manysort/language/Comparison$Relation;" (.ref a_NOT_EQUAL)) (S_LESS : Sta Z Z.heap "com/example/manysort/manysort/language/Comparison$Relation" "LESS" "Lcom/example/manysort/manysort/language/Comparison$Relation;" (.ref a_LESS)) (S_LESS_OR_EQUAL : Sta Z Z.heap "com/example/manysort/manysort/language/Comparison$Relation" "LESS_OR_EQUAL" "Lcom/example/manysort/manysort/language/Comparison$Relation;" (.ref a_LESS_OR_EQUAL)) (S_GREATER : Sta Z Z.heap "com/example/manysort/manysort/language/Comparison$Relation" "GREATER" "Lcom/example/manysort/manysort/language/Comparison$Relation;" (.ref a_GREATER)) (S_GREATER_OR_EQUAL : Sta Z Z.heap "com/example/manysort/manysort/language/Comparison$Relation" "GREATER_OR_EQUAL" "Lcom/example/manysort/manysort/language/Comparison$Relation;" (.ref a_GREATER_OR_EQUAL)) :
    own_C l Z (⟨"com/example/manysort/manysort/language/Comparison$Relation", "converse", "()Lcom/example/manysort/manysort/language/Comparison$Relation;"⟩ : MethodName) prog_21_method_8_code 1 (some (.object "com/example/manysort/manysort/language/Comparison$Relation")) [] ({ frames := 1, cells := 0, slots := 0, locals := 12 } : Room) [] #[(.ref r)] h0 (fun v h => v = some (.ref a_LESS) ∧ h0 = h) := by
  refine own_C.of pn12 hO all0 ?_
  intro p e s m below meth c T0 S0
  refine own_F.cast (by first | (simp [entryFrame, mkF, argsToLocals, Value.category]; done) | rfl : entryFrame m #[(.ref r)] 1 = mkF m 0 #[.val (.ref r)] []) ?_
  show own_F p e below s Z _ _ _ _ _ (T0.setTop (mkF m 0 #[.val (.ref r)] []))
  refine own_F.of (fun _ => XS.aloadN S0.here S0.hx rfl (S0.dec d12_0) rfl rfl) ?_
  show own_F p e below s Z _ _ _ _ _ (T0.setTop (mkF m 1 #[.val (.ref r)] [(.ref r)]))
  refine own_callU S0 (y := (⟨"com/example/manysort/manysort/language/Comparison$Relation", "ordinal", "()I"⟩ : MethodName)) (y' := (⟨"java/lang/Enum", "ordinal", "()I"⟩ : MethodName)) (own_w hw 55 rfl) (own_w hw 56 rfl) (own_w hw 57 rfl) (by decide) (own_w hw 59 rfl) (own_w hw 58 rfl) (own_w hw 61 rfl) (own_w hw 60 rfl) (X_r.ext S0.old) (argsL := []) (rest := []) (own_ordinal l Z a0 hw r (4 : Int32) h0 S0.old F_o) all0 (by decide +kernel : parseMethodDescriptor "()I" = some ⟨[], some .int⟩) rfl rfl rfl d12_1 (by decide) (Nat.le_of_ble_eq_true rfl) (by decide) (by decide) (fun T1 h1 v1 S1 K1 q1 => ?_)
  obtain ⟨rfl, rfl⟩ := q1
  show own_F p e below s Z _ _ _ _ _ (T1.setTop (mkF m 4 #[.val (.ref r)] [(.int (4 : Int32))]))
  refine own_tsw S1 4 74 78 d12_4 (by decide) (by decide) (by decide) (by decide) (by decide) ?_
  show own_F p e below s Z _ _ _ _ _ (T1.setTop (mkF m 78 #[.val (.ref r)] []))
  refine own_getS S1 (host := "") (Or.inl (own_w hw 83 rfl)) Via.refl (S_LESS.ext S1.old) d12_78 (fun T2 S2 => ?_)
  show own_F p e below s Z _ _ _ _ _ (T2.setTop (mkF m 81 #[.val (.ref r)] [(.ref a_LESS)]))
  refine own_F.of (fun _ => XS.goto S2.here S2.hx rfl (pc0 := 81) (pc' := 87) rfl (S2.dec d12_81) (by decide) (by decide)) ?_
  show own_F p e below s Z _ _ _ _ _ (T2.setTop (mkF m 87 #[.val (.ref r)] [(.ref a_LESS)]))
  refine own_retA S2 rfl rfl d12_87 (by decide) (by decide) ?_
  exact ⟨rfl, rfl⟩
set_option maxRecDepth 65536 in
set_option maxHeartbeats 40000000 in
theorem own_conv5 (l : Launch) (Z : State) (a0 : Array Value) (hw : ∀ d ∈ tables_1, d.before a0 Z = true) (r : Addr) (a_EQUAL : Addr) (a_NOT_EQUAL : Addr) (a_LESS : Addr) (a_LESS_OR_EQUAL : Addr) (a_GREATER : Addr) (a_GREATER_OR_EQUAL : Addr) (h0 : Heap) (hO : Ext Z.heap h0) (X_r : Exa Z Z.heap r "com/example/manysort/manysort/language/Comparison$Relation") (F_o : Fld Z Z.heap r "java/lang/Enum" "ordinal" "I" (.int (5 : Int32))) (S_EQUAL : Sta Z Z.heap "com/example/manysort/manysort/language/Comparison$Relation" "EQUAL" "Lcom/example/manysort/manysort/language/Comparison$Relation;" (.ref a_EQUAL)) (S_NOT_EQUAL : Sta Z Z.heap "com/example/manysort/manysort/language/Comparison$Relation" "NOT_EQUAL" "Lcom/example/manysort/manysort/language/Comparison$Relation;" (.ref a_NOT_EQUAL)) (S_LESS : Sta Z Z.heap "com/example/manysort/manysort/language/Comparison$Relation" "LESS" "Lcom/example/manysort/manysort/language/Comparison$Relation;" (.ref a_LESS)) (S_LESS_OR_EQUAL : Sta Z Z.heap "com/example/manysort/manysort/language/Comparison$Relation" "LESS_OR_EQUAL" "Lcom/example/manysort/manysort/language/Comparison$Relation;" (.ref a_LESS_OR_EQUAL)) (S_GREATER : Sta Z Z.heap "com/example/manysort/manysort/language/Comparison$Relation" "GREATER" "Lcom/example/manysort/manysort/language/Comparison$Relation;" (.ref a_GREATER)) (S_GREATER_OR_EQUAL : Sta Z Z.heap "com/example/manysort/manysort/language/Comparison$Relation" "GREATER_OR_EQUAL" "Lcom/example/manysort/manysort/language/Comparison$Relation;" (.ref a_GREATER_OR_EQUAL)) :
    own_C l Z (⟨"com/example/manysort/manysort/language/Comparison$Relation", "converse", "()Lcom/example/manysort/manysort/language/Comparison$Relation;"⟩ : MethodName) prog_21_method_8_code 1 (some (.object "com/example/manysort/manysort/language/Comparison$Relation")) [] ({ frames := 1, cells := 0, slots := 0, locals := 12 } : Room) [] #[(.ref r)] h0 (fun v h => v = some (.ref a_LESS_OR_EQUAL) ∧ h0 = h) := by
  refine own_C.of pn12 hO all0 ?_
  intro p e s m below meth c T0 S0
  refine own_F.cast (by first | (simp [entryFrame, mkF, argsToLocals, Value.category]; done) | rfl : entryFrame m #[(.ref r)] 1 = mkF m 0 #[.val (.ref r)] []) ?_
  show own_F p e below s Z _ _ _ _ _ (T0.setTop (mkF m 0 #[.val (.ref r)] []))
  refine own_F.of (fun _ => XS.aloadN S0.here S0.hx rfl (S0.dec d12_0) rfl rfl) ?_
  show own_F p e below s Z _ _ _ _ _ (T0.setTop (mkF m 1 #[.val (.ref r)] [(.ref r)]))
  refine own_callU S0 (y := (⟨"com/example/manysort/manysort/language/Comparison$Relation", "ordinal", "()I"⟩ : MethodName)) (y' := (⟨"java/lang/Enum", "ordinal", "()I"⟩ : MethodName)) (own_w hw 55 rfl) (own_w hw 56 rfl) (own_w hw 57 rfl) (by decide) (own_w hw 59 rfl) (own_w hw 58 rfl) (own_w hw 61 rfl) (own_w hw 60 rfl) (X_r.ext S0.old) (argsL := []) (rest := []) (own_ordinal l Z a0 hw r (5 : Int32) h0 S0.old F_o) all0 (by decide +kernel : parseMethodDescriptor "()I" = some ⟨[], some .int⟩) rfl rfl rfl d12_1 (by decide) (Nat.le_of_ble_eq_true rfl) (by decide) (by decide) (fun T1 h1 v1 S1 K1 q1 => ?_)
  obtain ⟨rfl, rfl⟩ := q1
  show own_F p e below s Z _ _ _ _ _ (T1.setTop (mkF m 4 #[.val (.ref r)] [(.int (5 : Int32))]))
  refine own_tsw S1 5 80 84 d12_4 (by decide) (by decide) (by decide) (by decide) (by decide) ?_
  show own_F p e below s Z _ _ _ _ _ (T1.setTop (mkF m 84 #[.val (.ref r)] []))
  refine own_getS S1 (host := "") (Or.inl (own_w hw 78 rfl)) Via.refl (S_LESS_OR_EQUAL.ext S1.old) d12_84 (fun T2 S2 => ?_)
  show own_F p e below s Z _ _ _ _ _ (T2.setTop (mkF m 87 #[.val (.ref r)] [(.ref a_LESS_OR_EQUAL)]))
  refine own_retA S2 rfl rfl d12_87 (by decide) (by decide) ?_
  exact ⟨rfl, rfl⟩
theorem pn0 : plainFor x = true := plainFor_of_name (by first | (simp [plainName, overriddenIn]; done) | decide +kernel)
set_option maxRecDepth 65536 in
set_option maxHeartbeats 40000000 in
theorem own_law (l : Launch) (Z : State) (a0 : Array Value) (hw : ∀ d ∈ tables_1, d.before a0 Z = true) (p0 p1 p2 : Int32) (a_EQUAL : Addr) (a_NOT_EQUAL : Addr) (a_LESS : Addr) (a_GREATER : Addr) (a_GREATER_OR_EQUAL : Addr) (a_LESS_OR_EQUAL : Addr) (h0 : Heap) (hO : Ext Z.heap h0) (S_EQUAL : Sta Z Z.heap "com/example/manysort/manysort/language/Comparison$Relation" "EQUAL" "Lcom/example/manysort/manysort/language/Comparison$Relation;" (.ref a_EQUAL)) (X_EQUAL : Exa Z Z.heap a_EQUAL "com/example/manysort/manysort/language/Comparison$Relation") (F_EQUAL_ordinal : Fld Z Z.heap a_EQUAL "java/lang/Enum" "ordinal" "I" (.int (0 : Int32))) (S_NOT_EQUAL : Sta Z Z.heap "com/example/manysort/manysort/language/Comparison$Relation" "NOT_EQUAL" "Lcom/example/manysort/manysort/language/Comparison$Relation;" (.ref a_NOT_EQUAL)) (X_NOT_EQUAL : Exa Z Z.heap a_NOT_EQUAL "com/example/manysort/manysort/language/Comparison$Relation") (F_NOT_EQUAL_ordinal : Fld Z Z.heap a_NOT_EQUAL "java/lang/Enum" "ordinal" "I" (.int (1 : Int32))) (S_LESS : Sta Z Z.heap "com/example/manysort/manysort/language/Comparison$Relation" "LESS" "Lcom/example/manysort/manysort/language/Comparison$Relation;" (.ref a_LESS)) (X_LESS : Exa Z Z.heap a_LESS "com/example/manysort/manysort/language/Comparison$Relation") (F_LESS_ordinal : Fld Z Z.heap a_LESS "java/lang/Enum" "ordinal" "I" (.int (2 : Int32))) (S_GREATER : Sta Z Z.heap "com/example/manysort/manysort/language/Comparison$Relation" "GREATER" "Lcom/example/manysort/manysort/language/Comparison$Relation;" (.ref a_GREATER)) (X_GREATER : Exa Z Z.heap a_GREATER "com/example/manysort/manysort/language/Comparison$Relation") (F_GREATER_ordinal : Fld Z Z.heap a_GREATER "java/lang/Enum" "ordinal" "I" (.int (4 : Int32))) (S_GREATER_OR_EQUAL : Sta Z Z.heap "com/example/manysort/manysort/language/Comparison$Relation" "GREATER_OR_EQUAL" "Lcom/example/manysort/manysort/language/Comparison$Relation;" (.ref a_GREATER_OR_EQUAL)) (X_GREATER_OR_EQUAL : Exa Z Z.heap a_GREATER_OR_EQUAL "com/example/manysort/manysort/language/Comparison$Relation") (F_GREATER_OR_EQUAL_ordinal : Fld Z Z.heap a_GREATER_OR_EQUAL "java/lang/Enum" "ordinal" "I" (.int (5 : Int32))) (S_LESS_OR_EQUAL : Sta Z Z.heap "com/example/manysort/manysort/language/Comparison$Relation" "LESS_OR_EQUAL" "Lcom/example/manysort/manysort/language/Comparison$Relation;" (.ref a_LESS_OR_EQUAL)) (X_LESS_OR_EQUAL : Exa Z Z.heap a_LESS_OR_EQUAL "com/example/manysort/manysort/language/Comparison$Relation") (F_LESS_OR_EQUAL_ordinal : Fld Z Z.heap a_LESS_OR_EQUAL "java/lang/Enum" "ordinal" "I" (.int (3 : Int32))) :
    own_C l Z x code maxLocals ret tables_1 room_1 [] #[(.int p0), (.int p1), (.int p2)] h0 (fun v _ => v = some (.int 1)) := by
  refine own_C.of pn0 hO all0 ?_
  intro p e s m below meth c T0 S0
  refine own_F.cast (by first | (simp [entryFrame, mkF, argsToLocals, Value.category, maxLocals]; done) | rfl : entryFrame m #[(.int p0), (.int p1), (.int p2)] maxLocals = mkF m 0 #[.val (.int p0), .val (.int p1), .val (.int p2), .unset, .unset, .unset, .unset, .unset, .unset, .unset, .unset] []) ?_
  show own_F p e below s Z _ _ _ _ _ (T0.setTop (mkF m 0 #[.val (.int p0), .val (.int p1), .val (.int p2), .unset, .unset, .unset, .unset, .unset, .unset, .unset, .unset] []))
  refine own_F.of (fun _ => XS.iloadN S0.here S0.hx rfl (S0.dec at_0) rfl) ?_
  show own_F p e below s Z _ _ _ _ _ (T0.setTop (mkF m 1 #[.val (.int p0), .val (.int p1), .val (.int p2), .unset, .unset, .unset, .unset, .unset, .unset, .unset, .unset] [(.int p0)]))
  refine own_ldcI S0 (own_w hw 0 rfl) at_1 ?_
  show own_F p e below s Z _ _ _ _ _ (T0.setTop (mkF m 3 #[.val (.int p0), .val (.int p1), .val (.int p2), .unset, .unset, .unset, .unset, .unset, .unset, .unset, .unset] [(.int (2147483647 : Int32)), (.int p0)]))
  refine own_F.of (fun _ => XS.iand S0.here S0.hx rfl (S0.dec at_3) rfl) ?_
  show own_F p e below s Z _ _ _ _ _ (T0.setTop (mkF m 4 #[.val (.int p0), .val (.int p1), .val (.int p2), .unset, .unset, .unset, .unset, .unset, .unset, .unset, .unset] [(.int (p0 &&& (2147483647 : Int32)))]))
  refine own_F.of (fun _ => XS.bipush S0.here S0.hx rfl (S0.dec at_4)) ?_
  show own_F p e below s Z _ _ _ _ _ (T0.setTop (mkF m 6 #[.val (.int p0), .val (.int p1), .val (.int p2), .unset, .unset, .unset, .unset, .unset, .unset, .unset, .unset] [(.int (6 : Int32)), (.int (p0 &&& (2147483647 : Int32)))]))
  refine own_F.of (fun _ => own_irem S0 at_6 (by decide)) ?_
  show own_F p e below s Z _ _ _ _ _ (T0.setTop (mkF m 7 #[.val (.int p0), .val (.int p1), .val (.int p2), .unset, .unset, .unset, .unset, .unset, .unset, .unset, .unset] [(.int ((p0 &&& (2147483647 : Int32)) % (6 : Int32)))]))
  refine own_callS S0 (y := (⟨"com/example/manysort/manysort/language/RelationOrdersPinLaw", "pick", "(I)Lcom/example/manysort/manysort/language/Comparison$Relation;"⟩ : MethodName)) (own_w hw 1 rfl) (own_w hw 2 rfl) (own_w hw 3 rfl) (own_w hw 4 rfl) (by decide) (argsL := [(.int ((p0 &&& (2147483647 : Int32)) % (6 : Int32)))]) (rest := []) (own_pick l Z a0 hw ((p0 &&& (2147483647 : Int32)) % (6 : Int32)) a_EQUAL a_NOT_EQUAL a_LESS a_LESS_OR_EQUAL a_GREATER a_GREATER_OR_EQUAL h0 S0.old S_EQUAL S_NOT_EQUAL S_LESS S_LESS_OR_EQUAL S_GREATER S_GREATER_OR_EQUAL) all0 (by decide +kernel : parseMethodDescriptor "(I)Lcom/example/manysort/manysort/language/Comparison$Relation;" = some ⟨[.int], some (.object "com/example/manysort/manysort/language/Comparison$Relation")⟩) rfl rfl rfl at_7 (by decide) (Nat.le_of_ble_eq_true rfl) (by decide) (by decide) (fun T1 h1 v1 S1 K1 q1 => ?_)
  obtain ⟨rfl, rfl | rfl | rfl | rfl | rfl | rfl⟩ := q1
  · show own_F p e below s Z _ _ _ _ _ (T1.setTop (mkF m 10 #[.val (.int p0), .val (.int p1), .val (.int p2), .unset, .unset, .unset, .unset, .unset, .unset, .unset, .unset] [(.ref a_EQUAL)]))
    refine own_F.of (fun _ => XS.astoreN S1.here S1.hx rfl (S1.dec at_10) rfl rfl (l' := #[.val (.int p0), .val (.int p1), .val (.int p2), .val (.ref a_EQUAL), .unset, .unset, .unset, .unset, .unset, .unset, .unset]) rfl) ?_
    show own_F p e below s Z _ _ _ _ _ (T1.setTop (mkF m 11 #[.val (.int p0), .val (.int p1), .val (.int p2), .val (.ref a_EQUAL), .unset, .unset, .unset, .unset, .unset, .unset, .unset] []))
    refine own_F.of (fun _ => XS.iloadN S1.here S1.hx rfl (S1.dec at_11) rfl) ?_
    show own_F p e below s Z _ _ _ _ _ (T1.setTop (mkF m 12 #[.val (.int p0), .val (.int p1), .val (.int p2), .val (.ref a_EQUAL), .unset, .unset, .unset, .unset, .unset, .unset, .unset] [(.int p1)]))
    refine own_ldcI S1 (own_w hw 0 rfl) at_12 ?_
    show own_F p e below s Z _ _ _ _ _ (T1.setTop (mkF m 14 #[.val (.int p0), .val (.int p1), .val (.int p2), .val (.ref a_EQUAL), .unset, .unset, .unset, .unset, .unset, .unset, .unset] [(.int (2147483647 : Int32)), (.int p1)]))
    refine own_F.of (fun _ => XS.iand S1.here S1.hx rfl (S1.dec at_14) rfl) ?_
    show own_F p e below s Z _ _ _ _ _ (T1.setTop (mkF m 15 #[.val (.int p0), .val (.int p1), .val (.int p2), .val (.ref a_EQUAL), .unset, .unset, .unset, .unset, .unset, .unset, .unset] [(.int (p1 &&& (2147483647 : Int32)))]))
    refine own_F.of (fun _ => XS.istore S1.here S1.hx rfl (S1.dec at_15) rfl (l' := #[.val (.int p0), .val (.int p1), .val (.int p2), .val (.ref a_EQUAL), .val (.int (p1 &&& (2147483647 : Int32))), .unset, .unset, .unset, .unset, .unset, .unset]) rfl) ?_
    show own_F p e below s Z _ _ _ _ _ (T1.setTop (mkF m 17 #[.val (.int p0), .val (.int p1), .val (.int p2), .val (.ref a_EQUAL), .val (.int (p1 &&& (2147483647 : Int32))), .unset, .unset, .unset, .unset, .unset, .unset] []))
    refine own_F.of (fun _ => XS.iloadN S1.here S1.hx rfl (S1.dec at_17) rfl) ?_
    show own_F p e below s Z _ _ _ _ _ (T1.setTop (mkF m 18 #[.val (.int p0), .val (.int p1), .val (.int p2), .val (.ref a_EQUAL), .val (.int (p1 &&& (2147483647 : Int32))), .unset, .unset, .unset, .unset, .unset, .unset] [(.int p2)]))
    refine own_ldcI S1 (own_w hw 0 rfl) at_18 ?_
    show own_F p e below s Z _ _ _ _ _ (T1.setTop (mkF m 20 #[.val (.int p0), .val (.int p1), .val (.int p2), .val (.ref a_EQUAL), .val (.int (p1 &&& (2147483647 : Int32))), .unset, .unset, .unset, .unset, .unset, .unset] [(.int (2147483647 : Int32)), (.int p2)]))
    refine own_F.of (fun _ => XS.iand S1.here S1.hx rfl (S1.dec at_20) rfl) ?_
    show own_F p e below s Z _ _ _ _ _ (T1.setTop (mkF m 21 #[.val (.int p0), .val (.int p1), .val (.int p2), .val (.ref a_EQUAL), .val (.int (p1 &&& (2147483647 : Int32))), .unset, .unset, .unset, .unset, .unset, .unset] [(.int (p2 &&& (2147483647 : Int32)))]))
    refine own_F.of (fun _ => XS.istore S1.here S1.hx rfl (S1.dec at_21) rfl (l' := #[.val (.int p0), .val (.int p1), .val (.int p2), .val (.ref a_EQUAL), .val (.int (p1 &&& (2147483647 : Int32))), .val (.int (p2 &&& (2147483647 : Int32))), .unset, .unset, .unset, .unset, .unset]) rfl) ?_
    show own_F p e below s Z _ _ _ _ _ (T1.setTop (mkF m 23 #[.val (.int p0), .val (.int p1), .val (.int p2), .val (.ref a_EQUAL), .val (.int (p1 &&& (2147483647 : Int32))), .val (.int (p2 &&& (2147483647 : Int32))), .unset, .unset, .unset, .unset, .unset] []))
    refine own_F.of (fun _ => XS.iload S1.here S1.hx rfl (S1.dec at_23) rfl) ?_
    show own_F p e below s Z _ _ _ _ _ (T1.setTop (mkF m 25 #[.val (.int p0), .val (.int p1), .val (.int p2), .val (.ref a_EQUAL), .val (.int (p1 &&& (2147483647 : Int32))), .val (.int (p2 &&& (2147483647 : Int32))), .unset, .unset, .unset, .unset, .unset] [(.int (p1 &&& (2147483647 : Int32)))]))
    refine own_F.of (fun _ => XS.iload S1.here S1.hx rfl (S1.dec at_25) rfl) ?_
    show own_F p e below s Z _ _ _ _ _ (T1.setTop (mkF m 27 #[.val (.int p0), .val (.int p1), .val (.int p2), .val (.ref a_EQUAL), .val (.int (p1 &&& (2147483647 : Int32))), .val (.int (p2 &&& (2147483647 : Int32))), .unset, .unset, .unset, .unset, .unset] [(.int (p2 &&& (2147483647 : Int32))), (.int (p1 &&& (2147483647 : Int32)))]))
    refine own_icmp S1 32 at_27 (by decide) (by decide) (fun (hc27_2 : ¬ ((p1 &&& (2147483647 : Int32)) = (p2 &&& (2147483647 : Int32)))) => ?_) (fun (hc27_2 : (p1 &&& (2147483647 : Int32)) = (p2 &&& (2147483647 : Int32))) => ?_)
    · show own_F p e below s Z _ _ _ _ _ (T1.setTop (mkF m 32 #[.val (.int p0), .val (.int p1), .val (.int p2), .val (.ref a_EQUAL), .val (.int (p1 &&& (2147483647 : Int32))), .val (.int (p2 &&& (2147483647 : Int32))), .unset, .unset, .unset, .unset, .unset] []))
      refine own_new S1 (own_w hw 8 rfl) (own_w hw 9 rfl) (own_w hw 10 rfl) at_32 (by decide) (by decide) (fun T3 h3 b3 g3 S3 E3 A3 D3 => ?_)
      have F3_value : Fld Z h3 b3 "com/example/manysort/manysort/language/NaturalNumber" "value" "I" (.int (0 : Int32)) := (D3 (Or.inr (own_w hw 26 rfl)) (ty := .int) (by decide))
      have F3_written : Fld Z h3 b3 "com/example/manysort/manysort/language/NaturalNumber" "written" "Ljava/lang/String;" .null := (D3 (Or.inr (own_w hw 28 rfl)) (ty := (.object "java/lang/String")) (by decide))
      show own_F p e below s Z _ _ _ _ _ (T3.setTop (mkF m 35 #[.val (.int p0), .val (.int p1), .val (.int p2), .val (.ref a_EQUAL), .val (.int (p1 &&& (2147483647 : Int32))), .val (.int (p2 &&& (2147483647 : Int32))), .unset, .unset, .unset, .unset, .unset] [(.ref b3)]))
      refine own_F.of (fun _ => XS.dup S3.here S3.hx rfl (S3.dec at_35) rfl rfl) ?_
      show own_F p e below s Z _ _ _ _ _ (T3.setTop (mkF m 36 #[.val (.int p0), .val (.int p1), .val (.int p2), .val (.ref a_EQUAL), .val (.int (p1 &&& (2147483647 : Int32))), .val (.int (p2 &&& (2147483647 : Int32))), .unset, .unset, .unset, .unset, .unset] [(.ref b3), (.ref b3)]))
      refine own_F.of (fun _ => XS.iload S3.here S3.hx rfl (S3.dec at_36) rfl) ?_
      show own_F p e below s Z _ _ _ _ _ (T3.setTop (mkF m 38 #[.val (.int p0), .val (.int p1), .val (.int p2), .val (.ref a_EQUAL), .val (.int (p1 &&& (2147483647 : Int32))), .val (.int (p2 &&& (2147483647 : Int32))), .unset, .unset, .unset, .unset, .unset] [(.int (p1 &&& (2147483647 : Int32))), (.ref b3), (.ref b3)]))
      refine own_callI S3 (y := (⟨"com/example/manysort/manysort/language/NaturalNumber", "<init>", "(I)V"⟩ : MethodName)) rfl (own_w hw 11 rfl) (own_w hw 12 rfl) (own_w hw 10 rfl) (own_w hw 13 rfl) (by decide) (argsL := [(.int (p1 &&& (2147483647 : Int32)))]) (rest := [(.ref b3)]) (own_NN1 l Z a0 hw b3 (p1 &&& (2147483647 : Int32)) h3 S3.old (own_mayN S3 (Or.inr (by rw [g3]; exact S1.size))) A3 F3_value F3_written) (allS (Or.inr (by rw [g3]; exact S1.size)) all0) (by decide +kernel : parseMethodDescriptor "(I)V" = some ⟨[.int], none⟩) rfl rfl rfl at_38 (by decide) (Nat.le_of_ble_eq_true rfl) (by decide) (by decide) (fun T4 h4 v4 S4 K4 q4 => ?_)
      obtain ⟨rfl, F4⟩ := q4
      show own_F p e below s Z _ _ _ _ _ (T4.setTop (mkF m 41 #[.val (.int p0), .val (.int p1), .val (.int p2), .val (.ref a_EQUAL), .val (.int (p1 &&& (2147483647 : Int32))), .val (.int (p2 &&& (2147483647 : Int32))), .unset, .unset, .unset, .unset, .unset] [(.ref b3)]))
      refine own_F.of (fun _ => XS.astore S4.here S4.hx rfl (S4.dec at_41) rfl rfl (l' := #[.val (.int p0), .val (.int p1), .val (.int p2), .val (.ref a_EQUAL), .val (.int (p1 &&& (2147483647 : Int32))), .val (.int (p2 &&& (2147483647 : Int32))), .val (.ref b3), .unset, .unset, .unset, .unset]) rfl) ?_
      show own_F p e below s Z _ _ _ _ _ (T4.setTop (mkF m 43 #[.val (.int p0), .val (.int p1), .val (.int p2), .val (.ref a_EQUAL), .val (.int (p1 &&& (2147483647 : Int32))), .val (.int (p2 &&& (2147483647 : Int32))), .val (.ref b3), .unset, .unset, .unset, .unset] []))
      refine own_new S4 (own_w hw 8 rfl) (own_w hw 9 rfl) (own_w hw 10 rfl) at_43 (by decide) (by decide) (fun T5 h5 b5 g5 S5 E5 A5 D5 => ?_)
      have F5_value : Fld Z h5 b5 "com/example/manysort/manysort/language/NaturalNumber" "value" "I" (.int (0 : Int32)) := (D5 (Or.inr (own_w hw 26 rfl)) (ty := .int) (by decide))
      have F5_written : Fld Z h5 b5 "com/example/manysort/manysort/language/NaturalNumber" "written" "Ljava/lang/String;" .null := (D5 (Or.inr (own_w hw 28 rfl)) (ty := (.object "java/lang/String")) (by decide))
      show own_F p e below s Z _ _ _ _ _ (T5.setTop (mkF m 46 #[.val (.int p0), .val (.int p1), .val (.int p2), .val (.ref a_EQUAL), .val (.int (p1 &&& (2147483647 : Int32))), .val (.int (p2 &&& (2147483647 : Int32))), .val (.ref b3), .unset, .unset, .unset, .unset] [(.ref b5)]))
      refine own_F.of (fun _ => XS.dup S5.here S5.hx rfl (S5.dec at_46) rfl rfl) ?_
      show own_F p e below s Z _ _ _ _ _ (T5.setTop (mkF m 47 #[.val (.int p0), .val (.int p1), .val (.int p2), .val (.ref a_EQUAL), .val (.int (p1 &&& (2147483647 : Int32))), .val (.int (p2 &&& (2147483647 : Int32))), .val (.ref b3), .unset, .unset, .unset, .unset] [(.ref b5), (.ref b5)]))
      refine own_F.of (fun _ => XS.iload S5.here S5.hx rfl (S5.dec at_47) rfl) ?_
      show own_F p e below s Z _ _ _ _ _ (T5.setTop (mkF m 49 #[.val (.int p0), .val (.int p1), .val (.int p2), .val (.ref a_EQUAL), .val (.int (p1 &&& (2147483647 : Int32))), .val (.int (p2 &&& (2147483647 : Int32))), .val (.ref b3), .unset, .unset, .unset, .unset] [(.int (p2 &&& (2147483647 : Int32))), (.ref b5), (.ref b5)]))
      refine own_callI S5 (y := (⟨"com/example/manysort/manysort/language/NaturalNumber", "<init>", "(I)V"⟩ : MethodName)) rfl (own_w hw 11 rfl) (own_w hw 12 rfl) (own_w hw 10 rfl) (own_w hw 13 rfl) (by decide) (argsL := [(.int (p2 &&& (2147483647 : Int32)))]) (rest := [(.ref b5)]) (own_NN1 l Z a0 hw b5 (p2 &&& (2147483647 : Int32)) h5 S5.old (own_mayN S5 (Or.inr (by rw [g5]; exact S4.size))) A5 F5_value F5_written) (allS (Or.inr (by rw [g5]; exact S4.size)) all0) (by decide +kernel : parseMethodDescriptor "(I)V" = some ⟨[.int], none⟩) rfl rfl rfl at_49 (by decide) (Nat.le_of_ble_eq_true rfl) (by decide) (by decide) (fun T6 h6 v6 S6 K6 q6 => ?_)
      obtain ⟨rfl, F6⟩ := q6
      show own_F p e below s Z _ _ _ _ _ (T6.setTop (mkF m 52 #[.val (.int p0), .val (.int p1), .val (.int p2), .val (.ref a_EQUAL), .val (.int (p1 &&& (2147483647 : Int32))), .val (.int (p2 &&& (2147483647 : Int32))), .val (.ref b3), .unset, .unset, .unset, .unset] [(.ref b5)]))
      refine own_F.of (fun _ => XS.astore S6.here S6.hx rfl (S6.dec at_52) rfl rfl (l' := #[.val (.int p0), .val (.int p1), .val (.int p2), .val (.ref a_EQUAL), .val (.int (p1 &&& (2147483647 : Int32))), .val (.int (p2 &&& (2147483647 : Int32))), .val (.ref b3), .val (.ref b5), .unset, .unset, .unset]) rfl) ?_
      show own_F p e below s Z _ _ _ _ _ (T6.setTop (mkF m 54 #[.val (.int p0), .val (.int p1), .val (.int p2), .val (.ref a_EQUAL), .val (.int (p1 &&& (2147483647 : Int32))), .val (.int (p2 &&& (2147483647 : Int32))), .val (.ref b3), .val (.ref b5), .unset, .unset, .unset] []))
      refine own_F.of (fun _ => XS.aloadN S6.here S6.hx rfl (S6.dec at_54) rfl rfl) ?_
      show own_F p e below s Z _ _ _ _ _ (T6.setTop (mkF m 55 #[.val (.int p0), .val (.int p1), .val (.int p2), .val (.ref a_EQUAL), .val (.int (p1 &&& (2147483647 : Int32))), .val (.int (p2 &&& (2147483647 : Int32))), .val (.ref b3), .val (.ref b5), .unset, .unset, .unset] [(.ref a_EQUAL)]))
      refine own_callV S6 (y := (⟨"com/example/manysort/manysort/language/Comparison$Relation", "orders", "()Z"⟩ : MethodName)) (y' := (⟨"com/example/manysort/manysort/language/Comparison$Relation", "orders", "()Z"⟩ : MethodName)) (own_w hw 29 rfl) (own_w hw 30 rfl) (own_nf S6 (own_w hw 32 rfl)) (own_w hw 32 rfl) (own_w hw 31 rfl) (own_w hw 33 rfl) (own_w hw 6 rfl) (by decide) (X_EQUAL.ext S6.old) (argsL := []) (rest := []) (own_orders l Z a0 hw a_EQUAL a_EQUAL a_NOT_EQUAL a_LESS a_LESS_OR_EQUAL a_GREATER a_GREATER_OR_EQUAL h6 S6.old S_EQUAL S_NOT_EQUAL S_LESS S_LESS_OR_EQUAL S_GREATER S_GREATER_OR_EQUAL) all0 (by decide +kernel : parseMethodDescriptor "()Z" = some ⟨[], some .boolean⟩) rfl rfl rfl at_55 (by decide) (Nat.le_of_ble_eq_true rfl) (by decide) (by decide) (fun T7 h7 v7 S7 K7 q7 => ?_)
      obtain ⟨rfl, rfl⟩ := q7
      show own_F p e below s Z _ _ _ _ _ (T7.setTop (mkF m 58 #[.val (.int p0), .val (.int p1), .val (.int p2), .val (.ref a_EQUAL), .val (.int (p1 &&& (2147483647 : Int32))), .val (.int (p2 &&& (2147483647 : Int32))), .val (.ref b3), .val (.ref b5), .unset, .unset, .unset] [(.int (own_or a_EQUAL a_EQUAL a_NOT_EQUAL))]))
      refine own_F.of (fun _ => XS.istore S7.here S7.hx rfl (S7.dec at_58) rfl (l' := #[.val (.int p0), .val (.int p1), .val (.int p2), .val (.ref a_EQUAL), .val (.int (p1 &&& (2147483647 : Int32))), .val (.int (p2 &&& (2147483647 : Int32))), .val (.ref b3), .val (.ref b5), .val (.int (own_or a_EQUAL a_EQUAL a_NOT_EQUAL)), .unset, .unset]) rfl) ?_
      show own_F p e below s Z _ _ _ _ _ (T7.setTop (mkF m 60 #[.val (.int p0), .val (.int p1), .val (.int p2), .val (.ref a_EQUAL), .val (.int (p1 &&& (2147483647 : Int32))), .val (.int (p2 &&& (2147483647 : Int32))), .val (.ref b3), .val (.ref b5), .val (.int (own_or a_EQUAL a_EQUAL a_NOT_EQUAL)), .unset, .unset] []))
      rw [show (own_or a_EQUAL a_EQUAL a_NOT_EQUAL) = (0 : Int32) from (by simp [own_or])]
      show own_F p e below s Z _ _ _ _ _ (T7.setTop (mkF m 60 #[.val (.int p0), .val (.int p1), .val (.int p2), .val (.ref a_EQUAL), .val (.int (p1 &&& (2147483647 : Int32))), .val (.int (p2 &&& (2147483647 : Int32))), .val (.ref b3), .val (.ref b5), .val (.int (0 : Int32)), .unset, .unset] []))
      refine own_F.of (fun _ => XS.aloadN S7.here S7.hx rfl (S7.dec at_60) rfl rfl) ?_
      show own_F p e below s Z _ _ _ _ _ (T7.setTop (mkF m 61 #[.val (.int p0), .val (.int p1), .val (.int p2), .val (.ref a_EQUAL), .val (.int (p1 &&& (2147483647 : Int32))), .val (.int (p2 &&& (2147483647 : Int32))), .val (.ref b3), .val (.ref b5), .val (.int (0 : Int32)), .unset, .unset] [(.ref a_EQUAL)]))
      refine own_F.of (fun _ => XS.aload S7.here S7.hx rfl (S7.dec at_61) rfl rfl) ?_
      show own_F p e below s Z _ _ _ _ _ (T7.setTop (mkF m 63 #[.val (.int p0), .val (.int p1), .val (.int p2), .val (.ref a_EQUAL), .val (.int (p1 &&& (2147483647 : Int32))), .val (.int (p2 &&& (2147483647 : Int32))), .val (.ref b3), .val (.ref b5), .val (.int (0 : Int32)), .unset, .unset] [(.ref b3), (.ref a_EQUAL)]))
      refine own_F.of (fun _ => XS.aload S7.here S7.hx rfl (S7.dec at_63) rfl rfl) ?_
      show own_F p e below s Z _ _ _ _ _ (T7.setTop (mkF m 65 #[.val (.int p0), .val (.int p1), .val (.int p2), .val (.ref a_EQUAL), .val (.int (p1 &&& (2147483647 : Int32))), .val (.int (p2 &&& (2147483647 : Int32))), .val (.ref b3), .val (.ref b5), .val (.int (0 : Int32)), .unset, .unset] [(.ref b5), (.ref b3), (.ref a_EQUAL)]))
      have f8 := (((A3.keep K4).ext E5).keep K6)
      have f9 := (A5.keep K6)
      have f10 := ((F4.ext E5).keep K6 (ninS (Nat.ne_of_lt (by rw [g5]; exact (F4).lt)) nin0))
      refine own_callV S7 (y := (⟨"com/example/manysort/manysort/language/Comparison$Relation", "holds", "(Lcom/example/manysort/manysort/language/Term;Lcom/example/manysort/manysort/language/Term;)Z"⟩ : MethodName)) (y' := (⟨"com/example/manysort/manysort/language/Comparison$Relation", "holds", "(Lcom/example/manysort/manysort/language/Term;Lcom/example/manysort/manysort/language/Term;)Z"⟩ : MethodName)) (own_w hw 35 rfl) (own_w hw 36 rfl) (own_nf S7 (own_w hw 38 rfl)) (own_w hw 38 rfl) (own_w hw 37 rfl) (own_w hw 39 rfl) (own_w hw 6 rfl) (by decide) (X_EQUAL.ext S7.old) (argsL := [(.ref b3), (.ref b5)]) (rest := []) (own_holds0 l Z a0 hw a_EQUAL b3 b5 (p1 &&& (2147483647 : Int32)) (p2 &&& (2147483647 : Int32)) h6 S7.old X_EQUAL F_EQUAL_ordinal f8 f9 f10 F6 (Nat.ne_of_lt (by rw [g5]; exact ((A3.keep K4)).lt))) all0 (by decide +kernel : parseMethodDescriptor "(Lcom/example/manysort/manysort/language/Term;Lcom/example/manysort/manysort/language/Term;)Z" = some ⟨[(.object "com/example/manysort/manysort/language/Term"), (.object "com/example/manysort/manysort/language/Term")], some .boolean⟩) rfl rfl rfl at_65 (by decide) (Nat.le_of_ble_eq_true rfl) (by decide) (by decide) (fun T11 h11 v11 S11 K11 q11 => ?_)
      obtain ⟨rfl, rfl⟩ := q11
      show own_F p e below s Z _ _ _ _ _ (T11.setTop (mkF m 68 #[.val (.int p0), .val (.int p1), .val (.int p2), .val (.ref a_EQUAL), .val (.int (p1 &&& (2147483647 : Int32))), .val (.int (p2 &&& (2147483647 : Int32))), .val (.ref b3), .val (.ref b5), .val (.int (0 : Int32)), .unset, .unset] [(.int (own_h0 (own_cmp (p1 &&& (2147483647 : Int32)) (p2 &&& (2147483647 : Int32)))))]))
      refine own_F.of (fun _ => XS.aloadN S11.here S11.hx rfl (S11.dec at_68) rfl rfl) ?_
      show own_F p e below s Z _ _ _ _ _ (T11.setTop (mkF m 69 #[.val (.int p0), .val (.int p1), .val (.int p2), .val (.ref a_EQUAL), .val (.int (p1 &&& (2147483647 : Int32))), .val (.int (p2 &&& (2147483647 : Int32))), .val (.ref b3), .val (.ref b5), .val (.int (0 : Int32)), .unset, .unset] [(.ref a_EQUAL), (.int (own_h0 (own_cmp (p1 &&& (2147483647 : Int32)) (p2 &&& (2147483647 : Int32)))))]))
      refine own_F.of (fun _ => XS.aload S11.here S11.hx rfl (S11.dec at_69) rfl rfl) ?_
      show own_F p e below s Z _ _ _ _ _ (T11.setTop (mkF m 71 #[.val (.int p0), .val (.int p1), .val (.int p2), .val (.ref a_EQUAL), .val (.int (p1 &&& (2147483647 : Int32))), .val (.int (p2 &&& (2147483647 : Int32))), .val (.ref b3), .val (.ref b5), .val (.int (0 : Int32)), .unset, .unset] [(.ref b5), (.ref a_EQUAL), (.int (own_h0 (own_cmp (p1 &&& (2147483647 : Int32)) (p2 &&& (2147483647 : Int32)))))]))
      refine own_F.of (fun _ => XS.aload S11.here S11.hx rfl (S11.dec at_71) rfl rfl) ?_
      show own_F p e below s Z _ _ _ _ _ (T11.setTop (mkF m 73 #[.val (.int p0), .val (.int p1), .val (.int p2), .val (.ref a_EQUAL), .val (.int (p1 &&& (2147483647 : Int32))), .val (.int (p2 &&& (2147483647 : Int32))), .val (.ref b3), .val (.ref b5), .val (.int (0 : Int32)), .unset, .unset] [(.ref b3), (.ref b5), (.ref a_EQUAL), (.int (own_h0 (own_cmp (p1 &&& (2147483647 : Int32)) (p2 &&& (2147483647 : Int32)))))]))
      refine own_callV S11 (y := (⟨"com/example/manysort/manysort/language/Comparison$Relation", "holds", "(Lcom/example/manysort/manysort/language/Term;Lcom/example/manysort/manysort/language/Term;)Z"⟩ : MethodName)) (y' := (⟨"com/example/manysort/manysort/language/Comparison$Relation", "holds", "(Lcom/example/manysort/manysort/language/Term;Lcom/example/manysort/manysort/language/Term;)Z"⟩ : MethodName)) (own_w hw 35 rfl) (own_w hw 36 rfl) (own_nf S11 (own_w hw 38 rfl)) (own_w hw 38 rfl) (own_w hw 37 rfl) (own_w hw 39 rfl) (own_w hw 6 rfl) (by decide) (X_EQUAL.ext S11.old) (argsL := [(.ref b5), (.ref b3)]) (rest := [(.int (own_h0 (own_cmp (p1 &&& (2147483647 : Int32)) (p2 &&& (2147483647 : Int32)))))]) (own_holds0 l Z a0 hw a_EQUAL b5 b3 (p2 &&& (2147483647 : Int32)) (p1 &&& (2147483647 : Int32)) h6 S11.old X_EQUAL F_EQUAL_ordinal f9 f8 F6 f10 (Ne.symm (Nat.ne_of_lt (by rw [g5]; exact ((A3.keep K4)).lt)))) all0 (by decide +kernel : parseMethodDescriptor "(Lcom/example/manysort/manysort/language/Term;Lcom/example/manysort/manysort/language/Term;)Z" = some ⟨[(.object "com/example/manysort/manysort/language/Term"), (.object "com/example/manysort/manysort/language/Term")], some .boolean⟩) rfl rfl rfl at_73 (by decide) (Nat.le_of_ble_eq_true rfl) (by decide) (by decide) (fun T12 h12 v12 S12 K12 q12 => ?_)
      obtain ⟨rfl, rfl⟩ := q12
      show own_F p e below s Z _ _ _ _ _ (T12.setTop (mkF m 76 #[.val (.int p0), .val (.int p1), .val (.int p2), .val (.ref a_EQUAL), .val (.int (p1 &&& (2147483647 : Int32))), .val (.int (p2 &&& (2147483647 : Int32))), .val (.ref b3), .val (.ref b5), .val (.int (0 : Int32)), .unset, .unset] [(.int (own_h0 (own_cmp (p2 &&& (2147483647 : Int32)) (p1 &&& (2147483647 : Int32))))), (.int (own_h0 (own_cmp (p1 &&& (2147483647 : Int32)) (p2 &&& (2147483647 : Int32)))))]))
      refine own_icmp S12 83 at_76 (by decide) (by decide) (fun (hc76_13 : (own_h0 (own_cmp (p1 &&& (2147483647 : Int32)) (p2 &&& (2147483647 : Int32)))) = (own_h0 (own_cmp (p2 &&& (2147483647 : Int32)) (p1 &&& (2147483647 : Int32))))) => ?_) (fun (hc76_13 : ¬ ((own_h0 (own_cmp (p1 &&& (2147483647 : Int32)) (p2 &&& (2147483647 : Int32)))) = (own_h0 (own_cmp (p2 &&& (2147483647 : Int32)) (p1 &&& (2147483647 : Int32)))))) => False.elim (hc76_13 (own_e0 hc27_2)))
      show own_F p e below s Z _ _ _ _ _ (T12.setTop (mkF m 83 #[.val (.int p0), .val (.int p1), .val (.int p2), .val (.ref a_EQUAL), .val (.int (p1 &&& (2147483647 : Int32))), .val (.int (p2 &&& (2147483647 : Int32))), .val (.ref b3), .val (.ref b5), .val (.int (0 : Int32)), .unset, .unset] []))
      refine own_F.of (fun _ => XS.iconst S12.here S12.hx rfl (S12.dec at_83)) ?_
      show own_F p e below s Z _ _ _ _ _ (T12.setTop (mkF m 84 #[.val (.int p0), .val (.int p1), .val (.int p2), .val (.ref a_EQUAL), .val (.int (p1 &&& (2147483647 : Int32))), .val (.int (p2 &&& (2147483647 : Int32))), .val (.ref b3), .val (.ref b5), .val (.int (0 : Int32)), .unset, .unset] [(.int (0 : Int32))]))
      refine own_F.of (fun _ => XS.istore S12.here S12.hx rfl (S12.dec at_84) rfl (l' := #[.val (.int p0), .val (.int p1), .val (.int p2), .val (.ref a_EQUAL), .val (.int (p1 &&& (2147483647 : Int32))), .val (.int (p2 &&& (2147483647 : Int32))), .val (.ref b3), .val (.ref b5), .val (.int (0 : Int32)), .val (.int (0 : Int32)), .unset]) rfl) ?_
      show own_F p e below s Z _ _ _ _ _ (T12.setTop (mkF m 86 #[.val (.int p0), .val (.int p1), .val (.int p2), .val (.ref a_EQUAL), .val (.int (p1 &&& (2147483647 : Int32))), .val (.int (p2 &&& (2147483647 : Int32))), .val (.ref b3), .val (.ref b5), .val (.int (0 : Int32)), .val (.int (0 : Int32)), .unset] []))
      refine own_F.of (fun _ => XS.aloadN S12.here S12.hx rfl (S12.dec at_86) rfl rfl) ?_
      show own_F p e below s Z _ _ _ _ _ (T12.setTop (mkF m 87 #[.val (.int p0), .val (.int p1), .val (.int p2), .val (.ref a_EQUAL), .val (.int (p1 &&& (2147483647 : Int32))), .val (.int (p2 &&& (2147483647 : Int32))), .val (.ref b3), .val (.ref b5), .val (.int (0 : Int32)), .val (.int (0 : Int32)), .unset] [(.ref a_EQUAL)]))
      refine own_callV S12 (y := (⟨"com/example/manysort/manysort/language/Comparison$Relation", "converse", "()Lcom/example/manysort/manysort/language/Comparison$Relation;"⟩ : MethodName)) (y' := (⟨"com/example/manysort/manysort/language/Comparison$Relation", "converse", "()Lcom/example/manysort/manysort/language/Comparison$Relation;"⟩ : MethodName)) (own_w hw 64 rfl) (own_w hw 65 rfl) (own_nf S12 (own_w hw 67 rfl)) (own_w hw 67 rfl) (own_w hw 66 rfl) (own_w hw 68 rfl) (own_w hw 6 rfl) (by decide) (X_EQUAL.ext S12.old) (argsL := []) (rest := []) (own_conv0 l Z a0 hw a_EQUAL a_EQUAL a_NOT_EQUAL a_LESS a_LESS_OR_EQUAL a_GREATER a_GREATER_OR_EQUAL h6 S12.old X_EQUAL F_EQUAL_ordinal S_EQUAL S_NOT_EQUAL S_LESS S_LESS_OR_EQUAL S_GREATER S_GREATER_OR_EQUAL) all0 (by decide +kernel : parseMethodDescriptor "()Lcom/example/manysort/manysort/language/Comparison$Relation;" = some ⟨[], some (.object "com/example/manysort/manysort/language/Comparison$Relation")⟩) rfl rfl rfl at_87 (by decide) (Nat.le_of_ble_eq_true rfl) (by decide) (by decide) (fun T14 h14 v14 S14 K14 q14 => ?_)
      obtain ⟨rfl, rfl⟩ := q14
      show own_F p e below s Z _ _ _ _ _ (T14.setTop (mkF m 90 #[.val (.int p0), .val (.int p1), .val (.int p2), .val (.ref a_EQUAL), .val (.int (p1 &&& (2147483647 : Int32))), .val (.int (p2 &&& (2147483647 : Int32))), .val (.ref b3), .val (.ref b5), .val (.int (0 : Int32)), .val (.int (0 : Int32)), .unset] [(.ref a_EQUAL)]))
      refine own_F.of (fun _ => XS.aloadN S14.here S14.hx rfl (S14.dec at_90) rfl rfl) ?_
      show own_F p e below s Z _ _ _ _ _ (T14.setTop (mkF m 91 #[.val (.int p0), .val (.int p1), .val (.int p2), .val (.ref a_EQUAL), .val (.int (p1 &&& (2147483647 : Int32))), .val (.int (p2 &&& (2147483647 : Int32))), .val (.ref b3), .val (.ref b5), .val (.int (0 : Int32)), .val (.int (0 : Int32)), .unset] [(.ref a_EQUAL), (.ref a_EQUAL)]))
      refine own_acmp S14 rfl rfl 98 at_91 (by decide) (by decide) (fun (hc91_15 : (Value.ref a_EQUAL) = (Value.ref a_EQUAL)) => ?_) (fun (hc91_15 : ¬ ((Value.ref a_EQUAL) = (Value.ref a_EQUAL))) => False.elim (hc91_15 rfl))
      show own_F p e below s Z _ _ _ _ _ (T14.setTop (mkF m 98 #[.val (.int p0), .val (.int p1), .val (.int p2), .val (.ref a_EQUAL), .val (.int (p1 &&& (2147483647 : Int32))), .val (.int (p2 &&& (2147483647 : Int32))), .val (.ref b3), .val (.ref b5), .val (.int (0 : Int32)), .val (.int (0 : Int32)), .unset] []))
      refine own_F.of (fun _ => XS.iconst S14.here S14.hx rfl (S14.dec at_98)) ?_
      show own_F p e below s Z _ _ _ _ _ (T14.setTop (mkF m 99 #[.val (.int p0), .val (.int p1), .val (.int p2), .val (.ref a_EQUAL), .val (.int (p1 &&& (2147483647 : Int32))), .val (.int (p2 &&& (2147483647 : Int32))), .val (.ref b3), .val (.ref b5), .val (.int (0 : Int32)), .val (.int (0 : Int32)), .unset] [(.int (0 : Int32))]))
      refine own_F.of (fun _ => XS.istore S14.here S14.hx rfl (S14.dec at_99) rfl (l' := #[.val (.int p0), .val (.int p1), .val (.int p2), .val (.ref a_EQUAL), .val (.int (p1 &&& (2147483647 : Int32))), .val (.int (p2 &&& (2147483647 : Int32))), .val (.ref b3), .val (.ref b5), .val (.int (0 : Int32)), .val (.int (0 : Int32)), .val (.int (0 : Int32))]) rfl) ?_
      show own_F p e below s Z _ _ _ _ _ (T14.setTop (mkF m 101 #[.val (.int p0), .val (.int p1), .val (.int p2), .val (.ref a_EQUAL), .val (.int (p1 &&& (2147483647 : Int32))), .val (.int (p2 &&& (2147483647 : Int32))), .val (.ref b3), .val (.ref b5), .val (.int (0 : Int32)), .val (.int (0 : Int32)), .val (.int (0 : Int32))] []))
      refine own_F.of (fun _ => XS.iload S14.here S14.hx rfl (S14.dec at_101) rfl) ?_
      show own_F p e below s Z _ _ _ _ _ (T14.setTop (mkF m 103 #[.val (.int p0), .val (.int p1), .val (.int p2), .val (.ref a_EQUAL), .val (.int (p1 &&& (2147483647 : Int32))), .val (.int (p2 &&& (2147483647 : Int32))), .val (.ref b3), .val (.ref b5), .val (.int (0 : Int32)), .val (.int (0 : Int32)), .val (.int (0 : Int32))] [(.int (0 : Int32))]))
      refine own_F.of (fun _ => XS.iload S14.here S14.hx rfl (S14.dec at_103) rfl) ?_
      show own_F p e below s Z _ _ _ _ _ (T14.setTop (mkF m 105 #[.val (.int p0), .val (.int p1), .val (.int p2), .val (.ref a_EQUAL), .val (.int (p1 &&& (2147483647 : Int32))), .val (.int (p2 &&& (2147483647 : Int32))), .val (.ref b3), .val (.ref b5), .val (.int (0 : Int32)), .val (.int (0 : Int32)), .val (.int (0 : Int32))] [(.int (0 : Int32)), (.int (0 : Int32))]))
      refine own_icmp S14 119 at_105 (by decide) (by decide) (fun (hc105_16 : ¬ ((0 : Int32) = (0 : Int32))) => False.elim (absurd hc105_16 (by decide))) (fun (hc105_16 : (0 : Int32) = (0 : Int32)) => ?_)
      show own_F p e below s Z _ _ _ _ _ (T14.setTop (mkF m 108 #[.val (.int p0), .val (.int p1), .val (.int p2), .val (.ref a_EQUAL), .val (.int (p1 &&& (2147483647 : Int32))), .val (.int (p2 &&& (2147483647 : Int32))), .val (.ref b3), .val (.ref b5), .val (.int (0 : Int32)), .val (.int (0 : Int32)), .val (.int (0 : Int32))] []))
      refine own_F.of (fun _ => XS.iload S14.here S14.hx rfl (S14.dec at_108) rfl) ?_
      show own_F p e below s Z _ _ _ _ _ (T14.setTop (mkF m 110 #[.val (.int p0), .val (.int p1), .val (.int p2), .val (.ref a_EQUAL), .val (.int (p1 &&& (2147483647 : Int32))), .val (.int (p2 &&& (2147483647 : Int32))), .val (.ref b3), .val (.ref b5), .val (.int (0 : Int32)), .val (.int (0 : Int32)), .val (.int (0 : Int32))] [(.int (0 : Int32))]))
      refine own_F.of (fun _ => XS.iload S14.here S14.hx rfl (S14.dec at_110) rfl) ?_
      show own_F p e below s Z _ _ _ _ _ (T14.setTop (mkF m 112 #[.val (.int p0), .val (.int p1), .val (.int p2), .val (.ref a_EQUAL), .val (.int (p1 &&& (2147483647 : Int32))), .val (.int (p2 &&& (2147483647 : Int32))), .val (.ref b3), .val (.ref b5), .val (.int (0 : Int32)), .val (.int (0 : Int32)), .val (.int (0 : Int32))] [(.int (0 : Int32)), (.int (0 : Int32))]))
      refine own_icmp S14 119 at_112 (by decide) (by decide) (fun (hc112_17 : ¬ ((0 : Int32) = (0 : Int32))) => False.elim (absurd hc112_17 (by decide))) (fun (hc112_17 : (0 : Int32) = (0 : Int32)) => ?_)
      show own_F p e below s Z _ _ _ _ _ (T14.setTop (mkF m 115 #[.val (.int p0), .val (.int p1), .val (.int p2), .val (.ref a_EQUAL), .val (.int (p1 &&& (2147483647 : Int32))), .val (.int (p2 &&& (2147483647 : Int32))), .val (.ref b3), .val (.ref b5), .val (.int (0 : Int32)), .val (.int (0 : Int32)), .val (.int (0 : Int32))] []))
      refine own_F.of (fun _ => XS.iconst S14.here S14.hx rfl (S14.dec at_115)) ?_
      show own_F p e below s Z _ _ _ _ _ (T14.setTop (mkF m 116 #[.val (.int p0), .val (.int p1), .val (.int p2), .val (.ref a_EQUAL), .val (.int (p1 &&& (2147483647 : Int32))), .val (.int (p2 &&& (2147483647 : Int32))), .val (.ref b3), .val (.ref b5), .val (.int (0 : Int32)), .val (.int (0 : Int32)), .val (.int (0 : Int32))] [(.int (1 : Int32))]))
      refine own_F.of (fun _ => XS.goto S14.here S14.hx rfl (pc0 := 116) (pc' := 120) rfl (S14.dec at_116) (by decide) (by decide)) ?_
      show own_F p e below s Z _ _ _ _ _ (T14.setTop (mkF m 120 #[.val (.int p0), .val (.int p1), .val (.int p2), .val (.ref a_EQUAL), .val (.int (p1 &&& (2147483647 : Int32))), .val (.int (p2 &&& (2147483647 : Int32))), .val (.ref b3), .val (.ref b5), .val (.int (0 : Int32)), .val (.int (0 : Int32)), .val (.int (0 : Int32))] [(.int (1 : Int32))]))
      refine own_retZ S14 (by simp) at_120 (by decide) (by decide) ?_
      rfl
    · show own_F p e below s Z _ _ _ _ _ (T1.setTop (mkF m 30 #[.val (.int p0), .val (.int p1), .val (.int p2), .val (.ref a_EQUAL), .val (.int (p1 &&& (2147483647 : Int32))), .val (.int (p2 &&& (2147483647 : Int32))), .unset, .unset, .unset, .unset, .unset] []))
      refine own_F.of (fun _ => XS.iconst S1.here S1.hx rfl (S1.dec at_30)) ?_
      show own_F p e below s Z _ _ _ _ _ (T1.setTop (mkF m 31 #[.val (.int p0), .val (.int p1), .val (.int p2), .val (.ref a_EQUAL), .val (.int (p1 &&& (2147483647 : Int32))), .val (.int (p2 &&& (2147483647 : Int32))), .unset, .unset, .unset, .unset, .unset] [(.int (1 : Int32))]))
      refine own_retZ S1 (by simp) at_31 (by decide) (by decide) ?_
      rfl
  · show own_F p e below s Z _ _ _ _ _ (T1.setTop (mkF m 10 #[.val (.int p0), .val (.int p1), .val (.int p2), .unset, .unset, .unset, .unset, .unset, .unset, .unset, .unset] [(.ref a_NOT_EQUAL)]))
    refine own_F.of (fun _ => XS.astoreN S1.here S1.hx rfl (S1.dec at_10) rfl rfl (l' := #[.val (.int p0), .val (.int p1), .val (.int p2), .val (.ref a_NOT_EQUAL), .unset, .unset, .unset, .unset, .unset, .unset, .unset]) rfl) ?_
    show own_F p e below s Z _ _ _ _ _ (T1.setTop (mkF m 11 #[.val (.int p0), .val (.int p1), .val (.int p2), .val (.ref a_NOT_EQUAL), .unset, .unset, .unset, .unset, .unset, .unset, .unset] []))
    refine own_F.of (fun _ => XS.iloadN S1.here S1.hx rfl (S1.dec at_11) rfl) ?_
    show own_F p e below s Z _ _ _ _ _ (T1.setTop (mkF m 12 #[.val (.int p0), .val (.int p1), .val (.int p2), .val (.ref a_NOT_EQUAL), .unset, .unset, .unset, .unset, .unset, .unset, .unset] [(.int p1)]))
    refine own_ldcI S1 (own_w hw 0 rfl) at_12 ?_
    show own_F p e below s Z _ _ _ _ _ (T1.setTop (mkF m 14 #[.val (.int p0), .val (.int p1), .val (.int p2), .val (.ref a_NOT_EQUAL), .unset, .unset, .unset, .unset, .unset, .unset, .unset] [(.int (2147483647 : Int32)), (.int p1)]))
    refine own_F.of (fun _ => XS.iand S1.here S1.hx rfl (S1.dec at_14) rfl) ?_
    show own_F p e below s Z _ _ _ _ _ (T1.setTop (mkF m 15 #[.val (.int p0), .val (.int p1), .val (.int p2), .val (.ref a_NOT_EQUAL), .unset, .unset, .unset, .unset, .unset, .unset, .unset] [(.int (p1 &&& (2147483647 : Int32)))]))
    refine own_F.of (fun _ => XS.istore S1.here S1.hx rfl (S1.dec at_15) rfl (l' := #[.val (.int p0), .val (.int p1), .val (.int p2), .val (.ref a_NOT_EQUAL), .val (.int (p1 &&& (2147483647 : Int32))), .unset, .unset, .unset, .unset, .unset, .unset]) rfl) ?_
    show own_F p e below s Z _ _ _ _ _ (T1.setTop (mkF m 17 #[.val (.int p0), .val (.int p1), .val (.int p2), .val (.ref a_NOT_EQUAL), .val (.int (p1 &&& (2147483647 : Int32))), .unset, .unset, .unset, .unset, .unset, .unset] []))
    refine own_F.of (fun _ => XS.iloadN S1.here S1.hx rfl (S1.dec at_17) rfl) ?_
    show own_F p e below s Z _ _ _ _ _ (T1.setTop (mkF m 18 #[.val (.int p0), .val (.int p1), .val (.int p2), .val (.ref a_NOT_EQUAL), .val (.int (p1 &&& (2147483647 : Int32))), .unset, .unset, .unset, .unset, .unset, .unset] [(.int p2)]))
    refine own_ldcI S1 (own_w hw 0 rfl) at_18 ?_
    show own_F p e below s Z _ _ _ _ _ (T1.setTop (mkF m 20 #[.val (.int p0), .val (.int p1), .val (.int p2), .val (.ref a_NOT_EQUAL), .val (.int (p1 &&& (2147483647 : Int32))), .unset, .unset, .unset, .unset, .unset, .unset] [(.int (2147483647 : Int32)), (.int p2)]))
    refine own_F.of (fun _ => XS.iand S1.here S1.hx rfl (S1.dec at_20) rfl) ?_
    show own_F p e below s Z _ _ _ _ _ (T1.setTop (mkF m 21 #[.val (.int p0), .val (.int p1), .val (.int p2), .val (.ref a_NOT_EQUAL), .val (.int (p1 &&& (2147483647 : Int32))), .unset, .unset, .unset, .unset, .unset, .unset] [(.int (p2 &&& (2147483647 : Int32)))]))
    refine own_F.of (fun _ => XS.istore S1.here S1.hx rfl (S1.dec at_21) rfl (l' := #[.val (.int p0), .val (.int p1), .val (.int p2), .val (.ref a_NOT_EQUAL), .val (.int (p1 &&& (2147483647 : Int32))), .val (.int (p2 &&& (2147483647 : Int32))), .unset, .unset, .unset, .unset, .unset]) rfl) ?_
    show own_F p e below s Z _ _ _ _ _ (T1.setTop (mkF m 23 #[.val (.int p0), .val (.int p1), .val (.int p2), .val (.ref a_NOT_EQUAL), .val (.int (p1 &&& (2147483647 : Int32))), .val (.int (p2 &&& (2147483647 : Int32))), .unset, .unset, .unset, .unset, .unset] []))
    refine own_F.of (fun _ => XS.iload S1.here S1.hx rfl (S1.dec at_23) rfl) ?_
    show own_F p e below s Z _ _ _ _ _ (T1.setTop (mkF m 25 #[.val (.int p0), .val (.int p1), .val (.int p2), .val (.ref a_NOT_EQUAL), .val (.int (p1 &&& (2147483647 : Int32))), .val (.int (p2 &&& (2147483647 : Int32))), .unset, .unset, .unset, .unset, .unset] [(.int (p1 &&& (2147483647 : Int32)))]))
    refine own_F.of (fun _ => XS.iload S1.here S1.hx rfl (S1.dec at_25) rfl) ?_
    show own_F p e below s Z _ _ _ _ _ (T1.setTop (mkF m 27 #[.val (.int p0), .val (.int p1), .val (.int p2), .val (.ref a_NOT_EQUAL), .val (.int (p1 &&& (2147483647 : Int32))), .val (.int (p2 &&& (2147483647 : Int32))), .unset, .unset, .unset, .unset, .unset] [(.int (p2 &&& (2147483647 : Int32))), (.int (p1 &&& (2147483647 : Int32)))]))
    refine own_icmp S1 32 at_27 (by decide) (by decide) (fun (hc27_18 : ¬ ((p1 &&& (2147483647 : Int32)) = (p2 &&& (2147483647 : Int32)))) => ?_) (fun (hc27_18 : (p1 &&& (2147483647 : Int32)) = (p2 &&& (2147483647 : Int32))) => ?_)
    · show own_F p e below s Z _ _ _ _ _ (T1.setTop (mkF m 32 #[.val (.int p0), .val (.int p1), .val (.int p2), .val (.ref a_NOT_EQUAL), .val (.int (p1 &&& (2147483647 : Int32))), .val (.int (p2 &&& (2147483647 : Int32))), .unset, .unset, .unset, .unset, .unset] []))
      refine own_new S1 (own_w hw 8 rfl) (own_w hw 9 rfl) (own_w hw 10 rfl) at_32 (by decide) (by decide) (fun T19 h19 b19 g19 S19 E19 A19 D19 => ?_)
      have F19_value : Fld Z h19 b19 "com/example/manysort/manysort/language/NaturalNumber" "value" "I" (.int (0 : Int32)) := (D19 (Or.inr (own_w hw 26 rfl)) (ty := .int) (by decide))
      have F19_written : Fld Z h19 b19 "com/example/manysort/manysort/language/NaturalNumber" "written" "Ljava/lang/String;" .null := (D19 (Or.inr (own_w hw 28 rfl)) (ty := (.object "java/lang/String")) (by decide))
      show own_F p e below s Z _ _ _ _ _ (T19.setTop (mkF m 35 #[.val (.int p0), .val (.int p1), .val (.int p2), .val (.ref a_NOT_EQUAL), .val (.int (p1 &&& (2147483647 : Int32))), .val (.int (p2 &&& (2147483647 : Int32))), .unset, .unset, .unset, .unset, .unset] [(.ref b19)]))
      refine own_F.of (fun _ => XS.dup S19.here S19.hx rfl (S19.dec at_35) rfl rfl) ?_
      show own_F p e below s Z _ _ _ _ _ (T19.setTop (mkF m 36 #[.val (.int p0), .val (.int p1), .val (.int p2), .val (.ref a_NOT_EQUAL), .val (.int (p1 &&& (2147483647 : Int32))), .val (.int (p2 &&& (2147483647 : Int32))), .unset, .unset, .unset, .unset, .unset] [(.ref b19), (.ref b19)]))
      refine own_F.of (fun _ => XS.iload S19.here S19.hx rfl (S19.dec at_36) rfl) ?_
      show own_F p e below s Z _ _ _ _ _ (T19.setTop (mkF m 38 #[.val (.int p0), .val (.int p1), .val (.int p2), .val (.ref a_NOT_EQUAL), .val (.int (p1 &&& (2147483647 : Int32))), .val (.int (p2 &&& (2147483647 : Int32))), .unset, .unset, .unset, .unset, .unset] [(.int (p1 &&& (2147483647 : Int32))), (.ref b19), (.ref b19)]))
      refine own_callI S19 (y := (⟨"com/example/manysort/manysort/language/NaturalNumber", "<init>", "(I)V"⟩ : MethodName)) rfl (own_w hw 11 rfl) (own_w hw 12 rfl) (own_w hw 10 rfl) (own_w hw 13 rfl) (by decide) (argsL := [(.int (p1 &&& (2147483647 : Int32)))]) (rest := [(.ref b19)]) (own_NN1 l Z a0 hw b19 (p1 &&& (2147483647 : Int32)) h19 S19.old (own_mayN S19 (Or.inr (by rw [g19]; exact S1.size))) A19 F19_value F19_written) (allS (Or.inr (by rw [g19]; exact S1.size)) all0) (by decide +kernel : parseMethodDescriptor "(I)V" = some ⟨[.int], none⟩) rfl rfl rfl at_38 (by decide) (Nat.le_of_ble_eq_true rfl) (by decide) (by decide) (fun T20 h20 v20 S20 K20 q20 => ?_)
      obtain ⟨rfl, F20⟩ := q20
      show own_F p e below s Z _ _ _ _ _ (T20.setTop (mkF m 41 #[.val (.int p0), .val (.int p1), .val (.int p2), .val (.ref a_NOT_EQUAL), .val (.int (p1 &&& (2147483647 : Int32))), .val (.int (p2 &&& (2147483647 : Int32))), .unset, .unset, .unset, .unset, .unset] [(.ref b19)]))
      refine own_F.of (fun _ => XS.astore S20.here S20.hx rfl (S20.dec at_41) rfl rfl (l' := #[.val (.int p0), .val (.int p1), .val (.int p2), .val (.ref a_NOT_EQUAL), .val (.int (p1 &&& (2147483647 : Int32))), .val (.int (p2 &&& (2147483647 : Int32))), .val (.ref b19), .unset, .unset, .unset, .unset]) rfl) ?_
      show own_F p e below s Z _ _ _ _ _ (T20.setTop (mkF m 43 #[.val (.int p0), .val (.int p1), .val (.int p2), .val (.ref a_NOT_EQUAL), .val (.int (p1 &&& (2147483647 : Int32))), .val (.int (p2 &&& (2147483647 : Int32))), .val (.ref b19), .unset, .unset, .unset, .unset] []))
      refine own_new S20 (own_w hw 8 rfl) (own_w hw 9 rfl) (own_w hw 10 rfl) at_43 (by decide) (by decide) (fun T21 h21 b21 g21 S21 E21 A21 D21 => ?_)
      have F21_value : Fld Z h21 b21 "com/example/manysort/manysort/language/NaturalNumber" "value" "I" (.int (0 : Int32)) := (D21 (Or.inr (own_w hw 26 rfl)) (ty := .int) (by decide))
      have F21_written : Fld Z h21 b21 "com/example/manysort/manysort/language/NaturalNumber" "written" "Ljava/lang/String;" .null := (D21 (Or.inr (own_w hw 28 rfl)) (ty := (.object "java/lang/String")) (by decide))
      show own_F p e below s Z _ _ _ _ _ (T21.setTop (mkF m 46 #[.val (.int p0), .val (.int p1), .val (.int p2), .val (.ref a_NOT_EQUAL), .val (.int (p1 &&& (2147483647 : Int32))), .val (.int (p2 &&& (2147483647 : Int32))), .val (.ref b19), .unset, .unset, .unset, .unset] [(.ref b21)]))
      refine own_F.of (fun _ => XS.dup S21.here S21.hx rfl (S21.dec at_46) rfl rfl) ?_
      show own_F p e below s Z _ _ _ _ _ (T21.setTop (mkF m 47 #[.val (.int p0), .val (.int p1), .val (.int p2), .val (.ref a_NOT_EQUAL), .val (.int (p1 &&& (2147483647 : Int32))), .val (.int (p2 &&& (2147483647 : Int32))), .val (.ref b19), .unset, .unset, .unset, .unset] [(.ref b21), (.ref b21)]))
      refine own_F.of (fun _ => XS.iload S21.here S21.hx rfl (S21.dec at_47) rfl) ?_
      show own_F p e below s Z _ _ _ _ _ (T21.setTop (mkF m 49 #[.val (.int p0), .val (.int p1), .val (.int p2), .val (.ref a_NOT_EQUAL), .val (.int (p1 &&& (2147483647 : Int32))), .val (.int (p2 &&& (2147483647 : Int32))), .val (.ref b19), .unset, .unset, .unset, .unset] [(.int (p2 &&& (2147483647 : Int32))), (.ref b21), (.ref b21)]))
      refine own_callI S21 (y := (⟨"com/example/manysort/manysort/language/NaturalNumber", "<init>", "(I)V"⟩ : MethodName)) rfl (own_w hw 11 rfl) (own_w hw 12 rfl) (own_w hw 10 rfl) (own_w hw 13 rfl) (by decide) (argsL := [(.int (p2 &&& (2147483647 : Int32)))]) (rest := [(.ref b21)]) (own_NN1 l Z a0 hw b21 (p2 &&& (2147483647 : Int32)) h21 S21.old (own_mayN S21 (Or.inr (by rw [g21]; exact S20.size))) A21 F21_value F21_written) (allS (Or.inr (by rw [g21]; exact S20.size)) all0) (by decide +kernel : parseMethodDescriptor "(I)V" = some ⟨[.int], none⟩) rfl rfl rfl at_49 (by decide) (Nat.le_of_ble_eq_true rfl) (by decide) (by decide) (fun T22 h22 v22 S22 K22 q22 => ?_)
      obtain ⟨rfl, F22⟩ := q22
      show own_F p e below s Z _ _ _ _ _ (T22.setTop (mkF m 52 #[.val (.int p0), .val (.int p1), .val (.int p2), .val (.ref a_NOT_EQUAL), .val (.int (p1 &&& (2147483647 : Int32))), .val (.int (p2 &&& (2147483647 : Int32))), .val (.ref b19), .unset, .unset, .unset, .unset] [(.ref b21)]))
      refine own_F.of (fun _ => XS.astore S22.here S22.hx rfl (S22.dec at_52) rfl rfl (l' := #[.val (.int p0), .val (.int p1), .val (.int p2), .val (.ref a_NOT_EQUAL), .val (.int (p1 &&& (2147483647 : Int32))), .val (.int (p2 &&& (2147483647 : Int32))), .val (.ref b19), .val (.ref b21), .unset, .unset, .unset]) rfl) ?_
      show own_F p e below s Z _ _ _ _ _ (T22.setTop (mkF m 54 #[.val (.int p0), .val (.int p1), .val (.int p2), .val (.ref a_NOT_EQUAL), .val (.int (p1 &&& (2147483647 : Int32))), .val (.int (p2 &&& (2147483647 : Int32))), .val (.ref b19), .val (.ref b21), .unset, .unset, .unset] []))
      refine own_F.of (fun _ => XS.aloadN S22.here S22.hx rfl (S22.dec at_54) rfl rfl) ?_
      show own_F p e below s Z _ _ _ _ _ (T22.setTop (mkF m 55 #[.val (.int p0), .val (.int p1), .val (.int p2), .val (.ref a_NOT_EQUAL), .val (.int (p1 &&& (2147483647 : Int32))), .val (.int (p2 &&& (2147483647 : Int32))), .val (.ref b19), .val (.ref b21), .unset, .unset, .unset] [(.ref a_NOT_EQUAL)]))
      refine own_callV S22 (y := (⟨"com/example/manysort/manysort/language/Comparison$Relation", "orders", "()Z"⟩ : MethodName)) (y' := (⟨"com/example/manysort/manysort/language/Comparison$Relation", "orders", "()Z"⟩ : MethodName)) (own_w hw 29 rfl) (own_w hw 30 rfl) (own_nf S22 (own_w hw 32 rfl)) (own_w hw 32 rfl) (own_w hw 31 rfl) (own_w hw 33 rfl) (own_w hw 6 rfl) (by decide) (X_NOT_EQUAL.ext S22.old) (argsL := []) (rest := []) (own_orders l Z a0 hw a_NOT_EQUAL a_EQUAL a_NOT_EQUAL a_LESS a_LESS_OR_EQUAL a_GREATER a_GREATER_OR_EQUAL h22 S22.old S_EQUAL S_NOT_EQUAL S_LESS S_LESS_OR_EQUAL S_GREATER S_GREATER_OR_EQUAL) all0 (by decide +kernel : parseMethodDescriptor "()Z" = some ⟨[], some .boolean⟩) rfl rfl rfl at_55 (by decide) (Nat.le_of_ble_eq_true rfl) (by decide) (by decide) (fun T23 h23 v23 S23 K23 q23 => ?_)
      obtain ⟨rfl, rfl⟩ := q23
      show own_F p e below s Z _ _ _ _ _ (T23.setTop (mkF m 58 #[.val (.int p0), .val (.int p1), .val (.int p2), .val (.ref a_NOT_EQUAL), .val (.int (p1 &&& (2147483647 : Int32))), .val (.int (p2 &&& (2147483647 : Int32))), .val (.ref b19), .val (.ref b21), .unset, .unset, .unset] [(.int (own_or a_NOT_EQUAL a_EQUAL a_NOT_EQUAL))]))
      refine own_F.of (fun _ => XS.istore S23.here S23.hx rfl (S23.dec at_58) rfl (l' := #[.val (.int p0), .val (.int p1), .val (.int p2), .val (.ref a_NOT_EQUAL), .val (.int (p1 &&& (2147483647 : Int32))), .val (.int (p2 &&& (2147483647 : Int32))), .val (.ref b19), .val (.ref b21), .val (.int (own_or a_NOT_EQUAL a_EQUAL a_NOT_EQUAL)), .unset, .unset]) rfl) ?_
      show own_F p e below s Z _ _ _ _ _ (T23.setTop (mkF m 60 #[.val (.int p0), .val (.int p1), .val (.int p2), .val (.ref a_NOT_EQUAL), .val (.int (p1 &&& (2147483647 : Int32))), .val (.int (p2 &&& (2147483647 : Int32))), .val (.ref b19), .val (.ref b21), .val (.int (own_or a_NOT_EQUAL a_EQUAL a_NOT_EQUAL)), .unset, .unset] []))
      rw [show (own_or a_NOT_EQUAL a_EQUAL a_NOT_EQUAL) = (0 : Int32) from (by simp [own_or, (F_NOT_EQUAL_ordinal.ne F_EQUAL_ordinal (by decide))])]
      show own_F p e below s Z _ _ _ _ _ (T23.setTop (mkF m 60 #[.val (.int p0), .val (.int p1), .val (.int p2), .val (.ref a_NOT_EQUAL), .val (.int (p1 &&& (2147483647 : Int32))), .val (.int (p2 &&& (2147483647 : Int32))), .val (.ref b19), .val (.ref b21), .val (.int (0 : Int32)), .unset, .unset] []))
      refine own_F.of (fun _ => XS.aloadN S23.here S23.hx rfl (S23.dec at_60) rfl rfl) ?_
      show own_F p e below s Z _ _ _ _ _ (T23.setTop (mkF m 61 #[.val (.int p0), .val (.int p1), .val (.int p2), .val (.ref a_NOT_EQUAL), .val (.int (p1 &&& (2147483647 : Int32))), .val (.int (p2 &&& (2147483647 : Int32))), .val (.ref b19), .val (.ref b21), .val (.int (0 : Int32)), .unset, .unset] [(.ref a_NOT_EQUAL)]))
      refine own_F.of (fun _ => XS.aload S23.here S23.hx rfl (S23.dec at_61) rfl rfl) ?_
      show own_F p e below s Z _ _ _ _ _ (T23.setTop (mkF m 63 #[.val (.int p0), .val (.int p1), .val (.int p2), .val (.ref a_NOT_EQUAL), .val (.int (p1 &&& (2147483647 : Int32))), .val (.int (p2 &&& (2147483647 : Int32))), .val (.ref b19), .val (.ref b21), .val (.int (0 : Int32)), .unset, .unset] [(.ref b19), (.ref a_NOT_EQUAL)]))
      refine own_F.of (fun _ => XS.aload S23.here S23.hx rfl (S23.dec at_63) rfl rfl) ?_
      show own_F p e below s Z _ _ _ _ _ (T23.setTop (mkF m 65 #[.val (.int p0), .val (.int p1), .val (.int p2), .val (.ref a_NOT_EQUAL), .val (.int (p1 &&& (2147483647 : Int32))), .val (.int (p2 &&& (2147483647 : Int32))), .val (.ref b19), .val (.ref b21), .val (.int (0 : Int32)), .unset, .unset] [(.ref b21), (.ref b19), (.ref a_NOT_EQUAL)]))
      have f24 := (((A19.keep K20).ext E21).keep K22)
      have f25 := (A21.keep K22)
      have f26 := ((F20.ext E21).keep K22 (ninS (Nat.ne_of_lt (by rw [g21]; exact (F20).lt)) nin0))
      refine own_callV S23 (y := (⟨"com/example/manysort/manysort/language/Comparison$Relation", "holds", "(Lcom/example/manysort/manysort/language/Term;Lcom/example/manysort/manysort/language/Term;)Z"⟩ : MethodName)) (y' := (⟨"com/example/manysort/manysort/language/Comparison$Relation", "holds", "(Lcom/example/manysort/manysort/language/Term;Lcom/example/manysort/manysort/language/Term;)Z"⟩ : MethodName)) (own_w hw 35 rfl) (own_w hw 36 rfl) (own_nf S23 (own_w hw 38 rfl)) (own_w hw 38 rfl) (own_w hw 37 rfl) (own_w hw 39 rfl) (own_w hw 6 rfl) (by decide) (X_NOT_EQUAL.ext S23.old) (argsL := [(.ref b19), (.ref b21)]) (rest := []) (own_holds1 l Z a0 hw a_NOT_EQUAL b19 b21 (p1 &&& (2147483647 : Int32)) (p2 &&& (2147483647 : Int32)) h22 S23.old X_NOT_EQUAL F_NOT_EQUAL_ordinal f24 f25 f26 F22 (Nat.ne_of_lt (by rw [g21]; exact ((A19.keep K20)).lt))) all0 (by decide +kernel : parseMethodDescriptor "(Lcom/example/manysort/manysort/language/Term;Lcom/example/manysort/manysort/language/Term;)Z" = some ⟨[(.object "com/example/manysort/manysort/language/Term"), (.object "com/example/manysort/manysort/language/Term")], some .boolean⟩) rfl rfl rfl at_65 (by decide) (Nat.le_of_ble_eq_true rfl) (by decide) (by decide) (fun T27 h27 v27 S27 K27 q27 => ?_)
      obtain ⟨rfl, rfl⟩ := q27
      show own_F p e below s Z _ _ _ _ _ (T27.setTop (mkF m 68 #[.val (.int p0), .val (.int p1), .val (.int p2), .val (.ref a_NOT_EQUAL), .val (.int (p1 &&& (2147483647 : Int32))), .val (.int (p2 &&& (2147483647 : Int32))), .val (.ref b19), .val (.ref b21), .val (.int (0 : Int32)), .unset, .unset] [(.int (own_h1 (own_cmp (p1 &&& (2147483647 : Int32)) (p2 &&& (2147483647 : Int32)))))]))
      refine own_F.of (fun _ => XS.aloadN S27.here S27.hx rfl (S27.dec at_68) rfl rfl) ?_
      show own_F p e below s Z _ _ _ _ _ (T27.setTop (mkF m 69 #[.val (.int p0), .val (.int p1), .val (.int p2), .val (.ref a_NOT_EQUAL), .val (.int (p1 &&& (2147483647 : Int32))), .val (.int (p2 &&& (2147483647 : Int32))), .val (.ref b19), .val (.ref b21), .val (.int (0 : Int32)), .unset, .unset] [(.ref a_NOT_EQUAL), (.int (own_h1 (own_cmp (p1 &&& (2147483647 : Int32)) (p2 &&& (2147483647 : Int32)))))]))
      refine own_F.of (fun _ => XS.aload S27.here S27.hx rfl (S27.dec at_69) rfl rfl) ?_
      show own_F p e below s Z _ _ _ _ _ (T27.setTop (mkF m 71 #[.val (.int p0), .val (.int p1), .val (.int p2), .val (.ref a_NOT_EQUAL), .val (.int (p1 &&& (2147483647 : Int32))), .val (.int (p2 &&& (2147483647 : Int32))), .val (.ref b19), .val (.ref b21), .val (.int (0 : Int32)), .unset, .unset] [(.ref b21), (.ref a_NOT_EQUAL), (.int (own_h1 (own_cmp (p1 &&& (2147483647 : Int32)) (p2 &&& (2147483647 : Int32)))))]))
      refine own_F.of (fun _ => XS.aload S27.here S27.hx rfl (S27.dec at_71) rfl rfl) ?_
      show own_F p e below s Z _ _ _ _ _ (T27.setTop (mkF m 73 #[.val (.int p0), .val (.int p1), .val (.int p2), .val (.ref a_NOT_EQUAL), .val (.int (p1 &&& (2147483647 : Int32))), .val (.int (p2 &&& (2147483647 : Int32))), .val (.ref b19), .val (.ref b21), .val (.int (0 : Int32)), .unset, .unset] [(.ref b19), (.ref b21), (.ref a_NOT_EQUAL), (.int (own_h1 (own_cmp (p1 &&& (2147483647 : Int32)) (p2 &&& (2147483647 : Int32)))))]))
      refine own_callV S27 (y := (⟨"com/example/manysort/manysort/language/Comparison$Relation", "holds", "(Lcom/example/manysort/manysort/language/Term;Lcom/example/manysort/manysort/language/Term;)Z"⟩ : MethodName)) (y' := (⟨"com/example/manysort/manysort/language/Comparison$Relation", "holds", "(Lcom/example/manysort/manysort/language/Term;Lcom/example/manysort/manysort/language/Term;)Z"⟩ : MethodName)) (own_w hw 35 rfl) (own_w hw 36 rfl) (own_nf S27 (own_w hw 38 rfl)) (own_w hw 38 rfl) (own_w hw 37 rfl) (own_w hw 39 rfl) (own_w hw 6 rfl) (by decide) (X_NOT_EQUAL.ext S27.old) (argsL := [(.ref b21), (.ref b19)]) (rest := [(.int (own_h1 (own_cmp (p1 &&& (2147483647 : Int32)) (p2 &&& (2147483647 : Int32)))))]) (own_holds1 l Z a0 hw a_NOT_EQUAL b21 b19 (p2 &&& (2147483647 : Int32)) (p1 &&& (2147483647 : Int32)) h22 S27.old X_NOT_EQUAL F_NOT_EQUAL_ordinal f25 f24 F22 f26 (Ne.symm (Nat.ne_of_lt (by rw [g21]; exact ((A19.keep K20)).lt)))) all0 (by decide +kernel : parseMethodDescriptor "(Lcom/example/manysort/manysort/language/Term;Lcom/example/manysort/manysort/language/Term;)Z" = some ⟨[(.object "com/example/manysort/manysort/language/Term"), (.object "com/example/manysort/manysort/language/Term")], some .boolean⟩) rfl rfl rfl at_73 (by decide) (Nat.le_of_ble_eq_true rfl) (by decide) (by decide) (fun T28 h28 v28 S28 K28 q28 => ?_)
      obtain ⟨rfl, rfl⟩ := q28
      show own_F p e below s Z _ _ _ _ _ (T28.setTop (mkF m 76 #[.val (.int p0), .val (.int p1), .val (.int p2), .val (.ref a_NOT_EQUAL), .val (.int (p1 &&& (2147483647 : Int32))), .val (.int (p2 &&& (2147483647 : Int32))), .val (.ref b19), .val (.ref b21), .val (.int (0 : Int32)), .unset, .unset] [(.int (own_h1 (own_cmp (p2 &&& (2147483647 : Int32)) (p1 &&& (2147483647 : Int32))))), (.int (own_h1 (own_cmp (p1 &&& (2147483647 : Int32)) (p2 &&& (2147483647 : Int32)))))]))
      refine own_icmp S28 83 at_76 (by decide) (by decide) (fun (hc76_29 : (own_h1 (own_cmp (p1 &&& (2147483647 : Int32)) (p2 &&& (2147483647 : Int32)))) = (own_h1 (own_cmp (p2 &&& (2147483647 : Int32)) (p1 &&& (2147483647 : Int32))))) => ?_) (fun (hc76_29 : ¬ ((own_h1 (own_cmp (p1 &&& (2147483647 : Int32)) (p2 &&& (2147483647 : Int32)))) = (own_h1 (own_cmp (p2 &&& (2147483647 : Int32)) (p1 &&& (2147483647 : Int32)))))) => False.elim (hc76_29 (own_e1 hc27_18)))
      show own_F p e below s Z _ _ _ _ _ (T28.setTop (mkF m 83 #[.val (.int p0), .val (.int p1), .val (.int p2), .val (.ref a_NOT_EQUAL), .val (.int (p1 &&& (2147483647 : Int32))), .val (.int (p2 &&& (2147483647 : Int32))), .val (.ref b19), .val (.ref b21), .val (.int (0 : Int32)), .unset, .unset] []))
      refine own_F.of (fun _ => XS.iconst S28.here S28.hx rfl (S28.dec at_83)) ?_
      show own_F p e below s Z _ _ _ _ _ (T28.setTop (mkF m 84 #[.val (.int p0), .val (.int p1), .val (.int p2), .val (.ref a_NOT_EQUAL), .val (.int (p1 &&& (2147483647 : Int32))), .val (.int (p2 &&& (2147483647 : Int32))), .val (.ref b19), .val (.ref b21), .val (.int (0 : Int32)), .unset, .unset] [(.int (0 : Int32))]))
      refine own_F.of (fun _ => XS.istore S28.here S28.hx rfl (S28.dec at_84) rfl (l' := #[.val (.int p0), .val (.int p1), .val (.int p2), .val (.ref a_NOT_EQUAL), .val (.int (p1 &&& (2147483647 : Int32))), .val (.int (p2 &&& (2147483647 : Int32))), .val (.ref b19), .val (.ref b21), .val (.int (0 : Int32)), .val (.int (0 : Int32)), .unset]) rfl) ?_
      show own_F p e below s Z _ _ _ _ _ (T28.setTop (mkF m 86 #[.val (.int p0), .val (.int p1), .val (.int p2), .val (.ref a_NOT_EQUAL), .val (.int (p1 &&& (2147483647 : Int32))), .val (.int (p2 &&& (2147483647 : Int32))), .val (.ref b19), .val (.ref b21), .val (.int (0 : Int32)), .val (.int (0 : Int32)), .unset] []))
      refine own_F.of (fun _ => XS.aloadN S28.here S28.hx rfl (S28.dec at_86) rfl rfl) ?_
      show own_F p e below s Z _ _ _ _ _ (T28.setTop (mkF m 87 #[.val (.int p0), .val (.int p1), .val (.int p2), .val (.ref a_NOT_EQUAL), .val (.int (p1 &&& (2147483647 : Int32))), .val (.int (p2 &&& (2147483647 : Int32))), .val (.ref b19), .val (.ref b21), .val (.int (0 : Int32)), .val (.int (0 : Int32)), .unset] [(.ref a_NOT_EQUAL)]))
      refine own_callV S28 (y := (⟨"com/example/manysort/manysort/language/Comparison$Relation", "converse", "()Lcom/example/manysort/manysort/language/Comparison$Relation;"⟩ : MethodName)) (y' := (⟨"com/example/manysort/manysort/language/Comparison$Relation", "converse", "()Lcom/example/manysort/manysort/language/Comparison$Relation;"⟩ : MethodName)) (own_w hw 64 rfl) (own_w hw 65 rfl) (own_nf S28 (own_w hw 67 rfl)) (own_w hw 67 rfl) (own_w hw 66 rfl) (own_w hw 68 rfl) (own_w hw 6 rfl) (by decide) (X_NOT_EQUAL.ext S28.old) (argsL := []) (rest := []) (own_conv1 l Z a0 hw a_NOT_EQUAL a_EQUAL a_NOT_EQUAL a_LESS a_LESS_OR_EQUAL a_GREATER a_GREATER_OR_EQUAL h22 S28.old X_NOT_EQUAL F_NOT_EQUAL_ordinal S_EQUAL S_NOT_EQUAL S_LESS S_LESS_OR_EQUAL S_GREATER S_GREATER_OR_EQUAL) all0 (by decide +kernel : parseMethodDescriptor "()Lcom/example/manysort/manysort/language/Comparison$Relation;" = some ⟨[], some (.object "com/example/manysort/manysort/language/Comparison$Relation")⟩) rfl rfl rfl at_87 (by decide) (Nat.le_of_ble_eq_true rfl) (by decide) (by decide) (fun T30 h30 v30 S30 K30 q30 => ?_)
      obtain ⟨rfl, rfl⟩ := q30
      show own_F p e below s Z _ _ _ _ _ (T30.setTop (mkF m 90 #[.val (.int p0), .val (.int p1), .val (.int p2), .val (.ref a_NOT_EQUAL), .val (.int (p1 &&& (2147483647 : Int32))), .val (.int (p2 &&& (2147483647 : Int32))), .val (.ref b19), .val (.ref b21), .val (.int (0 : Int32)), .val (.int (0 : Int32)), .unset] [(.ref a_NOT_EQUAL)]))
      refine own_F.of (fun _ => XS.aloadN S30.here S30.hx rfl (S30.dec at_90) rfl rfl) ?_
      show own_F p e below s Z _ _ _ _ _ (T30.setTop (mkF m 91 #[.val (.int p0), .val (.int p1), .val (.int p2), .val (.ref a_NOT_EQUAL), .val (.int (p1 &&& (2147483647 : Int32))), .val (.int (p2 &&& (2147483647 : Int32))), .val (.ref b19), .val (.ref b21), .val (.int (0 : Int32)), .val (.int (0 : Int32)), .unset] [(.ref a_NOT_EQUAL), (.ref a_NOT_EQUAL)]))
      refine own_acmp S30 rfl rfl 98 at_91 (by decide) (by decide) (fun (hc91_31 : (Value.ref a_NOT_EQUAL) = (Value.ref a_NOT_EQUAL)) => ?_) (fun (hc91_31 : ¬ ((Value.ref a_NOT_EQUAL) = (Value.ref a_NOT_EQUAL))) => False.elim (hc91_31 rfl))
      show own_F p e below s Z _ _ _ _ _ (T30.setTop (mkF m 98 #[.val (.int p0), .val (.int p1), .val (.int p2), .val (.ref a_NOT_EQUAL), .val (.int (p1 &&& (2147483647 : Int32))), .val (.int (p2 &&& (2147483647 : Int32))), .val (.ref b19), .val (.ref b21), .val (.int (0 : Int32)), .val (.int (0 : Int32)), .unset] []))
      refine own_F.of (fun _ => XS.iconst S30.here S30.hx rfl (S30.dec at_98)) ?_
      show own_F p e below s Z _ _ _ _ _ (T30.setTop (mkF m 99 #[.val (.int p0), .val (.int p1), .val (.int p2), .val (.ref a_NOT_EQUAL), .val (.int (p1 &&& (2147483647 : Int32))), .val (.int (p2 &&& (2147483647 : Int32))), .val (.ref b19), .val (.ref b21), .val (.int (0 : Int32)), .val (.int (0 : Int32)), .unset] [(.int (0 : Int32))]))
      refine own_F.of (fun _ => XS.istore S30.here S30.hx rfl (S30.dec at_99) rfl (l' := #[.val (.int p0), .val (.int p1), .val (.int p2), .val (.ref a_NOT_EQUAL), .val (.int (p1 &&& (2147483647 : Int32))), .val (.int (p2 &&& (2147483647 : Int32))), .val (.ref b19), .val (.ref b21), .val (.int (0 : Int32)), .val (.int (0 : Int32)), .val (.int (0 : Int32))]) rfl) ?_
      show own_F p e below s Z _ _ _ _ _ (T30.setTop (mkF m 101 #[.val (.int p0), .val (.int p1), .val (.int p2), .val (.ref a_NOT_EQUAL), .val (.int (p1 &&& (2147483647 : Int32))), .val (.int (p2 &&& (2147483647 : Int32))), .val (.ref b19), .val (.ref b21), .val (.int (0 : Int32)), .val (.int (0 : Int32)), .val (.int (0 : Int32))] []))
      refine own_F.of (fun _ => XS.iload S30.here S30.hx rfl (S30.dec at_101) rfl) ?_
      show own_F p e below s Z _ _ _ _ _ (T30.setTop (mkF m 103 #[.val (.int p0), .val (.int p1), .val (.int p2), .val (.ref a_NOT_EQUAL), .val (.int (p1 &&& (2147483647 : Int32))), .val (.int (p2 &&& (2147483647 : Int32))), .val (.ref b19), .val (.ref b21), .val (.int (0 : Int32)), .val (.int (0 : Int32)), .val (.int (0 : Int32))] [(.int (0 : Int32))]))
      refine own_F.of (fun _ => XS.iload S30.here S30.hx rfl (S30.dec at_103) rfl) ?_
      show own_F p e below s Z _ _ _ _ _ (T30.setTop (mkF m 105 #[.val (.int p0), .val (.int p1), .val (.int p2), .val (.ref a_NOT_EQUAL), .val (.int (p1 &&& (2147483647 : Int32))), .val (.int (p2 &&& (2147483647 : Int32))), .val (.ref b19), .val (.ref b21), .val (.int (0 : Int32)), .val (.int (0 : Int32)), .val (.int (0 : Int32))] [(.int (0 : Int32)), (.int (0 : Int32))]))
      refine own_icmp S30 119 at_105 (by decide) (by decide) (fun (hc105_32 : ¬ ((0 : Int32) = (0 : Int32))) => False.elim (absurd hc105_32 (by decide))) (fun (hc105_32 : (0 : Int32) = (0 : Int32)) => ?_)
      show own_F p e below s Z _ _ _ _ _ (T30.setTop (mkF m 108 #[.val (.int p0), .val (.int p1), .val (.int p2), .val (.ref a_NOT_EQUAL), .val (.int (p1 &&& (2147483647 : Int32))), .val (.int (p2 &&& (2147483647 : Int32))), .val (.ref b19), .val (.ref b21), .val (.int (0 : Int32)), .val (.int (0 : Int32)), .val (.int (0 : Int32))] []))
      refine own_F.of (fun _ => XS.iload S30.here S30.hx rfl (S30.dec at_108) rfl) ?_
      show own_F p e below s Z _ _ _ _ _ (T30.setTop (mkF m 110 #[.val (.int p0), .val (.int p1), .val (.int p2), .val (.ref a_NOT_EQUAL), .val (.int (p1 &&& (2147483647 : Int32))), .val (.int (p2 &&& (2147483647 : Int32))), .val (.ref b19), .val (.ref b21), .val (.int (0 : Int32)), .val (.int (0 : Int32)), .val (.int (0 : Int32))] [(.int (0 : Int32))]))
      refine own_F.of (fun _ => XS.iload S30.here S30.hx rfl (S30.dec at_110) rfl) ?_
      show own_F p e below s Z _ _ _ _ _ (T30.setTop (mkF m 112 #[.val (.int p0), .val (.int p1), .val (.int p2), .val (.ref a_NOT_EQUAL), .val (.int (p1 &&& (2147483647 : Int32))), .val (.int (p2 &&& (2147483647 : Int32))), .val (.ref b19), .val (.ref b21), .val (.int (0 : Int32)), .val (.int (0 : Int32)), .val (.int (0 : Int32))] [(.int (0 : Int32)), (.int (0 : Int32))]))
      refine own_icmp S30 119 at_112 (by decide) (by decide) (fun (hc112_33 : ¬ ((0 : Int32) = (0 : Int32))) => False.elim (absurd hc112_33 (by decide))) (fun (hc112_33 : (0 : Int32) = (0 : Int32)) => ?_)
      show own_F p e below s Z _ _ _ _ _ (T30.setTop (mkF m 115 #[.val (.int p0), .val (.int p1), .val (.int p2), .val (.ref a_NOT_EQUAL), .val (.int (p1 &&& (2147483647 : Int32))), .val (.int (p2 &&& (2147483647 : Int32))), .val (.ref b19), .val (.ref b21), .val (.int (0 : Int32)), .val (.int (0 : Int32)), .val (.int (0 : Int32))] []))
      refine own_F.of (fun _ => XS.iconst S30.here S30.hx rfl (S30.dec at_115)) ?_
      show own_F p e below s Z _ _ _ _ _ (T30.setTop (mkF m 116 #[.val (.int p0), .val (.int p1), .val (.int p2), .val (.ref a_NOT_EQUAL), .val (.int (p1 &&& (2147483647 : Int32))), .val (.int (p2 &&& (2147483647 : Int32))), .val (.ref b19), .val (.ref b21), .val (.int (0 : Int32)), .val (.int (0 : Int32)), .val (.int (0 : Int32))] [(.int (1 : Int32))]))
      refine own_F.of (fun _ => XS.goto S30.here S30.hx rfl (pc0 := 116) (pc' := 120) rfl (S30.dec at_116) (by decide) (by decide)) ?_
      show own_F p e below s Z _ _ _ _ _ (T30.setTop (mkF m 120 #[.val (.int p0), .val (.int p1), .val (.int p2), .val (.ref a_NOT_EQUAL), .val (.int (p1 &&& (2147483647 : Int32))), .val (.int (p2 &&& (2147483647 : Int32))), .val (.ref b19), .val (.ref b21), .val (.int (0 : Int32)), .val (.int (0 : Int32)), .val (.int (0 : Int32))] [(.int (1 : Int32))]))
      refine own_retZ S30 (by simp) at_120 (by decide) (by decide) ?_
      rfl
    · show own_F p e below s Z _ _ _ _ _ (T1.setTop (mkF m 30 #[.val (.int p0), .val (.int p1), .val (.int p2), .val (.ref a_NOT_EQUAL), .val (.int (p1 &&& (2147483647 : Int32))), .val (.int (p2 &&& (2147483647 : Int32))), .unset, .unset, .unset, .unset, .unset] []))
      refine own_F.of (fun _ => XS.iconst S1.here S1.hx rfl (S1.dec at_30)) ?_
      show own_F p e below s Z _ _ _ _ _ (T1.setTop (mkF m 31 #[.val (.int p0), .val (.int p1), .val (.int p2), .val (.ref a_NOT_EQUAL), .val (.int (p1 &&& (2147483647 : Int32))), .val (.int (p2 &&& (2147483647 : Int32))), .unset, .unset, .unset, .unset, .unset] [(.int (1 : Int32))]))
      refine own_retZ S1 (by simp) at_31 (by decide) (by decide) ?_
      rfl
  · show own_F p e below s Z _ _ _ _ _ (T1.setTop (mkF m 10 #[.val (.int p0), .val (.int p1), .val (.int p2), .unset, .unset, .unset, .unset, .unset, .unset, .unset, .unset] [(.ref a_LESS)]))
    refine own_F.of (fun _ => XS.astoreN S1.here S1.hx rfl (S1.dec at_10) rfl rfl (l' := #[.val (.int p0), .val (.int p1), .val (.int p2), .val (.ref a_LESS), .unset, .unset, .unset, .unset, .unset, .unset, .unset]) rfl) ?_
    show own_F p e below s Z _ _ _ _ _ (T1.setTop (mkF m 11 #[.val (.int p0), .val (.int p1), .val (.int p2), .val (.ref a_LESS), .unset, .unset, .unset, .unset, .unset, .unset, .unset] []))
    refine own_F.of (fun _ => XS.iloadN S1.here S1.hx rfl (S1.dec at_11) rfl) ?_
    show own_F p e below s Z _ _ _ _ _ (T1.setTop (mkF m 12 #[.val (.int p0), .val (.int p1), .val (.int p2), .val (.ref a_LESS), .unset, .unset, .unset, .unset, .unset, .unset, .unset] [(.int p1)]))
    refine own_ldcI S1 (own_w hw 0 rfl) at_12 ?_
    show own_F p e below s Z _ _ _ _ _ (T1.setTop (mkF m 14 #[.val (.int p0), .val (.int p1), .val (.int p2), .val (.ref a_LESS), .unset, .unset, .unset, .unset, .unset, .unset, .unset] [(.int (2147483647 : Int32)), (.int p1)]))
    refine own_F.of (fun _ => XS.iand S1.here S1.hx rfl (S1.dec at_14) rfl) ?_
    show own_F p e below s Z _ _ _ _ _ (T1.setTop (mkF m 15 #[.val (.int p0), .val (.int p1), .val (.int p2), .val (.ref a_LESS), .unset, .unset, .unset, .unset, .unset, .unset, .unset] [(.int (p1 &&& (2147483647 : Int32)))]))
    refine own_F.of (fun _ => XS.istore S1.here S1.hx rfl (S1.dec at_15) rfl (l' := #[.val (.int p0), .val (.int p1), .val (.int p2), .val (.ref a_LESS), .val (.int (p1 &&& (2147483647 : Int32))), .unset, .unset, .unset, .unset, .unset, .unset]) rfl) ?_
    show own_F p e below s Z _ _ _ _ _ (T1.setTop (mkF m 17 #[.val (.int p0), .val (.int p1), .val (.int p2), .val (.ref a_LESS), .val (.int (p1 &&& (2147483647 : Int32))), .unset, .unset, .unset, .unset, .unset, .unset] []))
    refine own_F.of (fun _ => XS.iloadN S1.here S1.hx rfl (S1.dec at_17) rfl) ?_
    show own_F p e below s Z _ _ _ _ _ (T1.setTop (mkF m 18 #[.val (.int p0), .val (.int p1), .val (.int p2), .val (.ref a_LESS), .val (.int (p1 &&& (2147483647 : Int32))), .unset, .unset, .unset, .unset, .unset, .unset] [(.int p2)]))
    refine own_ldcI S1 (own_w hw 0 rfl) at_18 ?_
    show own_F p e below s Z _ _ _ _ _ (T1.setTop (mkF m 20 #[.val (.int p0), .val (.int p1), .val (.int p2), .val (.ref a_LESS), .val (.int (p1 &&& (2147483647 : Int32))), .unset, .unset, .unset, .unset, .unset, .unset] [(.int (2147483647 : Int32)), (.int p2)]))
    refine own_F.of (fun _ => XS.iand S1.here S1.hx rfl (S1.dec at_20) rfl) ?_
    show own_F p e below s Z _ _ _ _ _ (T1.setTop (mkF m 21 #[.val (.int p0), .val (.int p1), .val (.int p2), .val (.ref a_LESS), .val (.int (p1 &&& (2147483647 : Int32))), .unset, .unset, .unset, .unset, .unset, .unset] [(.int (p2 &&& (2147483647 : Int32)))]))
    refine own_F.of (fun _ => XS.istore S1.here S1.hx rfl (S1.dec at_21) rfl (l' := #[.val (.int p0), .val (.int p1), .val (.int p2), .val (.ref a_LESS), .val (.int (p1 &&& (2147483647 : Int32))), .val (.int (p2 &&& (2147483647 : Int32))), .unset, .unset, .unset, .unset, .unset]) rfl) ?_
    show own_F p e below s Z _ _ _ _ _ (T1.setTop (mkF m 23 #[.val (.int p0), .val (.int p1), .val (.int p2), .val (.ref a_LESS), .val (.int (p1 &&& (2147483647 : Int32))), .val (.int (p2 &&& (2147483647 : Int32))), .unset, .unset, .unset, .unset, .unset] []))
    refine own_F.of (fun _ => XS.iload S1.here S1.hx rfl (S1.dec at_23) rfl) ?_
    show own_F p e below s Z _ _ _ _ _ (T1.setTop (mkF m 25 #[.val (.int p0), .val (.int p1), .val (.int p2), .val (.ref a_LESS), .val (.int (p1 &&& (2147483647 : Int32))), .val (.int (p2 &&& (2147483647 : Int32))), .unset, .unset, .unset, .unset, .unset] [(.int (p1 &&& (2147483647 : Int32)))]))
    refine own_F.of (fun _ => XS.iload S1.here S1.hx rfl (S1.dec at_25) rfl) ?_
    show own_F p e below s Z _ _ _ _ _ (T1.setTop (mkF m 27 #[.val (.int p0), .val (.int p1), .val (.int p2), .val (.ref a_LESS), .val (.int (p1 &&& (2147483647 : Int32))), .val (.int (p2 &&& (2147483647 : Int32))), .unset, .unset, .unset, .unset, .unset] [(.int (p2 &&& (2147483647 : Int32))), (.int (p1 &&& (2147483647 : Int32)))]))
    refine own_icmp S1 32 at_27 (by decide) (by decide) (fun (hc27_34 : ¬ ((p1 &&& (2147483647 : Int32)) = (p2 &&& (2147483647 : Int32)))) => ?_) (fun (hc27_34 : (p1 &&& (2147483647 : Int32)) = (p2 &&& (2147483647 : Int32))) => ?_)
    · show own_F p e below s Z _ _ _ _ _ (T1.setTop (mkF m 32 #[.val (.int p0), .val (.int p1), .val (.int p2), .val (.ref a_LESS), .val (.int (p1 &&& (2147483647 : Int32))), .val (.int (p2 &&& (2147483647 : Int32))), .unset, .unset, .unset, .unset, .unset] []))
      refine own_new S1 (own_w hw 8 rfl) (own_w hw 9 rfl) (own_w hw 10 rfl) at_32 (by decide) (by decide) (fun T35 h35 b35 g35 S35 E35 A35 D35 => ?_)
      have F35_value : Fld Z h35 b35 "com/example/manysort/manysort/language/NaturalNumber" "value" "I" (.int (0 : Int32)) := (D35 (Or.inr (own_w hw 26 rfl)) (ty := .int) (by decide))
      have F35_written : Fld Z h35 b35 "com/example/manysort/manysort/language/NaturalNumber" "written" "Ljava/lang/String;" .null := (D35 (Or.inr (own_w hw 28 rfl)) (ty := (.object "java/lang/String")) (by decide))
      show own_F p e below s Z _ _ _ _ _ (T35.setTop (mkF m 35 #[.val (.int p0), .val (.int p1), .val (.int p2), .val (.ref a_LESS), .val (.int (p1 &&& (2147483647 : Int32))), .val (.int (p2 &&& (2147483647 : Int32))), .unset, .unset, .unset, .unset, .unset] [(.ref b35)]))
      refine own_F.of (fun _ => XS.dup S35.here S35.hx rfl (S35.dec at_35) rfl rfl) ?_
      show own_F p e below s Z _ _ _ _ _ (T35.setTop (mkF m 36 #[.val (.int p0), .val (.int p1), .val (.int p2), .val (.ref a_LESS), .val (.int (p1 &&& (2147483647 : Int32))), .val (.int (p2 &&& (2147483647 : Int32))), .unset, .unset, .unset, .unset, .unset] [(.ref b35), (.ref b35)]))
      refine own_F.of (fun _ => XS.iload S35.here S35.hx rfl (S35.dec at_36) rfl) ?_
      show own_F p e below s Z _ _ _ _ _ (T35.setTop (mkF m 38 #[.val (.int p0), .val (.int p1), .val (.int p2), .val (.ref a_LESS), .val (.int (p1 &&& (2147483647 : Int32))), .val (.int (p2 &&& (2147483647 : Int32))), .unset, .unset, .unset, .unset, .unset] [(.int (p1 &&& (2147483647 : Int32))), (.ref b35), (.ref b35)]))
      refine own_callI S35 (y := (⟨"com/example/manysort/manysort/language/NaturalNumber", "<init>", "(I)V"⟩ : MethodName)) rfl (own_w hw 11 rfl) (own_w hw 12 rfl) (own_w hw 10 rfl) (own_w hw 13 rfl) (by decide) (argsL := [(.int (p1 &&& (2147483647 : Int32)))]) (rest := [(.ref b35)]) (own_NN1 l Z a0 hw b35 (p1 &&& (2147483647 : Int32)) h35 S35.old (own_mayN S35 (Or.inr (by rw [g35]; exact S1.size))) A35 F35_value F35_written) (allS (Or.inr (by rw [g35]; exact S1.size)) all0) (by decide +kernel : parseMethodDescriptor "(I)V" = some ⟨[.int], none⟩) rfl rfl rfl at_38 (by decide) (Nat.le_of_ble_eq_true rfl) (by decide) (by decide) (fun T36 h36 v36 S36 K36 q36 => ?_)
      obtain ⟨rfl, F36⟩ := q36
      show own_F p e below s Z _ _ _ _ _ (T36.setTop (mkF m 41 #[.val (.int p0), .val (.int p1), .val (.int p2), .val (.ref a_LESS), .val (.int (p1 &&& (2147483647 : Int32))), .val (.int (p2 &&& (2147483647 : Int32))), .unset, .unset, .unset, .unset, .unset] [(.ref b35)]))
      refine own_F.of (fun _ => XS.astore S36.here S36.hx rfl (S36.dec at_41) rfl rfl (l' := #[.val (.int p0), .val (.int p1), .val (.int p2), .val (.ref a_LESS), .val (.int (p1 &&& (2147483647 : Int32))), .val (.int (p2 &&& (2147483647 : Int32))), .val (.ref b35), .unset, .unset, .unset, .unset]) rfl) ?_
      show own_F p e below s Z _ _ _ _ _ (T36.setTop (mkF m 43 #[.val (.int p0), .val (.int p1), .val (.int p2), .val (.ref a_LESS), .val (.int (p1 &&& (2147483647 : Int32))), .val (.int (p2 &&& (2147483647 : Int32))), .val (.ref b35), .unset, .unset, .unset, .unset] []))
      refine own_new S36 (own_w hw 8 rfl) (own_w hw 9 rfl) (own_w hw 10 rfl) at_43 (by decide) (by decide) (fun T37 h37 b37 g37 S37 E37 A37 D37 => ?_)
      have F37_value : Fld Z h37 b37 "com/example/manysort/manysort/language/NaturalNumber" "value" "I" (.int (0 : Int32)) := (D37 (Or.inr (own_w hw 26 rfl)) (ty := .int) (by decide))
      have F37_written : Fld Z h37 b37 "com/example/manysort/manysort/language/NaturalNumber" "written" "Ljava/lang/String;" .null := (D37 (Or.inr (own_w hw 28 rfl)) (ty := (.object "java/lang/String")) (by decide))
      show own_F p e below s Z _ _ _ _ _ (T37.setTop (mkF m 46 #[.val (.int p0), .val (.int p1), .val (.int p2), .val (.ref a_LESS), .val (.int (p1 &&& (2147483647 : Int32))), .val (.int (p2 &&& (2147483647 : Int32))), .val (.ref b35), .unset, .unset, .unset, .unset] [(.ref b37)]))
      refine own_F.of (fun _ => XS.dup S37.here S37.hx rfl (S37.dec at_46) rfl rfl) ?_
      show own_F p e below s Z _ _ _ _ _ (T37.setTop (mkF m 47 #[.val (.int p0), .val (.int p1), .val (.int p2), .val (.ref a_LESS), .val (.int (p1 &&& (2147483647 : Int32))), .val (.int (p2 &&& (2147483647 : Int32))), .val (.ref b35), .unset, .unset, .unset, .unset] [(.ref b37), (.ref b37)]))
      refine own_F.of (fun _ => XS.iload S37.here S37.hx rfl (S37.dec at_47) rfl) ?_
      show own_F p e below s Z _ _ _ _ _ (T37.setTop (mkF m 49 #[.val (.int p0), .val (.int p1), .val (.int p2), .val (.ref a_LESS), .val (.int (p1 &&& (2147483647 : Int32))), .val (.int (p2 &&& (2147483647 : Int32))), .val (.ref b35), .unset, .unset, .unset, .unset] [(.int (p2 &&& (2147483647 : Int32))), (.ref b37), (.ref b37)]))
      refine own_callI S37 (y := (⟨"com/example/manysort/manysort/language/NaturalNumber", "<init>", "(I)V"⟩ : MethodName)) rfl (own_w hw 11 rfl) (own_w hw 12 rfl) (own_w hw 10 rfl) (own_w hw 13 rfl) (by decide) (argsL := [(.int (p2 &&& (2147483647 : Int32)))]) (rest := [(.ref b37)]) (own_NN1 l Z a0 hw b37 (p2 &&& (2147483647 : Int32)) h37 S37.old (own_mayN S37 (Or.inr (by rw [g37]; exact S36.size))) A37 F37_value F37_written) (allS (Or.inr (by rw [g37]; exact S36.size)) all0) (by decide +kernel : parseMethodDescriptor "(I)V" = some ⟨[.int], none⟩) rfl rfl rfl at_49 (by decide) (Nat.le_of_ble_eq_true rfl) (by decide) (by decide) (fun T38 h38 v38 S38 K38 q38 => ?_)
      obtain ⟨rfl, F38⟩ := q38
      show own_F p e below s Z _ _ _ _ _ (T38.setTop (mkF m 52 #[.val (.int p0), .val (.int p1), .val (.int p2), .val (.ref a_LESS), .val (.int (p1 &&& (2147483647 : Int32))), .val (.int (p2 &&& (2147483647 : Int32))), .val (.ref b35), .unset, .unset, .unset, .unset] [(.ref b37)]))
      refine own_F.of (fun _ => XS.astore S38.here S38.hx rfl (S38.dec at_52) rfl rfl (l' := #[.val (.int p0), .val (.int p1), .val (.int p2), .val (.ref a_LESS), .val (.int (p1 &&& (2147483647 : Int32))), .val (.int (p2 &&& (2147483647 : Int32))), .val (.ref b35), .val (.ref b37), .unset, .unset, .unset]) rfl) ?_
      show own_F p e below s Z _ _ _ _ _ (T38.setTop (mkF m 54 #[.val (.int p0), .val (.int p1), .val (.int p2), .val (.ref a_LESS), .val (.int (p1 &&& (2147483647 : Int32))), .val (.int (p2 &&& (2147483647 : Int32))), .val (.ref b35), .val (.ref b37), .unset, .unset, .unset] []))
      refine own_F.of (fun _ => XS.aloadN S38.here S38.hx rfl (S38.dec at_54) rfl rfl) ?_
      show own_F p e below s Z _ _ _ _ _ (T38.setTop (mkF m 55 #[.val (.int p0), .val (.int p1), .val (.int p2), .val (.ref a_LESS), .val (.int (p1 &&& (2147483647 : Int32))), .val (.int (p2 &&& (2147483647 : Int32))), .val (.ref b35), .val (.ref b37), .unset, .unset, .unset] [(.ref a_LESS)]))
      refine own_callV S38 (y := (⟨"com/example/manysort/manysort/language/Comparison$Relation", "orders", "()Z"⟩ : MethodName)) (y' := (⟨"com/example/manysort/manysort/language/Comparison$Relation", "orders", "()Z"⟩ : MethodName)) (own_w hw 29 rfl) (own_w hw 30 rfl) (own_nf S38 (own_w hw 32 rfl)) (own_w hw 32 rfl) (own_w hw 31 rfl) (own_w hw 33 rfl) (own_w hw 6 rfl) (by decide) (X_LESS.ext S38.old) (argsL := []) (rest := []) (own_orders l Z a0 hw a_LESS a_EQUAL a_NOT_EQUAL a_LESS a_LESS_OR_EQUAL a_GREATER a_GREATER_OR_EQUAL h38 S38.old S_EQUAL S_NOT_EQUAL S_LESS S_LESS_OR_EQUAL S_GREATER S_GREATER_OR_EQUAL) all0 (by decide +kernel : parseMethodDescriptor "()Z" = some ⟨[], some .boolean⟩) rfl rfl rfl at_55 (by decide) (Nat.le_of_ble_eq_true rfl) (by decide) (by decide) (fun T39 h39 v39 S39 K39 q39 => ?_)
      obtain ⟨rfl, rfl⟩ := q39
      show own_F p e below s Z _ _ _ _ _ (T39.setTop (mkF m 58 #[.val (.int p0), .val (.int p1), .val (.int p2), .val (.ref a_LESS), .val (.int (p1 &&& (2147483647 : Int32))), .val (.int (p2 &&& (2147483647 : Int32))), .val (.ref b35), .val (.ref b37), .unset, .unset, .unset] [(.int (own_or a_LESS a_EQUAL a_NOT_EQUAL))]))
      refine own_F.of (fun _ => XS.istore S39.here S39.hx rfl (S39.dec at_58) rfl (l' := #[.val (.int p0), .val (.int p1), .val (.int p2), .val (.ref a_LESS), .val (.int (p1 &&& (2147483647 : Int32))), .val (.int (p2 &&& (2147483647 : Int32))), .val (.ref b35), .val (.ref b37), .val (.int (own_or a_LESS a_EQUAL a_NOT_EQUAL)), .unset, .unset]) rfl) ?_
      show own_F p e below s Z _ _ _ _ _ (T39.setTop (mkF m 60 #[.val (.int p0), .val (.int p1), .val (.int p2), .val (.ref a_LESS), .val (.int (p1 &&& (2147483647 : Int32))), .val (.int (p2 &&& (2147483647 : Int32))), .val (.ref b35), .val (.ref b37), .val (.int (own_or a_LESS a_EQUAL a_NOT_EQUAL)), .unset, .unset] []))
      rw [show (own_or a_LESS a_EQUAL a_NOT_EQUAL) = (1 : Int32) from (by simp [own_or, (F_LESS_ordinal.ne F_EQUAL_ordinal (by decide)), (F_LESS_ordinal.ne F_NOT_EQUAL_ordinal (by decide))])]
      show own_F p e below s Z _ _ _ _ _ (T39.setTop (mkF m 60 #[.val (.int p0), .val (.int p1), .val (.int p2), .val (.ref a_LESS), .val (.int (p1 &&& (2147483647 : Int32))), .val (.int (p2 &&& (2147483647 : Int32))), .val (.ref b35), .val (.ref b37), .val (.int (1 : Int32)), .unset, .unset] []))
      refine own_F.of (fun _ => XS.aloadN S39.here S39.hx rfl (S39.dec at_60) rfl rfl) ?_
      show own_F p e below s Z _ _ _ _ _ (T39.setTop (mkF m 61 #[.val (.int p0), .val (.int p1), .val (.int p2), .val (.ref a_LESS), .val (.int (p1 &&& (2147483647 : Int32))), .val (.int (p2 &&& (2147483647 : Int32))), .val (.ref b35), .val (.ref b37), .val (.int (1 : Int32)), .unset, .unset] [(.ref a_LESS)]))
      refine own_F.of (fun _ => XS.aload S39.here S39.hx rfl (S39.dec at_61) rfl rfl) ?_
      show own_F p e below s Z _ _ _ _ _ (T39.setTop (mkF m 63 #[.val (.int p0), .val (.int p1), .val (.int p2), .val (.ref a_LESS), .val (.int (p1 &&& (2147483647 : Int32))), .val (.int (p2 &&& (2147483647 : Int32))), .val (.ref b35), .val (.ref b37), .val (.int (1 : Int32)), .unset, .unset] [(.ref b35), (.ref a_LESS)]))
      refine own_F.of (fun _ => XS.aload S39.here S39.hx rfl (S39.dec at_63) rfl rfl) ?_
      show own_F p e below s Z _ _ _ _ _ (T39.setTop (mkF m 65 #[.val (.int p0), .val (.int p1), .val (.int p2), .val (.ref a_LESS), .val (.int (p1 &&& (2147483647 : Int32))), .val (.int (p2 &&& (2147483647 : Int32))), .val (.ref b35), .val (.ref b37), .val (.int (1 : Int32)), .unset, .unset] [(.ref b37), (.ref b35), (.ref a_LESS)]))
      have f40 := (((A35.keep K36).ext E37).keep K38)
      have f41 := (A37.keep K38)
      have f42 := ((F36.ext E37).keep K38 (ninS (Nat.ne_of_lt (by rw [g37]; exact (F36).lt)) nin0))
      refine own_callV S39 (y := (⟨"com/example/manysort/manysort/language/Comparison$Relation", "holds", "(Lcom/example/manysort/manysort/language/Term;Lcom/example/manysort/manysort/language/Term;)Z"⟩ : MethodName)) (y' := (⟨"com/example/manysort/manysort/language/Comparison$Relation", "holds", "(Lcom/example/manysort/manysort/language/Term;Lcom/example/manysort/manysort/language/Term;)Z"⟩ : MethodName)) (own_w hw 35 rfl) (own_w hw 36 rfl) (own_nf S39 (own_w hw 38 rfl)) (own_w hw 38 rfl) (own_w hw 37 rfl) (own_w hw 39 rfl) (own_w hw 6 rfl) (by decide) (X_LESS.ext S39.old) (argsL := [(.ref b35), (.ref b37)]) (rest := []) (own_holds2 l Z a0 hw a_LESS b35 b37 (p1 &&& (2147483647 : Int32)) (p2 &&& (2147483647 : Int32)) h38 S39.old X_LESS F_LESS_ordinal f40 f41 f42 F38 (Nat.ne_of_lt (by rw [g37]; exact ((A35.keep K36)).lt))) all0 (by decide +kernel : parseMethodDescriptor "(Lcom/example/manysort/manysort/language/Term;Lcom/example/manysort/manysort/language/Term;)Z" = some ⟨[(.object "com/example/manysort/manysort/language/Term"), (.object "com/example/manysort/manysort/language/Term")], some .boolean⟩) rfl rfl rfl at_65 (by decide) (Nat.le_of_ble_eq_true rfl) (by decide) (by decide) (fun T43 h43 v43 S43 K43 q43 => ?_)
      obtain ⟨rfl, rfl⟩ := q43
      show own_F p e below s Z _ _ _ _ _ (T43.setTop (mkF m 68 #[.val (.int p0), .val (.int p1), .val (.int p2), .val (.ref a_LESS), .val (.int (p1 &&& (2147483647 : Int32))), .val (.int (p2 &&& (2147483647 : Int32))), .val (.ref b35), .val (.ref b37), .val (.int (1 : Int32)), .unset, .unset] [(.int (own_h2 (own_cmp (p1 &&& (2147483647 : Int32)) (p2 &&& (2147483647 : Int32)))))]))
      refine own_F.of (fun _ => XS.aloadN S43.here S43.hx rfl (S43.dec at_68) rfl rfl) ?_
      show own_F p e below s Z _ _ _ _ _ (T43.setTop (mkF m 69 #[.val (.int p0), .val (.int p1), .val (.int p2), .val (.ref a_LESS), .val (.int (p1 &&& (2147483647 : Int32))), .val (.int (p2 &&& (2147483647 : Int32))), .val (.ref b35), .val (.ref b37), .val (.int (1 : Int32)), .unset, .unset] [(.ref a_LESS), (.int (own_h2 (own_cmp (p1 &&& (2147483647 : Int32)) (p2 &&& (2147483647 : Int32)))))]))
      refine own_F.of (fun _ => XS.aload S43.here S43.hx rfl (S43.dec at_69) rfl rfl) ?_
      show own_F p e below s Z _ _ _ _ _ (T43.setTop (mkF m 71 #[.val (.int p0), .val (.int p1), .val (.int p2), .val (.ref a_LESS), .val (.int (p1 &&& (2147483647 : Int32))), .val (.int (p2 &&& (2147483647 : Int32))), .val (.ref b35), .val (.ref b37), .val (.int (1 : Int32)), .unset, .unset] [(.ref b37), (.ref a_LESS), (.int (own_h2 (own_cmp (p1 &&& (2147483647 : Int32)) (p2 &&& (2147483647 : Int32)))))]))
      refine own_F.of (fun _ => XS.aload S43.here S43.hx rfl (S43.dec at_71) rfl rfl) ?_
      show own_F p e below s Z _ _ _ _ _ (T43.setTop (mkF m 73 #[.val (.int p0), .val (.int p1), .val (.int p2), .val (.ref a_LESS), .val (.int (p1 &&& (2147483647 : Int32))), .val (.int (p2 &&& (2147483647 : Int32))), .val (.ref b35), .val (.ref b37), .val (.int (1 : Int32)), .unset, .unset] [(.ref b35), (.ref b37), (.ref a_LESS), (.int (own_h2 (own_cmp (p1 &&& (2147483647 : Int32)) (p2 &&& (2147483647 : Int32)))))]))
      refine own_callV S43 (y := (⟨"com/example/manysort/manysort/language/Comparison$Relation", "holds", "(Lcom/example/manysort/manysort/language/Term;Lcom/example/manysort/manysort/language/Term;)Z"⟩ : MethodName)) (y' := (⟨"com/example/manysort/manysort/language/Comparison$Relation", "holds", "(Lcom/example/manysort/manysort/language/Term;Lcom/example/manysort/manysort/language/Term;)Z"⟩ : MethodName)) (own_w hw 35 rfl) (own_w hw 36 rfl) (own_nf S43 (own_w hw 38 rfl)) (own_w hw 38 rfl) (own_w hw 37 rfl) (own_w hw 39 rfl) (own_w hw 6 rfl) (by decide) (X_LESS.ext S43.old) (argsL := [(.ref b37), (.ref b35)]) (rest := [(.int (own_h2 (own_cmp (p1 &&& (2147483647 : Int32)) (p2 &&& (2147483647 : Int32)))))]) (own_holds2 l Z a0 hw a_LESS b37 b35 (p2 &&& (2147483647 : Int32)) (p1 &&& (2147483647 : Int32)) h38 S43.old X_LESS F_LESS_ordinal f41 f40 F38 f42 (Ne.symm (Nat.ne_of_lt (by rw [g37]; exact ((A35.keep K36)).lt)))) all0 (by decide +kernel : parseMethodDescriptor "(Lcom/example/manysort/manysort/language/Term;Lcom/example/manysort/manysort/language/Term;)Z" = some ⟨[(.object "com/example/manysort/manysort/language/Term"), (.object "com/example/manysort/manysort/language/Term")], some .boolean⟩) rfl rfl rfl at_73 (by decide) (Nat.le_of_ble_eq_true rfl) (by decide) (by decide) (fun T44 h44 v44 S44 K44 q44 => ?_)
      obtain ⟨rfl, rfl⟩ := q44
      show own_F p e below s Z _ _ _ _ _ (T44.setTop (mkF m 76 #[.val (.int p0), .val (.int p1), .val (.int p2), .val (.ref a_LESS), .val (.int (p1 &&& (2147483647 : Int32))), .val (.int (p2 &&& (2147483647 : Int32))), .val (.ref b35), .val (.ref b37), .val (.int (1 : Int32)), .unset, .unset] [(.int (own_h2 (own_cmp (p2 &&& (2147483647 : Int32)) (p1 &&& (2147483647 : Int32))))), (.int (own_h2 (own_cmp (p1 &&& (2147483647 : Int32)) (p2 &&& (2147483647 : Int32)))))]))
      refine own_icmp S44 83 at_76 (by decide) (by decide) (fun (hc76_45 : (own_h2 (own_cmp (p1 &&& (2147483647 : Int32)) (p2 &&& (2147483647 : Int32)))) = (own_h2 (own_cmp (p2 &&& (2147483647 : Int32)) (p1 &&& (2147483647 : Int32))))) => False.elim (own_e2 hc27_34 hc76_45)) (fun (hc76_45 : ¬ ((own_h2 (own_cmp (p1 &&& (2147483647 : Int32)) (p2 &&& (2147483647 : Int32)))) = (own_h2 (own_cmp (p2 &&& (2147483647 : Int32)) (p1 &&& (2147483647 : Int32)))))) => ?_)
      show own_F p e below s Z _ _ _ _ _ (T44.setTop (mkF m 79 #[.val (.int p0), .val (.int p1), .val (.int p2), .val (.ref a_LESS), .val (.int (p1 &&& (2147483647 : Int32))), .val (.int (p2 &&& (2147483647 : Int32))), .val (.ref b35), .val (.ref b37), .val (.int (1 : Int32)), .unset, .unset] []))
      refine own_F.of (fun _ => XS.iconst S44.here S44.hx rfl (S44.dec at_79)) ?_
      show own_F p e below s Z _ _ _ _ _ (T44.setTop (mkF m 80 #[.val (.int p0), .val (.int p1), .val (.int p2), .val (.ref a_LESS), .val (.int (p1 &&& (2147483647 : Int32))), .val (.int (p2 &&& (2147483647 : Int32))), .val (.ref b35), .val (.ref b37), .val (.int (1 : Int32)), .unset, .unset] [(.int (1 : Int32))]))
      refine own_F.of (fun _ => XS.goto S44.here S44.hx rfl (pc0 := 80) (pc' := 84) rfl (S44.dec at_80) (by decide) (by decide)) ?_
      show own_F p e below s Z _ _ _ _ _ (T44.setTop (mkF m 84 #[.val (.int p0), .val (.int p1), .val (.int p2), .val (.ref a_LESS), .val (.int (p1 &&& (2147483647 : Int32))), .val (.int (p2 &&& (2147483647 : Int32))), .val (.ref b35), .val (.ref b37), .val (.int (1 : Int32)), .unset, .unset] [(.int (1 : Int32))]))
      refine own_F.of (fun _ => XS.istore S44.here S44.hx rfl (S44.dec at_84) rfl (l' := #[.val (.int p0), .val (.int p1), .val (.int p2), .val (.ref a_LESS), .val (.int (p1 &&& (2147483647 : Int32))), .val (.int (p2 &&& (2147483647 : Int32))), .val (.ref b35), .val (.ref b37), .val (.int (1 : Int32)), .val (.int (1 : Int32)), .unset]) rfl) ?_
      show own_F p e below s Z _ _ _ _ _ (T44.setTop (mkF m 86 #[.val (.int p0), .val (.int p1), .val (.int p2), .val (.ref a_LESS), .val (.int (p1 &&& (2147483647 : Int32))), .val (.int (p2 &&& (2147483647 : Int32))), .val (.ref b35), .val (.ref b37), .val (.int (1 : Int32)), .val (.int (1 : Int32)), .unset] []))
      refine own_F.of (fun _ => XS.aloadN S44.here S44.hx rfl (S44.dec at_86) rfl rfl) ?_
      show own_F p e below s Z _ _ _ _ _ (T44.setTop (mkF m 87 #[.val (.int p0), .val (.int p1), .val (.int p2), .val (.ref a_LESS), .val (.int (p1 &&& (2147483647 : Int32))), .val (.int (p2 &&& (2147483647 : Int32))), .val (.ref b35), .val (.ref b37), .val (.int (1 : Int32)), .val (.int (1 : Int32)), .unset] [(.ref a_LESS)]))
      refine own_callV S44 (y := (⟨"com/example/manysort/manysort/language/Comparison$Relation", "converse", "()Lcom/example/manysort/manysort/language/Comparison$Relation;"⟩ : MethodName)) (y' := (⟨"com/example/manysort/manysort/language/Comparison$Relation", "converse", "()Lcom/example/manysort/manysort/language/Comparison$Relation;"⟩ : MethodName)) (own_w hw 64 rfl) (own_w hw 65 rfl) (own_nf S44 (own_w hw 67 rfl)) (own_w hw 67 rfl) (own_w hw 66 rfl) (own_w hw 68 rfl) (own_w hw 6 rfl) (by decide) (X_LESS.ext S44.old) (argsL := []) (rest := []) (own_conv2 l Z a0 hw a_LESS a_EQUAL a_NOT_EQUAL a_LESS a_LESS_OR_EQUAL a_GREATER a_GREATER_OR_EQUAL h38 S44.old X_LESS F_LESS_ordinal S_EQUAL S_NOT_EQUAL S_LESS S_LESS_OR_EQUAL S_GREATER S_GREATER_OR_EQUAL) all0 (by decide +kernel : parseMethodDescriptor "()Lcom/example/manysort/manysort/language/Comparison$Relation;" = some ⟨[], some (.object "com/example/manysort/manysort/language/Comparison$Relation")⟩) rfl rfl rfl at_87 (by decide) (Nat.le_of_ble_eq_true rfl) (by decide) (by decide) (fun T46 h46 v46 S46 K46 q46 => ?_)
      obtain ⟨rfl, rfl⟩ := q46
      show own_F p e below s Z _ _ _ _ _ (T46.setTop (mkF m 90 #[.val (.int p0), .val (.int p1), .val (.int p2), .val (.ref a_LESS), .val (.int (p1 &&& (2147483647 : Int32))), .val (.int (p2 &&& (2147483647 : Int32))), .val (.ref b35), .val (.ref b37), .val (.int (1 : Int32)), .val (.int (1 : Int32)), .unset] [(.ref a_GREATER)]))
      refine own_F.of (fun _ => XS.aloadN S46.here S46.hx rfl (S46.dec at_90) rfl rfl) ?_
      show own_F p e below s Z _ _ _ _ _ (T46.setTop (mkF m 91 #[.val (.int p0), .val (.int p1), .val (.int p2), .val (.ref a_LESS), .val (.int (p1 &&& (2147483647 : Int32))), .val (.int (p2 &&& (2147483647 : Int32))), .val (.ref b35), .val (.ref b37), .val (.int (1 : Int32)), .val (.int (1 : Int32)), .unset] [(.ref a_LESS), (.ref a_GREATER)]))
      refine own_acmp S46 rfl rfl 98 at_91 (by decide) (by decide) (fun (hc91_47 : (Value.ref a_GREATER) = (Value.ref a_LESS)) => False.elim ((F_GREATER_ordinal.ne F_LESS_ordinal (by decide)) (Value.ref.inj hc91_47))) (fun (hc91_47 : ¬ ((Value.ref a_GREATER) = (Value.ref a_LESS))) => ?_)
      show own_F p e below s Z _ _ _ _ _ (T46.setTop (mkF m 94 #[.val (.int p0), .val (.int p1), .val (.int p2), .val (.ref a_LESS), .val (.int (p1 &&& (2147483647 : Int32))), .val (.int (p2 &&& (2147483647 : Int32))), .val (.ref b35), .val (.ref b37), .val (.int (1 : Int32)), .val (.int (1 : Int32)), .unset] []))
      refine own_F.of (fun _ => XS.iconst S46.here S46.hx rfl (S46.dec at_94)) ?_
      show own_F p e below s Z _ _ _ _ _ (T46.setTop (mkF m 95 #[.val (.int p0), .val (.int p1), .val (.int p2), .val (.ref a_LESS), .val (.int (p1 &&& (2147483647 : Int32))), .val (.int (p2 &&& (2147483647 : Int32))), .val (.ref b35), .val (.ref b37), .val (.int (1 : Int32)), .val (.int (1 : Int32)), .unset] [(.int (1 : Int32))]))
      refine own_F.of (fun _ => XS.goto S46.here S46.hx rfl (pc0 := 95) (pc' := 99) rfl (S46.dec at_95) (by decide) (by decide)) ?_
      show own_F p e below s Z _ _ _ _ _ (T46.setTop (mkF m 99 #[.val (.int p0), .val (.int p1), .val (.int p2), .val (.ref a_LESS), .val (.int (p1 &&& (2147483647 : Int32))), .val (.int (p2 &&& (2147483647 : Int32))), .val (.ref b35), .val (.ref b37), .val (.int (1 : Int32)), .val (.int (1 : Int32)), .unset] [(.int (1 : Int32))]))
      refine own_F.of (fun _ => XS.istore S46.here S46.hx rfl (S46.dec at_99) rfl (l' := #[.val (.int p0), .val (.int p1), .val (.int p2), .val (.ref a_LESS), .val (.int (p1 &&& (2147483647 : Int32))), .val (.int (p2 &&& (2147483647 : Int32))), .val (.ref b35), .val (.ref b37), .val (.int (1 : Int32)), .val (.int (1 : Int32)), .val (.int (1 : Int32))]) rfl) ?_
      show own_F p e below s Z _ _ _ _ _ (T46.setTop (mkF m 101 #[.val (.int p0), .val (.int p1), .val (.int p2), .val (.ref a_LESS), .val (.int (p1 &&& (2147483647 : Int32))), .val (.int (p2 &&& (2147483647 : Int32))), .val (.ref b35), .val (.ref b37), .val (.int (1 : Int32)), .val (.int (1 : Int32)), .val (.int (1 : Int32))] []))
      refine own_F.of (fun _ => XS.iload S46.here S46.hx rfl (S46.dec at_101) rfl) ?_
      show own_F p e below s Z _ _ _ _ _ (T46.setTop (mkF m 103 #[.val (.int p0), .val (.int p1), .val (.int p2), .val (.ref a_LESS), .val (.int (p1 &&& (2147483647 : Int32))), .val (.int (p2 &&& (2147483647 : Int32))), .val (.ref b35), .val (.ref b37), .val (.int (1 : Int32)), .val (.int (1 : Int32)), .val (.int (1 : Int32))] [(.int (1 : Int32))]))
      refine own_F.of (fun _ => XS.iload S46.here S46.hx rfl (S46.dec at_103) rfl) ?_
      show own_F p e below s Z _ _ _ _ _ (T46.setTop (mkF m 105 #[.val (.int p0), .val (.int p1), .val (.int p2), .val (.ref a_LESS), .val (.int (p1 &&& (2147483647 : Int32))), .val (.int (p2 &&& (2147483647 : Int32))), .val (.ref b35), .val (.ref b37), .val (.int (1 : Int32)), .val (.int (1 : Int32)), .val (.int (1 : Int32))] [(.int (1 : Int32)), (.int (1 : Int32))]))
      refine own_icmp S46 119 at_105 (by decide) (by decide) (fun (hc105_48 : ¬ ((1 : Int32) = (1 : Int32))) => False.elim (absurd hc105_48 (by decide))) (fun (hc105_48 : (1 : Int32) = (1 : Int32)) => ?_)
      show own_F p e below s Z _ _ _ _ _ (T46.setTop (mkF m 108 #[.val (.int p0), .val (.int p1), .val (.int p2), .val (.ref a_LESS), .val (.int (p1 &&& (2147483647 : Int32))), .val (.int (p2 &&& (2147483647 : Int32))), .val (.ref b35), .val (.ref b37), .val (.int (1 : Int32)), .val (.int (1 : Int32)), .val (.int (1 : Int32))] []))
      refine own_F.of (fun _ => XS.iload S46.here S46.hx rfl (S46.dec at_108) rfl) ?_
      show own_F p e below s Z _ _ _ _ _ (T46.setTop (mkF m 110 #[.val (.int p0), .val (.int p1), .val (.int p2), .val (.ref a_LESS), .val (.int (p1 &&& (2147483647 : Int32))), .val (.int (p2 &&& (2147483647 : Int32))), .val (.ref b35), .val (.ref b37), .val (.int (1 : Int32)), .val (.int (1 : Int32)), .val (.int (1 : Int32))] [(.int (1 : Int32))]))
      refine own_F.of (fun _ => XS.iload S46.here S46.hx rfl (S46.dec at_110) rfl) ?_
      show own_F p e below s Z _ _ _ _ _ (T46.setTop (mkF m 112 #[.val (.int p0), .val (.int p1), .val (.int p2), .val (.ref a_LESS), .val (.int (p1 &&& (2147483647 : Int32))), .val (.int (p2 &&& (2147483647 : Int32))), .val (.ref b35), .val (.ref b37), .val (.int (1 : Int32)), .val (.int (1 : Int32)), .val (.int (1 : Int32))] [(.int (1 : Int32)), (.int (1 : Int32))]))
      refine own_icmp S46 119 at_112 (by decide) (by decide) (fun (hc112_49 : ¬ ((1 : Int32) = (1 : Int32))) => False.elim (absurd hc112_49 (by decide))) (fun (hc112_49 : (1 : Int32) = (1 : Int32)) => ?_)
      show own_F p e below s Z _ _ _ _ _ (T46.setTop (mkF m 115 #[.val (.int p0), .val (.int p1), .val (.int p2), .val (.ref a_LESS), .val (.int (p1 &&& (2147483647 : Int32))), .val (.int (p2 &&& (2147483647 : Int32))), .val (.ref b35), .val (.ref b37), .val (.int (1 : Int32)), .val (.int (1 : Int32)), .val (.int (1 : Int32))] []))
      refine own_F.of (fun _ => XS.iconst S46.here S46.hx rfl (S46.dec at_115)) ?_
      show own_F p e below s Z _ _ _ _ _ (T46.setTop (mkF m 116 #[.val (.int p0), .val (.int p1), .val (.int p2), .val (.ref a_LESS), .val (.int (p1 &&& (2147483647 : Int32))), .val (.int (p2 &&& (2147483647 : Int32))), .val (.ref b35), .val (.ref b37), .val (.int (1 : Int32)), .val (.int (1 : Int32)), .val (.int (1 : Int32))] [(.int (1 : Int32))]))
      refine own_F.of (fun _ => XS.goto S46.here S46.hx rfl (pc0 := 116) (pc' := 120) rfl (S46.dec at_116) (by decide) (by decide)) ?_
      show own_F p e below s Z _ _ _ _ _ (T46.setTop (mkF m 120 #[.val (.int p0), .val (.int p1), .val (.int p2), .val (.ref a_LESS), .val (.int (p1 &&& (2147483647 : Int32))), .val (.int (p2 &&& (2147483647 : Int32))), .val (.ref b35), .val (.ref b37), .val (.int (1 : Int32)), .val (.int (1 : Int32)), .val (.int (1 : Int32))] [(.int (1 : Int32))]))
      refine own_retZ S46 (by simp) at_120 (by decide) (by decide) ?_
      rfl
    · show own_F p e below s Z _ _ _ _ _ (T1.setTop (mkF m 30 #[.val (.int p0), .val (.int p1), .val (.int p2), .val (.ref a_LESS), .val (.int (p1 &&& (2147483647 : Int32))), .val (.int (p2 &&& (2147483647 : Int32))), .unset, .unset, .unset, .unset, .unset] []))
      refine own_F.of (fun _ => XS.iconst S1.here S1.hx rfl (S1.dec at_30)) ?_
      show own_F p e below s Z _ _ _ _ _ (T1.setTop (mkF m 31 #[.val (.int p0), .val (.int p1), .val (.int p2), .val (.ref a_LESS), .val (.int (p1 &&& (2147483647 : Int32))), .val (.int (p2 &&& (2147483647 : Int32))), .unset, .unset, .unset, .unset, .unset] [(.int (1 : Int32))]))
      refine own_retZ S1 (by simp) at_31 (by decide) (by decide) ?_
      rfl
  · show own_F p e below s Z _ _ _ _ _ (T1.setTop (mkF m 10 #[.val (.int p0), .val (.int p1), .val (.int p2), .unset, .unset, .unset, .unset, .unset, .unset, .unset, .unset] [(.ref a_LESS_OR_EQUAL)]))
    refine own_F.of (fun _ => XS.astoreN S1.here S1.hx rfl (S1.dec at_10) rfl rfl (l' := #[.val (.int p0), .val (.int p1), .val (.int p2), .val (.ref a_LESS_OR_EQUAL), .unset, .unset, .unset, .unset, .unset, .unset, .unset]) rfl) ?_
    show own_F p e below s Z _ _ _ _ _ (T1.setTop (mkF m 11 #[.val (.int p0), .val (.int p1), .val (.int p2), .val (.ref a_LESS_OR_EQUAL), .unset, .unset, .unset, .unset, .unset, .unset, .unset] []))
    refine own_F.of (fun _ => XS.iloadN S1.here S1.hx rfl (S1.dec at_11) rfl) ?_
    show own_F p e below s Z _ _ _ _ _ (T1.setTop (mkF m 12 #[.val (.int p0), .val (.int p1), .val (.int p2), .val (.ref a_LESS_OR_EQUAL), .unset, .unset, .unset, .unset, .unset, .unset, .unset] [(.int p1)]))
    refine own_ldcI S1 (own_w hw 0 rfl) at_12 ?_
    show own_F p e below s Z _ _ _ _ _ (T1.setTop (mkF m 14 #[.val (.int p0), .val (.int p1), .val (.int p2), .val (.ref a_LESS_OR_EQUAL), .unset, .unset, .unset, .unset, .unset, .unset, .unset] [(.int (2147483647 : Int32)), (.int p1)]))
    refine own_F.of (fun _ => XS.iand S1.here S1.hx rfl (S1.dec at_14) rfl) ?_
    show own_F p e below s Z _ _ _ _ _ (T1.setTop (mkF m 15 #[.val (.int p0), .val (.int p1), .val (.int p2), .val (.ref a_LESS_OR_EQUAL), .unset, .unset, .unset, .unset, .unset, .unset, .unset] [(.int (p1 &&& (2147483647 : Int32)))]))
    refine own_F.of (fun _ => XS.istore S1.here S1.hx rfl (S1.dec at_15) rfl (l' := #[.val (.int p0), .val (.int p1), .val (.int p2), .val (.ref a_LESS_OR_EQUAL), .val (.int (p1 &&& (2147483647 : Int32))), .unset, .unset, .unset, .unset, .unset, .unset]) rfl) ?_
    show own_F p e below s Z _ _ _ _ _ (T1.setTop (mkF m 17 #[.val (.int p0), .val (.int p1), .val (.int p2), .val (.ref a_LESS_OR_EQUAL), .val (.int (p1 &&& (2147483647 : Int32))), .unset, .unset, .unset, .unset, .unset, .unset] []))
    refine own_F.of (fun _ => XS.iloadN S1.here S1.hx rfl (S1.dec at_17) rfl) ?_
    show own_F p e below s Z _ _ _ _ _ (T1.setTop (mkF m 18 #[.val (.int p0), .val (.int p1), .val (.int p2), .val (.ref a_LESS_OR_EQUAL), .val (.int (p1 &&& (2147483647 : Int32))), .unset, .unset, .unset, .unset, .unset, .unset] [(.int p2)]))
    refine own_ldcI S1 (own_w hw 0 rfl) at_18 ?_
    show own_F p e below s Z _ _ _ _ _ (T1.setTop (mkF m 20 #[.val (.int p0), .val (.int p1), .val (.int p2), .val (.ref a_LESS_OR_EQUAL), .val (.int (p1 &&& (2147483647 : Int32))), .unset, .unset, .unset, .unset, .unset, .unset] [(.int (2147483647 : Int32)), (.int p2)]))
    refine own_F.of (fun _ => XS.iand S1.here S1.hx rfl (S1.dec at_20) rfl) ?_
    show own_F p e below s Z _ _ _ _ _ (T1.setTop (mkF m 21 #[.val (.int p0), .val (.int p1), .val (.int p2), .val (.ref a_LESS_OR_EQUAL), .val (.int (p1 &&& (2147483647 : Int32))), .unset, .unset, .unset, .unset, .unset, .unset] [(.int (p2 &&& (2147483647 : Int32)))]))
    refine own_F.of (fun _ => XS.istore S1.here S1.hx rfl (S1.dec at_21) rfl (l' := #[.val (.int p0), .val (.int p1), .val (.int p2), .val (.ref a_LESS_OR_EQUAL), .val (.int (p1 &&& (2147483647 : Int32))), .val (.int (p2 &&& (2147483647 : Int32))), .unset, .unset, .unset, .unset, .unset]) rfl) ?_
    show own_F p e below s Z _ _ _ _ _ (T1.setTop (mkF m 23 #[.val (.int p0), .val (.int p1), .val (.int p2), .val (.ref a_LESS_OR_EQUAL), .val (.int (p1 &&& (2147483647 : Int32))), .val (.int (p2 &&& (2147483647 : Int32))), .unset, .unset, .unset, .unset, .unset] []))
    refine own_F.of (fun _ => XS.iload S1.here S1.hx rfl (S1.dec at_23) rfl) ?_
    show own_F p e below s Z _ _ _ _ _ (T1.setTop (mkF m 25 #[.val (.int p0), .val (.int p1), .val (.int p2), .val (.ref a_LESS_OR_EQUAL), .val (.int (p1 &&& (2147483647 : Int32))), .val (.int (p2 &&& (2147483647 : Int32))), .unset, .unset, .unset, .unset, .unset] [(.int (p1 &&& (2147483647 : Int32)))]))
    refine own_F.of (fun _ => XS.iload S1.here S1.hx rfl (S1.dec at_25) rfl) ?_
    show own_F p e below s Z _ _ _ _ _ (T1.setTop (mkF m 27 #[.val (.int p0), .val (.int p1), .val (.int p2), .val (.ref a_LESS_OR_EQUAL), .val (.int (p1 &&& (2147483647 : Int32))), .val (.int (p2 &&& (2147483647 : Int32))), .unset, .unset, .unset, .unset, .unset] [(.int (p2 &&& (2147483647 : Int32))), (.int (p1 &&& (2147483647 : Int32)))]))
    refine own_icmp S1 32 at_27 (by decide) (by decide) (fun (hc27_50 : ¬ ((p1 &&& (2147483647 : Int32)) = (p2 &&& (2147483647 : Int32)))) => ?_) (fun (hc27_50 : (p1 &&& (2147483647 : Int32)) = (p2 &&& (2147483647 : Int32))) => ?_)
    · show own_F p e below s Z _ _ _ _ _ (T1.setTop (mkF m 32 #[.val (.int p0), .val (.int p1), .val (.int p2), .val (.ref a_LESS_OR_EQUAL), .val (.int (p1 &&& (2147483647 : Int32))), .val (.int (p2 &&& (2147483647 : Int32))), .unset, .unset, .unset, .unset, .unset] []))
      refine own_new S1 (own_w hw 8 rfl) (own_w hw 9 rfl) (own_w hw 10 rfl) at_32 (by decide) (by decide) (fun T51 h51 b51 g51 S51 E51 A51 D51 => ?_)
      have F51_value : Fld Z h51 b51 "com/example/manysort/manysort/language/NaturalNumber" "value" "I" (.int (0 : Int32)) := (D51 (Or.inr (own_w hw 26 rfl)) (ty := .int) (by decide))
      have F51_written : Fld Z h51 b51 "com/example/manysort/manysort/language/NaturalNumber" "written" "Ljava/lang/String;" .null := (D51 (Or.inr (own_w hw 28 rfl)) (ty := (.object "java/lang/String")) (by decide))
      show own_F p e below s Z _ _ _ _ _ (T51.setTop (mkF m 35 #[.val (.int p0), .val (.int p1), .val (.int p2), .val (.ref a_LESS_OR_EQUAL), .val (.int (p1 &&& (2147483647 : Int32))), .val (.int (p2 &&& (2147483647 : Int32))), .unset, .unset, .unset, .unset, .unset] [(.ref b51)]))
      refine own_F.of (fun _ => XS.dup S51.here S51.hx rfl (S51.dec at_35) rfl rfl) ?_
      show own_F p e below s Z _ _ _ _ _ (T51.setTop (mkF m 36 #[.val (.int p0), .val (.int p1), .val (.int p2), .val (.ref a_LESS_OR_EQUAL), .val (.int (p1 &&& (2147483647 : Int32))), .val (.int (p2 &&& (2147483647 : Int32))), .unset, .unset, .unset, .unset, .unset] [(.ref b51), (.ref b51)]))
      refine own_F.of (fun _ => XS.iload S51.here S51.hx rfl (S51.dec at_36) rfl) ?_
      show own_F p e below s Z _ _ _ _ _ (T51.setTop (mkF m 38 #[.val (.int p0), .val (.int p1), .val (.int p2), .val (.ref a_LESS_OR_EQUAL), .val (.int (p1 &&& (2147483647 : Int32))), .val (.int (p2 &&& (2147483647 : Int32))), .unset, .unset, .unset, .unset, .unset] [(.int (p1 &&& (2147483647 : Int32))), (.ref b51), (.ref b51)]))
      refine own_callI S51 (y := (⟨"com/example/manysort/manysort/language/NaturalNumber", "<init>", "(I)V"⟩ : MethodName)) rfl (own_w hw 11 rfl) (own_w hw 12 rfl) (own_w hw 10 rfl) (own_w hw 13 rfl) (by decide) (argsL := [(.int (p1 &&& (2147483647 : Int32)))]) (rest := [(.ref b51)]) (own_NN1 l Z a0 hw b51 (p1 &&& (2147483647 : Int32)) h51 S51.old (own_mayN S51 (Or.inr (by rw [g51]; exact S1.size))) A51 F51_value F51_written) (allS (Or.inr (by rw [g51]; exact S1.size)) all0) (by decide +kernel : parseMethodDescriptor "(I)V" = some ⟨[.int], none⟩) rfl rfl rfl at_38 (by decide) (Nat.le_of_ble_eq_true rfl) (by decide) (by decide) (fun T52 h52 v52 S52 K52 q52 => ?_)
      obtain ⟨rfl, F52⟩ := q52
      show own_F p e below s Z _ _ _ _ _ (T52.setTop (mkF m 41 #[.val (.int p0), .val (.int p1), .val (.int p2), .val (.ref a_LESS_OR_EQUAL), .val (.int (p1 &&& (2147483647 : Int32))), .val (.int (p2 &&& (2147483647 : Int32))), .unset, .unset, .unset, .unset, .unset] [(.ref b51)]))
      refine own_F.of (fun _ => XS.astore S52.here S52.hx rfl (S52.dec at_41) rfl rfl (l' := #[.val (.int p0), .val (.int p1), .val (.int p2), .val (.ref a_LESS_OR_EQUAL), .val (.int (p1 &&& (2147483647 : Int32))), .val (.int (p2 &&& (2147483647 : Int32))), .val (.ref b51), .unset, .unset, .unset, .unset]) rfl) ?_
      show own_F p e below s Z _ _ _ _ _ (T52.setTop (mkF m 43 #[.val (.int p0), .val (.int p1), .val (.int p2), .val (.ref a_LESS_OR_EQUAL), .val (.int (p1 &&& (2147483647 : Int32))), .val (.int (p2 &&& (2147483647 : Int32))), .val (.ref b51), .unset, .unset, .unset, .unset] []))
      refine own_new S52 (own_w hw 8 rfl) (own_w hw 9 rfl) (own_w hw 10 rfl) at_43 (by decide) (by decide) (fun T53 h53 b53 g53 S53 E53 A53 D53 => ?_)
      have F53_value : Fld Z h53 b53 "com/example/manysort/manysort/language/NaturalNumber" "value" "I" (.int (0 : Int32)) := (D53 (Or.inr (own_w hw 26 rfl)) (ty := .int) (by decide))
      have F53_written : Fld Z h53 b53 "com/example/manysort/manysort/language/NaturalNumber" "written" "Ljava/lang/String;" .null := (D53 (Or.inr (own_w hw 28 rfl)) (ty := (.object "java/lang/String")) (by decide))
      show own_F p e below s Z _ _ _ _ _ (T53.setTop (mkF m 46 #[.val (.int p0), .val (.int p1), .val (.int p2), .val (.ref a_LESS_OR_EQUAL), .val (.int (p1 &&& (2147483647 : Int32))), .val (.int (p2 &&& (2147483647 : Int32))), .val (.ref b51), .unset, .unset, .unset, .unset] [(.ref b53)]))
      refine own_F.of (fun _ => XS.dup S53.here S53.hx rfl (S53.dec at_46) rfl rfl) ?_
      show own_F p e below s Z _ _ _ _ _ (T53.setTop (mkF m 47 #[.val (.int p0), .val (.int p1), .val (.int p2), .val (.ref a_LESS_OR_EQUAL), .val (.int (p1 &&& (2147483647 : Int32))), .val (.int (p2 &&& (2147483647 : Int32))), .val (.ref b51), .unset, .unset, .unset, .unset] [(.ref b53), (.ref b53)]))
      refine own_F.of (fun _ => XS.iload S53.here S53.hx rfl (S53.dec at_47) rfl) ?_
      show own_F p e below s Z _ _ _ _ _ (T53.setTop (mkF m 49 #[.val (.int p0), .val (.int p1), .val (.int p2), .val (.ref a_LESS_OR_EQUAL), .val (.int (p1 &&& (2147483647 : Int32))), .val (.int (p2 &&& (2147483647 : Int32))), .val (.ref b51), .unset, .unset, .unset, .unset] [(.int (p2 &&& (2147483647 : Int32))), (.ref b53), (.ref b53)]))
      refine own_callI S53 (y := (⟨"com/example/manysort/manysort/language/NaturalNumber", "<init>", "(I)V"⟩ : MethodName)) rfl (own_w hw 11 rfl) (own_w hw 12 rfl) (own_w hw 10 rfl) (own_w hw 13 rfl) (by decide) (argsL := [(.int (p2 &&& (2147483647 : Int32)))]) (rest := [(.ref b53)]) (own_NN1 l Z a0 hw b53 (p2 &&& (2147483647 : Int32)) h53 S53.old (own_mayN S53 (Or.inr (by rw [g53]; exact S52.size))) A53 F53_value F53_written) (allS (Or.inr (by rw [g53]; exact S52.size)) all0) (by decide +kernel : parseMethodDescriptor "(I)V" = some ⟨[.int], none⟩) rfl rfl rfl at_49 (by decide) (Nat.le_of_ble_eq_true rfl) (by decide) (by decide) (fun T54 h54 v54 S54 K54 q54 => ?_)
      obtain ⟨rfl, F54⟩ := q54
      show own_F p e below s Z _ _ _ _ _ (T54.setTop (mkF m 52 #[.val (.int p0), .val (.int p1), .val (.int p2), .val (.ref a_LESS_OR_EQUAL), .val (.int (p1 &&& (2147483647 : Int32))), .val (.int (p2 &&& (2147483647 : Int32))), .val (.ref b51), .unset, .unset, .unset, .unset] [(.ref b53)]))
      refine own_F.of (fun _ => XS.astore S54.here S54.hx rfl (S54.dec at_52) rfl rfl (l' := #[.val (.int p0), .val (.int p1), .val (.int p2), .val (.ref a_LESS_OR_EQUAL), .val (.int (p1 &&& (2147483647 : Int32))), .val (.int (p2 &&& (2147483647 : Int32))), .val (.ref b51), .val (.ref b53), .unset, .unset, .unset]) rfl) ?_
      show own_F p e below s Z _ _ _ _ _ (T54.setTop (mkF m 54 #[.val (.int p0), .val (.int p1), .val (.int p2), .val (.ref a_LESS_OR_EQUAL), .val (.int (p1 &&& (2147483647 : Int32))), .val (.int (p2 &&& (2147483647 : Int32))), .val (.ref b51), .val (.ref b53), .unset, .unset, .unset] []))
      refine own_F.of (fun _ => XS.aloadN S54.here S54.hx rfl (S54.dec at_54) rfl rfl) ?_
      show own_F p e below s Z _ _ _ _ _ (T54.setTop (mkF m 55 #[.val (.int p0), .val (.int p1), .val (.int p2), .val (.ref a_LESS_OR_EQUAL), .val (.int (p1 &&& (2147483647 : Int32))), .val (.int (p2 &&& (2147483647 : Int32))), .val (.ref b51), .val (.ref b53), .unset, .unset, .unset] [(.ref a_LESS_OR_EQUAL)]))
      refine own_callV S54 (y := (⟨"com/example/manysort/manysort/language/Comparison$Relation", "orders", "()Z"⟩ : MethodName)) (y' := (⟨"com/example/manysort/manysort/language/Comparison$Relation", "orders", "()Z"⟩ : MethodName)) (own_w hw 29 rfl) (own_w hw 30 rfl) (own_nf S54 (own_w hw 32 rfl)) (own_w hw 32 rfl) (own_w hw 31 rfl) (own_w hw 33 rfl) (own_w hw 6 rfl) (by decide) (X_LESS_OR_EQUAL.ext S54.old) (argsL := []) (rest := []) (own_orders l Z a0 hw a_LESS_OR_EQUAL a_EQUAL a_NOT_EQUAL a_LESS a_LESS_OR_EQUAL a_GREATER a_GREATER_OR_EQUAL h54 S54.old S_EQUAL S_NOT_EQUAL S_LESS S_LESS_OR_EQUAL S_GREATER S_GREATER_OR_EQUAL) all0 (by decide +kernel : parseMethodDescriptor "()Z" = some ⟨[], some .boolean⟩) rfl rfl rfl at_55 (by decide) (Nat.le_of_ble_eq_true rfl) (by decide) (by decide) (fun T55 h55 v55 S55 K55 q55 => ?_)
      obtain ⟨rfl, rfl⟩ := q55
      show own_F p e below s Z _ _ _ _ _ (T55.setTop (mkF m 58 #[.val (.int p0), .val (.int p1), .val (.int p2), .val (.ref a_LESS_OR_EQUAL), .val (.int (p1 &&& (2147483647 : Int32))), .val (.int (p2 &&& (2147483647 : Int32))), .val (.ref b51), .val (.ref b53), .unset, .unset, .unset] [(.int (own_or a_LESS_OR_EQUAL a_EQUAL a_NOT_EQUAL))]))
      refine own_F.of (fun _ => XS.istore S55.here S55.hx rfl (S55.dec at_58) rfl (l' := #[.val (.int p0), .val (.int p1), .val (.int p2), .val (.ref a_LESS_OR_EQUAL), .val (.int (p1 &&& (2147483647 : Int32))), .val (.int (p2 &&& (2147483647 : Int32))), .val (.ref b51), .val (.ref b53), .val (.int (own_or a_LESS_OR_EQUAL a_EQUAL a_NOT_EQUAL)), .unset, .unset]) rfl) ?_
      show own_F p e below s Z _ _ _ _ _ (T55.setTop (mkF m 60 #[.val (.int p0), .val (.int p1), .val (.int p2), .val (.ref a_LESS_OR_EQUAL), .val (.int (p1 &&& (2147483647 : Int32))), .val (.int (p2 &&& (2147483647 : Int32))), .val (.ref b51), .val (.ref b53), .val (.int (own_or a_LESS_OR_EQUAL a_EQUAL a_NOT_EQUAL)), .unset, .unset] []))
      rw [show (own_or a_LESS_OR_EQUAL a_EQUAL a_NOT_EQUAL) = (1 : Int32) from (by simp [own_or, (F_LESS_OR_EQUAL_ordinal.ne F_EQUAL_ordinal (by decide)), (F_LESS_OR_EQUAL_ordinal.ne F_NOT_EQUAL_ordinal (by decide))])]
      show own_F p e below s Z _ _ _ _ _ (T55.setTop (mkF m 60 #[.val (.int p0), .val (.int p1), .val (.int p2), .val (.ref a_LESS_OR_EQUAL), .val (.int (p1 &&& (2147483647 : Int32))), .val (.int (p2 &&& (2147483647 : Int32))), .val (.ref b51), .val (.ref b53), .val (.int (1 : Int32)), .unset, .unset] []))
      refine own_F.of (fun _ => XS.aloadN S55.here S55.hx rfl (S55.dec at_60) rfl rfl) ?_
      show own_F p e below s Z _ _ _ _ _ (T55.setTop (mkF m 61 #[.val (.int p0), .val (.int p1), .val (.int p2), .val (.ref a_LESS_OR_EQUAL), .val (.int (p1 &&& (2147483647 : Int32))), .val (.int (p2 &&& (2147483647 : Int32))), .val (.ref b51), .val (.ref b53), .val (.int (1 : Int32)), .unset, .unset] [(.ref a_LESS_OR_EQUAL)]))
      refine own_F.of (fun _ => XS.aload S55.here S55.hx rfl (S55.dec at_61) rfl rfl) ?_
      show own_F p e below s Z _ _ _ _ _ (T55.setTop (mkF m 63 #[.val (.int p0), .val (.int p1), .val (.int p2), .val (.ref a_LESS_OR_EQUAL), .val (.int (p1 &&& (2147483647 : Int32))), .val (.int (p2 &&& (2147483647 : Int32))), .val (.ref b51), .val (.ref b53), .val (.int (1 : Int32)), .unset, .unset] [(.ref b51), (.ref a_LESS_OR_EQUAL)]))
      refine own_F.of (fun _ => XS.aload S55.here S55.hx rfl (S55.dec at_63) rfl rfl) ?_
      show own_F p e below s Z _ _ _ _ _ (T55.setTop (mkF m 65 #[.val (.int p0), .val (.int p1), .val (.int p2), .val (.ref a_LESS_OR_EQUAL), .val (.int (p1 &&& (2147483647 : Int32))), .val (.int (p2 &&& (2147483647 : Int32))), .val (.ref b51), .val (.ref b53), .val (.int (1 : Int32)), .unset, .unset] [(.ref b53), (.ref b51), (.ref a_LESS_OR_EQUAL)]))
      have f56 := (((A51.keep K52).ext E53).keep K54)
      have f57 := (A53.keep K54)
      have f58 := ((F52.ext E53).keep K54 (ninS (Nat.ne_of_lt (by rw [g53]; exact (F52).lt)) nin0))
      refine own_callV S55 (y := (⟨"com/example/manysort/manysort/language/Comparison$Relation", "holds", "(Lcom/example/manysort/manysort/language/Term;Lcom/example/manysort/manysort/language/Term;)Z"⟩ : MethodName)) (y' := (⟨"com/example/manysort/manysort/language/Comparison$Relation", "holds", "(Lcom/example/manysort/manysort/language/Term;Lcom/example/manysort/manysort/language/Term;)Z"⟩ : MethodName)) (own_w hw 35 rfl) (own_w hw 36 rfl) (own_nf S55 (own_w hw 38 rfl)) (own_w hw 38 rfl) (own_w hw 37 rfl) (own_w hw 39 rfl) (own_w hw 6 rfl) (by decide) (X_LESS_OR_EQUAL.ext S55.old) (argsL := [(.ref b51), (.ref b53)]) (rest := []) (own_holds3 l Z a0 hw a_LESS_OR_EQUAL b51 b53 (p1 &&& (2147483647 : Int32)) (p2 &&& (2147483647 : Int32)) h54 S55.old X_LESS_OR_EQUAL F_LESS_OR_EQUAL_ordinal f56 f57 f58 F54 (Nat.ne_of_lt (by rw [g53]; exact ((A51.keep K52)).lt))) all0 (by decide +kernel : parseMethodDescriptor "(Lcom/example/manysort/manysort/language/Term;Lcom/example/manysort/manysort/language/Term;)Z" = some ⟨[(.object "com/example/manysort/manysort/language/Term"), (.object "com/example/manysort/manysort/language/Term")], some .boolean⟩) rfl rfl rfl at_65 (by decide) (Nat.le_of_ble_eq_true rfl) (by decide) (by decide) (fun T59 h59 v59 S59 K59 q59 => ?_)
      obtain ⟨rfl, rfl⟩ := q59
      show own_F p e below s Z _ _ _ _ _ (T59.setTop (mkF m 68 #[.val (.int p0), .val (.int p1), .val (.int p2), .val (.ref a_LESS_OR_EQUAL), .val (.int (p1 &&& (2147483647 : Int32))), .val (.int (p2 &&& (2147483647 : Int32))), .val (.ref b51), .val (.ref b53), .val (.int (1 : Int32)), .unset, .unset] [(.int (own_h3 (own_cmp (p1 &&& (2147483647 : Int32)) (p2 &&& (2147483647 : Int32)))))]))
      refine own_F.of (fun _ => XS.aloadN S59.here S59.hx rfl (S59.dec at_68) rfl rfl) ?_
      show own_F p e below s Z _ _ _ _ _ (T59.setTop (mkF m 69 #[.val (.int p0), .val (.int p1), .val (.int p2), .val (.ref a_LESS_OR_EQUAL), .val (.int (p1 &&& (2147483647 : Int32))), .val (.int (p2 &&& (2147483647 : Int32))), .val (.ref b51), .val (.ref b53), .val (.int (1 : Int32)), .unset, .unset] [(.ref a_LESS_OR_EQUAL), (.int (own_h3 (own_cmp (p1 &&& (2147483647 : Int32)) (p2 &&& (2147483647 : Int32)))))]))
      refine own_F.of (fun _ => XS.aload S59.here S59.hx rfl (S59.dec at_69) rfl rfl) ?_
      show own_F p e below s Z _ _ _ _ _ (T59.setTop (mkF m 71 #[.val (.int p0), .val (.int p1), .val (.int p2), .val (.ref a_LESS_OR_EQUAL), .val (.int (p1 &&& (2147483647 : Int32))), .val (.int (p2 &&& (2147483647 : Int32))), .val (.ref b51), .val (.ref b53), .val (.int (1 : Int32)), .unset, .unset] [(.ref b53), (.ref a_LESS_OR_EQUAL), (.int (own_h3 (own_cmp (p1 &&& (2147483647 : Int32)) (p2 &&& (2147483647 : Int32)))))]))
      refine own_F.of (fun _ => XS.aload S59.here S59.hx rfl (S59.dec at_71) rfl rfl) ?_
      show own_F p e below s Z _ _ _ _ _ (T59.setTop (mkF m 73 #[.val (.int p0), .val (.int p1), .val (.int p2), .val (.ref a_LESS_OR_EQUAL), .val (.int (p1 &&& (2147483647 : Int32))), .val (.int (p2 &&& (2147483647 : Int32))), .val (.ref b51), .val (.ref b53), .val (.int (1 : Int32)), .unset, .unset] [(.ref b51), (.ref b53), (.ref a_LESS_OR_EQUAL), (.int (own_h3 (own_cmp (p1 &&& (2147483647 : Int32)) (p2 &&& (2147483647 : Int32)))))]))
      refine own_callV S59 (y := (⟨"com/example/manysort/manysort/language/Comparison$Relation", "holds", "(Lcom/example/manysort/manysort/language/Term;Lcom/example/manysort/manysort/language/Term;)Z"⟩ : MethodName)) (y' := (⟨"com/example/manysort/manysort/language/Comparison$Relation", "holds", "(Lcom/example/manysort/manysort/language/Term;Lcom/example/manysort/manysort/language/Term;)Z"⟩ : MethodName)) (own_w hw 35 rfl) (own_w hw 36 rfl) (own_nf S59 (own_w hw 38 rfl)) (own_w hw 38 rfl) (own_w hw 37 rfl) (own_w hw 39 rfl) (own_w hw 6 rfl) (by decide) (X_LESS_OR_EQUAL.ext S59.old) (argsL := [(.ref b53), (.ref b51)]) (rest := [(.int (own_h3 (own_cmp (p1 &&& (2147483647 : Int32)) (p2 &&& (2147483647 : Int32)))))]) (own_holds3 l Z a0 hw a_LESS_OR_EQUAL b53 b51 (p2 &&& (2147483647 : Int32)) (p1 &&& (2147483647 : Int32)) h54 S59.old X_LESS_OR_EQUAL F_LESS_OR_EQUAL_ordinal f57 f56 F54 f58 (Ne.symm (Nat.ne_of_lt (by rw [g53]; exact ((A51.keep K52)).lt)))) all0 (by decide +kernel : parseMethodDescriptor "(Lcom/example/manysort/manysort/language/Term;Lcom/example/manysort/manysort/language/Term;)Z" = some ⟨[(.object "com/example/manysort/manysort/language/Term"), (.object "com/example/manysort/manysort/language/Term")], some .boolean⟩) rfl rfl rfl at_73 (by decide) (Nat.le_of_ble_eq_true rfl) (by decide) (by decide) (fun T60 h60 v60 S60 K60 q60 => ?_)
      obtain ⟨rfl, rfl⟩ := q60
      show own_F p e below s Z _ _ _ _ _ (T60.setTop (mkF m 76 #[.val (.int p0), .val (.int p1), .val (.int p2), .val (.ref a_LESS_OR_EQUAL), .val (.int (p1 &&& (2147483647 : Int32))), .val (.int (p2 &&& (2147483647 : Int32))), .val (.ref b51), .val (.ref b53), .val (.int (1 : Int32)), .unset, .unset] [(.int (own_h3 (own_cmp (p2 &&& (2147483647 : Int32)) (p1 &&& (2147483647 : Int32))))), (.int (own_h3 (own_cmp (p1 &&& (2147483647 : Int32)) (p2 &&& (2147483647 : Int32)))))]))
      refine own_icmp S60 83 at_76 (by decide) (by decide) (fun (hc76_61 : (own_h3 (own_cmp (p1 &&& (2147483647 : Int32)) (p2 &&& (2147483647 : Int32)))) = (own_h3 (own_cmp (p2 &&& (2147483647 : Int32)) (p1 &&& (2147483647 : Int32))))) => False.elim (own_e3 hc27_50 hc76_61)) (fun (hc76_61 : ¬ ((own_h3 (own_cmp (p1 &&& (2147483647 : Int32)) (p2 &&& (2147483647 : Int32)))) = (own_h3 (own_cmp (p2 &&& (2147483647 : Int32)) (p1 &&& (2147483647 : Int32)))))) => ?_)
      show own_F p e below s Z _ _ _ _ _ (T60.setTop (mkF m 79 #[.val (.int p0), .val (.int p1), .val (.int p2), .val (.ref a_LESS_OR_EQUAL), .val (.int (p1 &&& (2147483647 : Int32))), .val (.int (p2 &&& (2147483647 : Int32))), .val (.ref b51), .val (.ref b53), .val (.int (1 : Int32)), .unset, .unset] []))
      refine own_F.of (fun _ => XS.iconst S60.here S60.hx rfl (S60.dec at_79)) ?_
      show own_F p e below s Z _ _ _ _ _ (T60.setTop (mkF m 80 #[.val (.int p0), .val (.int p1), .val (.int p2), .val (.ref a_LESS_OR_EQUAL), .val (.int (p1 &&& (2147483647 : Int32))), .val (.int (p2 &&& (2147483647 : Int32))), .val (.ref b51), .val (.ref b53), .val (.int (1 : Int32)), .unset, .unset] [(.int (1 : Int32))]))
      refine own_F.of (fun _ => XS.goto S60.here S60.hx rfl (pc0 := 80) (pc' := 84) rfl (S60.dec at_80) (by decide) (by decide)) ?_
      show own_F p e below s Z _ _ _ _ _ (T60.setTop (mkF m 84 #[.val (.int p0), .val (.int p1), .val (.int p2), .val (.ref a_LESS_OR_EQUAL), .val (.int (p1 &&& (2147483647 : Int32))), .val (.int (p2 &&& (2147483647 : Int32))), .val (.ref b51), .val (.ref b53), .val (.int (1 : Int32)), .unset, .unset] [(.int (1 : Int32))]))
      refine own_F.of (fun _ => XS.istore S60.here S60.hx rfl (S60.dec at_84) rfl (l' := #[.val (.int p0), .val (.int p1), .val (.int p2), .val (.ref a_LESS_OR_EQUAL), .val (.int (p1 &&& (2147483647 : Int32))), .val (.int (p2 &&& (2147483647 : Int32))), .val (.ref b51), .val (.ref b53), .val (.int (1 : Int32)), .val (.int (1 : Int32)), .unset]) rfl) ?_
      show own_F p e below s Z _ _ _ _ _ (T60.setTop (mkF m 86 #[.val (.int p0), .val (.int p1), .val (.int p2), .val (.ref a_LESS_OR_EQUAL), .val (.int (p1 &&& (2147483647 : Int32))), .val (.int (p2 &&& (2147483647 : Int32))), .val (.ref b51), .val (.ref b53), .val (.int (1 : Int32)), .val (.int (1 : Int32)), .unset] []))
      refine own_F.of (fun _ => XS.aloadN S60.here S60.hx rfl (S60.dec at_86) rfl rfl) ?_
      show own_F p e below s Z _ _ _ _ _ (T60.setTop (mkF m 87 #[.val (.int p0), .val (.int p1), .val (.int p2), .val (.ref a_LESS_OR_EQUAL), .val (.int (p1 &&& (2147483647 : Int32))), .val (.int (p2 &&& (2147483647 : Int32))), .val (.ref b51), .val (.ref b53), .val (.int (1 : Int32)), .val (.int (1 : Int32)), .unset] [(.ref a_LESS_OR_EQUAL)]))
      refine own_callV S60 (y := (⟨"com/example/manysort/manysort/language/Comparison$Relation", "converse", "()Lcom/example/manysort/manysort/language/Comparison$Relation;"⟩ : MethodName)) (y' := (⟨"com/example/manysort/manysort/language/Comparison$Relation", "converse", "()Lcom/example/manysort/manysort/language/Comparison$Relation;"⟩ : MethodName)) (own_w hw 64 rfl) (own_w hw 65 rfl) (own_nf S60 (own_w hw 67 rfl)) (own_w hw 67 rfl) (own_w hw 66 rfl) (own_w hw 68 rfl) (own_w hw 6 rfl) (by decide) (X_LESS_OR_EQUAL.ext S60.old) (argsL := []) (rest := []) (own_conv3 l Z a0 hw a_LESS_OR_EQUAL a_EQUAL a_NOT_EQUAL a_LESS a_LESS_OR_EQUAL a_GREATER a_GREATER_OR_EQUAL h54 S60.old X_LESS_OR_EQUAL F_LESS_OR_EQUAL_ordinal S_EQUAL S_NOT_EQUAL S_LESS S_LESS_OR_EQUAL S_GREATER S_GREATER_OR_EQUAL) all0 (by decide +kernel : parseMethodDescriptor "()Lcom/example/manysort/manysort/language/Comparison$Relation;" = some ⟨[], some (.object "com/example/manysort/manysort/language/Comparison$Relation")⟩) rfl rfl rfl at_87 (by decide) (Nat.le_of_ble_eq_true rfl) (by decide) (by decide) (fun T62 h62 v62 S62 K62 q62 => ?_)
      obtain ⟨rfl, rfl⟩ := q62
      show own_F p e below s Z _ _ _ _ _ (T62.setTop (mkF m 90 #[.val (.int p0), .val (.int p1), .val (.int p2), .val (.ref a_LESS_OR_EQUAL), .val (.int (p1 &&& (2147483647 : Int32))), .val (.int (p2 &&& (2147483647 : Int32))), .val (.ref b51), .val (.ref b53), .val (.int (1 : Int32)), .val (.int (1 : Int32)), .unset] [(.ref a_GREATER_OR_EQUAL)]))
      refine own_F.of (fun _ => XS.aloadN S62.here S62.hx rfl (S62.dec at_90) rfl rfl) ?_
      show own_F p e below s Z _ _ _ _ _ (T62.setTop (mkF m 91 #[.val (.int p0), .val (.int p1), .val (.int p2), .val (.ref a_LESS_OR_EQUAL), .val (.int (p1 &&& (2147483647 : Int32))), .val (.int (p2 &&& (2147483647 : Int32))), .val (.ref b51), .val (.ref b53), .val (.int (1 : Int32)), .val (.int (1 : Int32)), .unset] [(.ref a_LESS_OR_EQUAL), (.ref a_GREATER_OR_EQUAL)]))
      refine own_acmp S62 rfl rfl 98 at_91 (by decide) (by decide) (fun (hc91_63 : (Value.ref a_GREATER_OR_EQUAL) = (Value.ref a_LESS_OR_EQUAL)) => False.elim ((F_GREATER_OR_EQUAL_ordinal.ne F_LESS_OR_EQUAL_ordinal (by decide)) (Value.ref.inj hc91_63))) (fun (hc91_63 : ¬ ((Value.ref a_GREATER_OR_EQUAL) = (Value.ref a_LESS_OR_EQUAL))) => ?_)
      show own_F p e below s Z _ _ _ _ _ (T62.setTop (mkF m 94 #[.val (.int p0), .val (.int p1), .val (.int p2), .val (.ref a_LESS_OR_EQUAL), .val (.int (p1 &&& (2147483647 : Int32))), .val (.int (p2 &&& (2147483647 : Int32))), .val (.ref b51), .val (.ref b53), .val (.int (1 : Int32)), .val (.int (1 : Int32)), .unset] []))
      refine own_F.of (fun _ => XS.iconst S62.here S62.hx rfl (S62.dec at_94)) ?_
      show own_F p e below s Z _ _ _ _ _ (T62.setTop (mkF m 95 #[.val (.int p0), .val (.int p1), .val (.int p2), .val (.ref a_LESS_OR_EQUAL), .val (.int (p1 &&& (2147483647 : Int32))), .val (.int (p2 &&& (2147483647 : Int32))), .val (.ref b51), .val (.ref b53), .val (.int (1 : Int32)), .val (.int (1 : Int32)), .unset] [(.int (1 : Int32))]))
      refine own_F.of (fun _ => XS.goto S62.here S62.hx rfl (pc0 := 95) (pc' := 99) rfl (S62.dec at_95) (by decide) (by decide)) ?_
      show own_F p e below s Z _ _ _ _ _ (T62.setTop (mkF m 99 #[.val (.int p0), .val (.int p1), .val (.int p2), .val (.ref a_LESS_OR_EQUAL), .val (.int (p1 &&& (2147483647 : Int32))), .val (.int (p2 &&& (2147483647 : Int32))), .val (.ref b51), .val (.ref b53), .val (.int (1 : Int32)), .val (.int (1 : Int32)), .unset] [(.int (1 : Int32))]))
      refine own_F.of (fun _ => XS.istore S62.here S62.hx rfl (S62.dec at_99) rfl (l' := #[.val (.int p0), .val (.int p1), .val (.int p2), .val (.ref a_LESS_OR_EQUAL), .val (.int (p1 &&& (2147483647 : Int32))), .val (.int (p2 &&& (2147483647 : Int32))), .val (.ref b51), .val (.ref b53), .val (.int (1 : Int32)), .val (.int (1 : Int32)), .val (.int (1 : Int32))]) rfl) ?_
      show own_F p e below s Z _ _ _ _ _ (T62.setTop (mkF m 101 #[.val (.int p0), .val (.int p1), .val (.int p2), .val (.ref a_LESS_OR_EQUAL), .val (.int (p1 &&& (2147483647 : Int32))), .val (.int (p2 &&& (2147483647 : Int32))), .val (.ref b51), .val (.ref b53), .val (.int (1 : Int32)), .val (.int (1 : Int32)), .val (.int (1 : Int32))] []))
      refine own_F.of (fun _ => XS.iload S62.here S62.hx rfl (S62.dec at_101) rfl) ?_
      show own_F p e below s Z _ _ _ _ _ (T62.setTop (mkF m 103 #[.val (.int p0), .val (.int p1), .val (.int p2), .val (.ref a_LESS_OR_EQUAL), .val (.int (p1 &&& (2147483647 : Int32))), .val (.int (p2 &&& (2147483647 : Int32))), .val (.ref b51), .val (.ref b53), .val (.int (1 : Int32)), .val (.int (1 : Int32)), .val (.int (1 : Int32))] [(.int (1 : Int32))]))
      refine own_F.of (fun _ => XS.iload S62.here S62.hx rfl (S62.dec at_103) rfl) ?_
      show own_F p e below s Z _ _ _ _ _ (T62.setTop (mkF m 105 #[.val (.int p0), .val (.int p1), .val (.int p2), .val (.ref a_LESS_OR_EQUAL), .val (.int (p1 &&& (2147483647 : Int32))), .val (.int (p2 &&& (2147483647 : Int32))), .val (.ref b51), .val (.ref b53), .val (.int (1 : Int32)), .val (.int (1 : Int32)), .val (.int (1 : Int32))] [(.int (1 : Int32)), (.int (1 : Int32))]))
      refine own_icmp S62 119 at_105 (by decide) (by decide) (fun (hc105_64 : ¬ ((1 : Int32) = (1 : Int32))) => False.elim (absurd hc105_64 (by decide))) (fun (hc105_64 : (1 : Int32) = (1 : Int32)) => ?_)
      show own_F p e below s Z _ _ _ _ _ (T62.setTop (mkF m 108 #[.val (.int p0), .val (.int p1), .val (.int p2), .val (.ref a_LESS_OR_EQUAL), .val (.int (p1 &&& (2147483647 : Int32))), .val (.int (p2 &&& (2147483647 : Int32))), .val (.ref b51), .val (.ref b53), .val (.int (1 : Int32)), .val (.int (1 : Int32)), .val (.int (1 : Int32))] []))
      refine own_F.of (fun _ => XS.iload S62.here S62.hx rfl (S62.dec at_108) rfl) ?_
      show own_F p e below s Z _ _ _ _ _ (T62.setTop (mkF m 110 #[.val (.int p0), .val (.int p1), .val (.int p2), .val (.ref a_LESS_OR_EQUAL), .val (.int (p1 &&& (2147483647 : Int32))), .val (.int (p2 &&& (2147483647 : Int32))), .val (.ref b51), .val (.ref b53), .val (.int (1 : Int32)), .val (.int (1 : Int32)), .val (.int (1 : Int32))] [(.int (1 : Int32))]))
      refine own_F.of (fun _ => XS.iload S62.here S62.hx rfl (S62.dec at_110) rfl) ?_
      show own_F p e below s Z _ _ _ _ _ (T62.setTop (mkF m 112 #[.val (.int p0), .val (.int p1), .val (.int p2), .val (.ref a_LESS_OR_EQUAL), .val (.int (p1 &&& (2147483647 : Int32))), .val (.int (p2 &&& (2147483647 : Int32))), .val (.ref b51), .val (.ref b53), .val (.int (1 : Int32)), .val (.int (1 : Int32)), .val (.int (1 : Int32))] [(.int (1 : Int32)), (.int (1 : Int32))]))
      refine own_icmp S62 119 at_112 (by decide) (by decide) (fun (hc112_65 : ¬ ((1 : Int32) = (1 : Int32))) => False.elim (absurd hc112_65 (by decide))) (fun (hc112_65 : (1 : Int32) = (1 : Int32)) => ?_)
      show own_F p e below s Z _ _ _ _ _ (T62.setTop (mkF m 115 #[.val (.int p0), .val (.int p1), .val (.int p2), .val (.ref a_LESS_OR_EQUAL), .val (.int (p1 &&& (2147483647 : Int32))), .val (.int (p2 &&& (2147483647 : Int32))), .val (.ref b51), .val (.ref b53), .val (.int (1 : Int32)), .val (.int (1 : Int32)), .val (.int (1 : Int32))] []))
      refine own_F.of (fun _ => XS.iconst S62.here S62.hx rfl (S62.dec at_115)) ?_
      show own_F p e below s Z _ _ _ _ _ (T62.setTop (mkF m 116 #[.val (.int p0), .val (.int p1), .val (.int p2), .val (.ref a_LESS_OR_EQUAL), .val (.int (p1 &&& (2147483647 : Int32))), .val (.int (p2 &&& (2147483647 : Int32))), .val (.ref b51), .val (.ref b53), .val (.int (1 : Int32)), .val (.int (1 : Int32)), .val (.int (1 : Int32))] [(.int (1 : Int32))]))
      refine own_F.of (fun _ => XS.goto S62.here S62.hx rfl (pc0 := 116) (pc' := 120) rfl (S62.dec at_116) (by decide) (by decide)) ?_
      show own_F p e below s Z _ _ _ _ _ (T62.setTop (mkF m 120 #[.val (.int p0), .val (.int p1), .val (.int p2), .val (.ref a_LESS_OR_EQUAL), .val (.int (p1 &&& (2147483647 : Int32))), .val (.int (p2 &&& (2147483647 : Int32))), .val (.ref b51), .val (.ref b53), .val (.int (1 : Int32)), .val (.int (1 : Int32)), .val (.int (1 : Int32))] [(.int (1 : Int32))]))
      refine own_retZ S62 (by simp) at_120 (by decide) (by decide) ?_
      rfl
    · show own_F p e below s Z _ _ _ _ _ (T1.setTop (mkF m 30 #[.val (.int p0), .val (.int p1), .val (.int p2), .val (.ref a_LESS_OR_EQUAL), .val (.int (p1 &&& (2147483647 : Int32))), .val (.int (p2 &&& (2147483647 : Int32))), .unset, .unset, .unset, .unset, .unset] []))
      refine own_F.of (fun _ => XS.iconst S1.here S1.hx rfl (S1.dec at_30)) ?_
      show own_F p e below s Z _ _ _ _ _ (T1.setTop (mkF m 31 #[.val (.int p0), .val (.int p1), .val (.int p2), .val (.ref a_LESS_OR_EQUAL), .val (.int (p1 &&& (2147483647 : Int32))), .val (.int (p2 &&& (2147483647 : Int32))), .unset, .unset, .unset, .unset, .unset] [(.int (1 : Int32))]))
      refine own_retZ S1 (by simp) at_31 (by decide) (by decide) ?_
      rfl
  · show own_F p e below s Z _ _ _ _ _ (T1.setTop (mkF m 10 #[.val (.int p0), .val (.int p1), .val (.int p2), .unset, .unset, .unset, .unset, .unset, .unset, .unset, .unset] [(.ref a_GREATER)]))
    refine own_F.of (fun _ => XS.astoreN S1.here S1.hx rfl (S1.dec at_10) rfl rfl (l' := #[.val (.int p0), .val (.int p1), .val (.int p2), .val (.ref a_GREATER), .unset, .unset, .unset, .unset, .unset, .unset, .unset]) rfl) ?_
    show own_F p e below s Z _ _ _ _ _ (T1.setTop (mkF m 11 #[.val (.int p0), .val (.int p1), .val (.int p2), .val (.ref a_GREATER), .unset, .unset, .unset, .unset, .unset, .unset, .unset] []))
    refine own_F.of (fun _ => XS.iloadN S1.here S1.hx rfl (S1.dec at_11) rfl) ?_
    show own_F p e below s Z _ _ _ _ _ (T1.setTop (mkF m 12 #[.val (.int p0), .val (.int p1), .val (.int p2), .val (.ref a_GREATER), .unset, .unset, .unset, .unset, .unset, .unset, .unset] [(.int p1)]))
    refine own_ldcI S1 (own_w hw 0 rfl) at_12 ?_
    show own_F p e below s Z _ _ _ _ _ (T1.setTop (mkF m 14 #[.val (.int p0), .val (.int p1), .val (.int p2), .val (.ref a_GREATER), .unset, .unset, .unset, .unset, .unset, .unset, .unset] [(.int (2147483647 : Int32)), (.int p1)]))
    refine own_F.of (fun _ => XS.iand S1.here S1.hx rfl (S1.dec at_14) rfl) ?_
    show own_F p e below s Z _ _ _ _ _ (T1.setTop (mkF m 15 #[.val (.int p0), .val (.int p1), .val (.int p2), .val (.ref a_GREATER), .unset, .unset, .unset, .unset, .unset, .unset, .unset] [(.int (p1 &&& (2147483647 : Int32)))]))
    refine own_F.of (fun _ => XS.istore S1.here S1.hx rfl (S1.dec at_15) rfl (l' := #[.val (.int p0), .val (.int p1), .val (.int p2), .val (.ref a_GREATER), .val (.int (p1 &&& (2147483647 : Int32))), .unset, .unset, .unset, .unset, .unset, .unset]) rfl) ?_
    show own_F p e below s Z _ _ _ _ _ (T1.setTop (mkF m 17 #[.val (.int p0), .val (.int p1), .val (.int p2), .val (.ref a_GREATER), .val (.int (p1 &&& (2147483647 : Int32))), .unset, .unset, .unset, .unset, .unset, .unset] []))
    refine own_F.of (fun _ => XS.iloadN S1.here S1.hx rfl (S1.dec at_17) rfl) ?_
    show own_F p e below s Z _ _ _ _ _ (T1.setTop (mkF m 18 #[.val (.int p0), .val (.int p1), .val (.int p2), .val (.ref a_GREATER), .val (.int (p1 &&& (2147483647 : Int32))), .unset, .unset, .unset, .unset, .unset, .unset] [(.int p2)]))
    refine own_ldcI S1 (own_w hw 0 rfl) at_18 ?_
    show own_F p e below s Z _ _ _ _ _ (T1.setTop (mkF m 20 #[.val (.int p0), .val (.int p1), .val (.int p2), .val (.ref a_GREATER), .val (.int (p1 &&& (2147483647 : Int32))), .unset, .unset, .unset, .unset, .unset, .unset] [(.int (2147483647 : Int32)), (.int p2)]))
    refine own_F.of (fun _ => XS.iand S1.here S1.hx rfl (S1.dec at_20) rfl) ?_
    show own_F p e below s Z _ _ _ _ _ (T1.setTop (mkF m 21 #[.val (.int p0), .val (.int p1), .val (.int p2), .val (.ref a_GREATER), .val (.int (p1 &&& (2147483647 : Int32))), .unset, .unset, .unset, .unset, .unset, .unset] [(.int (p2 &&& (2147483647 : Int32)))]))
    refine own_F.of (fun _ => XS.istore S1.here S1.hx rfl (S1.dec at_21) rfl (l' := #[.val (.int p0), .val (.int p1), .val (.int p2), .val (.ref a_GREATER), .val (.int (p1 &&& (2147483647 : Int32))), .val (.int (p2 &&& (2147483647 : Int32))), .unset, .unset, .unset, .unset, .unset]) rfl) ?_
    show own_F p e below s Z _ _ _ _ _ (T1.setTop (mkF m 23 #[.val (.int p0), .val (.int p1), .val (.int p2), .val (.ref a_GREATER), .val (.int (p1 &&& (2147483647 : Int32))), .val (.int (p2 &&& (2147483647 : Int32))), .unset, .unset, .unset, .unset, .unset] []))
    refine own_F.of (fun _ => XS.iload S1.here S1.hx rfl (S1.dec at_23) rfl) ?_
    show own_F p e below s Z _ _ _ _ _ (T1.setTop (mkF m 25 #[.val (.int p0), .val (.int p1), .val (.int p2), .val (.ref a_GREATER), .val (.int (p1 &&& (2147483647 : Int32))), .val (.int (p2 &&& (2147483647 : Int32))), .unset, .unset, .unset, .unset, .unset] [(.int (p1 &&& (2147483647 : Int32)))]))
    refine own_F.of (fun _ => XS.iload S1.here S1.hx rfl (S1.dec at_25) rfl) ?_
    show own_F p e below s Z _ _ _ _ _ (T1.setTop (mkF m 27 #[.val (.int p0), .val (.int p1), .val (.int p2), .val (.ref a_GREATER), .val (.int (p1 &&& (2147483647 : Int32))), .val (.int (p2 &&& (2147483647 : Int32))), .unset, .unset, .unset, .unset, .unset] [(.int (p2 &&& (2147483647 : Int32))), (.int (p1 &&& (2147483647 : Int32)))]))
    refine own_icmp S1 32 at_27 (by decide) (by decide) (fun (hc27_66 : ¬ ((p1 &&& (2147483647 : Int32)) = (p2 &&& (2147483647 : Int32)))) => ?_) (fun (hc27_66 : (p1 &&& (2147483647 : Int32)) = (p2 &&& (2147483647 : Int32))) => ?_)
    · show own_F p e below s Z _ _ _ _ _ (T1.setTop (mkF m 32 #[.val (.int p0), .val (.int p1), .val (.int p2), .val (.ref a_GREATER), .val (.int (p1 &&& (2147483647 : Int32))), .val (.int (p2 &&& (2147483647 : Int32))), .unset, .unset, .unset, .unset, .unset] []))
      refine own_new S1 (own_w hw 8 rfl) (own_w hw 9 rfl) (own_w hw 10 rfl) at_32 (by decide) (by decide) (fun T67 h67 b67 g67 S67 E67 A67 D67 => ?_)
      have F67_value : Fld Z h67 b67 "com/example/manysort/manysort/language/NaturalNumber" "value" "I" (.int (0 : Int32)) := (D67 (Or.inr (own_w hw 26 rfl)) (ty := .int) (by decide))
      have F67_written : Fld Z h67 b67 "com/example/manysort/manysort/language/NaturalNumber" "written" "Ljava/lang/String;" .null := (D67 (Or.inr (own_w hw 28 rfl)) (ty := (.object "java/lang/String")) (by decide))
      show own_F p e below s Z _ _ _ _ _ (T67.setTop (mkF m 35 #[.val (.int p0), .val (.int p1), .val (.int p2), .val (.ref a_GREATER), .val (.int (p1 &&& (2147483647 : Int32))), .val (.int (p2 &&& (2147483647 : Int32))), .unset, .unset, .unset, .unset, .unset] [(.ref b67)]))
      refine own_F.of (fun _ => XS.dup S67.here S67.hx rfl (S67.dec at_35) rfl rfl) ?_
      show own_F p e below s Z _ _ _ _ _ (T67.setTop (mkF m 36 #[.val (.int p0), .val (.int p1), .val (.int p2), .val (.ref a_GREATER), .val (.int (p1 &&& (2147483647 : Int32))), .val (.int (p2 &&& (2147483647 : Int32))), .unset, .unset, .unset, .unset, .unset] [(.ref b67), (.ref b67)]))
      refine own_F.of (fun _ => XS.iload S67.here S67.hx rfl (S67.dec at_36) rfl) ?_
      show own_F p e below s Z _ _ _ _ _ (T67.setTop (mkF m 38 #[.val (.int p0), .val (.int p1), .val (.int p2), .val (.ref a_GREATER), .val (.int (p1 &&& (2147483647 : Int32))), .val (.int (p2 &&& (2147483647 : Int32))), .unset, .unset, .unset, .unset, .unset] [(.int (p1 &&& (2147483647 : Int32))), (.ref b67), (.ref b67)]))
      refine own_callI S67 (y := (⟨"com/example/manysort/manysort/language/NaturalNumber", "<init>", "(I)V"⟩ : MethodName)) rfl (own_w hw 11 rfl) (own_w hw 12 rfl) (own_w hw 10 rfl) (own_w hw 13 rfl) (by decide) (argsL := [(.int (p1 &&& (2147483647 : Int32)))]) (rest := [(.ref b67)]) (own_NN1 l Z a0 hw b67 (p1 &&& (2147483647 : Int32)) h67 S67.old (own_mayN S67 (Or.inr (by rw [g67]; exact S1.size))) A67 F67_value F67_written) (allS (Or.inr (by rw [g67]; exact S1.size)) all0) (by decide +kernel : parseMethodDescriptor "(I)V" = some ⟨[.int], none⟩) rfl rfl rfl at_38 (by decide) (Nat.le_of_ble_eq_true rfl) (by decide) (by decide) (fun T68 h68 v68 S68 K68 q68 => ?_)
      obtain ⟨rfl, F68⟩ := q68
      show own_F p e below s Z _ _ _ _ _ (T68.setTop (mkF m 41 #[.val (.int p0), .val (.int p1), .val (.int p2), .val (.ref a_GREATER), .val (.int (p1 &&& (2147483647 : Int32))), .val (.int (p2 &&& (2147483647 : Int32))), .unset, .unset, .unset, .unset, .unset] [(.ref b67)]))
      refine own_F.of (fun _ => XS.astore S68.here S68.hx rfl (S68.dec at_41) rfl rfl (l' := #[.val (.int p0), .val (.int p1), .val (.int p2), .val (.ref a_GREATER), .val (.int (p1 &&& (2147483647 : Int32))), .val (.int (p2 &&& (2147483647 : Int32))), .val (.ref b67), .unset, .unset, .unset, .unset]) rfl) ?_
      show own_F p e below s Z _ _ _ _ _ (T68.setTop (mkF m 43 #[.val (.int p0), .val (.int p1), .val (.int p2), .val (.ref a_GREATER), .val (.int (p1 &&& (2147483647 : Int32))), .val (.int (p2 &&& (2147483647 : Int32))), .val (.ref b67), .unset, .unset, .unset, .unset] []))
      refine own_new S68 (own_w hw 8 rfl) (own_w hw 9 rfl) (own_w hw 10 rfl) at_43 (by decide) (by decide) (fun T69 h69 b69 g69 S69 E69 A69 D69 => ?_)
      have F69_value : Fld Z h69 b69 "com/example/manysort/manysort/language/NaturalNumber" "value" "I" (.int (0 : Int32)) := (D69 (Or.inr (own_w hw 26 rfl)) (ty := .int) (by decide))
      have F69_written : Fld Z h69 b69 "com/example/manysort/manysort/language/NaturalNumber" "written" "Ljava/lang/String;" .null := (D69 (Or.inr (own_w hw 28 rfl)) (ty := (.object "java/lang/String")) (by decide))
      show own_F p e below s Z _ _ _ _ _ (T69.setTop (mkF m 46 #[.val (.int p0), .val (.int p1), .val (.int p2), .val (.ref a_GREATER), .val (.int (p1 &&& (2147483647 : Int32))), .val (.int (p2 &&& (2147483647 : Int32))), .val (.ref b67), .unset, .unset, .unset, .unset] [(.ref b69)]))
      refine own_F.of (fun _ => XS.dup S69.here S69.hx rfl (S69.dec at_46) rfl rfl) ?_
      show own_F p e below s Z _ _ _ _ _ (T69.setTop (mkF m 47 #[.val (.int p0), .val (.int p1), .val (.int p2), .val (.ref a_GREATER), .val (.int (p1 &&& (2147483647 : Int32))), .val (.int (p2 &&& (2147483647 : Int32))), .val (.ref b67), .unset, .unset, .unset, .unset] [(.ref b69), (.ref b69)]))
      refine own_F.of (fun _ => XS.iload S69.here S69.hx rfl (S69.dec at_47) rfl) ?_
      show own_F p e below s Z _ _ _ _ _ (T69.setTop (mkF m 49 #[.val (.int p0), .val (.int p1), .val (.int p2), .val (.ref a_GREATER), .val (.int (p1 &&& (2147483647 : Int32))), .val (.int (p2 &&& (2147483647 : Int32))), .val (.ref b67), .unset, .unset, .unset, .unset] [(.int (p2 &&& (2147483647 : Int32))), (.ref b69), (.ref b69)]))
      refine own_callI S69 (y := (⟨"com/example/manysort/manysort/language/NaturalNumber", "<init>", "(I)V"⟩ : MethodName)) rfl (own_w hw 11 rfl) (own_w hw 12 rfl) (own_w hw 10 rfl) (own_w hw 13 rfl) (by decide) (argsL := [(.int (p2 &&& (2147483647 : Int32)))]) (rest := [(.ref b69)]) (own_NN1 l Z a0 hw b69 (p2 &&& (2147483647 : Int32)) h69 S69.old (own_mayN S69 (Or.inr (by rw [g69]; exact S68.size))) A69 F69_value F69_written) (allS (Or.inr (by rw [g69]; exact S68.size)) all0) (by decide +kernel : parseMethodDescriptor "(I)V" = some ⟨[.int], none⟩) rfl rfl rfl at_49 (by decide) (Nat.le_of_ble_eq_true rfl) (by decide) (by decide) (fun T70 h70 v70 S70 K70 q70 => ?_)
      obtain ⟨rfl, F70⟩ := q70
      show own_F p e below s Z _ _ _ _ _ (T70.setTop (mkF m 52 #[.val (.int p0), .val (.int p1), .val (.int p2), .val (.ref a_GREATER), .val (.int (p1 &&& (2147483647 : Int32))), .val (.int (p2 &&& (2147483647 : Int32))), .val (.ref b67), .unset, .unset, .unset, .unset] [(.ref b69)]))
      refine own_F.of (fun _ => XS.astore S70.here S70.hx rfl (S70.dec at_52) rfl rfl (l' := #[.val (.int p0), .val (.int p1), .val (.int p2), .val (.ref a_GREATER), .val (.int (p1 &&& (2147483647 : Int32))), .val (.int (p2 &&& (2147483647 : Int32))), .val (.ref b67), .val (.ref b69), .unset, .unset, .unset]) rfl) ?_
      show own_F p e below s Z _ _ _ _ _ (T70.setTop (mkF m 54 #[.val (.int p0), .val (.int p1), .val (.int p2), .val (.ref a_GREATER), .val (.int (p1 &&& (2147483647 : Int32))), .val (.int (p2 &&& (2147483647 : Int32))), .val (.ref b67), .val (.ref b69), .unset, .unset, .unset] []))
      refine own_F.of (fun _ => XS.aloadN S70.here S70.hx rfl (S70.dec at_54) rfl rfl) ?_
      show own_F p e below s Z _ _ _ _ _ (T70.setTop (mkF m 55 #[.val (.int p0), .val (.int p1), .val (.int p2), .val (.ref a_GREATER), .val (.int (p1 &&& (2147483647 : Int32))), .val (.int (p2 &&& (2147483647 : Int32))), .val (.ref b67), .val (.ref b69), .unset, .unset, .unset] [(.ref a_GREATER)]))
      refine own_callV S70 (y := (⟨"com/example/manysort/manysort/language/Comparison$Relation", "orders", "()Z"⟩ : MethodName)) (y' := (⟨"com/example/manysort/manysort/language/Comparison$Relation", "orders", "()Z"⟩ : MethodName)) (own_w hw 29 rfl) (own_w hw 30 rfl) (own_nf S70 (own_w hw 32 rfl)) (own_w hw 32 rfl) (own_w hw 31 rfl) (own_w hw 33 rfl) (own_w hw 6 rfl) (by decide) (X_GREATER.ext S70.old) (argsL := []) (rest := []) (own_orders l Z a0 hw a_GREATER a_EQUAL a_NOT_EQUAL a_LESS a_LESS_OR_EQUAL a_GREATER a_GREATER_OR_EQUAL h70 S70.old S_EQUAL S_NOT_EQUAL S_LESS S_LESS_OR_EQUAL S_GREATER S_GREATER_OR_EQUAL) all0 (by decide +kernel : parseMethodDescriptor "()Z" = some ⟨[], some .boolean⟩) rfl rfl rfl at_55 (by decide) (Nat.le_of_ble_eq_true rfl) (by decide) (by decide) (fun T71 h71 v71 S71 K71 q71 => ?_)
      obtain ⟨rfl, rfl⟩ := q71
      show own_F p e below s Z _ _ _ _ _ (T71.setTop (mkF m 58 #[.val (.int p0), .val (.int p1), .val (.int p2), .val (.ref a_GREATER), .val (.int (p1 &&& (2147483647 : Int32))), .val (.int (p2 &&& (2147483647 : Int32))), .val (.ref b67), .val (.ref b69), .unset, .unset, .unset] [(.int (own_or a_GREATER a_EQUAL a_NOT_EQUAL))]))
      refine own_F.of (fun _ => XS.istore S71.here S71.hx rfl (S71.dec at_58) rfl (l' := #[.val (.int p0), .val (.int p1), .val (.int p2), .val (.ref a_GREATER), .val (.int (p1 &&& (2147483647 : Int32))), .val (.int (p2 &&& (2147483647 : Int32))), .val (.ref b67), .val (.ref b69), .val (.int (own_or a_GREATER a_EQUAL a_NOT_EQUAL)), .unset, .unset]) rfl) ?_
      show own_F p e below s Z _ _ _ _ _ (T71.setTop (mkF m 60 #[.val (.int p0), .val (.int p1), .val (.int p2), .val (.ref a_GREATER), .val (.int (p1 &&& (2147483647 : Int32))), .val (.int (p2 &&& (2147483647 : Int32))), .val (.ref b67), .val (.ref b69), .val (.int (own_or a_GREATER a_EQUAL a_NOT_EQUAL)), .unset, .unset] []))
      rw [show (own_or a_GREATER a_EQUAL a_NOT_EQUAL) = (1 : Int32) from (by simp [own_or, (F_GREATER_ordinal.ne F_EQUAL_ordinal (by decide)), (F_GREATER_ordinal.ne F_NOT_EQUAL_ordinal (by decide))])]
      show own_F p e below s Z _ _ _ _ _ (T71.setTop (mkF m 60 #[.val (.int p0), .val (.int p1), .val (.int p2), .val (.ref a_GREATER), .val (.int (p1 &&& (2147483647 : Int32))), .val (.int (p2 &&& (2147483647 : Int32))), .val (.ref b67), .val (.ref b69), .val (.int (1 : Int32)), .unset, .unset] []))
      refine own_F.of (fun _ => XS.aloadN S71.here S71.hx rfl (S71.dec at_60) rfl rfl) ?_
      show own_F p e below s Z _ _ _ _ _ (T71.setTop (mkF m 61 #[.val (.int p0), .val (.int p1), .val (.int p2), .val (.ref a_GREATER), .val (.int (p1 &&& (2147483647 : Int32))), .val (.int (p2 &&& (2147483647 : Int32))), .val (.ref b67), .val (.ref b69), .val (.int (1 : Int32)), .unset, .unset] [(.ref a_GREATER)]))
      refine own_F.of (fun _ => XS.aload S71.here S71.hx rfl (S71.dec at_61) rfl rfl) ?_
      show own_F p e below s Z _ _ _ _ _ (T71.setTop (mkF m 63 #[.val (.int p0), .val (.int p1), .val (.int p2), .val (.ref a_GREATER), .val (.int (p1 &&& (2147483647 : Int32))), .val (.int (p2 &&& (2147483647 : Int32))), .val (.ref b67), .val (.ref b69), .val (.int (1 : Int32)), .unset, .unset] [(.ref b67), (.ref a_GREATER)]))
      refine own_F.of (fun _ => XS.aload S71.here S71.hx rfl (S71.dec at_63) rfl rfl) ?_
      show own_F p e below s Z _ _ _ _ _ (T71.setTop (mkF m 65 #[.val (.int p0), .val (.int p1), .val (.int p2), .val (.ref a_GREATER), .val (.int (p1 &&& (2147483647 : Int32))), .val (.int (p2 &&& (2147483647 : Int32))), .val (.ref b67), .val (.ref b69), .val (.int (1 : Int32)), .unset, .unset] [(.ref b69), (.ref b67), (.ref a_GREATER)]))
      have f72 := (((A67.keep K68).ext E69).keep K70)
      have f73 := (A69.keep K70)
      have f74 := ((F68.ext E69).keep K70 (ninS (Nat.ne_of_lt (by rw [g69]; exact (F68).lt)) nin0))
      refine own_callV S71 (y := (⟨"com/example/manysort/manysort/language/Comparison$Relation", "holds", "(Lcom/example/manysort/manysort/language/Term;Lcom/example/manysort/manysort/language/Term;)Z"⟩ : MethodName)) (y' := (⟨"com/example/manysort/manysort/language/Comparison$Relation", "holds", "(Lcom/example/manysort/manysort/language/Term;Lcom/example/manysort/manysort/language/Term;)Z"⟩ : MethodName)) (own_w hw 35 rfl) (own_w hw 36 rfl) (own_nf S71 (own_w hw 38 rfl)) (own_w hw 38 rfl) (own_w hw 37 rfl) (own_w hw 39 rfl) (own_w hw 6 rfl) (by decide) (X_GREATER.ext S71.old) (argsL := [(.ref b67), (.ref b69)]) (rest := []) (own_holds4 l Z a0 hw a_GREATER b67 b69 (p1 &&& (2147483647 : Int32)) (p2 &&& (2147483647 : Int32)) h70 S71.old X_GREATER F_GREATER_ordinal f72 f73 f74 F70 (Nat.ne_of_lt (by rw [g69]; exact ((A67.keep K68)).lt))) all0 (by decide +kernel : parseMethodDescriptor "(Lcom/example/manysort/manysort/language/Term;Lcom/example/manysort/manysort/language/Term;)Z" = some ⟨[(.object "com/example/manysort/manysort/language/Term"), (.object "com/example/manysort/manysort/language/Term")], some .boolean⟩) rfl rfl rfl at_65 (by decide) (Nat.le_of_ble_eq_true rfl) (by decide) (by decide) (fun T75 h75 v75 S75 K75 q75 => ?_)
      obtain ⟨rfl, rfl⟩ := q75
      show own_F p e below s Z _ _ _ _ _ (T75.setTop (mkF m 68 #[.val (.int p0), .val (.int p1), .val (.int p2), .val (.ref a_GREATER), .val (.int (p1 &&& (2147483647 : Int32))), .val (.int (p2 &&& (2147483647 : Int32))), .val (.ref b67), .val (.ref b69), .val (.int (1 : Int32)), .unset, .unset] [(.int (own_h4 (own_cmp (p1 &&& (2147483647 : Int32)) (p2 &&& (2147483647 : Int32)))))]))
      refine own_F.of (fun _ => XS.aloadN S75.here S75.hx rfl (S75.dec at_68) rfl rfl) ?_
      show own_F p e below s Z _ _ _ _ _ (T75.setTop (mkF m 69 #[.val (.int p0), .val (.int p1), .val (.int p2), .val (.ref a_GREATER), .val (.int (p1 &&& (2147483647 : Int32))), .val (.int (p2 &&& (2147483647 : Int32))), .val (.ref b67), .val (.ref b69), .val (.int (1 : Int32)), .unset, .unset] [(.ref a_GREATER), (.int (own_h4 (own_cmp (p1 &&& (2147483647 : Int32)) (p2 &&& (2147483647 : Int32)))))]))
      refine own_F.of (fun _ => XS.aload S75.here S75.hx rfl (S75.dec at_69) rfl rfl) ?_
      show own_F p e below s Z _ _ _ _ _ (T75.setTop (mkF m 71 #[.val (.int p0), .val (.int p1), .val (.int p2), .val (.ref a_GREATER), .val (.int (p1 &&& (2147483647 : Int32))), .val (.int (p2 &&& (2147483647 : Int32))), .val (.ref b67), .val (.ref b69), .val (.int (1 : Int32)), .unset, .unset] [(.ref b69), (.ref a_GREATER), (.int (own_h4 (own_cmp (p1 &&& (2147483647 : Int32)) (p2 &&& (2147483647 : Int32)))))]))
      refine own_F.of (fun _ => XS.aload S75.here S75.hx rfl (S75.dec at_71) rfl rfl) ?_
      show own_F p e below s Z _ _ _ _ _ (T75.setTop (mkF m 73 #[.val (.int p0), .val (.int p1), .val (.int p2), .val (.ref a_GREATER), .val (.int (p1 &&& (2147483647 : Int32))), .val (.int (p2 &&& (2147483647 : Int32))), .val (.ref b67), .val (.ref b69), .val (.int (1 : Int32)), .unset, .unset] [(.ref b67), (.ref b69), (.ref a_GREATER), (.int (own_h4 (own_cmp (p1 &&& (2147483647 : Int32)) (p2 &&& (2147483647 : Int32)))))]))
      refine own_callV S75 (y := (⟨"com/example/manysort/manysort/language/Comparison$Relation", "holds", "(Lcom/example/manysort/manysort/language/Term;Lcom/example/manysort/manysort/language/Term;)Z"⟩ : MethodName)) (y' := (⟨"com/example/manysort/manysort/language/Comparison$Relation", "holds", "(Lcom/example/manysort/manysort/language/Term;Lcom/example/manysort/manysort/language/Term;)Z"⟩ : MethodName)) (own_w hw 35 rfl) (own_w hw 36 rfl) (own_nf S75 (own_w hw 38 rfl)) (own_w hw 38 rfl) (own_w hw 37 rfl) (own_w hw 39 rfl) (own_w hw 6 rfl) (by decide) (X_GREATER.ext S75.old) (argsL := [(.ref b69), (.ref b67)]) (rest := [(.int (own_h4 (own_cmp (p1 &&& (2147483647 : Int32)) (p2 &&& (2147483647 : Int32)))))]) (own_holds4 l Z a0 hw a_GREATER b69 b67 (p2 &&& (2147483647 : Int32)) (p1 &&& (2147483647 : Int32)) h70 S75.old X_GREATER F_GREATER_ordinal f73 f72 F70 f74 (Ne.symm (Nat.ne_of_lt (by rw [g69]; exact ((A67.keep K68)).lt)))) all0 (by decide +kernel : parseMethodDescriptor "(Lcom/example/manysort/manysort/language/Term;Lcom/example/manysort/manysort/language/Term;)Z" = some ⟨[(.object "com/example/manysort/manysort/language/Term"), (.object "com/example/manysort/manysort/language/Term")], some .boolean⟩) rfl rfl rfl at_73 (by decide) (Nat.le_of_ble_eq_true rfl) (by decide) (by decide) (fun T76 h76 v76 S76 K76 q76 => ?_)
      obtain ⟨rfl, rfl⟩ := q76
      show own_F p e below s Z _ _ _ _ _ (T76.setTop (mkF m 76 #[.val (.int p0), .val (.int p1), .val (.int p2), .val (.ref a_GREATER), .val (.int (p1 &&& (2147483647 : Int32))), .val (.int (p2 &&& (2147483647 : Int32))), .val (.ref b67), .val (.ref b69), .val (.int (1 : Int32)), .unset, .unset] [(.int (own_h4 (own_cmp (p2 &&& (2147483647 : Int32)) (p1 &&& (2147483647 : Int32))))), (.int (own_h4 (own_cmp (p1 &&& (2147483647 : Int32)) (p2 &&& (2147483647 : Int32)))))]))
      refine own_icmp S76 83 at_76 (by decide) (by decide) (fun (hc76_77 : (own_h4 (own_cmp (p1 &&& (2147483647 : Int32)) (p2 &&& (2147483647 : Int32)))) = (own_h4 (own_cmp (p2 &&& (2147483647 : Int32)) (p1 &&& (2147483647 : Int32))))) => False.elim (own_e4 hc27_66 hc76_77)) (fun (hc76_77 : ¬ ((own_h4 (own_cmp (p1 &&& (2147483647 : Int32)) (p2 &&& (2147483647 : Int32)))) = (own_h4 (own_cmp (p2 &&& (2147483647 : Int32)) (p1 &&& (2147483647 : Int32)))))) => ?_)
      show own_F p e below s Z _ _ _ _ _ (T76.setTop (mkF m 79 #[.val (.int p0), .val (.int p1), .val (.int p2), .val (.ref a_GREATER), .val (.int (p1 &&& (2147483647 : Int32))), .val (.int (p2 &&& (2147483647 : Int32))), .val (.ref b67), .val (.ref b69), .val (.int (1 : Int32)), .unset, .unset] []))
      refine own_F.of (fun _ => XS.iconst S76.here S76.hx rfl (S76.dec at_79)) ?_
      show own_F p e below s Z _ _ _ _ _ (T76.setTop (mkF m 80 #[.val (.int p0), .val (.int p1), .val (.int p2), .val (.ref a_GREATER), .val (.int (p1 &&& (2147483647 : Int32))), .val (.int (p2 &&& (2147483647 : Int32))), .val (.ref b67), .val (.ref b69), .val (.int (1 : Int32)), .unset, .unset] [(.int (1 : Int32))]))
      refine own_F.of (fun _ => XS.goto S76.here S76.hx rfl (pc0 := 80) (pc' := 84) rfl (S76.dec at_80) (by decide) (by decide)) ?_
      show own_F p e below s Z _ _ _ _ _ (T76.setTop (mkF m 84 #[.val (.int p0), .val (.int p1), .val (.int p2), .val (.ref a_GREATER), .val (.int (p1 &&& (2147483647 : Int32))), .val (.int (p2 &&& (2147483647 : Int32))), .val (.ref b67), .val (.ref b69), .val (.int (1 : Int32)), .unset, .unset] [(.int (1 : Int32))]))
      refine own_F.of (fun _ => XS.istore S76.here S76.hx rfl (S76.dec at_84) rfl (l' := #[.val (.int p0), .val (.int p1), .val (.int p2), .val (.ref a_GREATER), .val (.int (p1 &&& (2147483647 : Int32))), .val (.int (p2 &&& (2147483647 : Int32))), .val (.ref b67), .val (.ref b69), .val (.int (1 : Int32)), .val (.int (1 : Int32)), .unset]) rfl) ?_
      show own_F p e below s Z _ _ _ _ _ (T76.setTop (mkF m 86 #[.val (.int p0), .val (.int p1), .val (.int p2), .val (.ref a_GREATER), .val (.int (p1 &&& (2147483647 : Int32))), .val (.int (p2 &&& (2147483647 : Int32))), .val (.ref b67), .val (.ref b69), .val (.int (1 : Int32)), .val (.int (1 : Int32)), .unset] []))
      refine own_F.of (fun _ => XS.aloadN S76.here S76.hx rfl (S76.dec at_86) rfl rfl) ?_
      show own_F p e below s Z _ _ _ _ _ (T76.setTop (mkF m 87 #[.val (.int p0), .val (.int p1), .val (.int p2), .val (.ref a_GREATER), .val (.int (p1 &&& (2147483647 : Int32))), .val (.int (p2 &&& (2147483647 : Int32))), .val (.ref b67), .val (.ref b69), .val (.int (1 : Int32)), .val (.int (1 : Int32)), .unset] [(.ref a_GREATER)]))
      refine own_callV S76 (y := (⟨"com/example/manysort/manysort/language/Comparison$Relation", "converse", "()Lcom/example/manysort/manysort/language/Comparison$Relation;"⟩ : MethodName)) (y' := (⟨"com/example/manysort/manysort/language/Comparison$Relation", "converse", "()Lcom/example/manysort/manysort/language/Comparison$Relation;"⟩ : MethodName)) (own_w hw 64 rfl) (own_w hw 65 rfl) (own_nf S76 (own_w hw 67 rfl)) (own_w hw 67 rfl) (own_w hw 66 rfl) (own_w hw 68 rfl) (own_w hw 6 rfl) (by decide) (X_GREATER.ext S76.old) (argsL := []) (rest := []) (own_conv4 l Z a0 hw a_GREATER a_EQUAL a_NOT_EQUAL a_LESS a_LESS_OR_EQUAL a_GREATER a_GREATER_OR_EQUAL h70 S76.old X_GREATER F_GREATER_ordinal S_EQUAL S_NOT_EQUAL S_LESS S_LESS_OR_EQUAL S_GREATER S_GREATER_OR_EQUAL) all0 (by decide +kernel : parseMethodDescriptor "()Lcom/example/manysort/manysort/language/Comparison$Relation;" = some ⟨[], some (.object "com/example/manysort/manysort/language/Comparison$Relation")⟩) rfl rfl rfl at_87 (by decide) (Nat.le_of_ble_eq_true rfl) (by decide) (by decide) (fun T78 h78 v78 S78 K78 q78 => ?_)
      obtain ⟨rfl, rfl⟩ := q78
      show own_F p e below s Z _ _ _ _ _ (T78.setTop (mkF m 90 #[.val (.int p0), .val (.int p1), .val (.int p2), .val (.ref a_GREATER), .val (.int (p1 &&& (2147483647 : Int32))), .val (.int (p2 &&& (2147483647 : Int32))), .val (.ref b67), .val (.ref b69), .val (.int (1 : Int32)), .val (.int (1 : Int32)), .unset] [(.ref a_LESS)]))
      refine own_F.of (fun _ => XS.aloadN S78.here S78.hx rfl (S78.dec at_90) rfl rfl) ?_
      show own_F p e below s Z _ _ _ _ _ (T78.setTop (mkF m 91 #[.val (.int p0), .val (.int p1), .val (.int p2), .val (.ref a_GREATER), .val (.int (p1 &&& (2147483647 : Int32))), .val (.int (p2 &&& (2147483647 : Int32))), .val (.ref b67), .val (.ref b69), .val (.int (1 : Int32)), .val (.int (1 : Int32)), .unset] [(.ref a_GREATER), (.ref a_LESS)]))
      refine own_acmp S78 rfl rfl 98 at_91 (by decide) (by decide) (fun (hc91_79 : (Value.ref a_LESS) = (Value.ref a_GREATER)) => False.elim ((F_LESS_ordinal.ne F_GREATER_ordinal (by decide)) (Value.ref.inj hc91_79))) (fun (hc91_79 : ¬ ((Value.ref a_LESS) = (Value.ref a_GREATER))) => ?_)
      show own_F p e below s Z _ _ _ _ _ (T78.setTop (mkF m 94 #[.val (.int p0), .val (.int p1), .val (.int p2), .val (.ref a_GREATER), .val (.int (p1 &&& (2147483647 : Int32))), .val (.int (p2 &&& (2147483647 : Int32))), .val (.ref b67), .val (.ref b69), .val (.int (1 : Int32)), .val (.int (1 : Int32)), .unset] []))
      refine own_F.of (fun _ => XS.iconst S78.here S78.hx rfl (S78.dec at_94)) ?_
      show own_F p e below s Z _ _ _ _ _ (T78.setTop (mkF m 95 #[.val (.int p0), .val (.int p1), .val (.int p2), .val (.ref a_GREATER), .val (.int (p1 &&& (2147483647 : Int32))), .val (.int (p2 &&& (2147483647 : Int32))), .val (.ref b67), .val (.ref b69), .val (.int (1 : Int32)), .val (.int (1 : Int32)), .unset] [(.int (1 : Int32))]))
      refine own_F.of (fun _ => XS.goto S78.here S78.hx rfl (pc0 := 95) (pc' := 99) rfl (S78.dec at_95) (by decide) (by decide)) ?_
      show own_F p e below s Z _ _ _ _ _ (T78.setTop (mkF m 99 #[.val (.int p0), .val (.int p1), .val (.int p2), .val (.ref a_GREATER), .val (.int (p1 &&& (2147483647 : Int32))), .val (.int (p2 &&& (2147483647 : Int32))), .val (.ref b67), .val (.ref b69), .val (.int (1 : Int32)), .val (.int (1 : Int32)), .unset] [(.int (1 : Int32))]))
      refine own_F.of (fun _ => XS.istore S78.here S78.hx rfl (S78.dec at_99) rfl (l' := #[.val (.int p0), .val (.int p1), .val (.int p2), .val (.ref a_GREATER), .val (.int (p1 &&& (2147483647 : Int32))), .val (.int (p2 &&& (2147483647 : Int32))), .val (.ref b67), .val (.ref b69), .val (.int (1 : Int32)), .val (.int (1 : Int32)), .val (.int (1 : Int32))]) rfl) ?_
      show own_F p e below s Z _ _ _ _ _ (T78.setTop (mkF m 101 #[.val (.int p0), .val (.int p1), .val (.int p2), .val (.ref a_GREATER), .val (.int (p1 &&& (2147483647 : Int32))), .val (.int (p2 &&& (2147483647 : Int32))), .val (.ref b67), .val (.ref b69), .val (.int (1 : Int32)), .val (.int (1 : Int32)), .val (.int (1 : Int32))] []))
      refine own_F.of (fun _ => XS.iload S78.here S78.hx rfl (S78.dec at_101) rfl) ?_
      show own_F p e below s Z _ _ _ _ _ (T78.setTop (mkF m 103 #[.val (.int p0), .val (.int p1), .val (.int p2), .val (.ref a_GREATER), .val (.int (p1 &&& (2147483647 : Int32))), .val (.int (p2 &&& (2147483647 : Int32))), .val (.ref b67), .val (.ref b69), .val (.int (1 : Int32)), .val (.int (1 : Int32)), .val (.int (1 : Int32))] [(.int (1 : Int32))]))
      refine own_F.of (fun _ => XS.iload S78.here S78.hx rfl (S78.dec at_103) rfl) ?_
      show own_F p e below s Z _ _ _ _ _ (T78.setTop (mkF m 105 #[.val (.int p0), .val (.int p1), .val (.int p2), .val (.ref a_GREATER), .val (.int (p1 &&& (2147483647 : Int32))), .val (.int (p2 &&& (2147483647 : Int32))), .val (.ref b67), .val (.ref b69), .val (.int (1 : Int32)), .val (.int (1 : Int32)), .val (.int (1 : Int32))] [(.int (1 : Int32)), (.int (1 : Int32))]))
      refine own_icmp S78 119 at_105 (by decide) (by decide) (fun (hc105_80 : ¬ ((1 : Int32) = (1 : Int32))) => False.elim (absurd hc105_80 (by decide))) (fun (hc105_80 : (1 : Int32) = (1 : Int32)) => ?_)
      show own_F p e below s Z _ _ _ _ _ (T78.setTop (mkF m 108 #[.val (.int p0), .val (.int p1), .val (.int p2), .val (.ref a_GREATER), .val (.int (p1 &&& (2147483647 : Int32))), .val (.int (p2 &&& (2147483647 : Int32))), .val (.ref b67), .val (.ref b69), .val (.int (1 : Int32)), .val (.int (1 : Int32)), .val (.int (1 : Int32))] []))
      refine own_F.of (fun _ => XS.iload S78.here S78.hx rfl (S78.dec at_108) rfl) ?_
      show own_F p e below s Z _ _ _ _ _ (T78.setTop (mkF m 110 #[.val (.int p0), .val (.int p1), .val (.int p2), .val (.ref a_GREATER), .val (.int (p1 &&& (2147483647 : Int32))), .val (.int (p2 &&& (2147483647 : Int32))), .val (.ref b67), .val (.ref b69), .val (.int (1 : Int32)), .val (.int (1 : Int32)), .val (.int (1 : Int32))] [(.int (1 : Int32))]))
      refine own_F.of (fun _ => XS.iload S78.here S78.hx rfl (S78.dec at_110) rfl) ?_
      show own_F p e below s Z _ _ _ _ _ (T78.setTop (mkF m 112 #[.val (.int p0), .val (.int p1), .val (.int p2), .val (.ref a_GREATER), .val (.int (p1 &&& (2147483647 : Int32))), .val (.int (p2 &&& (2147483647 : Int32))), .val (.ref b67), .val (.ref b69), .val (.int (1 : Int32)), .val (.int (1 : Int32)), .val (.int (1 : Int32))] [(.int (1 : Int32)), (.int (1 : Int32))]))
      refine own_icmp S78 119 at_112 (by decide) (by decide) (fun (hc112_81 : ¬ ((1 : Int32) = (1 : Int32))) => False.elim (absurd hc112_81 (by decide))) (fun (hc112_81 : (1 : Int32) = (1 : Int32)) => ?_)
      show own_F p e below s Z _ _ _ _ _ (T78.setTop (mkF m 115 #[.val (.int p0), .val (.int p1), .val (.int p2), .val (.ref a_GREATER), .val (.int (p1 &&& (2147483647 : Int32))), .val (.int (p2 &&& (2147483647 : Int32))), .val (.ref b67), .val (.ref b69), .val (.int (1 : Int32)), .val (.int (1 : Int32)), .val (.int (1 : Int32))] []))
      refine own_F.of (fun _ => XS.iconst S78.here S78.hx rfl (S78.dec at_115)) ?_
      show own_F p e below s Z _ _ _ _ _ (T78.setTop (mkF m 116 #[.val (.int p0), .val (.int p1), .val (.int p2), .val (.ref a_GREATER), .val (.int (p1 &&& (2147483647 : Int32))), .val (.int (p2 &&& (2147483647 : Int32))), .val (.ref b67), .val (.ref b69), .val (.int (1 : Int32)), .val (.int (1 : Int32)), .val (.int (1 : Int32))] [(.int (1 : Int32))]))
      refine own_F.of (fun _ => XS.goto S78.here S78.hx rfl (pc0 := 116) (pc' := 120) rfl (S78.dec at_116) (by decide) (by decide)) ?_
      show own_F p e below s Z _ _ _ _ _ (T78.setTop (mkF m 120 #[.val (.int p0), .val (.int p1), .val (.int p2), .val (.ref a_GREATER), .val (.int (p1 &&& (2147483647 : Int32))), .val (.int (p2 &&& (2147483647 : Int32))), .val (.ref b67), .val (.ref b69), .val (.int (1 : Int32)), .val (.int (1 : Int32)), .val (.int (1 : Int32))] [(.int (1 : Int32))]))
      refine own_retZ S78 (by simp) at_120 (by decide) (by decide) ?_
      rfl
    · show own_F p e below s Z _ _ _ _ _ (T1.setTop (mkF m 30 #[.val (.int p0), .val (.int p1), .val (.int p2), .val (.ref a_GREATER), .val (.int (p1 &&& (2147483647 : Int32))), .val (.int (p2 &&& (2147483647 : Int32))), .unset, .unset, .unset, .unset, .unset] []))
      refine own_F.of (fun _ => XS.iconst S1.here S1.hx rfl (S1.dec at_30)) ?_
      show own_F p e below s Z _ _ _ _ _ (T1.setTop (mkF m 31 #[.val (.int p0), .val (.int p1), .val (.int p2), .val (.ref a_GREATER), .val (.int (p1 &&& (2147483647 : Int32))), .val (.int (p2 &&& (2147483647 : Int32))), .unset, .unset, .unset, .unset, .unset] [(.int (1 : Int32))]))
      refine own_retZ S1 (by simp) at_31 (by decide) (by decide) ?_
      rfl
  · show own_F p e below s Z _ _ _ _ _ (T1.setTop (mkF m 10 #[.val (.int p0), .val (.int p1), .val (.int p2), .unset, .unset, .unset, .unset, .unset, .unset, .unset, .unset] [(.ref a_GREATER_OR_EQUAL)]))
    refine own_F.of (fun _ => XS.astoreN S1.here S1.hx rfl (S1.dec at_10) rfl rfl (l' := #[.val (.int p0), .val (.int p1), .val (.int p2), .val (.ref a_GREATER_OR_EQUAL), .unset, .unset, .unset, .unset, .unset, .unset, .unset]) rfl) ?_
    show own_F p e below s Z _ _ _ _ _ (T1.setTop (mkF m 11 #[.val (.int p0), .val (.int p1), .val (.int p2), .val (.ref a_GREATER_OR_EQUAL), .unset, .unset, .unset, .unset, .unset, .unset, .unset] []))
    refine own_F.of (fun _ => XS.iloadN S1.here S1.hx rfl (S1.dec at_11) rfl) ?_
    show own_F p e below s Z _ _ _ _ _ (T1.setTop (mkF m 12 #[.val (.int p0), .val (.int p1), .val (.int p2), .val (.ref a_GREATER_OR_EQUAL), .unset, .unset, .unset, .unset, .unset, .unset, .unset] [(.int p1)]))
    refine own_ldcI S1 (own_w hw 0 rfl) at_12 ?_
    show own_F p e below s Z _ _ _ _ _ (T1.setTop (mkF m 14 #[.val (.int p0), .val (.int p1), .val (.int p2), .val (.ref a_GREATER_OR_EQUAL), .unset, .unset, .unset, .unset, .unset, .unset, .unset] [(.int (2147483647 : Int32)), (.int p1)]))
    refine own_F.of (fun _ => XS.iand S1.here S1.hx rfl (S1.dec at_14) rfl) ?_
    show own_F p e below s Z _ _ _ _ _ (T1.setTop (mkF m 15 #[.val (.int p0), .val (.int p1), .val (.int p2), .val (.ref a_GREATER_OR_EQUAL), .unset, .unset, .unset, .unset, .unset, .unset, .unset] [(.int (p1 &&& (2147483647 : Int32)))]))
    refine own_F.of (fun _ => XS.istore S1.here S1.hx rfl (S1.dec at_15) rfl (l' := #[.val (.int p0), .val (.int p1), .val (.int p2), .val (.ref a_GREATER_OR_EQUAL), .val (.int (p1 &&& (2147483647 : Int32))), .unset, .unset, .unset, .unset, .unset, .unset]) rfl) ?_
    show own_F p e below s Z _ _ _ _ _ (T1.setTop (mkF m 17 #[.val (.int p0), .val (.int p1), .val (.int p2), .val (.ref a_GREATER_OR_EQUAL), .val (.int (p1 &&& (2147483647 : Int32))), .unset, .unset, .unset, .unset, .unset, .unset] []))
    refine own_F.of (fun _ => XS.iloadN S1.here S1.hx rfl (S1.dec at_17) rfl) ?_
    show own_F p e below s Z _ _ _ _ _ (T1.setTop (mkF m 18 #[.val (.int p0), .val (.int p1), .val (.int p2), .val (.ref a_GREATER_OR_EQUAL), .val (.int (p1 &&& (2147483647 : Int32))), .unset, .unset, .unset, .unset, .unset, .unset] [(.int p2)]))
    refine own_ldcI S1 (own_w hw 0 rfl) at_18 ?_
    show own_F p e below s Z _ _ _ _ _ (T1.setTop (mkF m 20 #[.val (.int p0), .val (.int p1), .val (.int p2), .val (.ref a_GREATER_OR_EQUAL), .val (.int (p1 &&& (2147483647 : Int32))), .unset, .unset, .unset, .unset, .unset, .unset] [(.int (2147483647 : Int32)), (.int p2)]))
    refine own_F.of (fun _ => XS.iand S1.here S1.hx rfl (S1.dec at_20) rfl) ?_
    show own_F p e below s Z _ _ _ _ _ (T1.setTop (mkF m 21 #[.val (.int p0), .val (.int p1), .val (.int p2), .val (.ref a_GREATER_OR_EQUAL), .val (.int (p1 &&& (2147483647 : Int32))), .unset, .unset, .unset, .unset, .unset, .unset] [(.int (p2 &&& (2147483647 : Int32)))]))
    refine own_F.of (fun _ => XS.istore S1.here S1.hx rfl (S1.dec at_21) rfl (l' := #[.val (.int p0), .val (.int p1), .val (.int p2), .val (.ref a_GREATER_OR_EQUAL), .val (.int (p1 &&& (2147483647 : Int32))), .val (.int (p2 &&& (2147483647 : Int32))), .unset, .unset, .unset, .unset, .unset]) rfl) ?_
    show own_F p e below s Z _ _ _ _ _ (T1.setTop (mkF m 23 #[.val (.int p0), .val (.int p1), .val (.int p2), .val (.ref a_GREATER_OR_EQUAL), .val (.int (p1 &&& (2147483647 : Int32))), .val (.int (p2 &&& (2147483647 : Int32))), .unset, .unset, .unset, .unset, .unset] []))
    refine own_F.of (fun _ => XS.iload S1.here S1.hx rfl (S1.dec at_23) rfl) ?_
    show own_F p e below s Z _ _ _ _ _ (T1.setTop (mkF m 25 #[.val (.int p0), .val (.int p1), .val (.int p2), .val (.ref a_GREATER_OR_EQUAL), .val (.int (p1 &&& (2147483647 : Int32))), .val (.int (p2 &&& (2147483647 : Int32))), .unset, .unset, .unset, .unset, .unset] [(.int (p1 &&& (2147483647 : Int32)))]))
    refine own_F.of (fun _ => XS.iload S1.here S1.hx rfl (S1.dec at_25) rfl) ?_
    show own_F p e below s Z _ _ _ _ _ (T1.setTop (mkF m 27 #[.val (.int p0), .val (.int p1), .val (.int p2), .val (.ref a_GREATER_OR_EQUAL), .val (.int (p1 &&& (2147483647 : Int32))), .val (.int (p2 &&& (2147483647 : Int32))), .unset, .unset, .unset, .unset, .unset] [(.int (p2 &&& (2147483647 : Int32))), (.int (p1 &&& (2147483647 : Int32)))]))
    refine own_icmp S1 32 at_27 (by decide) (by decide) (fun (hc27_82 : ¬ ((p1 &&& (2147483647 : Int32)) = (p2 &&& (2147483647 : Int32)))) => ?_) (fun (hc27_82 : (p1 &&& (2147483647 : Int32)) = (p2 &&& (2147483647 : Int32))) => ?_)
    · show own_F p e below s Z _ _ _ _ _ (T1.setTop (mkF m 32 #[.val (.int p0), .val (.int p1), .val (.int p2), .val (.ref a_GREATER_OR_EQUAL), .val (.int (p1 &&& (2147483647 : Int32))), .val (.int (p2 &&& (2147483647 : Int32))), .unset, .unset, .unset, .unset, .unset] []))
      refine own_new S1 (own_w hw 8 rfl) (own_w hw 9 rfl) (own_w hw 10 rfl) at_32 (by decide) (by decide) (fun T83 h83 b83 g83 S83 E83 A83 D83 => ?_)
      have F83_value : Fld Z h83 b83 "com/example/manysort/manysort/language/NaturalNumber" "value" "I" (.int (0 : Int32)) := (D83 (Or.inr (own_w hw 26 rfl)) (ty := .int) (by decide))
      have F83_written : Fld Z h83 b83 "com/example/manysort/manysort/language/NaturalNumber" "written" "Ljava/lang/String;" .null := (D83 (Or.inr (own_w hw 28 rfl)) (ty := (.object "java/lang/String")) (by decide))
      show own_F p e below s Z _ _ _ _ _ (T83.setTop (mkF m 35 #[.val (.int p0), .val (.int p1), .val (.int p2), .val (.ref a_GREATER_OR_EQUAL), .val (.int (p1 &&& (2147483647 : Int32))), .val (.int (p2 &&& (2147483647 : Int32))), .unset, .unset, .unset, .unset, .unset] [(.ref b83)]))
      refine own_F.of (fun _ => XS.dup S83.here S83.hx rfl (S83.dec at_35) rfl rfl) ?_
      show own_F p e below s Z _ _ _ _ _ (T83.setTop (mkF m 36 #[.val (.int p0), .val (.int p1), .val (.int p2), .val (.ref a_GREATER_OR_EQUAL), .val (.int (p1 &&& (2147483647 : Int32))), .val (.int (p2 &&& (2147483647 : Int32))), .unset, .unset, .unset, .unset, .unset] [(.ref b83), (.ref b83)]))
      refine own_F.of (fun _ => XS.iload S83.here S83.hx rfl (S83.dec at_36) rfl) ?_
      show own_F p e below s Z _ _ _ _ _ (T83.setTop (mkF m 38 #[.val (.int p0), .val (.int p1), .val (.int p2), .val (.ref a_GREATER_OR_EQUAL), .val (.int (p1 &&& (2147483647 : Int32))), .val (.int (p2 &&& (2147483647 : Int32))), .unset, .unset, .unset, .unset, .unset] [(.int (p1 &&& (2147483647 : Int32))), (.ref b83), (.ref b83)]))
      refine own_callI S83 (y := (⟨"com/example/manysort/manysort/language/NaturalNumber", "<init>", "(I)V"⟩ : MethodName)) rfl (own_w hw 11 rfl) (own_w hw 12 rfl) (own_w hw 10 rfl) (own_w hw 13 rfl) (by decide) (argsL := [(.int (p1 &&& (2147483647 : Int32)))]) (rest := [(.ref b83)]) (own_NN1 l Z a0 hw b83 (p1 &&& (2147483647 : Int32)) h83 S83.old (own_mayN S83 (Or.inr (by rw [g83]; exact S1.size))) A83 F83_value F83_written) (allS (Or.inr (by rw [g83]; exact S1.size)) all0) (by decide +kernel : parseMethodDescriptor "(I)V" = some ⟨[.int], none⟩) rfl rfl rfl at_38 (by decide) (Nat.le_of_ble_eq_true rfl) (by decide) (by decide) (fun T84 h84 v84 S84 K84 q84 => ?_)
      obtain ⟨rfl, F84⟩ := q84
      show own_F p e below s Z _ _ _ _ _ (T84.setTop (mkF m 41 #[.val (.int p0), .val (.int p1), .val (.int p2), .val (.ref a_GREATER_OR_EQUAL), .val (.int (p1 &&& (2147483647 : Int32))), .val (.int (p2 &&& (2147483647 : Int32))), .unset, .unset, .unset, .unset, .unset] [(.ref b83)]))
      refine own_F.of (fun _ => XS.astore S84.here S84.hx rfl (S84.dec at_41) rfl rfl (l' := #[.val (.int p0), .val (.int p1), .val (.int p2), .val (.ref a_GREATER_OR_EQUAL), .val (.int (p1 &&& (2147483647 : Int32))), .val (.int (p2 &&& (2147483647 : Int32))), .val (.ref b83), .unset, .unset, .unset, .unset]) rfl) ?_
      show own_F p e below s Z _ _ _ _ _ (T84.setTop (mkF m 43 #[.val (.int p0), .val (.int p1), .val (.int p2), .val (.ref a_GREATER_OR_EQUAL), .val (.int (p1 &&& (2147483647 : Int32))), .val (.int (p2 &&& (2147483647 : Int32))), .val (.ref b83), .unset, .unset, .unset, .unset] []))
      refine own_new S84 (own_w hw 8 rfl) (own_w hw 9 rfl) (own_w hw 10 rfl) at_43 (by decide) (by decide) (fun T85 h85 b85 g85 S85 E85 A85 D85 => ?_)
      have F85_value : Fld Z h85 b85 "com/example/manysort/manysort/language/NaturalNumber" "value" "I" (.int (0 : Int32)) := (D85 (Or.inr (own_w hw 26 rfl)) (ty := .int) (by decide))
      have F85_written : Fld Z h85 b85 "com/example/manysort/manysort/language/NaturalNumber" "written" "Ljava/lang/String;" .null := (D85 (Or.inr (own_w hw 28 rfl)) (ty := (.object "java/lang/String")) (by decide))
      show own_F p e below s Z _ _ _ _ _ (T85.setTop (mkF m 46 #[.val (.int p0), .val (.int p1), .val (.int p2), .val (.ref a_GREATER_OR_EQUAL), .val (.int (p1 &&& (2147483647 : Int32))), .val (.int (p2 &&& (2147483647 : Int32))), .val (.ref b83), .unset, .unset, .unset, .unset] [(.ref b85)]))
      refine own_F.of (fun _ => XS.dup S85.here S85.hx rfl (S85.dec at_46) rfl rfl) ?_
      show own_F p e below s Z _ _ _ _ _ (T85.setTop (mkF m 47 #[.val (.int p0), .val (.int p1), .val (.int p2), .val (.ref a_GREATER_OR_EQUAL), .val (.int (p1 &&& (2147483647 : Int32))), .val (.int (p2 &&& (2147483647 : Int32))), .val (.ref b83), .unset, .unset, .unset, .unset] [(.ref b85), (.ref b85)]))
      refine own_F.of (fun _ => XS.iload S85.here S85.hx rfl (S85.dec at_47) rfl) ?_
      show own_F p e below s Z _ _ _ _ _ (T85.setTop (mkF m 49 #[.val (.int p0), .val (.int p1), .val (.int p2), .val (.ref a_GREATER_OR_EQUAL), .val (.int (p1 &&& (2147483647 : Int32))), .val (.int (p2 &&& (2147483647 : Int32))), .val (.ref b83), .unset, .unset, .unset, .unset] [(.int (p2 &&& (2147483647 : Int32))), (.ref b85), (.ref b85)]))
      refine own_callI S85 (y := (⟨"com/example/manysort/manysort/language/NaturalNumber", "<init>", "(I)V"⟩ : MethodName)) rfl (own_w hw 11 rfl) (own_w hw 12 rfl) (own_w hw 10 rfl) (own_w hw 13 rfl) (by decide) (argsL := [(.int (p2 &&& (2147483647 : Int32)))]) (rest := [(.ref b85)]) (own_NN1 l Z a0 hw b85 (p2 &&& (2147483647 : Int32)) h85 S85.old (own_mayN S85 (Or.inr (by rw [g85]; exact S84.size))) A85 F85_value F85_written) (allS (Or.inr (by rw [g85]; exact S84.size)) all0) (by decide +kernel : parseMethodDescriptor "(I)V" = some ⟨[.int], none⟩) rfl rfl rfl at_49 (by decide) (Nat.le_of_ble_eq_true rfl) (by decide) (by decide) (fun T86 h86 v86 S86 K86 q86 => ?_)
      obtain ⟨rfl, F86⟩ := q86
      show own_F p e below s Z _ _ _ _ _ (T86.setTop (mkF m 52 #[.val (.int p0), .val (.int p1), .val (.int p2), .val (.ref a_GREATER_OR_EQUAL), .val (.int (p1 &&& (2147483647 : Int32))), .val (.int (p2 &&& (2147483647 : Int32))), .val (.ref b83), .unset, .unset, .unset, .unset] [(.ref b85)]))
      refine own_F.of (fun _ => XS.astore S86.here S86.hx rfl (S86.dec at_52) rfl rfl (l' := #[.val (.int p0), .val (.int p1), .val (.int p2), .val (.ref a_GREATER_OR_EQUAL), .val (.int (p1 &&& (2147483647 : Int32))), .val (.int (p2 &&& (2147483647 : Int32))), .val (.ref b83), .val (.ref b85), .unset, .unset, .unset]) rfl) ?_
      show own_F p e below s Z _ _ _ _ _ (T86.setTop (mkF m 54 #[.val (.int p0), .val (.int p1), .val (.int p2), .val (.ref a_GREATER_OR_EQUAL), .val (.int (p1 &&& (2147483647 : Int32))), .val (.int (p2 &&& (2147483647 : Int32))), .val (.ref b83), .val (.ref b85), .unset, .unset, .unset] []))
      refine own_F.of (fun _ => XS.aloadN S86.here S86.hx rfl (S86.dec at_54) rfl rfl) ?_
      show own_F p e below s Z _ _ _ _ _ (T86.setTop (mkF m 55 #[.val (.int p0), .val (.int p1), .val (.int p2), .val (.ref a_GREATER_OR_EQUAL), .val (.int (p1 &&& (2147483647 : Int32))), .val (.int (p2 &&& (2147483647 : Int32))), .val (.ref b83), .val (.ref b85), .unset, .unset, .unset] [(.ref a_GREATER_OR_EQUAL)]))
      refine own_callV S86 (y := (⟨"com/example/manysort/manysort/language/Comparison$Relation", "orders", "()Z"⟩ : MethodName)) (y' := (⟨"com/example/manysort/manysort/language/Comparison$Relation", "orders", "()Z"⟩ : MethodName)) (own_w hw 29 rfl) (own_w hw 30 rfl) (own_nf S86 (own_w hw 32 rfl)) (own_w hw 32 rfl) (own_w hw 31 rfl) (own_w hw 33 rfl) (own_w hw 6 rfl) (by decide) (X_GREATER_OR_EQUAL.ext S86.old) (argsL := []) (rest := []) (own_orders l Z a0 hw a_GREATER_OR_EQUAL a_EQUAL a_NOT_EQUAL a_LESS a_LESS_OR_EQUAL a_GREATER a_GREATER_OR_EQUAL h86 S86.old S_EQUAL S_NOT_EQUAL S_LESS S_LESS_OR_EQUAL S_GREATER S_GREATER_OR_EQUAL) all0 (by decide +kernel : parseMethodDescriptor "()Z" = some ⟨[], some .boolean⟩) rfl rfl rfl at_55 (by decide) (Nat.le_of_ble_eq_true rfl) (by decide) (by decide) (fun T87 h87 v87 S87 K87 q87 => ?_)
      obtain ⟨rfl, rfl⟩ := q87
      show own_F p e below s Z _ _ _ _ _ (T87.setTop (mkF m 58 #[.val (.int p0), .val (.int p1), .val (.int p2), .val (.ref a_GREATER_OR_EQUAL), .val (.int (p1 &&& (2147483647 : Int32))), .val (.int (p2 &&& (2147483647 : Int32))), .val (.ref b83), .val (.ref b85), .unset, .unset, .unset] [(.int (own_or a_GREATER_OR_EQUAL a_EQUAL a_NOT_EQUAL))]))
      refine own_F.of (fun _ => XS.istore S87.here S87.hx rfl (S87.dec at_58) rfl (l' := #[.val (.int p0), .val (.int p1), .val (.int p2), .val (.ref a_GREATER_OR_EQUAL), .val (.int (p1 &&& (2147483647 : Int32))), .val (.int (p2 &&& (2147483647 : Int32))), .val (.ref b83), .val (.ref b85), .val (.int (own_or a_GREATER_OR_EQUAL a_EQUAL a_NOT_EQUAL)), .unset, .unset]) rfl) ?_
      show own_F p e below s Z _ _ _ _ _ (T87.setTop (mkF m 60 #[.val (.int p0), .val (.int p1), .val (.int p2), .val (.ref a_GREATER_OR_EQUAL), .val (.int (p1 &&& (2147483647 : Int32))), .val (.int (p2 &&& (2147483647 : Int32))), .val (.ref b83), .val (.ref b85), .val (.int (own_or a_GREATER_OR_EQUAL a_EQUAL a_NOT_EQUAL)), .unset, .unset] []))
      rw [show (own_or a_GREATER_OR_EQUAL a_EQUAL a_NOT_EQUAL) = (1 : Int32) from (by simp [own_or, (F_GREATER_OR_EQUAL_ordinal.ne F_EQUAL_ordinal (by decide)), (F_GREATER_OR_EQUAL_ordinal.ne F_NOT_EQUAL_ordinal (by decide))])]
      show own_F p e below s Z _ _ _ _ _ (T87.setTop (mkF m 60 #[.val (.int p0), .val (.int p1), .val (.int p2), .val (.ref a_GREATER_OR_EQUAL), .val (.int (p1 &&& (2147483647 : Int32))), .val (.int (p2 &&& (2147483647 : Int32))), .val (.ref b83), .val (.ref b85), .val (.int (1 : Int32)), .unset, .unset] []))
      refine own_F.of (fun _ => XS.aloadN S87.here S87.hx rfl (S87.dec at_60) rfl rfl) ?_
      show own_F p e below s Z _ _ _ _ _ (T87.setTop (mkF m 61 #[.val (.int p0), .val (.int p1), .val (.int p2), .val (.ref a_GREATER_OR_EQUAL), .val (.int (p1 &&& (2147483647 : Int32))), .val (.int (p2 &&& (2147483647 : Int32))), .val (.ref b83), .val (.ref b85), .val (.int (1 : Int32)), .unset, .unset] [(.ref a_GREATER_OR_EQUAL)]))
      refine own_F.of (fun _ => XS.aload S87.here S87.hx rfl (S87.dec at_61) rfl rfl) ?_
      show own_F p e below s Z _ _ _ _ _ (T87.setTop (mkF m 63 #[.val (.int p0), .val (.int p1), .val (.int p2), .val (.ref a_GREATER_OR_EQUAL), .val (.int (p1 &&& (2147483647 : Int32))), .val (.int (p2 &&& (2147483647 : Int32))), .val (.ref b83), .val (.ref b85), .val (.int (1 : Int32)), .unset, .unset] [(.ref b83), (.ref a_GREATER_OR_EQUAL)]))
      refine own_F.of (fun _ => XS.aload S87.here S87.hx rfl (S87.dec at_63) rfl rfl) ?_
      show own_F p e below s Z _ _ _ _ _ (T87.setTop (mkF m 65 #[.val (.int p0), .val (.int p1), .val (.int p2), .val (.ref a_GREATER_OR_EQUAL), .val (.int (p1 &&& (2147483647 : Int32))), .val (.int (p2 &&& (2147483647 : Int32))), .val (.ref b83), .val (.ref b85), .val (.int (1 : Int32)), .unset, .unset] [(.ref b85), (.ref b83), (.ref a_GREATER_OR_EQUAL)]))
      have f88 := (((A83.keep K84).ext E85).keep K86)
      have f89 := (A85.keep K86)
      have f90 := ((F84.ext E85).keep K86 (ninS (Nat.ne_of_lt (by rw [g85]; exact (F84).lt)) nin0))
      refine own_callV S87 (y := (⟨"com/example/manysort/manysort/language/Comparison$Relation", "holds", "(Lcom/example/manysort/manysort/language/Term;Lcom/example/manysort/manysort/language/Term;)Z"⟩ : MethodName)) (y' := (⟨"com/example/manysort/manysort/language/Comparison$Relation", "holds", "(Lcom/example/manysort/manysort/language/Term;Lcom/example/manysort/manysort/language/Term;)Z"⟩ : MethodName)) (own_w hw 35 rfl) (own_w hw 36 rfl) (own_nf S87 (own_w hw 38 rfl)) (own_w hw 38 rfl) (own_w hw 37 rfl) (own_w hw 39 rfl) (own_w hw 6 rfl) (by decide) (X_GREATER_OR_EQUAL.ext S87.old) (argsL := [(.ref b83), (.ref b85)]) (rest := []) (own_holds5 l Z a0 hw a_GREATER_OR_EQUAL b83 b85 (p1 &&& (2147483647 : Int32)) (p2 &&& (2147483647 : Int32)) h86 S87.old X_GREATER_OR_EQUAL F_GREATER_OR_EQUAL_ordinal f88 f89 f90 F86 (Nat.ne_of_lt (by rw [g85]; exact ((A83.keep K84)).lt))) all0 (by decide +kernel : parseMethodDescriptor "(Lcom/example/manysort/manysort/language/Term;Lcom/example/manysort/manysort/language/Term;)Z" = some ⟨[(.object "com/example/manysort/manysort/language/Term"), (.object "com/example/manysort/manysort/language/Term")], some .boolean⟩) rfl rfl rfl at_65 (by decide) (Nat.le_of_ble_eq_true rfl) (by decide) (by decide) (fun T91 h91 v91 S91 K91 q91 => ?_)
      obtain ⟨rfl, rfl⟩ := q91
      show own_F p e below s Z _ _ _ _ _ (T91.setTop (mkF m 68 #[.val (.int p0), .val (.int p1), .val (.int p2), .val (.ref a_GREATER_OR_EQUAL), .val (.int (p1 &&& (2147483647 : Int32))), .val (.int (p2 &&& (2147483647 : Int32))), .val (.ref b83), .val (.ref b85), .val (.int (1 : Int32)), .unset, .unset] [(.int (own_h5 (own_cmp (p1 &&& (2147483647 : Int32)) (p2 &&& (2147483647 : Int32)))))]))
      refine own_F.of (fun _ => XS.aloadN S91.here S91.hx rfl (S91.dec at_68) rfl rfl) ?_
      show own_F p e below s Z _ _ _ _ _ (T91.setTop (mkF m 69 #[.val (.int p0), .val (.int p1), .val (.int p2), .val (.ref a_GREATER_OR_EQUAL), .val (.int (p1 &&& (2147483647 : Int32))), .val (.int (p2 &&& (2147483647 : Int32))), .val (.ref b83), .val (.ref b85), .val (.int (1 : Int32)), .unset, .unset] [(.ref a_GREATER_OR_EQUAL), (.int (own_h5 (own_cmp (p1 &&& (2147483647 : Int32)) (p2 &&& (2147483647 : Int32)))))]))
      refine own_F.of (fun _ => XS.aload S91.here S91.hx rfl (S91.dec at_69) rfl rfl) ?_
      show own_F p e below s Z _ _ _ _ _ (T91.setTop (mkF m 71 #[.val (.int p0), .val (.int p1), .val (.int p2), .val (.ref a_GREATER_OR_EQUAL), .val (.int (p1 &&& (2147483647 : Int32))), .val (.int (p2 &&& (2147483647 : Int32))), .val (.ref b83), .val (.ref b85), .val (.int (1 : Int32)), .unset, .unset] [(.ref b85), (.ref a_GREATER_OR_EQUAL), (.int (own_h5 (own_cmp (p1 &&& (2147483647 : Int32)) (p2 &&& (2147483647 : Int32)))))]))
      refine own_F.of (fun _ => XS.aload S91.here S91.hx rfl (S91.dec at_71) rfl rfl) ?_
      show own_F p e below s Z _ _ _ _ _ (T91.setTop (mkF m 73 #[.val (.int p0), .val (.int p1), .val (.int p2), .val (.ref a_GREATER_OR_EQUAL), .val (.int (p1 &&& (2147483647 : Int32))), .val (.int (p2 &&& (2147483647 : Int32))), .val (.ref b83), .val (.ref b85), .val (.int (1 : Int32)), .unset, .unset] [(.ref b83), (.ref b85), (.ref a_GREATER_OR_EQUAL), (.int (own_h5 (own_cmp (p1 &&& (2147483647 : Int32)) (p2 &&& (2147483647 : Int32)))))]))
      refine own_callV S91 (y := (⟨"com/example/manysort/manysort/language/Comparison$Relation", "holds", "(Lcom/example/manysort/manysort/language/Term;Lcom/example/manysort/manysort/language/Term;)Z"⟩ : MethodName)) (y' := (⟨"com/example/manysort/manysort/language/Comparison$Relation", "holds", "(Lcom/example/manysort/manysort/language/Term;Lcom/example/manysort/manysort/language/Term;)Z"⟩ : MethodName)) (own_w hw 35 rfl) (own_w hw 36 rfl) (own_nf S91 (own_w hw 38 rfl)) (own_w hw 38 rfl) (own_w hw 37 rfl) (own_w hw 39 rfl) (own_w hw 6 rfl) (by decide) (X_GREATER_OR_EQUAL.ext S91.old) (argsL := [(.ref b85), (.ref b83)]) (rest := [(.int (own_h5 (own_cmp (p1 &&& (2147483647 : Int32)) (p2 &&& (2147483647 : Int32)))))]) (own_holds5 l Z a0 hw a_GREATER_OR_EQUAL b85 b83 (p2 &&& (2147483647 : Int32)) (p1 &&& (2147483647 : Int32)) h86 S91.old X_GREATER_OR_EQUAL F_GREATER_OR_EQUAL_ordinal f89 f88 F86 f90 (Ne.symm (Nat.ne_of_lt (by rw [g85]; exact ((A83.keep K84)).lt)))) all0 (by decide +kernel : parseMethodDescriptor "(Lcom/example/manysort/manysort/language/Term;Lcom/example/manysort/manysort/language/Term;)Z" = some ⟨[(.object "com/example/manysort/manysort/language/Term"), (.object "com/example/manysort/manysort/language/Term")], some .boolean⟩) rfl rfl rfl at_73 (by decide) (Nat.le_of_ble_eq_true rfl) (by decide) (by decide) (fun T92 h92 v92 S92 K92 q92 => ?_)
      obtain ⟨rfl, rfl⟩ := q92
      show own_F p e below s Z _ _ _ _ _ (T92.setTop (mkF m 76 #[.val (.int p0), .val (.int p1), .val (.int p2), .val (.ref a_GREATER_OR_EQUAL), .val (.int (p1 &&& (2147483647 : Int32))), .val (.int (p2 &&& (2147483647 : Int32))), .val (.ref b83), .val (.ref b85), .val (.int (1 : Int32)), .unset, .unset] [(.int (own_h5 (own_cmp (p2 &&& (2147483647 : Int32)) (p1 &&& (2147483647 : Int32))))), (.int (own_h5 (own_cmp (p1 &&& (2147483647 : Int32)) (p2 &&& (2147483647 : Int32)))))]))
      refine own_icmp S92 83 at_76 (by decide) (by decide) (fun (hc76_93 : (own_h5 (own_cmp (p1 &&& (2147483647 : Int32)) (p2 &&& (2147483647 : Int32)))) = (own_h5 (own_cmp (p2 &&& (2147483647 : Int32)) (p1 &&& (2147483647 : Int32))))) => False.elim (own_e5 hc27_82 hc76_93)) (fun (hc76_93 : ¬ ((own_h5 (own_cmp (p1 &&& (2147483647 : Int32)) (p2 &&& (2147483647 : Int32)))) = (own_h5 (own_cmp (p2 &&& (2147483647 : Int32)) (p1 &&& (2147483647 : Int32)))))) => ?_)
      show own_F p e below s Z _ _ _ _ _ (T92.setTop (mkF m 79 #[.val (.int p0), .val (.int p1), .val (.int p2), .val (.ref a_GREATER_OR_EQUAL), .val (.int (p1 &&& (2147483647 : Int32))), .val (.int (p2 &&& (2147483647 : Int32))), .val (.ref b83), .val (.ref b85), .val (.int (1 : Int32)), .unset, .unset] []))
      refine own_F.of (fun _ => XS.iconst S92.here S92.hx rfl (S92.dec at_79)) ?_
      show own_F p e below s Z _ _ _ _ _ (T92.setTop (mkF m 80 #[.val (.int p0), .val (.int p1), .val (.int p2), .val (.ref a_GREATER_OR_EQUAL), .val (.int (p1 &&& (2147483647 : Int32))), .val (.int (p2 &&& (2147483647 : Int32))), .val (.ref b83), .val (.ref b85), .val (.int (1 : Int32)), .unset, .unset] [(.int (1 : Int32))]))
      refine own_F.of (fun _ => XS.goto S92.here S92.hx rfl (pc0 := 80) (pc' := 84) rfl (S92.dec at_80) (by decide) (by decide)) ?_
      show own_F p e below s Z _ _ _ _ _ (T92.setTop (mkF m 84 #[.val (.int p0), .val (.int p1), .val (.int p2), .val (.ref a_GREATER_OR_EQUAL), .val (.int (p1 &&& (2147483647 : Int32))), .val (.int (p2 &&& (2147483647 : Int32))), .val (.ref b83), .val (.ref b85), .val (.int (1 : Int32)), .unset, .unset] [(.int (1 : Int32))]))
      refine own_F.of (fun _ => XS.istore S92.here S92.hx rfl (S92.dec at_84) rfl (l' := #[.val (.int p0), .val (.int p1), .val (.int p2), .val (.ref a_GREATER_OR_EQUAL), .val (.int (p1 &&& (2147483647 : Int32))), .val (.int (p2 &&& (2147483647 : Int32))), .val (.ref b83), .val (.ref b85), .val (.int (1 : Int32)), .val (.int (1 : Int32)), .unset]) rfl) ?_
      show own_F p e below s Z _ _ _ _ _ (T92.setTop (mkF m 86 #[.val (.int p0), .val (.int p1), .val (.int p2), .val (.ref a_GREATER_OR_EQUAL), .val (.int (p1 &&& (2147483647 : Int32))), .val (.int (p2 &&& (2147483647 : Int32))), .val (.ref b83), .val (.ref b85), .val (.int (1 : Int32)), .val (.int (1 : Int32)), .unset] []))
      refine own_F.of (fun _ => XS.aloadN S92.here S92.hx rfl (S92.dec at_86) rfl rfl) ?_
      show own_F p e below s Z _ _ _ _ _ (T92.setTop (mkF m 87 #[.val (.int p0), .val (.int p1), .val (.int p2), .val (.ref a_GREATER_OR_EQUAL), .val (.int (p1 &&& (2147483647 : Int32))), .val (.int (p2 &&& (2147483647 : Int32))), .val (.ref b83), .val (.ref b85), .val (.int (1 : Int32)), .val (.int (1 : Int32)), .unset] [(.ref a_GREATER_OR_EQUAL)]))
      refine own_callV S92 (y := (⟨"com/example/manysort/manysort/language/Comparison$Relation", "converse", "()Lcom/example/manysort/manysort/language/Comparison$Relation;"⟩ : MethodName)) (y' := (⟨"com/example/manysort/manysort/language/Comparison$Relation", "converse", "()Lcom/example/manysort/manysort/language/Comparison$Relation;"⟩ : MethodName)) (own_w hw 64 rfl) (own_w hw 65 rfl) (own_nf S92 (own_w hw 67 rfl)) (own_w hw 67 rfl) (own_w hw 66 rfl) (own_w hw 68 rfl) (own_w hw 6 rfl) (by decide) (X_GREATER_OR_EQUAL.ext S92.old) (argsL := []) (rest := []) (own_conv5 l Z a0 hw a_GREATER_OR_EQUAL a_EQUAL a_NOT_EQUAL a_LESS a_LESS_OR_EQUAL a_GREATER a_GREATER_OR_EQUAL h86 S92.old X_GREATER_OR_EQUAL F_GREATER_OR_EQUAL_ordinal S_EQUAL S_NOT_EQUAL S_LESS S_LESS_OR_EQUAL S_GREATER S_GREATER_OR_EQUAL) all0 (by decide +kernel : parseMethodDescriptor "()Lcom/example/manysort/manysort/language/Comparison$Relation;" = some ⟨[], some (.object "com/example/manysort/manysort/language/Comparison$Relation")⟩) rfl rfl rfl at_87 (by decide) (Nat.le_of_ble_eq_true rfl) (by decide) (by decide) (fun T94 h94 v94 S94 K94 q94 => ?_)
      obtain ⟨rfl, rfl⟩ := q94
      show own_F p e below s Z _ _ _ _ _ (T94.setTop (mkF m 90 #[.val (.int p0), .val (.int p1), .val (.int p2), .val (.ref a_GREATER_OR_EQUAL), .val (.int (p1 &&& (2147483647 : Int32))), .val (.int (p2 &&& (2147483647 : Int32))), .val (.ref b83), .val (.ref b85), .val (.int (1 : Int32)), .val (.int (1 : Int32)), .unset] [(.ref a_LESS_OR_EQUAL)]))
      refine own_F.of (fun _ => XS.aloadN S94.here S94.hx rfl (S94.dec at_90) rfl rfl) ?_
      show own_F p e below s Z _ _ _ _ _ (T94.setTop (mkF m 91 #[.val (.int p0), .val (.int p1), .val (.int p2), .val (.ref a_GREATER_OR_EQUAL), .val (.int (p1 &&& (2147483647 : Int32))), .val (.int (p2 &&& (2147483647 : Int32))), .val (.ref b83), .val (.ref b85), .val (.int (1 : Int32)), .val (.int (1 : Int32)), .unset] [(.ref a_GREATER_OR_EQUAL), (.ref a_LESS_OR_EQUAL)]))
      refine own_acmp S94 rfl rfl 98 at_91 (by decide) (by decide) (fun (hc91_95 : (Value.ref a_LESS_OR_EQUAL) = (Value.ref a_GREATER_OR_EQUAL)) => False.elim ((F_LESS_OR_EQUAL_ordinal.ne F_GREATER_OR_EQUAL_ordinal (by decide)) (Value.ref.inj hc91_95))) (fun (hc91_95 : ¬ ((Value.ref a_LESS_OR_EQUAL) = (Value.ref a_GREATER_OR_EQUAL))) => ?_)
      show own_F p e below s Z _ _ _ _ _ (T94.setTop (mkF m 94 #[.val (.int p0), .val (.int p1), .val (.int p2), .val (.ref a_GREATER_OR_EQUAL), .val (.int (p1 &&& (2147483647 : Int32))), .val (.int (p2 &&& (2147483647 : Int32))), .val (.ref b83), .val (.ref b85), .val (.int (1 : Int32)), .val (.int (1 : Int32)), .unset] []))
      refine own_F.of (fun _ => XS.iconst S94.here S94.hx rfl (S94.dec at_94)) ?_
      show own_F p e below s Z _ _ _ _ _ (T94.setTop (mkF m 95 #[.val (.int p0), .val (.int p1), .val (.int p2), .val (.ref a_GREATER_OR_EQUAL), .val (.int (p1 &&& (2147483647 : Int32))), .val (.int (p2 &&& (2147483647 : Int32))), .val (.ref b83), .val (.ref b85), .val (.int (1 : Int32)), .val (.int (1 : Int32)), .unset] [(.int (1 : Int32))]))
      refine own_F.of (fun _ => XS.goto S94.here S94.hx rfl (pc0 := 95) (pc' := 99) rfl (S94.dec at_95) (by decide) (by decide)) ?_
      show own_F p e below s Z _ _ _ _ _ (T94.setTop (mkF m 99 #[.val (.int p0), .val (.int p1), .val (.int p2), .val (.ref a_GREATER_OR_EQUAL), .val (.int (p1 &&& (2147483647 : Int32))), .val (.int (p2 &&& (2147483647 : Int32))), .val (.ref b83), .val (.ref b85), .val (.int (1 : Int32)), .val (.int (1 : Int32)), .unset] [(.int (1 : Int32))]))
      refine own_F.of (fun _ => XS.istore S94.here S94.hx rfl (S94.dec at_99) rfl (l' := #[.val (.int p0), .val (.int p1), .val (.int p2), .val (.ref a_GREATER_OR_EQUAL), .val (.int (p1 &&& (2147483647 : Int32))), .val (.int (p2 &&& (2147483647 : Int32))), .val (.ref b83), .val (.ref b85), .val (.int (1 : Int32)), .val (.int (1 : Int32)), .val (.int (1 : Int32))]) rfl) ?_
      show own_F p e below s Z _ _ _ _ _ (T94.setTop (mkF m 101 #[.val (.int p0), .val (.int p1), .val (.int p2), .val (.ref a_GREATER_OR_EQUAL), .val (.int (p1 &&& (2147483647 : Int32))), .val (.int (p2 &&& (2147483647 : Int32))), .val (.ref b83), .val (.ref b85), .val (.int (1 : Int32)), .val (.int (1 : Int32)), .val (.int (1 : Int32))] []))
      refine own_F.of (fun _ => XS.iload S94.here S94.hx rfl (S94.dec at_101) rfl) ?_
      show own_F p e below s Z _ _ _ _ _ (T94.setTop (mkF m 103 #[.val (.int p0), .val (.int p1), .val (.int p2), .val (.ref a_GREATER_OR_EQUAL), .val (.int (p1 &&& (2147483647 : Int32))), .val (.int (p2 &&& (2147483647 : Int32))), .val (.ref b83), .val (.ref b85), .val (.int (1 : Int32)), .val (.int (1 : Int32)), .val (.int (1 : Int32))] [(.int (1 : Int32))]))
      refine own_F.of (fun _ => XS.iload S94.here S94.hx rfl (S94.dec at_103) rfl) ?_
      show own_F p e below s Z _ _ _ _ _ (T94.setTop (mkF m 105 #[.val (.int p0), .val (.int p1), .val (.int p2), .val (.ref a_GREATER_OR_EQUAL), .val (.int (p1 &&& (2147483647 : Int32))), .val (.int (p2 &&& (2147483647 : Int32))), .val (.ref b83), .val (.ref b85), .val (.int (1 : Int32)), .val (.int (1 : Int32)), .val (.int (1 : Int32))] [(.int (1 : Int32)), (.int (1 : Int32))]))
      refine own_icmp S94 119 at_105 (by decide) (by decide) (fun (hc105_96 : ¬ ((1 : Int32) = (1 : Int32))) => False.elim (absurd hc105_96 (by decide))) (fun (hc105_96 : (1 : Int32) = (1 : Int32)) => ?_)
      show own_F p e below s Z _ _ _ _ _ (T94.setTop (mkF m 108 #[.val (.int p0), .val (.int p1), .val (.int p2), .val (.ref a_GREATER_OR_EQUAL), .val (.int (p1 &&& (2147483647 : Int32))), .val (.int (p2 &&& (2147483647 : Int32))), .val (.ref b83), .val (.ref b85), .val (.int (1 : Int32)), .val (.int (1 : Int32)), .val (.int (1 : Int32))] []))
      refine own_F.of (fun _ => XS.iload S94.here S94.hx rfl (S94.dec at_108) rfl) ?_
      show own_F p e below s Z _ _ _ _ _ (T94.setTop (mkF m 110 #[.val (.int p0), .val (.int p1), .val (.int p2), .val (.ref a_GREATER_OR_EQUAL), .val (.int (p1 &&& (2147483647 : Int32))), .val (.int (p2 &&& (2147483647 : Int32))), .val (.ref b83), .val (.ref b85), .val (.int (1 : Int32)), .val (.int (1 : Int32)), .val (.int (1 : Int32))] [(.int (1 : Int32))]))
      refine own_F.of (fun _ => XS.iload S94.here S94.hx rfl (S94.dec at_110) rfl) ?_
      show own_F p e below s Z _ _ _ _ _ (T94.setTop (mkF m 112 #[.val (.int p0), .val (.int p1), .val (.int p2), .val (.ref a_GREATER_OR_EQUAL), .val (.int (p1 &&& (2147483647 : Int32))), .val (.int (p2 &&& (2147483647 : Int32))), .val (.ref b83), .val (.ref b85), .val (.int (1 : Int32)), .val (.int (1 : Int32)), .val (.int (1 : Int32))] [(.int (1 : Int32)), (.int (1 : Int32))]))
      refine own_icmp S94 119 at_112 (by decide) (by decide) (fun (hc112_97 : ¬ ((1 : Int32) = (1 : Int32))) => False.elim (absurd hc112_97 (by decide))) (fun (hc112_97 : (1 : Int32) = (1 : Int32)) => ?_)
      show own_F p e below s Z _ _ _ _ _ (T94.setTop (mkF m 115 #[.val (.int p0), .val (.int p1), .val (.int p2), .val (.ref a_GREATER_OR_EQUAL), .val (.int (p1 &&& (2147483647 : Int32))), .val (.int (p2 &&& (2147483647 : Int32))), .val (.ref b83), .val (.ref b85), .val (.int (1 : Int32)), .val (.int (1 : Int32)), .val (.int (1 : Int32))] []))
      refine own_F.of (fun _ => XS.iconst S94.here S94.hx rfl (S94.dec at_115)) ?_
      show own_F p e below s Z _ _ _ _ _ (T94.setTop (mkF m 116 #[.val (.int p0), .val (.int p1), .val (.int p2), .val (.ref a_GREATER_OR_EQUAL), .val (.int (p1 &&& (2147483647 : Int32))), .val (.int (p2 &&& (2147483647 : Int32))), .val (.ref b83), .val (.ref b85), .val (.int (1 : Int32)), .val (.int (1 : Int32)), .val (.int (1 : Int32))] [(.int (1 : Int32))]))
      refine own_F.of (fun _ => XS.goto S94.here S94.hx rfl (pc0 := 116) (pc' := 120) rfl (S94.dec at_116) (by decide) (by decide)) ?_
      show own_F p e below s Z _ _ _ _ _ (T94.setTop (mkF m 120 #[.val (.int p0), .val (.int p1), .val (.int p2), .val (.ref a_GREATER_OR_EQUAL), .val (.int (p1 &&& (2147483647 : Int32))), .val (.int (p2 &&& (2147483647 : Int32))), .val (.ref b83), .val (.ref b85), .val (.int (1 : Int32)), .val (.int (1 : Int32)), .val (.int (1 : Int32))] [(.int (1 : Int32))]))
      refine own_retZ S94 (by simp) at_120 (by decide) (by decide) ?_
      rfl
    · show own_F p e below s Z _ _ _ _ _ (T1.setTop (mkF m 30 #[.val (.int p0), .val (.int p1), .val (.int p2), .val (.ref a_GREATER_OR_EQUAL), .val (.int (p1 &&& (2147483647 : Int32))), .val (.int (p2 &&& (2147483647 : Int32))), .unset, .unset, .unset, .unset, .unset] []))
      refine own_F.of (fun _ => XS.iconst S1.here S1.hx rfl (S1.dec at_30)) ?_
      show own_F p e below s Z _ _ _ _ _ (T1.setTop (mkF m 31 #[.val (.int p0), .val (.int p1), .val (.int p2), .val (.ref a_GREATER_OR_EQUAL), .val (.int (p1 &&& (2147483647 : Int32))), .val (.int (p2 &&& (2147483647 : Int32))), .unset, .unset, .unset, .unset, .unset] [(.int (1 : Int32))]))
      refine own_retZ S1 (by simp) at_31 (by decide) (by decide) ?_
      rfl
set_option maxRecDepth 65536 in
set_option maxHeartbeats 40000000 in
theorem comes_1 {Post : Tables → Env → Array Value → State → Outcome → State → Prop} (hpost : ∀ tb e args s v u, (limb_1_1.after args s (.returned v) u = true ∧ limb_1_2.after args s (.returned v) u = true ∧ True) → FrameEnd s (.returned v) u (Jvm.fieldLocs frame_1_writes args s ++ Jvm.arrayLocs frame_1_arrays args s ++ Jvm.staticLocs frame_1_statics s) 16 128 → Post tb e args s (.returned v) u) :
    ArmFor flags0 classFile x code maxLocals ret World_1 tables_1 room_1 Calls_1 rest_1 Pre_1 Post := by
  intro l hfl _ _ p e ha hc hk s m args below hf hA hF happ hP
  obtain ⟨hcalls, hrest, hpre⟩ := hP
  obtain ⟨-, -, -, hnamed, -, -, -, hat⟩ := (Spec.applies_iff hf).mp happ
  obtain ⟨hg, hn⟩ := and_e (Cond.before_iff.mp (show (Jvm.Cond.and given_1 narrow_1).before args s = true from hpre))
  obtain ⟨g1, g2⟩ := and_e hg
  obtain ⟨g3, g4⟩ := and_e g2
  obtain ⟨g5, g6⟩ := and_e g4
  obtain ⟨w0, w1, w2, rfl⟩ : ∃ w0 w1 w2 : Value, args = #[w0, w1, w2] := by
    have hs : args.size = 3 := by simpa [Cond.value, given_1] using g1
    obtain ⟨L⟩ := args
    match L, hs with
    | [w0, w1, w2], _ => exact ⟨w0, w1, w2, rfl⟩
  have hw := fun d (hd : d ∈ tables_1) => atoms_spec (ws := Jvm.Cond.code x code maxLocals ret :: tables_1) hat d (List.mem_cons_of_mem _ hd)
  have hfit : Fit s := fun {y c} hc i hi => by
    obtain ⟨ha, rfl⟩ := Array.getElem?_eq_some_iff.mp hc
    have q := List.all_eq_true.mp ((Array.all_eq_true_iff_forall_mem.mp hF) _ (Array.getElem_mem ha)) i (List.mem_range.mpr hi)
    simpa [Array.getElem?_eq_getElem hi] using q
  obtain ⟨i0, ei0⟩ := is_v g3
  obtain rfl : w0 = (.int i0) := Option.some.inj ei0
  obtain ⟨i1, ei1⟩ := is_v g5
  obtain rfl : w1 = (.int i1) := Option.some.inj ei1
  obtain ⟨i2, ei2⟩ := is_v g6
  obtain rfl : w2 = (.int i2) := Option.some.inj ei2
  obtain ⟨y0, hn⟩ := and_e hn
  obtain ⟨y1, hn⟩ := and_e hn
  obtain ⟨y2, hn⟩ := and_e hn
  obtain ⟨y3, hn⟩ := and_e hn
  obtain ⟨y4, hn⟩ := and_e hn
  obtain ⟨y5, hn⟩ := and_e hn
  obtain ⟨y6, hn⟩ := and_e hn
  obtain ⟨y7, hn⟩ := and_e hn
  obtain ⟨y8, hn⟩ := and_e hn
  obtain ⟨y9, hn⟩ := and_e hn
  obtain ⟨y10, hn⟩ := and_e hn
  have y11 := hn
  obtain ⟨a_EQUAL, ev_EQUAL, S_EQUAL, X_EQUAL⟩ := own_sta y0 (own_w hw 6 rfl) (own_w hw 7 rfl)
  obtain ⟨a_NOT_EQUAL, ev_NOT_EQUAL, S_NOT_EQUAL, X_NOT_EQUAL⟩ := own_sta y2 (own_w hw 6 rfl) (own_w hw 70 rfl)
  obtain ⟨a_LESS, ev_LESS, S_LESS, X_LESS⟩ := own_sta y4 (own_w hw 6 rfl) (own_w hw 73 rfl)
  obtain ⟨a_GREATER, ev_GREATER, S_GREATER, X_GREATER⟩ := own_sta y6 (own_w hw 6 rfl) (own_w hw 75 rfl)
  obtain ⟨a_GREATER_OR_EQUAL, ev_GREATER_OR_EQUAL, S_GREATER_OR_EQUAL, X_GREATER_OR_EQUAL⟩ := own_sta y8 (own_w hw 6 rfl) (own_w hw 77 rfl)
  obtain ⟨a_LESS_OR_EQUAL, ev_LESS_OR_EQUAL, S_LESS_OR_EQUAL, X_LESS_OR_EQUAL⟩ := own_sta y10 (own_w hw 6 rfl) (own_w hw 79 rfl)
  have F_EQUAL_ordinal := own_fldI ev_EQUAL y1
  have F_NOT_EQUAL_ordinal := own_fldI ev_NOT_EQUAL y3
  have F_LESS_ordinal := own_fldI ev_LESS y5
  have F_GREATER_ordinal := own_fldI ev_GREATER y7
  have F_GREATER_OR_EQUAL_ordinal := own_fldI ev_GREATER_OR_EQUAL y9
  have F_LESS_OR_EQUAL_ordinal := own_fldI ev_LESS_OR_EQUAL y11
  obtain ⟨n, o, h1, h2, h3, _, L, rfl, ⟨N, K, rfl⟩, hq⟩ := own_law l s _ hw i0 i1 i2 a_EQUAL a_NOT_EQUAL a_LESS a_GREATER a_GREATER_OR_EQUAL a_LESS_OR_EQUAL s.heap (own_extRefl _) S_EQUAL X_EQUAL F_EQUAL_ordinal S_NOT_EQUAL X_NOT_EQUAL F_NOT_EQUAL_ordinal S_LESS X_LESS F_LESS_ordinal S_GREATER X_GREATER F_GREATER_ordinal S_GREATER_OR_EQUAL X_GREATER_OR_EQUAL F_GREATER_OR_EQUAL_ordinal S_LESS_OR_EQUAL X_LESS_OR_EQUAL F_LESS_OR_EQUAL_ordinal p e ha hc hk s m _ below hf ((Spec.applies_iff_loose hf).mp happ).1 ⟨rfl, State.Warmed39.refl s, rfl⟩ trivial
  refine ⟨n, _, h1, h2, h3, hpost _ _ _ _ _ _ ⟨Cond.after_iff.mpr rfl, Cond.after_iff.mpr (eq_i res_at (Term.int_eval (1)) rfl), trivial⟩ ⟨hq.1, hq.2.1, (hq.2.2.sift fun y hy => Or.inr (N y hy)).mono (by decide) (by decide)⟩⟩
theorem main_1_1 : Claimed_1_1 := comes_1 fun _ _ _ _ _ _ h hF => ⟨h.1, hF⟩
theorem main_1_2 : Claimed_1_2 := comes_1 fun _ _ _ _ _ _ h hF => ⟨h.2.1, hF⟩
end Jvm.Pilot.@@N@@
namespace Jvm.Pilot.@@N@@
open Jvm Jvm.ClassFile Sem Op Lib Jvm.Free Jvm.Stand Jvm.Pilot.@@N@@.Jvm.D
/-! MADE BY PROGRAM (witnessworld.py) out of the Statement's table words and the real class files: 20 classes; the members and pool entries that the words name. The judged class is class 1, her method 2. -/
namespace start1
open Jvm.ClassFile
def u (s : String) : CpInfo := .utf8 (stringToUtf16 s)
/-- a pool by its gaps: so many unusable entries, then the entry; so many at the end -/
def gap : Nat → List CpInfo → List CpInfo
  | 0, r => r
  | n + 1, r => .unusable :: gap n r
def poolList (es : List (Nat × CpInfo)) (last : Nat) : List CpInfo := es.foldr (fun e r => gap e.1 (e.2 :: r)) (gap last [])
def pool (es : List (Nat × CpInfo)) (last : Nat) : Array CpInfo := ⟨poolList es last⟩
def fileOf (pool : Array CpInfo) (this : Nat) (attrs : Array Attribute := #[]) (ms : Array MethodInfo := #[]) (fl : Nat := 33) (sup : Nat := 0) (ifs : Array Nat := #[]) (fds : Array FieldInfo := #[]) : ClassFile where
  minorVersion := 0
  majorVersion := 65
  constantPool := pool
  accessFlags := fl
  thisClass := this
  superClass := sup
  interfaces := ifs
  fields := fds
  methods := ms
  attributes := attrs
def plain (name : String) (sup : Option ClassId) : Class where
  name := name
  kind := .ordinary
  loader := none
  accessFlags := 33
  super := sup
  interfaces := #[]
  cf := none
  fields := #[]
  methods := #[]
  instanceTypes := #[]
  staticTypes := #[]
  resolved := #[]
  callSites := []
  init := .initialized
  statics := none
  mirror := none

def pool0 : Array CpInfo := pool [(5, u "<init>"), (0, u "()V"), (1, .class_ 10), (1, u "java/lang/Object")] 113

def k0c0 : Code := { maxStack := 0, maxLocals := 1, code := object_method_1_code, exceptionTable := #[], attributes := #[] }
def k0m0 : Method := { name := "<init>", desc := "()V", sig := { parameters := [], returnType := none }, accessFlags := 1, code := some k0c0 }
/-- java/lang/Object -/
def k0 : Class := { plain "java/lang/Object" none with
  accessFlags := 33
  interfaces := #[]
  cf := some (fileOf pool0 8 #[] #[{ accessFlags := 1, nameIndex := 5, descriptorIndex := 6, attributes := #[] }] 33 0 #[] #[])
  fields := #[]
  methods := #[k0m0]
  instanceTypes := #[]
  staticTypes := #[]
  resolved := Array.replicate 124 none
  statics := none }

def pool1 : Array CpInfo := pool [(2, .class_ 4), (1, u "java/lang/Object"), (0, u "<init>"), (0, u "()V"), (0, .fieldref 8 9), (0, .class_ 10), (0, .nameAndType 11 12), (0, u "com/example/manysort/manysort/language/Comparison$Relation"), (0, u "EQUAL"), (0, u "Lcom/example/manysort/manysort/language/Comparison$Relation;"), (0, .fieldref 8 14), (0, .nameAndType 15 12), (0, u "NOT_EQUAL"), (0, .fieldref 8 17), (0, .nameAndType 18 12), (0, u "LESS"), (0, .fieldref 8 20), (0, .nameAndType 21 12), (0, u "LESS_OR_EQUAL"), (0, .fieldref 8 23), (0, .nameAndType 24 12), (0, u "GREATER"), (0, .fieldref 8 26), (0, .nameAndType 27 12), (0, u "GREATER_OR_EQUAL"), (0, .integer 2147483647), (0, .methodref 30 31), (0, .class_ 32), (0, .nameAndType 33 34), (0, u "com/example/manysort/manysort/language/RelationOrdersPinLaw"), (0, u "pick"), (0, u "(I)Lcom/example/manysort/manysort/language/Comparison$Relation;"), (0, .class_ 36), (0, u "com/example/manysort/manysort/language/NaturalNumber"), (0, .methodref 35 38), (0, .nameAndType 5 39), (0, u "(I)V"), (0, .methodref 8 41), (0, .nameAndType 42 43), (0, u "orders"), (0, u "()Z"), (0, .methodref 8 45), (0, .nameAndType 46 47), (0, u "holds"), (0, u "(Lcom/example/manysort/manysort/language/Term;Lcom/example/manysort/manysort/language/Term;)Z"), (0, .methodref 8 49), (0, .nameAndType 50 51), (0, u "converse"), (0, u "()Lcom/example/manysort/manysort/language/Comparison$Relation;"), (3, u "law"), (0, u "(III)Z")] 6

def k1m0 : Method := { name := "<init>", desc := "()V", sig := { parameters := [], returnType := none }, accessFlags := 1, code := none }
def k1c1 : Code := { maxStack := 2, maxLocals := 1, code := method_2_code, exceptionTable := #[], attributes := #[] }
def k1m1 : Method := { name := "pick", desc := "(I)Lcom/example/manysort/manysort/language/Comparison$Relation;", sig := { parameters := [.int], returnType := some (.object "com/example/manysort/manysort/language/Comparison$Relation") }, accessFlags := 10, code := some k1c1 }
def k1c2 : Code := { maxStack := 4, maxLocals := 11, code := code, exceptionTable := #[], attributes := #[] }
def k1m2 : Method := { name := "law", desc := "(III)Z", sig := { parameters := [.int, .int, .int], returnType := some .boolean }, accessFlags := 9, code := some k1c2 }
/-- com/example/manysort/manysort/language/RelationOrdersPinLaw -/
def k1 : Class := { plain "com/example/manysort/manysort/language/RelationOrdersPinLaw" (some 0) with
  accessFlags := 49
  interfaces := #[]
  cf := some (fileOf pool1 30 #[] #[{ accessFlags := 1, nameIndex := 5, descriptorIndex := 6, attributes := #[] }, { accessFlags := 10, nameIndex := 33, descriptorIndex := 34, attributes := #[] }, { accessFlags := 9, nameIndex := 55, descriptorIndex := 56, attributes := #[] }] 49 2 #[] #[])
  fields := #[]
  methods := #[k1m0, k1m1, k1m2]
  instanceTypes := #[]
  staticTypes := #[]
  resolved := Array.replicate 63 none
  statics := none }

def pool2 : Array CpInfo := pool [(1, .class_ 2), (0, u "java/lang/constant/Constable"), (0, .class_ 4), (0, u "java/lang/Object")] 6

/-- java/lang/constant/Constable -/
def k2 : Class := { plain "java/lang/constant/Constable" (some 0) with
  accessFlags := 1537
  interfaces := #[]
  cf := some (fileOf pool2 1 #[] #[] 1537 3 #[] #[])
  fields := #[]
  methods := #[]
  instanceTypes := #[]
  staticTypes := #[]
  resolved := Array.replicate 11 none
  statics := none }

def pool3 : Array CpInfo := pool [(1, .class_ 2), (0, u "java/lang/Comparable"), (0, .class_ 4), (0, u "java/lang/Object")] 7

/-- java/lang/Comparable -/
def k3 : Class := { plain "java/lang/Comparable" (some 0) with
  accessFlags := 1537
  interfaces := #[]
  cf := some (fileOf pool3 1 #[] #[] 1537 3 #[] #[])
  fields := #[]
  methods := #[]
  instanceTypes := #[]
  staticTypes := #[]
  resolved := Array.replicate 12 none
  statics := none }

def pool4 : Array CpInfo := pool [(1, .class_ 2), (0, u "java/io/Serializable"), (0, .class_ 4), (0, u "java/lang/Object")] 2

/-- java/io/Serializable -/
def k4 : Class := { plain "java/io/Serializable" (some 0) with
  accessFlags := 1537
  interfaces := #[]
  cf := some (fileOf pool4 1 #[] #[] 1537 3 #[] #[])
  fields := #[]
  methods := #[]
  instanceTypes := #[]
  staticTypes := #[]
  resolved := Array.replicate 7 none
  statics := none }

def pool5 : Array CpInfo := pool [(2, .class_ 4), (1, u "java/lang/Enum"), (0, u "name"), (0, u "Ljava/lang/String;"), (0, .fieldref 2 8), (0, .nameAndType 9 10), (0, u "ordinal"), (0, u "I"), (1, .class_ 14), (1, u "java/lang/Object"), (4, u "hash"), (86, .class_ 108), (1, u "java/lang/Enum$EnumDesc"), (2, .class_ 112), (0, u "java/lang/constant/Constable"), (0, .class_ 114), (0, u "java/lang/Comparable"), (0, .class_ 116), (0, u "java/io/Serializable"), (9, u "()I")] 77

def k5c0 : Code := { maxStack := 1, maxLocals := 1, code := jdk_37_method_2_code, exceptionTable := #[], attributes := #[] }
def k5m0 : Method := { name := "ordinal", desc := "()I", sig := { parameters := [], returnType := some .int }, accessFlags := 17, code := some k5c0 }
/-- java/lang/Enum -/
def k5 : Class := { plain "java/lang/Enum" (some 0) with
  accessFlags := 1057
  interfaces := #[2, 3, 4]
  cf := some (fileOf pool5 2 #[.nestMembers #[106]] #[{ accessFlags := 17, nameIndex := 9, descriptorIndex := 126, attributes := #[] }] 1057 12 #[111, 113, 115] #[{ accessFlags := 18, nameIndex := 5, descriptorIndex := 6, attributes := #[] }, { accessFlags := 18, nameIndex := 9, descriptorIndex := 10, attributes := #[] }, { accessFlags := 2, nameIndex := 19, descriptorIndex := 10, attributes := #[] }])
  fields := #[{ name := "name", type := (.object "java/lang/String"), accessFlags := 18, slot := 0, constantValue := 0 }, { name := "ordinal", type := .int, accessFlags := 18, slot := 1, constantValue := 0 }, { name := "hash", type := .int, accessFlags := 2, slot := 2, constantValue := 0 }]
  methods := #[k5m0]
  instanceTypes := #[(.object "java/lang/String"), .int, .int]
  staticTypes := #[]
  resolved := Array.replicate 204 none
  statics := none }

def pool6 : Array CpInfo := pool [(2, .class_ 4), (1, u "com/example/manysort/manysort/language/Written"), (8, .class_ 14), (0, u "java/lang/Object")] 11

/-- com/example/manysort/manysort/language/Written -/
def k6 : Class := { plain "com/example/manysort/manysort/language/Written" (some 0) with
  accessFlags := 1536
  interfaces := #[]
  cf := some (fileOf pool6 2 #[] #[] 1536 13 #[] #[])
  fields := #[]
  methods := #[]
  instanceTypes := #[]
  staticTypes := #[]
  resolved := Array.replicate 26 none
  statics := none }

def pool7 : Array CpInfo := pool [(1, .class_ 2), (0, u "com/example/manysort/manysort/language/Comparison$Relation"), (0, .fieldref 1 4), (0, .nameAndType 5 6), (0, u "EQUAL"), (0, u "Lcom/example/manysort/manysort/language/Comparison$Relation;"), (0, .fieldref 1 8), (0, .nameAndType 9 6), (0, u "NOT_EQUAL"), (0, .fieldref 1 11), (0, .nameAndType 12 6), (0, u "LESS"), (0, .fieldref 1 14), (0, .nameAndType 15 6), (0, u "LESS_OR_EQUAL"), (0, .fieldref 1 17), (0, .nameAndType 18 6), (0, u "GREATER"), (0, .fieldref 1 20), (0, .nameAndType 21 6), (0, u "GREATER_OR_EQUAL"), (2, u "$VALUES"), (0, u "[Lcom/example/manysort/manysort/language/Comparison$Relation;"), (6, .class_ 34), (1, u "java/lang/Enum"), (8, u "symbol"), (0, u "Ljava/lang/String;"), (5, .class_ 52), (1, u "com/example/manysort/manysort/language/Written"), (2, .methodref 1 56), (0, .nameAndType 57 58), (0, u "ordinal"), (0, u "()I"), (5, .methodref 65 66), (0, .class_ 67), (0, .nameAndType 68 69), (0, u "com/example/manysort/manysort/language/Comparison"), (0, u "order"), (0, u "(Lcom/example/manysort/manysort/language/Term;Lcom/example/manysort/manysort/language/Term;)I"), (33, u "orders"), (0, u "()Z"), (2, u "()Lcom/example/manysort/manysort/language/Comparison$Relation;"), (0, u "converse"), (0, u "holds"), (0, u "(Lcom/example/manysort/manysort/language/Term;Lcom/example/manysort/manysort/language/Term;)Z")] 8

def k7c0 : Code := { maxStack := 2, maxLocals := 1, code := prog_21_method_6_code, exceptionTable := #[], attributes := #[] }
def k7m0 : Method := { name := "orders", desc := "()Z", sig := { parameters := [], returnType := some .boolean }, accessFlags := 0, code := some k7c0 }
def k7c1 : Code := { maxStack := 4, maxLocals := 1, code := prog_21_method_8_code, exceptionTable := #[], attributes := #[] }
def k7m1 : Method := { name := "converse", desc := "()Lcom/example/manysort/manysort/language/Comparison$Relation;", sig := { parameters := [], returnType := some (.object "com/example/manysort/manysort/language/Comparison$Relation") }, accessFlags := 1, code := some k7c1 }
def k7c2 : Code := { maxStack := 4, maxLocals := 4, code := prog_21_method_9_code, exceptionTable := #[], attributes := #[] }
def k7m2 : Method := { name := "holds", desc := "(Lcom/example/manysort/manysort/language/Term;Lcom/example/manysort/manysort/language/Term;)Z", sig := { parameters := [(.object "com/example/manysort/manysort/language/Term"), (.object "com/example/manysort/manysort/language/Term")], returnType := some .boolean }, accessFlags := 0, code := some k7c2 }
/-- com/example/manysort/manysort/language/Comparison$Relation -/
def k7 : Class := { plain "com/example/manysort/manysort/language/Comparison$Relation" (some 5) with
  accessFlags := 16433
  interfaces := #[6]
  cf := some (fileOf pool7 1 #[.nestHost 65] #[{ accessFlags := 0, nameIndex := 103, descriptorIndex := 104, attributes := #[] }, { accessFlags := 1, nameIndex := 108, descriptorIndex := 107, attributes := #[] }, { accessFlags := 0, nameIndex := 109, descriptorIndex := 110, attributes := #[] }] 16433 32 #[50] #[{ accessFlags := 16409, nameIndex := 5, descriptorIndex := 6, attributes := #[] }, { accessFlags := 16409, nameIndex := 9, descriptorIndex := 6, attributes := #[] }, { accessFlags := 16409, nameIndex := 12, descriptorIndex := 6, attributes := #[] }, { accessFlags := 16409, nameIndex := 15, descriptorIndex := 6, attributes := #[] }, { accessFlags := 16409, nameIndex := 18, descriptorIndex := 6, attributes := #[] }, { accessFlags := 16409, nameIndex := 21, descriptorIndex := 6, attributes := #[] }, { accessFlags := 18, nameIndex := 43, descriptorIndex := 44, attributes := #[] }, { accessFlags := 4122, nameIndex := 24, descriptorIndex := 25, attributes := #[] }])
  fields := #[{ name := "EQUAL", type := (.object "com/example/manysort/manysort/language/Comparison$Relation"), accessFlags := 16409, slot := 0, constantValue := 0 }, { name := "NOT_EQUAL", type := (.object "com/example/manysort/manysort/language/Comparison$Relation"), accessFlags := 16409, slot := 1, constantValue := 0 }, { name := "LESS", type := (.object "com/example/manysort/manysort/language/Comparison$Relation"), accessFlags := 16409, slot := 2, constantValue := 0 }, { name := "LESS_OR_EQUAL", type := (.object "com/example/manysort/manysort/language/Comparison$Relation"), accessFlags := 16409, slot := 3, constantValue := 0 }, { name := "GREATER", type := (.object "com/example/manysort/manysort/language/Comparison$Relation"), accessFlags := 16409, slot := 4, constantValue := 0 }, { name := "GREATER_OR_EQUAL", type := (.object "com/example/manysort/manysort/language/Comparison$Relation"), accessFlags := 16409, slot := 5, constantValue := 0 }, { name := "symbol", type := (.object "java/lang/String"), accessFlags := 18, slot := 3, constantValue := 0 }, { name := "$VALUES", type := (.array (.object "com/example/manysort/manysort/language/Comparison$Relation")), accessFlags := 4122, slot := 6, constantValue := 0 }]
  methods := #[k7m0, k7m1, k7m2]
  instanceTypes := #[(.object "java/lang/String"), .int, .int, (.object "java/lang/String")]
  staticTypes := #[(.object "com/example/manysort/manysort/language/Comparison$Relation"), (.object "com/example/manysort/manysort/language/Comparison$Relation"), (.object "com/example/manysort/manysort/language/Comparison$Relation"), (.object "com/example/manysort/manysort/language/Comparison$Relation"), (.object "com/example/manysort/manysort/language/Comparison$Relation"), (.object "com/example/manysort/manysort/language/Comparison$Relation"), (.array (.object "com/example/manysort/manysort/language/Comparison$Relation"))]
  resolved := Array.replicate 119 none
  statics := some 0 }

def pool8 : Array CpInfo := pool [(1, .methodref 2 3), (0, .class_ 4), (0, .nameAndType 5 6), (0, u "java/lang/Object"), (0, u "<init>"), (0, u "()V"), (10, .class_ 19), (1, u "com/example/manysort/manysort/language/Term")] 122

def k8c0 : Code := { maxStack := 1, maxLocals := 1, code := prog_101_method_1_code, exceptionTable := #[], attributes := #[] }
def k8m0 : Method := { name := "<init>", desc := "()V", sig := { parameters := [], returnType := none }, accessFlags := 0, code := some k8c0 }
/-- com/example/manysort/manysort/language/Term -/
def k8 : Class := { plain "com/example/manysort/manysort/language/Term" (some 0) with
  accessFlags := 1057
  interfaces := #[]
  cf := some (fileOf pool8 17 #[] #[{ accessFlags := 0, nameIndex := 5, descriptorIndex := 6, attributes := #[] }] 1057 2 #[] #[])
  fields := #[]
  methods := #[k8m0]
  instanceTypes := #[]
  staticTypes := #[]
  resolved := Array.replicate 142 none
  statics := none }

def pool9 : Array CpInfo := pool [(1, .methodref 2 3), (0, .class_ 4), (0, .nameAndType 5 6), (0, u "com/example/manysort/manysort/language/NaturalNumber"), (0, u "<init>"), (0, u "(ILjava/lang/String;)V"), (0, .methodref 8 9), (0, .class_ 10), (0, .nameAndType 5 11), (0, u "com/example/manysort/manysort/language/Term"), (0, u "()V"), (0, .fieldref 2 13), (0, .nameAndType 14 15), (0, u "value"), (0, u "I"), (0, .fieldref 2 17), (0, .nameAndType 18 19), (0, u "written"), (0, u "Ljava/lang/String;"), (25, u "(I)V"), (4, u "getValue"), (0, u "()I")] 22

def k9c0 : Code := { maxStack := 3, maxLocals := 2, code := prog_63_method_1_code, exceptionTable := #[], attributes := #[] }
def k9m0 : Method := { name := "<init>", desc := "(I)V", sig := { parameters := [.int], returnType := none }, accessFlags := 0, code := some k9c0 }
def k9c1 : Code := { maxStack := 2, maxLocals := 3, code := prog_63_method_2_code, exceptionTable := #[], attributes := #[] }
def k9m1 : Method := { name := "<init>", desc := "(ILjava/lang/String;)V", sig := { parameters := [.int, (.object "java/lang/String")], returnType := none }, accessFlags := 2, code := some k9c1 }
def k9c2 : Code := { maxStack := 1, maxLocals := 1, code := prog_63_method_4_code, exceptionTable := #[], attributes := #[] }
def k9m2 : Method := { name := "getValue", desc := "()I", sig := { parameters := [], returnType := some .int }, accessFlags := 1, code := some k9c2 }
/-- com/example/manysort/manysort/language/NaturalNumber -/
def k9 : Class := { plain "com/example/manysort/manysort/language/NaturalNumber" (some 8) with
  accessFlags := 49
  interfaces := #[]
  cf := some (fileOf pool9 2 #[] #[{ accessFlags := 0, nameIndex := 5, descriptorIndex := 45, attributes := #[] }, { accessFlags := 2, nameIndex := 5, descriptorIndex := 6, attributes := #[] }, { accessFlags := 1, nameIndex := 50, descriptorIndex := 51, attributes := #[] }] 49 8 #[] #[{ accessFlags := 18, nameIndex := 14, descriptorIndex := 15, attributes := #[] }, { accessFlags := 18, nameIndex := 18, descriptorIndex := 19, attributes := #[] }])
  fields := #[{ name := "value", type := .int, accessFlags := 18, slot := 0, constantValue := 0 }, { name := "written", type := (.object "java/lang/String"), accessFlags := 18, slot := 1, constantValue := 0 }]
  methods := #[k9m0, k9m1, k9m2]
  instanceTypes := #[.int, (.object "java/lang/String")]
  staticTypes := #[]
  resolved := Array.replicate 74 none
  statics := none }

def pool10 : Array CpInfo := pool [(2, .class_ 4), (1, u "java/lang/Object"), (0, u "<init>"), (0, u "()V"), (19, .class_ 27), (0, u "com/example/manysort/manysort/language/BodyItem")] 34

def k10m0 : Method := { name := "<init>", desc := "()V", sig := { parameters := [], returnType := none }, accessFlags := 0, code := none }
/-- com/example/manysort/manysort/language/BodyItem -/
def k10 : Class := { plain "com/example/manysort/manysort/language/BodyItem" (some 0) with
  accessFlags := 1057
  interfaces := #[]
  cf := some (fileOf pool10 26 #[] #[{ accessFlags := 0, nameIndex := 5, descriptorIndex := 6, attributes := #[] }] 1057 2 #[] #[])
  fields := #[]
  methods := #[k10m0]
  instanceTypes := #[]
  staticTypes := #[]
  resolved := Array.replicate 62 none
  statics := none }

def pool11 : Array CpInfo := pool [(2, .class_ 4), (1, u "com/example/manysort/manysort/language/BodyItem"), (3, .class_ 10), (1, u "com/example/manysort/manysort/language/Comparison"), (0, u "left"), (0, u "Lcom/example/manysort/manysort/language/Term;"), (2, u "relation"), (0, u "Lcom/example/manysort/manysort/language/Comparison$Relation;"), (2, u "right"), (2, u "line"), (0, u "I"), (2, u "column"), (0, .class_ 28), (0, u "com/example/manysort/manysort/language/NaturalNumber"), (0, .methodref 27 30), (0, .nameAndType 31 32), (0, u "getValue"), (0, u "()I"), (0, .methodref 34 35), (0, .class_ 36), (0, .nameAndType 37 38), (0, u "java/lang/Integer"), (0, u "compare"), (0, u "(II)I"), (25, .methodref 8 65), (0, .nameAndType 66 67), (0, u "order"), (0, u "(Lcom/example/manysort/manysort/language/Term;Lcom/example/manysort/manysort/language/Term;)I"), (32, .class_ 101), (0, u "com/example/manysort/manysort/language/Comparison$Relation")] 2

def k11c0 : Code := { maxStack := 3, maxLocals := 6, code := prog_20_method_7_code, exceptionTable := #[], attributes := #[] }
def k11m0 : Method := { name := "order", desc := "(Lcom/example/manysort/manysort/language/Term;Lcom/example/manysort/manysort/language/Term;)I", sig := { parameters := [(.object "com/example/manysort/manysort/language/Term"), (.object "com/example/manysort/manysort/language/Term")], returnType := some .int }, accessFlags := 8, code := some k11c0 }
/-- com/example/manysort/manysort/language/Comparison -/
def k11 : Class := { plain "com/example/manysort/manysort/language/Comparison" (some 10) with
  accessFlags := 49
  interfaces := #[]
  cf := some (fileOf pool11 8 #[.nestMembers #[100]] #[{ accessFlags := 8, nameIndex := 66, descriptorIndex := 67, attributes := #[] }] 49 2 #[] #[{ accessFlags := 18, nameIndex := 11, descriptorIndex := 12, attributes := #[] }, { accessFlags := 18, nameIndex := 15, descriptorIndex := 16, attributes := #[] }, { accessFlags := 18, nameIndex := 19, descriptorIndex := 12, attributes := #[] }, { accessFlags := 18, nameIndex := 22, descriptorIndex := 23, attributes := #[] }, { accessFlags := 18, nameIndex := 26, descriptorIndex := 23, attributes := #[] }])
  fields := #[{ name := "left", type := (.object "com/example/manysort/manysort/language/Term"), accessFlags := 18, slot := 0, constantValue := 0 }, { name := "relation", type := (.object "com/example/manysort/manysort/language/Comparison$Relation"), accessFlags := 18, slot := 1, constantValue := 0 }, { name := "right", type := (.object "com/example/manysort/manysort/language/Term"), accessFlags := 18, slot := 2, constantValue := 0 }, { name := "line", type := .int, accessFlags := 18, slot := 3, constantValue := 0 }, { name := "column", type := .int, accessFlags := 18, slot := 4, constantValue := 0 }]
  methods := #[k11m0]
  instanceTypes := #[(.object "com/example/manysort/manysort/language/Term"), (.object "com/example/manysort/manysort/language/Comparison$Relation"), (.object "com/example/manysort/manysort/language/Term"), .int, .int]
  staticTypes := #[]
  resolved := Array.replicate 104 none
  statics := none }

def pool12 : Array CpInfo := pool [(2, .class_ 4), (1, u "java/lang/Object"), (0, u "<init>"), (0, u "()V"), (1, .class_ 10), (1, u "java/lang/Number"), (2, .class_ 14), (0, u "java/io/Serializable"), (0, u "serialVersionUID"), (0, u "J")] 20

def k12m0 : Method := { name := "<init>", desc := "()V", sig := { parameters := [], returnType := none }, accessFlags := 1, code := none }
/-- java/lang/Number -/
def k12 : Class := { plain "java/lang/Number" (some 0) with
  accessFlags := 1057
  interfaces := #[4]
  cf := some (fileOf pool12 8 #[] #[{ accessFlags := 1, nameIndex := 5, descriptorIndex := 6, attributes := #[] }] 1057 2 #[13] #[{ accessFlags := 26, nameIndex := 15, descriptorIndex := 16, attributes := #[] }])
  fields := #[{ name := "serialVersionUID", type := .long, accessFlags := 26, slot := 0, constantValue := 0 }]
  methods := #[k12m0]
  instanceTypes := #[]
  staticTypes := #[.long]
  resolved := Array.replicate 37 none
  statics := none }

def pool13 : Array CpInfo := pool [(1, .class_ 2), (0, u "java/lang/constant/ConstantDesc"), (0, .class_ 4), (0, u "java/lang/Object")] 32

/-- java/lang/constant/ConstantDesc -/
def k13 : Class := { plain "java/lang/constant/ConstantDesc" (some 0) with
  accessFlags := 1537
  interfaces := #[]
  cf := some (fileOf pool13 1 #[] #[] 1537 3 #[] #[])
  fields := #[]
  methods := #[]
  instanceTypes := #[]
  staticTypes := #[]
  resolved := Array.replicate 37 none
  statics := none }

def pool14 : Array CpInfo := pool [(1, .class_ 2), (0, u "java/lang/Integer"), (16, u "digits"), (0, u "[C"), (39, u "(II)I"), (24, u "DigitOnes"), (0, u "[B"), (2, u "DigitTens"), (99, .class_ 190), (0, u "java/lang/Integer$IntegerCache"), (3, u "I"), (8, .class_ 204), (0, u "java/lang/Number"), (2, u "value"), (53, u "compare"), (40, u "TYPE"), (0, u "Ljava/lang/Class;"), (0, .class_ 305), (0, u "java/lang/Comparable"), (0, .class_ 307), (0, u "java/lang/constant/Constable"), (0, .class_ 309), (0, u "java/lang/constant/ConstantDesc"), (0, u "MIN_VALUE"), (1, u "MAX_VALUE"), (3, u "SIZE"), (1, u "BYTES"), (1, u "serialVersionUID"), (0, u "J")] 131

def k14c0 : Code := { maxStack := 2, maxLocals := 2, code := jdk_33_method_40_code, exceptionTable := #[], attributes := #[] }
def k14m0 : Method := { name := "compare", desc := "(II)I", sig := { parameters := [.int, .int], returnType := some .int }, accessFlags := 9, code := some k14c0 }
/-- java/lang/Integer -/
def k14 : Class := { plain "java/lang/Integer" (some 12) with
  accessFlags := 49
  interfaces := #[3, 2, 13]
  cf := some (fileOf pool14 1 #[.nestMembers #[189]] #[{ accessFlags := 9, nameIndex := 261, descriptorIndex := 60, attributes := #[] }] 49 203 #[304, 306, 308] #[{ accessFlags := 25, nameIndex := 310, descriptorIndex := 194, attributes := #[] }, { accessFlags := 25, nameIndex := 312, descriptorIndex := 194, attributes := #[] }, { accessFlags := 25, nameIndex := 302, descriptorIndex := 303, attributes := #[] }, { accessFlags := 24, nameIndex := 19, descriptorIndex := 20, attributes := #[] }, { accessFlags := 24, nameIndex := 89, descriptorIndex := 86, attributes := #[] }, { accessFlags := 24, nameIndex := 85, descriptorIndex := 86, attributes := #[] }, { accessFlags := 18, nameIndex := 207, descriptorIndex := 194, attributes := #[] }, { accessFlags := 25, nameIndex := 316, descriptorIndex := 194, attributes := #[] }, { accessFlags := 25, nameIndex := 318, descriptorIndex := 194, attributes := #[] }, { accessFlags := 26, nameIndex := 320, descriptorIndex := 321, attributes := #[] }])
  fields := #[{ name := "MIN_VALUE", type := .int, accessFlags := 25, slot := 0, constantValue := 0 }, { name := "MAX_VALUE", type := .int, accessFlags := 25, slot := 1, constantValue := 0 }, { name := "TYPE", type := (.object "java/lang/Class"), accessFlags := 25, slot := 2, constantValue := 0 }, { name := "digits", type := (.array .char), accessFlags := 24, slot := 3, constantValue := 0 }, { name := "DigitTens", type := (.array .byte), accessFlags := 24, slot := 4, constantValue := 0 }, { name := "DigitOnes", type := (.array .byte), accessFlags := 24, slot := 5, constantValue := 0 }, { name := "value", type := .int, accessFlags := 18, slot := 0, constantValue := 0 }, { name := "SIZE", type := .int, accessFlags := 25, slot := 6, constantValue := 0 }, { name := "BYTES", type := .int, accessFlags := 25, slot := 7, constantValue := 0 }, { name := "serialVersionUID", type := .long, accessFlags := 26, slot := 8, constantValue := 0 }]
  methods := #[k14m0]
  instanceTypes := #[.int]
  staticTypes := #[.int, .int, (.object "java/lang/Class"), (.array .char), (.array .byte), (.array .byte), .int, .int, .long]
  resolved := Array.replicate 453 none
  statics := none }

def pool15 : Array CpInfo := pool [(1, u "java/lang/Cloneable"), (0, .class_ 1), (0, u "java/lang/Object"), (0, .class_ 3)] 3

/-- java/lang/Cloneable -/
def k15 : Class := { plain "java/lang/Cloneable" (some 0) with
  accessFlags := 1537
  interfaces := #[]
  cf := some (fileOf pool15 2 #[] #[] 1537 4 #[] #[])
  fields := #[]
  methods := #[]
  instanceTypes := #[]
  staticTypes := #[]
  resolved := Array.replicate 8 none
  statics := none }

/-- the primitive byte -/
def k16 : Class := { plain "byte" none with kind := .primitive 'B', accessFlags := 0x411 }
/-- [B -/
def k17 : Class := { plain "[B" (some 0) with kind := .array 16 .byte, interfaces := #[15, 4], accessFlags := 1041 }

/-- the primitive int -/
def k18 : Class := { plain "int" none with kind := .primitive 'I', accessFlags := 0x411 }
/-- [I -/
def k19 : Class := { plain "[I" (some 0) with kind := .array 18 .int, interfaces := #[15, 4], accessFlags := 1041 }

def heap : Heap := #[{ cls := 7, slots := #[.ref 1, .ref 2, .ref 3, .ref 6, .ref 4, .ref 5, .null], vm := .statics 7 },
  { cls := 7, slots := #[.null, .int 0, .int 0, .null], vm := .none },
  { cls := 7, slots := #[.null, .int 1, .int 0, .null], vm := .none },
  { cls := 7, slots := #[.null, .int 2, .int 0, .null], vm := .none },
  { cls := 7, slots := #[.null, .int 4, .int 0, .null], vm := .none },
  { cls := 7, slots := #[.null, .int 5, .int 0, .null], vm := .none },
  { cls := 7, slots := #[.null, .int 3, .int 0, .null], vm := .none }]
def classes : Array Class := #[k0, k1, k2, k3, k4, k5, k6, k7, k8, k9, k10, k11, k12, k13, k14, k15, k16, k17, k18, k19]
def interned : List (Array UInt16 × Addr) := []
def slotsUsed : Nat := 31
def theMethod : MethodId := ⟨1, 2⟩
def args0 : Array Value := #[.int 5, .int 7, .int 9]
def aboutOver (below : List Frame) : State where
  vm := { classes := classes, interned := interned.toArray }
  heap := heap
  slotsUsed := slotsUsed
  threads := #[{ frames := .invoking theMethod args0 :: below }]
def below0 : List Frame := [.native { method := ⟨0, 0⟩, args := #[] }]
def about1 : State := aboutOver below0
def p0 : Program := .bare "" "" ""
def e0 : Env := launch0.env 0 0 0
theorem w_frames : about1.frames = Frame.invoking theMethod args0 :: below0 := rfl
set_option maxRecDepth 65536 in
theorem w_args : argsFit about1.vm theMethod args0 = true := by decide +kernel
set_option maxRecDepth 65536 in
theorem w_heap : heapFits about1 = true := by decide +kernel
set_option maxRecDepth 65536 in
theorem w_runnable : about1.curStatus? = some .runnable := by decide +kernel
set_option maxRecDepth 65536 in
theorem w_alone : about1.alone = true := by decide +kernel
set_option maxRecDepth 65536 in
theorem w_named : about1.methodNamed? x = some theMethod := by decide +kernel
set_option maxRecDepth 65536 in
theorem w_hears : about1.hears theMethod below0 = true := by decide +kernel
set_option maxRecDepth 65536 in
theorem w_ripe : about1.ripe theMethod args0 below0 = true := by decide +kernel
theorem w_running : about1.status = .running := rfl
set_option maxRecDepth 65536 in
theorem w_room : about1.hasRoom e0.platform room_1 = true :=
  launch0.hasRoom_least _ room_1 (by decide +kernel) (by decide +kernel) (by decide +kernel) (by decide +kernel) (by decide +kernel) (by decide +kernel)
theorem allAtoms_all (ts : List Jvm.Cond) (a : Array Jvm.Value) (st : Jvm.State) : (allAtoms ts).before a st = ts.all (fun c => c.before a st) := by
  induction ts with
  | nil => rfl
  | cons c t ih =>
    show (Jvm.Cond.and c (allAtoms t)).before a st = _
    rw [Jvm.Cond.before_and, ih, List.all_cons]
def words1 : List Jvm.Cond := Jvm.Cond.code x code maxLocals ret :: tables_1
/-- a 'code' word, met by the world's own term for the bytes: nothing is compared byte by byte -/
theorem code_word {y : MethodName} {bytes : ByteArray} {mx : Nat} {rt : Option FieldType} {a : Array Value} {s : State} {m : MethodId} {meth : Method} {c : Code} (h1 : s.methodNamed? y = some m) (h2 : s.vm.method? m = some meth) (h3 : meth.code = some c) (h4 : c.code = bytes)
    (h5 : (c.maxLocals == mx && c.exceptionTable.isEmpty && decide (c.maxStack ≤ mostOperands) && decide (meth.sig.returnType = rt) && !meth.locks && decide (parseMethodDescriptor y.desc = some meth.sig)) = true) : (Jvm.Cond.code y bytes mx rt).before a s = true := by
  simp only [Bool.and_eq_true, beq_iff_eq, Bool.not_eq_true', decide_eq_true_eq] at h5
  obtain ⟨⟨⟨⟨⟨g1, g2⟩, g3⟩, g4⟩, g5⟩, g6⟩ := h5
  simp [Cond.before, Cond.holds, Cond.value, h1, h2, h3, h4, g1, g2, g3, g4, g5, g6]
def isCode : Jvm.Cond → Bool
  | .code _ _ _ _ => true
  | _ => false
theorem all_split {L : List Jvm.Cond} {P : Jvm.Cond → Bool} (h1 : L.all (fun c => isCode c || P c) = true) (h2 : ∀ c ∈ L.filter isCode, P c = true) : L.all P = true := by
  refine List.all_eq_true.mpr fun c hc => ?_
  have h := List.all_eq_true.mp h1 c hc
  rcases Bool.eq_false_or_eq_true (isCode c) with hi | hi
  · exact h2 c (List.mem_filter.mpr ⟨hc, hi⟩)
  · simpa [hi] using h
set_option maxRecDepth 65536 in
theorem w_c0 : (Jvm.Cond.code x code maxLocals ret).before args0 about1 = true := code_word (m := ⟨1, 2⟩) (meth := k1m2) (c := k1c2) (by decide +kernel) rfl rfl rfl (by decide +kernel)
set_option maxRecDepth 65536 in
theorem w_c1 : (Jvm.Cond.code ({ cls := "com/example/manysort/manysort/language/RelationOrdersPinLaw", name := "pick", desc := "(I)Lcom/example/manysort/manysort/language/Comparison$Relation;" } : Jvm.MethodName) method_2_code (1 : Nat) (Option.some (Jvm.ClassFile.FieldType.object "com/example/manysort/manysort/language/Comparison$Relation"))).before args0 about1 = true := code_word (m := ⟨1, 1⟩) (meth := k1m1) (c := k1c1) (by decide +kernel) rfl rfl rfl (by decide +kernel)
set_option maxRecDepth 65536 in
theorem w_c2 : (Jvm.Cond.code ({ cls := "com/example/manysort/manysort/language/NaturalNumber", name := "<init>", desc := "(I)V" } : Jvm.MethodName) prog_63_method_1_code (2 : Nat) (Option.none : Option Jvm.ClassFile.FieldType)).before args0 about1 = true := code_word (m := ⟨9, 0⟩) (meth := k9m0) (c := k9c0) (by decide +kernel) rfl rfl rfl (by decide +kernel)
set_option maxRecDepth 65536 in
theorem w_c3 : (Jvm.Cond.code ({ cls := "com/example/manysort/manysort/language/NaturalNumber", name := "<init>", desc := "(ILjava/lang/String;)V" } : Jvm.MethodName) prog_63_method_2_code (3 : Nat) (Option.none : Option Jvm.ClassFile.FieldType)).before args0 about1 = true := code_word (m := ⟨9, 1⟩) (meth := k9m1) (c := k9c1) (by decide +kernel) rfl rfl rfl (by decide +kernel)
set_option maxRecDepth 65536 in
theorem w_c4 : (Jvm.Cond.code ({ cls := "com/example/manysort/manysort/language/Term", name := "<init>", desc := "()V" } : Jvm.MethodName) prog_101_method_1_code (1 : Nat) (Option.none : Option Jvm.ClassFile.FieldType)).before args0 about1 = true := code_word (m := ⟨8, 0⟩) (meth := k8m0) (c := k8c0) (by decide +kernel) rfl rfl rfl (by decide +kernel)
set_option maxRecDepth 65536 in
theorem w_c5 : (Jvm.Cond.code ({ cls := "java/lang/Object", name := "<init>", desc := "()V" } : Jvm.MethodName) object_method_1_code (1 : Nat) (Option.none : Option Jvm.ClassFile.FieldType)).before args0 about1 = true := code_word (m := ⟨0, 0⟩) (meth := k0m0) (c := k0c0) (by decide +kernel) rfl rfl rfl (by decide +kernel)
set_option maxRecDepth 65536 in
theorem w_c6 : (Jvm.Cond.code ({ cls := "com/example/manysort/manysort/language/Comparison$Relation", name := "orders", desc := "()Z" } : Jvm.MethodName) prog_21_method_6_code (1 : Nat) (Option.some Jvm.ClassFile.FieldType.boolean)).before args0 about1 = true := code_word (m := ⟨7, 0⟩) (meth := k7m0) (c := k7c0) (by decide +kernel) rfl rfl rfl (by decide +kernel)
set_option maxRecDepth 65536 in
theorem w_c7 : (Jvm.Cond.code ({ cls := "com/example/manysort/manysort/language/Comparison$Relation", name := "holds", desc := "(Lcom/example/manysort/manysort/language/Term;Lcom/example/manysort/manysort/language/Term;)Z" } : Jvm.MethodName) prog_21_method_9_code (4 : Nat) (Option.some Jvm.ClassFile.FieldType.boolean)).before args0 about1 = true := code_word (m := ⟨7, 2⟩) (meth := k7m2) (c := k7c2) (by decide +kernel) rfl rfl rfl (by decide +kernel)
set_option maxRecDepth 65536 in
theorem w_c8 : (Jvm.Cond.code ({ cls := "com/example/manysort/manysort/language/Comparison", name := "order", desc := "(Lcom/example/manysort/manysort/language/Term;Lcom/example/manysort/manysort/language/Term;)I" } : Jvm.MethodName) prog_20_method_7_code (6 : Nat) (Option.some Jvm.ClassFile.FieldType.int)).before args0 about1 = true := code_word (m := ⟨11, 0⟩) (meth := k11m0) (c := k11c0) (by decide +kernel) rfl rfl rfl (by decide +kernel)
set_option maxRecDepth 65536 in
theorem w_c9 : (Jvm.Cond.code ({ cls := "com/example/manysort/manysort/language/NaturalNumber", name := "getValue", desc := "()I" } : Jvm.MethodName) prog_63_method_4_code (1 : Nat) (Option.some Jvm.ClassFile.FieldType.int)).before args0 about1 = true := code_word (m := ⟨9, 2⟩) (meth := k9m2) (c := k9c2) (by decide +kernel) rfl rfl rfl (by decide +kernel)
set_option maxRecDepth 65536 in
theorem w_c10 : (Jvm.Cond.code ({ cls := "java/lang/Integer", name := "compare", desc := "(II)I" } : Jvm.MethodName) jdk_33_method_40_code (2 : Nat) (Option.some Jvm.ClassFile.FieldType.int)).before args0 about1 = true := code_word (m := ⟨14, 0⟩) (meth := k14m0) (c := k14c0) (by decide +kernel) rfl rfl rfl (by decide +kernel)
set_option maxRecDepth 65536 in
theorem w_c11 : (Jvm.Cond.code ({ cls := "java/lang/Enum", name := "ordinal", desc := "()I" } : Jvm.MethodName) jdk_37_method_2_code (1 : Nat) (Option.some Jvm.ClassFile.FieldType.int)).before args0 about1 = true := code_word (m := ⟨5, 0⟩) (meth := k5m0) (c := k5c0) (by decide +kernel) rfl rfl rfl (by decide +kernel)
set_option maxRecDepth 65536 in
theorem w_c12 : (Jvm.Cond.code ({ cls := "com/example/manysort/manysort/language/Comparison$Relation", name := "converse", desc := "()Lcom/example/manysort/manysort/language/Comparison$Relation;" } : Jvm.MethodName) prog_21_method_8_code (1 : Nat) (Option.some (Jvm.ClassFile.FieldType.object "com/example/manysort/manysort/language/Comparison$Relation"))).before args0 about1 = true := code_word (m := ⟨7, 1⟩) (meth := k7m1) (c := k7c1) (by decide +kernel) rfl rfl rfl (by decide +kernel)
def codes1 : List Jvm.Cond := [Jvm.Cond.code x code maxLocals ret, Jvm.Cond.code ({ cls := "com/example/manysort/manysort/language/RelationOrdersPinLaw", name := "pick", desc := "(I)Lcom/example/manysort/manysort/language/Comparison$Relation;" } : Jvm.MethodName) method_2_code (1 : Nat) (Option.some (Jvm.ClassFile.FieldType.object "com/example/manysort/manysort/language/Comparison$Relation")), Jvm.Cond.code ({ cls := "com/example/manysort/manysort/language/NaturalNumber", name := "<init>", desc := "(I)V" } : Jvm.MethodName) prog_63_method_1_code (2 : Nat) (Option.none : Option Jvm.ClassFile.FieldType), Jvm.Cond.code ({ cls := "com/example/manysort/manysort/language/NaturalNumber", name := "<init>", desc := "(ILjava/lang/String;)V" } : Jvm.MethodName) prog_63_method_2_code (3 : Nat) (Option.none : Option Jvm.ClassFile.FieldType), Jvm.Cond.code ({ cls := "com/example/manysort/manysort/language/Term", name := "<init>", desc := "()V" } : Jvm.MethodName) prog_101_method_1_code (1 : Nat) (Option.none : Option Jvm.ClassFile.FieldType), Jvm.Cond.code ({ cls := "java/lang/Object", name := "<init>", desc := "()V" } : Jvm.MethodName) object_method_1_code (1 : Nat) (Option.none : Option Jvm.ClassFile.FieldType), Jvm.Cond.code ({ cls := "com/example/manysort/manysort/language/Comparison$Relation", name := "orders", desc := "()Z" } : Jvm.MethodName) prog_21_method_6_code (1 : Nat) (Option.some Jvm.ClassFile.FieldType.boolean), Jvm.Cond.code ({ cls := "com/example/manysort/manysort/language/Comparison$Relation", name := "holds", desc := "(Lcom/example/manysort/manysort/language/Term;Lcom/example/manysort/manysort/language/Term;)Z" } : Jvm.MethodName) prog_21_method_9_code (4 : Nat) (Option.some Jvm.ClassFile.FieldType.boolean), Jvm.Cond.code ({ cls := "com/example/manysort/manysort/language/Comparison", name := "order", desc := "(Lcom/example/manysort/manysort/language/Term;Lcom/example/manysort/manysort/language/Term;)I" } : Jvm.MethodName) prog_20_method_7_code (6 : Nat) (Option.some Jvm.ClassFile.FieldType.int), Jvm.Cond.code ({ cls := "com/example/manysort/manysort/language/NaturalNumber", name := "getValue", desc := "()I" } : Jvm.MethodName) prog_63_method_4_code (1 : Nat) (Option.some Jvm.ClassFile.FieldType.int), Jvm.Cond.code ({ cls := "java/lang/Integer", name := "compare", desc := "(II)I" } : Jvm.MethodName) jdk_33_method_40_code (2 : Nat) (Option.some Jvm.ClassFile.FieldType.int), Jvm.Cond.code ({ cls := "java/lang/Enum", name := "ordinal", desc := "()I" } : Jvm.MethodName) jdk_37_method_2_code (1 : Nat) (Option.some Jvm.ClassFile.FieldType.int), Jvm.Cond.code ({ cls := "com/example/manysort/manysort/language/Comparison$Relation", name := "converse", desc := "()Lcom/example/manysort/manysort/language/Comparison$Relation;" } : Jvm.MethodName) prog_21_method_8_code (1 : Nat) (Option.some (Jvm.ClassFile.FieldType.object "com/example/manysort/manysort/language/Comparison$Relation"))]
set_option maxRecDepth 65536 in
theorem codes_eq : words1.filter isCode = codes1 := rfl
theorem w_codes : ∀ c ∈ words1.filter isCode, c.before args0 about1 = true := by
  rw [codes_eq]
  intro c hc
  simp only [codes1, List.mem_cons, List.not_mem_nil, or_false] at hc
  rcases hc with rfl | rfl | rfl | rfl | rfl | rfl | rfl | rfl | rfl | rfl | rfl | rfl | rfl
  · exact w_c0
  · exact w_c1
  · exact w_c2
  · exact w_c3
  · exact w_c4
  · exact w_c5
  · exact w_c6
  · exact w_c7
  · exact w_c8
  · exact w_c9
  · exact w_c10
  · exact w_c11
  · exact w_c12
set_option maxRecDepth 65536 in
theorem w_t1 : (words1.take 24).all (fun c => isCode c || c.before args0 about1) = true := by decide +kernel
set_option maxRecDepth 65536 in
theorem w_t2 : ((words1.drop 24).take 24).all (fun c => isCode c || c.before args0 about1) = true := by decide +kernel
set_option maxRecDepth 65536 in
theorem w_t3 : (((words1.drop 24).drop 24).take 24).all (fun c => isCode c || c.before args0 about1) = true := by decide +kernel
set_option maxRecDepth 65536 in
theorem w_t4 : (((words1.drop 24).drop 24).drop 24).all (fun c => isCode c || c.before args0 about1) = true := by decide +kernel
theorem w_tables : (allAtoms (Jvm.Cond.code x code maxLocals ret :: tables_1)).before args0 about1 = true := by
  rw [allAtoms_all]
  show words1.all (fun c => c.before args0 about1) = true
  refine all_split ?_ w_codes
  rw [← List.take_append_drop 24 words1, List.all_append, w_t1, ← List.take_append_drop 24 (words1.drop 24), List.all_append, w_t2, ← List.take_append_drop 24 ((words1.drop 24).drop 24), List.all_append, w_t3, w_t4]
  rfl
set_option maxRecDepth 65536 in
theorem w_case : (Jvm.Cond.and given_1 narrow_1).before args0 about1 = true := by decide +kernel
theorem w_applies : (headSpec (Jvm.Cond.code x code maxLocals ret :: tables_1) room_1).applies x e0.platform about1 = true :=
  (Spec.applies_iff w_frames).mpr ⟨w_running, w_runnable, w_alone, w_named, w_hears, w_ripe, w_room, w_tables⟩
theorem atStart : AtStart classFile x code maxLocals ret World_1 tables_1 room_1 Calls_1 rest_1 Pre_1 launch0 p0 e0 about1 theMethod args0 below0 :=
  ⟨lists_1, trivial, launch0.admits_env _ _ _, launch0.least_env, fairChoices_fair.cas, fairChoices_fair.clock, w_frames, w_args, w_heap, w_applies, trivial, trivial, w_case⟩
end start1
theorem witness_1 : WitnessClaimed_1 := ⟨start1.p0, start1.e0, start1.about1, start1.theMethod, start1.args0, start1.below0, start1.atStart⟩
end Jvm.Pilot.@@N@@
