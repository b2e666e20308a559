import JvmDerived
import JvmDerived.Pilot.@@N@@Statement
import JvmDerived.Pilot.@@N@@Code
set_option linter.unusedVariables false
set_option linter.unusedSimpArgs false
namespace Jvm.Pilot.@@N@@
open Jvm Jvm.ClassFile Sem Op Lib Jvm.Free Jvm.Stand Jvm.LawKit Jvm.RoadKit Bundle Jvm.Pilot.@@N@@.Jvm.D
/-! OWN PRELUDE (the same text in every proof of this seat): the walk as a goal that goes forward -/
section OwnPrelude
variable {Z : State} {hs : Heap} {W : List Addr} {own : String} {bytes : ByteArray} {maxL : Nat} {ret : Option FieldType} {nm : String}
  {p : Program} {l : Launch} {e : Env} {R : Room} {s : State} {m : MethodId} {args : Array Value} {below : List Frame} {meth : Method} {c : Code}
  {T : State} {h : Heap} {cells slots : Nat} {k n : Nat} {Q : Option Value → Heap → Prop} {a0 : Array Value} {pc : Nat} {Ls : Array Slot} {st rest : List Value}

/-- what stays the same while one body is walked -/
def own_G (Z : State) (hs : Heap) (W : List Addr) (own : String) (bytes : ByteArray) (maxL : Nat) (ret : Option FieldType) (nm : String) (p : Program) (s : State) (m : MethodId) (meth : Method) (c : Code) : Prop :=
  p.tables.exec = Jvm.exec ∧ Z.Warmed39 s.vm ∧ s.vm.findClass own = some m.cls ∧ c.code = bytes ∧ c.maxLocals = maxL ∧ meth.sig.returnType = ret ∧ meth.locks = false ∧ meth.name = nm ∧ Ext Z.heap hs ∧ ∀ a ∈ W, Z.heap.size ≤ a
/-- where the walk stands: state T, heap h, so many cells and slots made; nothing old but W was written -/
def own_S (Z : State) (hs : Heap) (W : List Addr) (own : String) (bytes : ByteArray) (maxL : Nat) (ret : Option FieldType) (nm : String) (p : Program) (l : Launch) (e : Env) (R : Room) (s : State) (m : MethodId) (args : Array Value) (below : List Frame) (meth : Method) (c : Code)
    (T : State) (h : Heap) (cells slots : Nat) : Prop :=
  own_G Z hs W own bytes maxL ret nm p s m meth c ∧ ∃ locs, Stand p l e R s m args below meth c T locs cells slots ∧ Fr Z.heap.size locs ∧ T.heap = h ∧ Keep hs h W
/-- from A the call comes to its end, and there Q holds -/
def own_F (p : Program) (e : Env) (below : List Frame) (s : State) (Z : State) (hs : Heap) (W : List Addr) (k n : Nat) (Q : Option Value → Heap → Prop) (A : State) : Prop :=
  ∃ s₂ o, Steps p.tables e below A s₂ ∧ s₂.status = .running ∧ Ended s₂ below o ∧ ∃ v L, o = .returned v ∧ (Fr Z.heap.size L ∧ Keep hs s₂.heap W ∧ Q v s₂.heap) ∧ FrameEnd s o s₂ L k n
/-- a body's contract -/
def own_C (l : Launch) (Z : State) (y : MethodName) (bytes : ByteArray) (maxL : Nat) (ret : Option FieldType) (ws : List Jvm.Cond) (rm : Room) (W : List Addr) (as' : Array Value) (h0 : Heap) (Q : Option Value → Heap → Prop) : Prop :=
  MetFree l y (head1 (Jvm.Cond.code y bytes maxL ret :: ws) rm) (fun a U => a = as' ∧ Z.Warmed39 U.vm ∧ U.heap = h0) (fun _ _ _ _ _ => True)
    (fun _ U o U' => ∃ v L, o = .returned v ∧ (Fr Z.heap.size L ∧ Keep h0 U'.heap W ∧ Q v U'.heap) ∧ FrameEnd U o U' L rm.cells rm.slots)

theorem own_C.of {y : MethodName} {ws : List Jvm.Cond} {rm : Room} {as' : Array Value} {h0 : Heap} (hpl : plainFor y = true) (hO : Ext Z.heap h0) (hW : ∀ a ∈ W, Z.heap.size ≤ a)
    (body : ∀ p e s m below meth c T, own_S Z h0 W y.cls bytes maxL ret y.name p l e rm s m as' below meth c T h0 0 0 → own_F p e below s Z h0 W rm.cells rm.slots Q (T.setTop (entryFrame m as' maxL))) :
    own_C l Z y bytes maxL ret ws rm W as' h0 Q := by
  refine MetFree.of_bodySF hpl hisR ?_
  intro p e s m args below meth c s₁ Bd hml hP hK
  obtain ⟨rfl, hZ, hh⟩ := hP
  exact body p e s m below meth c s₁ ⟨⟨Bd.exec, hZ, findClass_of_methodNamed Bd.named, Bd.bytes, hml, Bd.returns, Bd.notSynchronized, (name_of_methodNamed Bd.named Bd.method).1, hO, hW⟩, [], Stand.of_body Bd, Fr.nil _, (by rw [← hh, Bd.state]; rfl), Keep.refl _ _⟩

theorem own_F.of {A B : State} (h : ∀ t, Steps p.tables e below B t → Steps p.tables e below A t) (f : own_F p e below s Z hs W k n Q B) : own_F p e below s Z hs W k n Q A := by
  obtain ⟨s₂, o, h1, r⟩ := f
  exact ⟨s₂, o, h _ h1, r⟩
theorem own_F.to {A B : State} (h : Steps p.tables e below A B) (f : own_F p e below s Z hs W k n Q B) : own_F p e below s Z hs W k n Q A := own_F.of (fun _ => h.trans) f
theorem own_F.cast {g g' : JFrame} (q : g = g') (f : own_F p e below s Z hs W k n Q (T.setTop g')) : own_F p e below s Z hs W k n Q (T.setTop g) := q ▸ f
theorem own_F.mono {A : State} {Q' : Option Value → Heap → Prop} (f : own_F p e below s Z hs W k n Q A) (q : ∀ v h, Q v h → Q' v h) : own_F p e below s Z hs W k n Q' A := by
  obtain ⟨s₂, o, h1, h2, h3, v, L, h4, ⟨h5, h6, h7⟩, h8⟩ := f
  exact ⟨s₂, o, h1, h2, h3, v, L, h4, ⟨h5, h6, q _ _ h7⟩, h8⟩
theorem own_C.mono {y : MethodName} {ws : List Jvm.Cond} {rm : Room} {as' : Array Value} {h0 : Heap} {Q' : Option Value → Heap → Prop} (f : own_C l Z y bytes maxL ret ws rm W as' h0 Q) (q : ∀ v h, Q v h → Q' v h) : own_C l Z y bytes maxL ret ws rm W as' h0 Q' := by
  intro p e ha hc hk s m args below hf happ hP hK
  obtain ⟨n, o, h1, h2, h3, v, L, h4, ⟨h5, h6, h7⟩, h8⟩ := f p e ha hc hk s m args below hf happ hP hK
  exact ⟨n, o, h1, h2, h3, v, L, h4, ⟨h5, h6, q _ _ h7⟩, h8⟩

theorem own_S.hx (S : own_S Z hs W own bytes maxL ret nm p l e R s m args below meth c T h cells slots) : p.tables.exec = Jvm.exec := S.1.1
theorem own_S.hZ (S : own_S Z hs W own bytes maxL ret nm p l e R s m args below meth c T h cells slots) : Z.Warmed39 s.vm := S.1.2.1
theorem own_S.hown (S : own_S Z hs W own bytes maxL ret nm p l e R s m args below meth c T h cells slots) : s.vm.findClass own = some m.cls := S.1.2.2.1
theorem own_S.hby (S : own_S Z hs W own bytes maxL ret nm p l e R s m args below meth c T h cells slots) : c.code = bytes := S.1.2.2.2.1
theorem own_S.hml (S : own_S Z hs W own bytes maxL ret nm p l e R s m args below meth c T h cells slots) : c.maxLocals = maxL := S.1.2.2.2.2.1
theorem own_S.hret (S : own_S Z hs W own bytes maxL ret nm p l e R s m args below meth c T h cells slots) : meth.sig.returnType = ret := S.1.2.2.2.2.2.1
theorem own_S.hlk (S : own_S Z hs W own bytes maxL ret nm p l e R s m args below meth c T h cells slots) : meth.locks = false := S.1.2.2.2.2.2.2.1
theorem own_S.hnm (S : own_S Z hs W own bytes maxL ret nm p l e R s m args below meth c T h cells slots) : meth.name = nm := S.1.2.2.2.2.2.2.2.1
theorem own_S.hO (S : own_S Z hs W own bytes maxL ret nm p l e R s m args below meth c T h cells slots) : Ext Z.heap hs := S.1.2.2.2.2.2.2.2.2.1
theorem own_S.hW (S : own_S Z hs W own bytes maxL ret nm p l e R s m args below meth c T h cells slots) : ∀ a ∈ W, Z.heap.size ≤ a := S.1.2.2.2.2.2.2.2.2.2
theorem own_S.keep (S : own_S Z hs W own bytes maxL ret nm p l e R s m args below meth c T h cells slots) : Keep hs h W := by obtain ⟨-, _, -, -, -, K⟩ := S; exact K
theorem own_S.size (S : own_S Z hs W own bytes maxL ret nm p l e R s m args below meth c T h cells slots) : hs.size ≤ h.size := S.keep.1
theorem own_S.old (S : own_S Z hs W own bytes maxL ret nm p l e R s m args below meth c T h cells slots) : Ext Z.heap h :=
  ⟨Nat.le_trans S.hO.1 S.size, fun x cc q => S.keep.2.1 x cc (S.hO.2 x cc q) fun r => absurd (Array.getElem?_eq_some_iff.mp q).1 (Nat.not_lt.mpr (S.hW x r))⟩
theorem own_S.here (S : own_S Z hs W own bytes maxL ret nm p l e R s m args below meth c T h cells slots) : At T m c below := by obtain ⟨-, _, X, -⟩ := S; exact X.here
theorem own_S.dec (S : own_S Z hs W own bytes maxL ret nm p l e R s m args below meth c T h cells slots) {r : Except ClassFile.DecodeError (ClassFile.Instr × Nat)} (h2 : decode bytes pc = r) : decode c.code pc = r := hb S.hby h2
theorem own_S.may (S : own_S Z hs W own bytes maxL ret nm p l e R s m args below meth c T h cells slots) {a : Addr} (q : a ∈ W ∨ hs.size ≤ a) : Z.heap.size ≤ a := q.elim (S.hW a) (Nat.le_trans S.hO.1)
theorem own_S.more (S : own_S Z hs W own bytes maxL ret nm p l e R s m args below meth c T h cells slots) {k' n' : Nat} (hk : cells ≤ k') (hn : slots ≤ n') : own_S Z hs W own bytes maxL ret nm p l e R s m args below meth c T h k' n' := by
  obtain ⟨G, locs, X, r⟩ := S
  exact ⟨G, locs, X.more hk hn, r⟩

/-! the ends -/
theorem own_S.leave (S : own_S Z hs W own bytes maxL ret nm p l e R s m args below meth c T h cells slots) {A : State} {v : Option Value} (hk : cells ≤ k) (hn : slots ≤ n) (hv : ret = none → v = none) (hq : Q v h)
    (go : ∀ (locs : List Loc) (_ : Stand p l e R s m args below meth c T locs cells slots) (fs : List Frame), (∀ (f : JFrame) (acts : List Action), f.method = m → f.locked = none → f.entered = [] → (doReturn e (T.setTop f) acts v).1 = T.setFrames fs) → Steps p.tables e below A (T.setFrames fs)) : own_F p e below s Z hs W k n Q A := by
  obtain ⟨G, locs, X, N, e0, K⟩ := S
  have hlk : meth.locks = false := own_S.hlk (⟨G, locs, X, N, e0, K⟩ : own_S Z hs W own bytes maxL ret nm p l e R s m args below meth c T h cells slots)
  have hret : meth.sig.returnType = ret := own_S.hret (⟨G, locs, X, N, e0, K⟩ : own_S Z hs W own bytes maxL ret nm p l e R s m args below meth c T h cells slots)
  obtain ⟨fs, hr, hrun, hended, hW, hsame⟩ := X.leave (v := v) (fun q => hv (hret ▸ q)) hlk
  subst e0
  exact ⟨_, _, go locs X fs hr, hrun, hended, _, _, rfl, ⟨N, K, hq⟩, ⟨_, rfl⟩, hW, hsame.mono hk hn⟩
theorem own_retV (S : own_S Z hs W own bytes maxL none nm p l e R s m args below meth c T h cells slots) (hd : decode bytes pc = .ok (.return_, 1)) (hk : cells ≤ k) (hn : slots ≤ n) (hq : Q none h) : own_F p e below s Z hs W k n Q (T.setTop (mkF m pc Ls [])) :=
  S.leave hk hn (fun _ => rfl) hq fun locs X fs hr => X.returnOut S.hx S.hret (S.dec hd) hr
theorem own_retZ {t : FieldType} (S : own_S Z hs W own bytes maxL (some t) nm p l e R s m args below meth c T h cells slots) {z : Int32} (ht : t = .boolean ∨ t = .byte ∨ t = .char ∨ t = .short) (hd : decode bytes pc = .ok (.ireturn, 1)) (hk : cells ≤ k) (hn : slots ≤ n) (hq : Q (some (.int (nar t z))) h) : own_F p e below s Z hs W k n Q (T.setTop (mkF m pc Ls (.int z :: rest))) :=
  S.leave hk hn (fun q => by cases q) hq fun locs X fs hr => retN X S.hx S.hret ht (S.dec hd) hr
theorem own_retI (S : own_S Z hs W own bytes maxL (some .int) nm p l e R s m args below meth c T h cells slots) {z : Int32} (hd : decode bytes pc = .ok (.ireturn, 1)) (hk : cells ≤ k) (hn : slots ≤ n) (hq : Q (some (.int z)) h) : own_F p e below s Z hs W k n Q (T.setTop (mkF m pc Ls (.int z :: rest))) :=
  S.leave hk hn (fun q => by cases q) hq fun locs X fs hr => retOut X S.hx S.hret rfl (Or.inl ⟨rfl, Or.inl rfl, _, rfl⟩) (S.dec hd) hr
theorem own_retJ (S : own_S Z hs W own bytes maxL (some .long) nm p l e R s m args below meth c T h cells slots) {z : Int64} (hd : decode bytes pc = .ok (.lreturn, 1)) (hk : cells ≤ k) (hn : slots ≤ n) (hq : Q (some (.long z)) h) : own_F p e below s Z hs W k n Q (T.setTop (mkF m pc Ls (.long z :: rest))) :=
  S.leave hk hn (fun q => by cases q) hq fun locs X fs hr => retOut X S.hx S.hret rfl (Or.inr (Or.inl ⟨rfl, rfl, _, rfl⟩)) (S.dec hd) hr
theorem own_retD (S : own_S Z hs W own bytes maxL (some .double) nm p l e R s m args below meth c T h cells slots) {z : UInt64} (hd : decode bytes pc = .ok (.dreturn, 1)) (hk : cells ≤ k) (hn : slots ≤ n) (hq : Q (some (.double z)) h) : own_F p e below s Z hs W k n Q (T.setTop (mkF m pc Ls (.double z :: rest))) :=
  S.leave hk hn (fun q => by cases q) hq fun locs X fs hr => retOut X S.hx S.hret rfl (Or.inr (Or.inr (Or.inl ⟨rfl, rfl, _, rfl⟩))) (S.dec hd) hr
theorem own_retA {t : FieldType} (S : own_S Z hs W own bytes maxL (some t) nm p l e R s m args below meth c T h cells slots) {w : Value} (ht : t.isReference = true) (hw : w.isRef = true) (hd : decode bytes pc = .ok (.areturn, 1)) (hk : cells ≤ k) (hn : slots ≤ n) (hq : Q (some w) h) : own_F p e below s Z hs W k n Q (T.setTop (mkF m pc Ls (w :: rest))) :=
  S.leave hk hn (fun q => by cases q) hq fun locs X fs hr => retOut X S.hx S.hret (by cases w <;> simp [Value.isRef] at hw <;> cases t <;> simp [FieldType.isReference] at ht <;> rfl) (Or.inr (Or.inr (Or.inr (Or.inr ⟨rfl, ht, hw⟩)))) (S.dec hd) hr

/-! branches -/
def own_cd : ClassFile.Cond → Int32 → Int32 → Prop
  | .eq, x, y => x = y
  | .ne, x, y => ¬ x = y
  | .lt, x, y => x < y
  | .ge, x, y => ¬ x < y
  | .gt, x, y => y < x
  | .le, x, y => ¬ y < x
theorem own_cd_t {cd : ClassFile.Cond} {x y : Int32} (q : own_cd cd x y) : if_icmp.holds cd x y = true := by
  cases cd
  · exact (teq q).1
  · exact (feq q).2
  · exact (tlt q).1
  · exact (flt q).2.1
  · exact (tlt q).2.2.1
  · exact (flt q).2.2.2
def own_cn : ClassFile.Cond → Int32 → Int32 → Prop
  | .eq, x, y => ¬ x = y
  | .ne, x, y => x = y
  | .lt, x, y => ¬ x < y
  | .ge, x, y => x < y
  | .gt, x, y => ¬ y < x
  | .le, x, y => y < x
theorem own_cd_f {cd : ClassFile.Cond} {x y : Int32} (q : own_cn cd x y) : if_icmp.holds cd x y = false := by
  cases cd
  · exact (feq q).1
  · exact (teq q).2
  · exact (flt q).1
  · exact (tlt q).2.1
  · exact (flt q).2.2.1
  · exact (tlt q).2.2.2
theorem own_cd_em (cd : ClassFile.Cond) (x y : Int32) : own_cd cd x y ∨ own_cn cd x y := by
  cases cd
  · exact Classical.em (x = y)
  · exact (Classical.em (x = y)).symm
  · exact Classical.em (x < y)
  · exact (Classical.em (x < y)).symm
  · exact Classical.em (y < x)
  · exact (Classical.em (y < x)).symm
theorem own_icmp (S : own_S Z hs W own bytes maxL ret nm p l e R s m args below meth c T h cells slots) {cd : ClassFile.Cond} {o : Int} {x y : Int32} (pc' : Nat) (hd : decode bytes pc = .ok (.if_icmp cd o, 3)) (ho : 0 ≤ (pc : Int) + o) (hp : ((pc : Int) + o).toNat = pc')
    (ft : own_cd cd x y → own_F p e below s Z hs W k n Q (T.setTop (mkF m pc' Ls rest))) (ff : own_cn cd x y → own_F p e below s Z hs W k n Q (T.setTop (mkF m (pc + 3) Ls rest))) : own_F p e below s Z hs W k n Q (T.setTop (mkF m pc Ls (.int y :: .int x :: rest))) := by
  rcases own_cd_em cd x y with q | q
  · exact own_F.of (fun _ => XS.icmpYes S.here S.hx rfl (pc0 := pc) rfl (S.dec hd) rfl (own_cd_t q) ho hp) (ft q)
  · exact own_F.of (fun _ => XS.icmpNo S.here S.hx rfl (S.dec hd) rfl (own_cd_f q)) (ff q)
theorem own_if (S : own_S Z hs W own bytes maxL ret nm p l e R s m args below meth c T h cells slots) {cd : ClassFile.Cond} {o : Int} {x : Int32} (pc' : Nat) (hd : decode bytes pc = .ok (.ifCond cd o, 3)) (ho : 0 ≤ (pc : Int) + o) (hp : ((pc : Int) + o).toNat = pc')
    (ft : own_cd cd x 0 → own_F p e below s Z hs W k n Q (T.setTop (mkF m pc' Ls rest))) (ff : own_cn cd x 0 → own_F p e below s Z hs W k n Q (T.setTop (mkF m (pc + 3) Ls rest))) : own_F p e below s Z hs W k n Q (T.setTop (mkF m pc Ls (.int x :: rest))) := by
  rcases own_cd_em cd x 0 with q | q
  · exact own_F.of (fun _ => XS.ifYes S.here S.hx rfl (pc0 := pc) rfl (S.dec hd) rfl ((if0 _ _).trans (own_cd_t q)) ho hp) (ft q)
  · exact own_F.of (fun _ => XS.ifNo S.here S.hx rfl (S.dec hd) rfl ((if0 _ _).trans (own_cd_f q))) (ff q)
def own_ac : ACond → Value → Value → Prop
  | .eq, x, y => x = y
  | .ne, x, y => ¬ x = y
def own_an : ACond → Value → Value → Prop
  | .eq, x, y => ¬ x = y
  | .ne, x, y => x = y
theorem own_acmp (S : own_S Z hs W own bytes maxL ret nm p l e R s m args below meth c T h cells slots) {cd : ACond} {o : Int} {x y : Value} (h1 : x.isRef = true) (h2 : y.isRef = true) (pc' : Nat) (hd : decode bytes pc = .ok (.if_acmp cd o, 3)) (ho : 0 ≤ (pc : Int) + o) (hp : ((pc : Int) + o).toNat = pc')
    (ft : own_ac cd x y → own_F p e below s Z hs W k n Q (T.setTop (mkF m pc' Ls rest))) (ff : own_an cd x y → own_F p e below s Z hs W k n Q (T.setTop (mkF m (pc + 3) Ls rest))) : own_F p e below s Z hs W k n Q (T.setTop (mkF m pc Ls (y :: x :: rest))) := by
  obtain ⟨locs, X, -⟩ := S.2
  cases cd <;> rcases Classical.em (x = y) with q | q
  · exact own_F.of (fun _ => Jvm.RoadKit.acmp (g := mkF m pc Ls (y :: x :: rest)) X S.hx rfl h1 h2 (pc0 := pc) (pc' := pc') (same := true) rfl (S.dec hd) rfl (decide_eq_true q) ho (by simp [acV, ← hp])) (ft q)
  · exact own_F.of (fun _ => Jvm.RoadKit.acmp (g := mkF m pc Ls (y :: x :: rest)) X S.hx rfl h1 h2 (pc0 := pc) (pc' := pc + 3) (same := false) rfl (S.dec hd) rfl (decide_eq_false q) ho (by simp [acV])) (ff q)
  · exact own_F.of (fun _ => Jvm.RoadKit.acmp (g := mkF m pc Ls (y :: x :: rest)) X S.hx rfl h1 h2 (pc0 := pc) (pc' := pc + 3) (same := true) rfl (S.dec hd) rfl (decide_eq_true q) ho (by simp [acV])) (ff q)
  · exact own_F.of (fun _ => Jvm.RoadKit.acmp (g := mkF m pc Ls (y :: x :: rest)) X S.hx rfl h1 h2 (pc0 := pc) (pc' := pc') (same := false) rfl (S.dec hd) rfl (decide_eq_false q) ho (by simp [acV, ← hp])) (ft q)

/-! the heap -/
theorem own_getF (S : own_S Z hs W own bytes maxL ret nm p l e R s m args below meth c T h cells slots) {R0 O fn d host : String} {index : Nat} (w : (Jvm.Cond.fieldLink own index R0 fn d).before a0 Z = true ∨ (Jvm.Cond.fieldLinkNest own index R0 fn d host).before a0 Z = true) (via : Via Z R0 O fn d)
    {a : Addr} {v : Value} (F : Fld Z h a O fn d v) (hd : decode bytes pc = .ok (.getfield index, 3))
    (f : ∀ T', own_S Z hs W own bytes maxL ret nm p l e R s m args below meth c T' h cells slots → own_F p e below s Z hs W k n Q (T'.setTop (mkF m (pc + 3) Ls (v :: rest)))) : own_F p e below s Z hs W k n Q (T.setTop (mkF m pc Ls (.ref a :: rest))) := by
  have S' := S
  obtain ⟨G, locs, X, N, e0, K⟩ := S
  obtain ⟨T', X', e', st⟩ := getF X S'.hx S'.hZ S'.hown w via e0 F (g := mkF m pc Ls (.ref a :: rest)) rfl rfl (S'.dec hd)
  exact own_F.of st (f T' ⟨G, locs, X', N, e', K⟩)
theorem own_getS (S : own_S Z hs W own bytes maxL ret nm p l e R s m args below meth c T h cells slots) {R0 O fn d host : String} {index : Nat} (w : (Jvm.Cond.fieldLink own index R0 fn d).before a0 Z = true ∨ (Jvm.Cond.fieldLinkNest own index R0 fn d host).before a0 Z = true) (via : Via Z R0 O fn d)
    {v : Value} (F : Sta Z h O fn d v) (hd : decode bytes pc = .ok (.getstatic index, 3))
    (f : ∀ T', own_S Z hs W own bytes maxL ret nm p l e R s m args below meth c T' h cells slots → own_F p e below s Z hs W k n Q (T'.setTop (mkF m (pc + 3) Ls (v :: st)))) : own_F p e below s Z hs W k n Q (T.setTop (mkF m pc Ls st)) := by
  have S' := S
  obtain ⟨G, locs, X, N, e0, K⟩ := S
  obtain ⟨T', X', e', st⟩ := getS2 X S'.hx S'.hZ S'.hown w via e0 F (g := mkF m pc Ls st) rfl (S'.dec hd)
  exact own_F.of st (f T' ⟨G, locs, X', N, e', K⟩)
theorem own_putF (S : own_S Z hs W own bytes maxL ret nm p l e R s m args below meth c T h cells slots) {R0 O fn d host C : String} {index kk : Nat} {ty : FieldType} (w : (Jvm.Cond.fieldLink own index R0 fn d).before a0 Z = true ∨ (Jvm.Cond.fieldLinkNest own index R0 fn d host).before a0 Z = true) (via : Via Z R0 O fn d)
    {a : Addr} {v old : Value} (F : Fld Z h a O fn d old) (E : Exa Z h a C) (L : (Jvm.Cond.lays C O fn d).before a0 Z = true ∨ ((Jvm.Cond.laysFinal C O fn d).before a0 Z = true ∧ own = O ∧ nm = "<init>")) (wi : (Jvm.Cond.instantiable C kk).before a0 Z = true)
    (hty : parseFieldDescriptor d = some ty) (hn : narrow ty v = v) (hf : fits ty v = true) (hd : decode bytes pc = .ok (.putfield index, 3)) (ok : a ∈ W ∨ hs.size ≤ a)
    (f : ∀ T' h', own_S Z hs W own bytes maxL ret nm p l e R s m args below meth c T' h' cells slots → Wr h h' a (Jvm.RoadKit.slotOf Z O fn d) v → own_F p e below s Z hs W k n Q (T'.setTop (mkF m (pc + 3) Ls rest))) : own_F p e below s Z hs W k n Q (T.setTop (mkF m pc Ls (v :: .ref a :: rest))) := by
  have S' := S
  obtain ⟨G, locs, X, N, e0, K⟩ := S
  obtain ⟨T', h', X', e', Wt, st⟩ := putF X S'.hx S'.hZ S'.hown w via e0 F E (L.imp id fun q => ⟨q.1, q.2.1, S'.hnm.trans q.2.2⟩) wi hty hn hf (g := mkF m pc Ls (v :: .ref a :: rest)) rfl rfl (S'.dec hd)
  exact own_F.of st (f T' h' ⟨G, _, X', Fr.snoc X' N (S'.may ok), e', K.wr Wt ok⟩ Wt)
theorem own_new (S : own_S Z hs W own bytes maxL ret nm p l e R s m args below meth c T h cells slots) {C : String} {index sl : Nat} (w : (Jvm.Cond.classLink own index C).before a0 Z = true) (wi : (Jvm.Cond.instantiable C sl).before a0 Z = true) (wz : (Jvm.Cond.initialized C).before a0 Z = true)
    (hd : decode bytes pc = .ok (.new index, 3)) (hc : cells + 1 ≤ R.cells) (hl : slots + sl ≤ R.slots)
    (f : ∀ T' h' a, a = h.size → own_S Z hs W own bytes maxL ret nm p l e R s m args below meth c T' h' (cells + 1) (slots + sl) → Ext h h' → Exa Z h' a C → (∀ {O fn d : String} {ty : FieldType}, Laid Z a0 C O fn d → parseFieldDescriptor d = some ty → Fld Z h' a O fn d (defaultValue ty)) →
      own_F p e below s Z hs W k n Q (T'.setTop (mkF m (pc + 3) Ls (.ref a :: st)))) : own_F p e below s Z hs W k n Q (T.setTop (mkF m pc Ls st)) := by
  have S' := S
  obtain ⟨G, locs, X, N, e0, K⟩ := S
  obtain ⟨T', h', X', e', E, A, D, -, st⟩ := newO X S'.hx S'.hZ S'.hown w wi wz e0 (g := mkF m pc Ls st) rfl (S'.dec hd) hc hl
  exact own_F.of st (f T' h' _ rfl ⟨G, _, X', N, e', K.ext E⟩ E A D)
theorem own_initO (S : own_S Z hs W own bytes maxL ret nm p l e R s m args below meth c T h cells slots) {index : Nat} (w1 : (Jvm.Cond.methodLink own index Lib.objectInit).before a0 Z = true) (w2 : (Jvm.Cond.instanceMethod Lib.objectInit).before a0 Z = true)
    (w3 : (Jvm.Cond.code Lib.objectInit ⟨#[0xb1]⟩ 1 none).before a0 Z = true) {a : Addr} (hsz : Ls.size = maxL) (hd : decode bytes pc = .ok (.invokespecial index, 3)) (hf : 1 ≤ R.frames) (hl : (rest.map fun v => v.category).sum + 12 ≤ R.locals)
    (f : ∀ T', own_S Z hs W own bytes maxL ret nm p l e R s m args below meth c T' h cells slots → own_F p e below s Z hs W k n Q (T'.setTop (mkF m (pc + 3) Ls rest))) : own_F p e below s Z hs W k n Q (T.setTop (mkF m pc Ls (.ref a :: rest))) := by
  have S' := S
  obtain ⟨G, locs, X, N, e0, K⟩ := S
  obtain ⟨T', X', e', st⟩ := initO X S'.hx S'.hZ S'.hown w1 w2 w3 e0 (g := mkF m pc Ls (.ref a :: rest)) rfl (hsz.trans S'.hml.symm) rfl (S'.dec hd) hf (W := (rest.map fun v => v.category).sum) (by show 2 * 0 + _ ≤ _; omega) hl
  exact own_F.of st (f T' ⟨G, locs, X', N, e', K⟩)

/-! calls -/
variable {index : Nat} {y y' : MethodName} {bytes' : ByteArray} {maxL' : Nat} {ret' : Option FieldType} {rm : Room} {W' : List Addr} {Q' : Option Value → Heap → Prop} {argsL : List Value} {ps : List FieldType} {rt : Option FieldType}
theorem own_callS (S : own_S Z hs W own bytes maxL ret nm p l e R s m args below meth c T h cells slots)
    (w1 : (Jvm.Cond.methodLink own index y).before a0 Z = true) (w2 : (Jvm.Cond.static y).before a0 Z = true) (w3 : (Jvm.Cond.initialized y.cls).before a0 Z = true) (w4 : (Jvm.Cond.code y bytes' maxL' ret').before a0 Z = true) (hy : y.cls ≠ "java/lang/invoke/MethodHandle" ∧ y.cls ≠ "java/lang/invoke/VarHandle")
    (C : own_C l Z y bytes' maxL' ret' [] rm W' argsL.toArray h Q') (hWW : ∀ a ∈ W', a ∈ W ∨ hs.size ≤ a) (pd : parseMethodDescriptor y.desc = some ⟨ps, rt⟩) (hlen : argsL.length = ps.length) (hsz : Ls.size = maxL) (hst : st = argsL.reverse ++ rest)
    (hd : decode bytes pc = .ok (.invokestatic index, 3)) (hfr : rm.frames + 1 ≤ R.frames) (hlo : (rest.map fun v => v.category).sum + (maxL' + 11) + rm.locals ≤ R.locals) (hc : cells + rm.cells ≤ R.cells) (hsl : slots + rm.slots ≤ R.slots)
    (f : ∀ T' h' v, own_S Z hs W own bytes maxL ret nm p l e R s m args below meth c T' h' (cells + rm.cells) (slots + rm.slots) → Keep h h' W' → Q' v h' → own_F p e below s Z hs W k n Q (T'.setTop (mkF m (pc + 3) Ls (v.toList ++ rest)))) : own_F p e below s Z hs W k n Q (T.setTop (mkF m pc Ls st)) := by
  have S' := S
  obtain ⟨G, locs, X, N, e0, K⟩ := S
  obtain ⟨v, _, ⟨T', L', k', n'⟩, -, X', ⟨Lc, hQ, h1, h2, h3⟩, st⟩ := Jvm.LawKit.callS X S'.hx (y := y) S'.hown (mvT S'.hZ w1) (mvT S'.hZ w2) (mvT S'.hZ w3) (mvT S'.hZ w4) hy (backOf (W := (rest.map fun v => v.category).sum) (Q := fun v hh L => Fr Z.heap.size L ∧ Keep h hh W' ∧ Q' v hh) C S'.hZ w4 w3 hfr hlo) (g := mkF m pc Ls st) rfl (hsz.trans S'.hml.symm) (argsL := argsL) (rest := rest) (lenOf pd hlen) hst (by show 2 * 0 + _ ≤ _; omega) (S'.dec hd) (fun _ _ => ⟨rfl, e0, hc, hsl⟩)
  dsimp only [Pt.U, Pt.locs, Pt.cells, Pt.slots] at X' h1 h2 h3 st hQ
  subst h1 h2 h3
  obtain ⟨N', K', q⟩ := hQ
  exact own_F.of st (f T' T'.heap v ⟨G, _, X', Fr.app N N', rfl, K.trans K' hWW⟩ K' q)
theorem own_callI (S : own_S Z hs W own bytes maxL ret nm p l e R s m args below meth c T h cells slots) (hy1 : y.name = "<init>")
    (w1 : (Jvm.Cond.methodLink own index y).before a0 Z = true) (w2 : (Jvm.Cond.instanceMethod y).before a0 Z = true) (w3 : (Jvm.Cond.initialized y.cls).before a0 Z = true) (w4 : (Jvm.Cond.code y bytes' maxL' none).before a0 Z = true) (hy : y.cls ≠ "java/lang/invoke/MethodHandle" ∧ y.cls ≠ "java/lang/invoke/VarHandle")
    {a : Addr} (C : own_C l Z y bytes' maxL' none [] rm W' (.ref a :: argsL).toArray h Q') (hWW : ∀ a ∈ W', a ∈ W ∨ hs.size ≤ a) (pd : parseMethodDescriptor y.desc = some ⟨ps, rt⟩) (hlen : argsL.length = ps.length) (hsz : Ls.size = maxL) (hst : st = argsL.reverse ++ .ref a :: rest)
    (hd : decode bytes pc = .ok (.invokespecial index, 3)) (hfr : rm.frames + 1 ≤ R.frames) (hlo : (rest.map fun v => v.category).sum + (maxL' + 11) + rm.locals ≤ R.locals) (hc : cells + rm.cells ≤ R.cells) (hsl : slots + rm.slots ≤ R.slots)
    (f : ∀ T' h' v, own_S Z hs W own bytes maxL ret nm p l e R s m args below meth c T' h' (cells + rm.cells) (slots + rm.slots) → Keep h h' W' → Q' v h' → own_F p e below s Z hs W k n Q (T'.setTop (mkF m (pc + 3) Ls (v.toList ++ rest)))) : own_F p e below s Z hs W k n Q (T.setTop (mkF m pc Ls st)) := by
  have S' := S
  obtain ⟨G, locs, X, N, e0, K⟩ := S
  obtain ⟨v, _, ⟨T', L', k', n'⟩, -, X', ⟨Lc, hQ, h1, h2, h3⟩, st⟩ := X.specialBack S'.hx (y := y) hy1 S'.hown (mvT S'.hZ w1) (mvT S'.hZ w2) (mvT S'.hZ w4) hy (backOf (W := (rest.map fun v => v.category).sum) (Q := fun v hh L => Fr Z.heap.size L ∧ Keep h hh W' ∧ Q' v hh) C S'.hZ w4 w3 hfr hlo) (g := mkF m pc Ls st) rfl (hsz.trans S'.hml.symm) (Steps.refl _) (a := a) (argsL := argsL) (rest := rest) (lenOf pd hlen) hst (by show 2 * 0 + _ ≤ _; omega) (S'.dec hd) (fun _ _ => ⟨rfl, e0, hc, hsl⟩)
  dsimp only [Pt.U, Pt.locs, Pt.cells, Pt.slots] at X' h1 h2 h3 st hQ
  subst h1 h2 h3
  obtain ⟨N', K', q⟩ := hQ
  exact own_F.to st (f T' T'.heap v ⟨G, _, X', Fr.app N N', rfl, K.trans K' hWW⟩ K' q)
theorem own_callV (S : own_S Z hs W own bytes maxL ret nm p l e R s m args below meth c T h cells slots) {Cn : String}
    (w1 : (Jvm.Cond.methodLink own index y).before a0 Z = true) (w2 : (Jvm.Cond.declares y).before a0 Z = true) (nf : NotFace s y) (w3 : (Jvm.Cond.selects Cn y y').before a0 Z = true) (w4 : (Jvm.Cond.instanceMethod y').before a0 Z = true) (w5 : (Jvm.Cond.code y' bytes' maxL' ret').before a0 Z = true) (w6 : (Jvm.Cond.initialized y'.cls).before a0 Z = true) (hy : y.cls ≠ "java/lang/invoke/MethodHandle" ∧ y.cls ≠ "java/lang/invoke/VarHandle")
    {a : Addr} (E : Exa Z h a Cn) (C : own_C l Z y' bytes' maxL' ret' [] rm W' (.ref a :: argsL).toArray h Q') (hWW : ∀ a ∈ W', a ∈ W ∨ hs.size ≤ a) (pd : parseMethodDescriptor y.desc = some ⟨ps, rt⟩) (hlen : argsL.length = ps.length) (hsz : Ls.size = maxL) (hst : st = argsL.reverse ++ .ref a :: rest)
    (hd : decode bytes pc = .ok (.invokevirtual index, 3)) (hfr : rm.frames + 1 ≤ R.frames) (hlo : (rest.map fun v => v.category).sum + (maxL' + 11) + rm.locals ≤ R.locals) (hc : cells + rm.cells ≤ R.cells) (hsl : slots + rm.slots ≤ R.slots)
    (f : ∀ T' h' v, own_S Z hs W own bytes maxL ret nm p l e R s m args below meth c T' h' (cells + rm.cells) (slots + rm.slots) → Keep h h' W' → Q' v h' → own_F p e below s Z hs W k n Q (T'.setTop (mkF m (pc + 3) Ls (v.toList ++ rest)))) : own_F p e below s Z hs W k n Q (T.setTop (mkF m pc Ls st)) := by
  have S' := S
  obtain ⟨G, locs, X, N, e0, K⟩ := S
  obtain ⟨cq, kq, qa, qb, qc⟩ := isOf S'.hZ e0 E
  obtain ⟨v, _, ⟨T', L', k', n'⟩, -, X', ⟨Lc, hQ, h1, h2, h3⟩, st⟩ := X.virtualBack S'.hx (y := y) (z := y') S'.hown (mvT S'.hZ w1) (mvT S'.hZ w2) nf (mvT S'.hZ w3) (mvT S'.hZ w4) hy (backOf (W := (rest.map fun v => v.category).sum) (Q := fun v hh L => Fr Z.heap.size L ∧ Keep h hh W' ∧ Q' v hh) C S'.hZ w5 w6 hfr hlo) qa qc (g := mkF m pc Ls st) rfl (hsz.trans S'.hml.symm) (Steps.refl _) (argsL := argsL) (rest := rest) (lenOf pd hlen) hst (by show 2 * 0 + _ ≤ _; omega) (S'.dec hd) (fun _ _ => ⟨rfl, e0, hc, hsl⟩)
  dsimp only [Pt.U, Pt.locs, Pt.cells, Pt.slots] at X' h1 h2 h3 st hQ
  subst h1 h2 h3
  obtain ⟨N', K', q⟩ := hQ
  exact own_F.to st (f T' T'.heap v ⟨G, _, X', Fr.app N N', rfl, K.trans K' hWW⟩ K' q)
theorem own_nf (S : own_S Z hs W own bytes maxL ret nm p l e R s m args below meth c T h cells slots) {Cn : String} (w : (Jvm.Cond.selects Cn y y).before a0 Z = true) : NotFace s y := notFace_of_selects (args := #[]) (mvT S.hZ w)
theorem own_callX (S : own_S Z hs W own bytes maxL ret nm p l e R s m args below meth c T h cells slots) {Cn : String} {cnt : Nat}
    (w1 : (Jvm.Cond.methodLink own index y).before a0 Z = true) (w2 : (Jvm.Cond.declares y).before a0 Z = true) (w7 : (Jvm.Cond.interfaceMethod y.cls y.cls y.name y.desc).before a0 Z = true) (w3 : (Jvm.Cond.selects Cn y y').before a0 Z = true) (w4 : (Jvm.Cond.instanceMethod y').before a0 Z = true) (w8 : (Jvm.Cond.publicMethod y').before a0 Z = true) (w9 : (Jvm.Cond.unhidden Cn y.name y.desc).before a0 Z = true) (w10 : (Jvm.Cond.castable Cn y.cls).before a0 Z = true)
    (w5 : (Jvm.Cond.code y' bytes' maxL' ret').before a0 Z = true) (w6 : (Jvm.Cond.initialized y'.cls).before a0 Z = true) (hy : y.cls ≠ "java/lang/invoke/MethodHandle" ∧ y.cls ≠ "java/lang/invoke/VarHandle")
    {a : Addr} (E : Exa Z h a Cn) (C : own_C l Z y' bytes' maxL' ret' [] rm W' (.ref a :: argsL).toArray h Q') (hWW : ∀ a ∈ W', a ∈ W ∨ hs.size ≤ a) (pd : parseMethodDescriptor y.desc = some ⟨ps, rt⟩) (hlen : argsL.length = ps.length) (hsz : Ls.size = maxL) (hst : st = argsL.reverse ++ .ref a :: rest)
    (hd : decode bytes pc = .ok (.invokeinterface index cnt, 5)) (hfr : rm.frames + 1 ≤ R.frames) (hlo : (rest.map fun v => v.category).sum + (maxL' + 11) + rm.locals ≤ R.locals) (hc : cells + rm.cells ≤ R.cells) (hsl : slots + rm.slots ≤ R.slots)
    (f : ∀ T' h' v, own_S Z hs W own bytes maxL ret nm p l e R s m args below meth c T' h' (cells + rm.cells) (slots + rm.slots) → Keep h h' W' → Q' v h' → own_F p e below s Z hs W k n Q (T'.setTop (mkF m (pc + 5) Ls (v.toList ++ rest)))) : own_F p e below s Z hs W k n Q (T.setTop (mkF m pc Ls st)) := by
  have S' := S
  obtain ⟨G, locs, X, N, e0, K⟩ := S
  obtain ⟨cq, kq, qa, qb, qc⟩ := isOf S'.hZ e0 E
  obtain ⟨v, _, ⟨T', L', k', n'⟩, -, X', ⟨Lc, hQ, h1, h2, h3⟩, st⟩ := X.interfaceBack S'.hx (xi := y) (y := y') S'.hown (mvT S'.hZ w1) (mvT S'.hZ w2) (mvT S'.hZ w7 (by simp [Cond.onTables, Cond.keepsFace, Cond.keeps, Cond.steady, Cond.faceAtom, hy])) (mvT S'.hZ w3) (mvT S'.hZ w4) (mvT S'.hZ w8) (mvT S'.hZ w9) (mvT S'.hZ w10) hy (backOf (W := (rest.map fun v => v.category).sum) (Q := fun v hh L => Fr Z.heap.size L ∧ Keep h hh W' ∧ Q' v hh) C S'.hZ w5 w6 hfr hlo) qa qb qc (g := mkF m pc Ls st) rfl (hsz.trans S'.hml.symm) (Steps.refl _) (argsL := argsL) (rest := rest) (lenOf pd hlen) hst (by show 2 * 0 + _ ≤ _; omega) (S'.dec hd) (fun _ _ => ⟨rfl, e0, hc, hsl⟩)
  dsimp only [Pt.U, Pt.locs, Pt.cells, Pt.slots] at X' h1 h2 h3 st hQ
  subst h1 h2 h3
  obtain ⟨N', K', q⟩ := hQ
  exact own_F.to st (f T' T'.heap v ⟨G, _, X', Fr.app N N', rfl, K.trans K' hWW⟩ K' q)
theorem own_callP (S : own_S Z hs W own bytes maxL ret nm p l e R s m args below meth c T h cells slots)
    (w1 : (Jvm.Cond.methodLink own index y).before a0 Z = true) (w2 : (Jvm.Cond.instanceMethod y).before a0 Z = true) (w3 : (Jvm.Cond.selects y.cls y y).before a0 Z = true) (wp : (Jvm.Cond.privateMethod y).before a0 Z = true) (w5 : (Jvm.Cond.code y bytes' maxL' ret').before a0 Z = true) (w6 : (Jvm.Cond.initialized y.cls).before a0 Z = true) (hy : y.cls ≠ "java/lang/invoke/MethodHandle" ∧ y.cls ≠ "java/lang/invoke/VarHandle")
    {a : Addr} {Cn : String} (E : Exa Z h a Cn) (C : own_C l Z y bytes' maxL' ret' [] rm W' (.ref a :: argsL).toArray h Q') (hWW : ∀ a ∈ W', a ∈ W ∨ hs.size ≤ a) (pd : parseMethodDescriptor y.desc = some ⟨ps, rt⟩) (hlen : argsL.length = ps.length) (hsz : Ls.size = maxL) (hst : st = argsL.reverse ++ .ref a :: rest)
    (hd : decode bytes pc = .ok (.invokevirtual index, 3)) (hfr : rm.frames + 1 ≤ R.frames) (hlo : (rest.map fun v => v.category).sum + (maxL' + 11) + rm.locals ≤ R.locals) (hc : cells + rm.cells ≤ R.cells) (hsl : slots + rm.slots ≤ R.slots)
    (f : ∀ T' h' v, own_S Z hs W own bytes maxL ret nm p l e R s m args below meth c T' h' (cells + rm.cells) (slots + rm.slots) → Keep h h' W' → Q' v h' → own_F p e below s Z hs W k n Q (T'.setTop (mkF m (pc + 3) Ls (v.toList ++ rest)))) : own_F p e below s Z hs W k n Q (T.setTop (mkF m pc Ls st)) := by
  have S' := S
  obtain ⟨G, locs, X, N, e0, K⟩ := S
  obtain ⟨cq, qq, qq'⟩ := E.cell
  obtain ⟨v, _, ⟨T', L', k', n'⟩, -, X', ⟨Lc, hQ, h1, h2, h3⟩, st⟩ := X.privateBack S'.hx (y := y) S'.hown (mvT S'.hZ w1) (mvT S'.hZ w2) (mvT S'.hZ w3) (Cond.privateMethod_at (mvP S'.hZ wp (args := #[]))) (mvT S'.hZ w5) hy (backOf (W := (rest.map fun v => v.category).sum) (Q := fun v hh L => Fr Z.heap.size L ∧ Keep h hh W' ∧ Q' v hh) C S'.hZ w5 w6 hfr hlo) (g := mkF m pc Ls st) rfl (hsz.trans S'.hml.symm) (Steps.refl _) (a := a) (by rw [e0]; exact qq) qq' (argsL := argsL) (rest := rest) (lenOf pd hlen) hst (by show 2 * 0 + _ ≤ _; omega) (S'.dec hd) (fun _ _ => ⟨rfl, e0, hc, hsl⟩)
  dsimp only [Pt.U, Pt.locs, Pt.cells, Pt.slots] at X' h1 h2 h3 st hQ
  subst h1 h2 h3
  obtain ⟨N', K', q⟩ := hQ
  exact own_F.to st (f T' T'.heap v ⟨G, _, X', Fr.app N N', rfl, K.trans K' hWW⟩ K' q)
theorem own_callU (S : own_S Z hs W own bytes maxL ret nm p l e R s m args below meth c T h cells slots) {Cn owner : String}
    (w1 : (Jvm.Cond.methodLink own index y).before a0 Z = true) (w2 : (Jvm.Cond.sameMethod y.cls owner y.name y.desc).before a0 Z = true) (w7 : (Jvm.Cond.declares ⟨owner, y.name, y.desc⟩).before a0 Z = true) (hy : owner ≠ "java/lang/invoke/MethodHandle" ∧ owner ≠ "java/lang/invoke/VarHandle") (w3 : (Jvm.Cond.selects Cn y y').before a0 Z = true) (w4 : (Jvm.Cond.instanceMethod y').before a0 Z = true) (w5 : (Jvm.Cond.code y' bytes' maxL' ret').before a0 Z = true) (w6 : (Jvm.Cond.initialized y'.cls).before a0 Z = true)
    {a : Addr} (E : Exa Z h a Cn) (C : own_C l Z y' bytes' maxL' ret' [] rm W' (.ref a :: argsL).toArray h Q') (hWW : ∀ a ∈ W', a ∈ W ∨ hs.size ≤ a) (pd : parseMethodDescriptor y.desc = some ⟨ps, rt⟩) (hlen : argsL.length = ps.length) (hsz : Ls.size = maxL) (hst : st = argsL.reverse ++ .ref a :: rest)
    (hd : decode bytes pc = .ok (.invokevirtual index, 3)) (hfr : rm.frames + 1 ≤ R.frames) (hlo : (rest.map fun v => v.category).sum + (maxL' + 11) + rm.locals ≤ R.locals) (hc : cells + rm.cells ≤ R.cells) (hsl : slots + rm.slots ≤ R.slots)
    (f : ∀ T' h' v, own_S Z hs W own bytes maxL ret nm p l e R s m args below meth c T' h' (cells + rm.cells) (slots + rm.slots) → Keep h h' W' → Q' v h' → own_F p e below s Z hs W k n Q (T'.setTop (mkF m (pc + 3) Ls (v.toList ++ rest)))) : own_F p e below s Z hs W k n Q (T.setTop (mkF m pc Ls st)) := by
  have S' := S
  obtain ⟨G, locs, X, N, e0, K⟩ := S
  obtain ⟨cq, kq, qa, qb, qc⟩ := isOf S'.hZ e0 E
  obtain ⟨v, _, ⟨T', L', k', n'⟩, -, X', ⟨Lc, hQ, h1, h2, h3⟩, st⟩ := X.virtualBackUp S'.hx (x := y) (y := y') S'.hown (mvT S'.hZ w1) (mvT S'.hZ w2) (mvT S'.hZ w7) hy (mvT S'.hZ w3) (mvT S'.hZ w4) (backOf (W := (rest.map fun v => v.category).sum) (Q := fun v hh L => Fr Z.heap.size L ∧ Keep h hh W' ∧ Q' v hh) C S'.hZ w5 w6 hfr hlo) qa qc (g := mkF m pc Ls st) rfl (hsz.trans S'.hml.symm) (Steps.refl _) (argsL := argsL) (rest := rest) (lenOf pd hlen) hst (by show 2 * 0 + _ ≤ _; omega) (S'.dec hd) (fun _ _ => ⟨rfl, e0, hc, hsl⟩)
  dsimp only [Pt.U, Pt.locs, Pt.cells, Pt.slots] at X' h1 h2 h3 st hQ
  subst h1 h2 h3
  obtain ⟨N', K', q⟩ := hQ
  exact own_F.to st (f T' T'.heap v ⟨G, _, X', Fr.app N N', rfl, K.trans K' hWW⟩ K' q)
/-! casts and tests of classes -/
theorem own_cast (S : own_S Z hs W own bytes maxL ret nm p l e R s m args below meth c T h cells slots) {Kn : String} {a : Addr} (w : (Jvm.Cond.classLink own index Kn).before a0 Z = true) (F : Ins Z h a Kn true) (hd : decode bytes pc = .ok (.checkcast index, 3))
    (f : ∀ T', own_S Z hs W own bytes maxL ret nm p l e R s m args below meth c T' h cells slots → own_F p e below s Z hs W k n Q (T'.setTop (mkF m (pc + 3) Ls (.ref a :: rest)))) : own_F p e below s Z hs W k n Q (T.setTop (mkF m pc Ls (.ref a :: rest))) := by
  have S' := S
  obtain ⟨G, locs, X, N, e0, K⟩ := S
  obtain ⟨T', X', e', st⟩ := castY X S'.hx S'.hZ S'.hown w e0 F (g := mkF m pc Ls (.ref a :: rest)) rfl rfl (S'.dec hd)
  exact own_F.of st (f T' ⟨G, locs, X', N, e', K⟩)
theorem own_inst (S : own_S Z hs W own bytes maxL ret nm p l e R s m args below meth c T h cells slots) {Kn : String} {a : Addr} (w : (Jvm.Cond.classLink own index Kn).before a0 Z = true) (F : Ins Z h a Kn true) (hd : decode bytes pc = .ok (.instanceof index, 3))
    (f : ∀ T', own_S Z hs W own bytes maxL ret nm p l e R s m args below meth c T' h cells slots → own_F p e below s Z hs W k n Q (T'.setTop (mkF m (pc + 3) Ls (.int (1 : Int32) :: rest)))) : own_F p e below s Z hs W k n Q (T.setTop (mkF m pc Ls (.ref a :: rest))) := by
  have S' := S
  obtain ⟨G, locs, X, N, e0, K⟩ := S
  obtain ⟨T', X', e', st⟩ := instY X S'.hx S'.hZ S'.hown w e0 F (g := mkF m pc Ls (.ref a :: rest)) rfl rfl (S'.dec hd)
  exact own_F.of st (f T' ⟨G, locs, X', N, e', K⟩)

/-! more single steps -/
theorem own_irem (S : own_S Z hs W own bytes maxL ret nm p l e R s m args below meth c T h cells slots) {x y : Int32} {t : State} (hd : decode bytes pc = .ok (.irem, 1)) (hy : y ≠ 0) (k : Steps p.tables e below (T.setTop (mkF m (pc + 1) Ls (.int (x % y) :: rest))) t) : Steps p.tables e below (T.setTop (mkF m pc Ls (.int y :: .int x :: rest))) t := by
  obtain ⟨locs, X, -⟩ := S.2
  exact iremM X S.hx (g := mkF m pc Ls (.int y :: .int x :: rest)) rfl (S.dec hd) rfl hy k
theorem own_lrem (S : own_S Z hs W own bytes maxL ret nm p l e R s m args below meth c T h cells slots) {x y : Int64} {t : State} (hd : decode bytes pc = .ok (.lrem, 1)) (hy : y ≠ 0) (k : Steps p.tables e below (T.setTop (mkF m (pc + 1) Ls (.long (x % y) :: rest))) t) : Steps p.tables e below (T.setTop (mkF m pc Ls (.long y :: .long x :: rest))) t := by
  have q : x - x / y * y = x % y := lrem_mod x y
  exact XS.lrem S.here S.hx (g := mkF m pc Ls (.long y :: .long x :: rest)) rfl (S.dec hd) rfl hy (by rw [q]; exact k)
theorem own_ldcI (S : own_S Z hs W own bytes maxL ret nm p l e R s m args below meth c T h cells slots) {i : Nat} {v : Int32} (w : (Jvm.Cond.constant own i v).before a0 Z = true) (hd : decode bytes pc = .ok (.ldc i, 2)) (f : own_F p e below s Z hs W k n Q (T.setTop (mkF m (pc + 2) Ls (.int v :: st)))) : own_F p e below s Z hs W k n Q (T.setTop (mkF m pc Ls st)) := by
  obtain ⟨locs, X, -⟩ := S.2
  exact own_F.of (X.ldcInt S.hx S.hown (mvT S.hZ w) (g := mkF m pc Ls st) rfl (S.dec hd)) f
theorem own_ldcIw (S : own_S Z hs W own bytes maxL ret nm p l e R s m args below meth c T h cells slots) {i : Nat} {v : Int32} (w : (Jvm.Cond.constant own i v).before a0 Z = true) (hd : decode bytes pc = .ok (.ldc_w i, 3)) (f : own_F p e below s Z hs W k n Q (T.setTop (mkF m (pc + 3) Ls (.int v :: st)))) : own_F p e below s Z hs W k n Q (T.setTop (mkF m pc Ls st)) := by
  obtain ⟨locs, X, -⟩ := S.2
  exact own_F.of (X.ldcwInt S.hx S.hown (mvT S.hZ w) (g := mkF m pc Ls st) rfl (S.dec hd)) f
theorem own_ldcJ (S : own_S Z hs W own bytes maxL ret nm p l e R s m args below meth c T h cells slots) {i : Nat} {v : Int64} (w : (Jvm.Cond.constantLong own i v).before a0 Z = true) (hd : decode bytes pc = .ok (.ldc2_w i, 3)) (f : own_F p e below s Z hs W k n Q (T.setTop (mkF m (pc + 3) Ls (.long v :: st)))) : own_F p e below s Z hs W k n Q (T.setTop (mkF m pc Ls st)) := by
  obtain ⟨locs, X, -⟩ := S.2
  exact own_F.of (X.ldc2Long S.hx S.hown (mvT S.hZ w) (g := mkF m pc Ls st) rfl (S.dec hd)) f
theorem own_narR {ty : FieldType} {v : Value} (ht : ty.isReference = true) (hv : v.isRef = true) : narrow ty v = v := by cases v <;> simp [Value.isRef] at hv <;> cases ty <;> simp [FieldType.isReference] at ht <;> rfl
theorem own_fitR {ty : FieldType} {v : Value} (ht : ty.isReference = true) (hv : v.isRef = true) : fits ty v = true := by cases v <;> simp [Value.isRef] at hv <;> cases ty <;> simp [FieldType.isReference] at ht <;> rfl

/-! from the case's words to facts of the start -/
theorem own_extRefl (h : Heap) : Ext h h := ⟨Nat.le_refl _, fun _ _ q => q⟩
theorem own_sta {C fn d K : String} (hx : (Jvm.Cond.exactly (.static C fn d) K).value a0 Z none Z [] = some true) (w1 : (Jvm.Cond.initialized C).before a0 Z = true) (w2 : (Jvm.Cond.laysStatic C fn d).before a0 Z = true) :
    ∃ a, (Term.static C fn d).eval a0 Z none [] Z = some (.ref a) ∧ Sta Z Z.heap C fn d (.ref a) ∧ Exa Z Z.heap a K := by
  obtain ⟨a, ev⟩ := exa_v hx
  exact ⟨a, ev, Sta.start ev (Or.inr ⟨w1, w2⟩), Exa.start ev hx⟩
theorem own_fldI {t : Term} {C fn d : String} {a : Addr} {v : Int32} (ev : t.eval a0 Z none [] Z = some (.ref a)) (hx : (Jvm.Cond.eq (.field t C fn d) (.int v)).value a0 Z none Z [] = some true) : Fld Z Z.heap a C fn d (.int v) := by
  obtain ⟨x, y, h1, h2, -⟩ := cmp_v (Or.inl hx)
  have h2' : y = .int v := by simpa [Term.eval] using h2.symm
  subst h2'
  have h3 : x = .int v := by
    simp only [Jvm.Cond.value, h1, h2] at hx
    cases x <;> simp at hx
    rw [hx]
  subst h3
  refine Fld.start ?_
  simpa [Term.eval, ev] using h1
end OwnPrelude

theorem own_w {a0 : Array Value} {Z : State} (hw : ∀ d ∈ tables_1, d.before a0 Z = true) {d : Jvm.Cond} (i : Nat) (q : tables_1[i]? = some d) : d.before a0 Z = true := hw _ (List.mem_of_getElem? q)

def own_fx (x y : Int32) : Int32 := if x < y then 0 else 1

theorem d1_0 : decode prog_44_method_5_code 0 = .ok (.iload_n 1, 1) := by decide +kernel
theorem d1_1 : decode prog_44_method_5_code 1 = .ok (.aload_n 0, 1) := by decide +kernel
theorem d1_2 : decode prog_44_method_5_code 2 = .ok (.getfield 51, 3) := by decide +kernel
theorem d1_5 : decode prog_44_method_5_code 5 = .ok (.if_icmp .lt 7, 3) := by decide +kernel
theorem d1_8 : decode prog_44_method_5_code 8 = .ok (.iconst 1, 1) := by decide +kernel
theorem d1_9 : decode prog_44_method_5_code 9 = .ok (.goto 4, 3) := by decide +kernel
theorem d1_12 : decode prog_44_method_5_code 12 = .ok (.iconst 0, 1) := by decide +kernel
theorem d1_13 : decode prog_44_method_5_code 13 = .ok (.ireturn, 1) := by decide +kernel
theorem pn1 : plainFor (⟨"com/example/lanyard/lanyard/protocol/ApiKey", "isFlexible", "(I)Z"⟩ : MethodName) = true := plainFor_of_name (by first | (simp [plainName, overriddenIn]; done) | decide +kernel)
set_option maxRecDepth 65536 in
set_option maxHeartbeats 40000000 in
theorem own_flex (l : Launch) (Z : State) (a0 : Array Value) (hw : ∀ d ∈ tables_1, d.before a0 Z = true) (a1 : Addr) (p2 t : Int32) (h0 : Heap) (hO : Ext Z.heap h0) (F_t : Fld Z Z.heap a1 "com/example/lanyard/lanyard/protocol/ApiKey" "firstFlexibleVersion" "I" (.int t)) :
    own_C l Z (⟨"com/example/lanyard/lanyard/protocol/ApiKey", "isFlexible", "(I)Z"⟩ : MethodName) prog_44_method_5_code 2 (some .boolean) [] ({ frames := 0, cells := 0, slots := 0, locals := 0 } : Room) [] #[(.ref a1), (.int p2)] h0 (fun v h => v = some (.int (own_fx p2 t)) ∧ h0 = h) := by
  refine own_C.of pn1 hO all0 ?_
  intro p e s m below meth c T0 S0
  refine own_F.cast (by first | (simp [entryFrame, mkF, argsToLocals, Value.category]; done) | rfl : entryFrame m #[(.ref a1), (.int p2)] 2 = mkF m 0 #[.val (.ref a1), .val (.int p2)] []) ?_
  show own_F p e below s Z _ _ _ _ _ (T0.setTop (mkF m 0 #[.val (.ref a1), .val (.int p2)] []))
  refine own_F.of (fun _ => XS.iloadN S0.here S0.hx rfl (S0.dec d1_0) rfl) ?_
  show own_F p e below s Z _ _ _ _ _ (T0.setTop (mkF m 1 #[.val (.ref a1), .val (.int p2)] [(.int p2)]))
  refine own_F.of (fun _ => XS.aloadN S0.here S0.hx rfl (S0.dec d1_1) rfl rfl) ?_
  show own_F p e below s Z _ _ _ _ _ (T0.setTop (mkF m 2 #[.val (.ref a1), .val (.int p2)] [(.ref a1), (.int p2)]))
  refine own_getF S0 (host := "") (Or.inl (own_w hw 9 rfl)) Via.refl (F_t.ext S0.old) d1_2 (fun T1 S1 => ?_)
  show own_F p e below s Z _ _ _ _ _ (T1.setTop (mkF m 5 #[.val (.ref a1), .val (.int p2)] [(.int t), (.int p2)]))
  refine own_icmp S1 12 d1_5 (by decide) (by decide) (fun (hc5_2 : p2 < t) => ?_) (fun (hc5_2 : ¬ (p2 < t)) => ?_)
  · show own_F p e below s Z _ _ _ _ _ (T1.setTop (mkF m 12 #[.val (.ref a1), .val (.int p2)] []))
    refine own_F.of (fun _ => XS.iconst S1.here S1.hx rfl (S1.dec d1_12)) ?_
    show own_F p e below s Z _ _ _ _ _ (T1.setTop (mkF m 13 #[.val (.ref a1), .val (.int p2)] [(.int (0 : Int32))]))
    refine own_retZ S1 (by simp) d1_13 (by decide) (by decide) ?_
    have hh : own_fx p2 t = (0 : Int32) := by simp [own_fx, hc5_2]
    rw [hh]; exact ⟨rfl, rfl⟩
  · show own_F p e below s Z _ _ _ _ _ (T1.setTop (mkF m 8 #[.val (.ref a1), .val (.int p2)] []))
    refine own_F.of (fun _ => XS.iconst S1.here S1.hx rfl (S1.dec d1_8)) ?_
    show own_F p e below s Z _ _ _ _ _ (T1.setTop (mkF m 9 #[.val (.ref a1), .val (.int p2)] [(.int (1 : Int32))]))
    refine own_F.of (fun _ => XS.goto S1.here S1.hx rfl (pc0 := 9) (pc' := 13) rfl (S1.dec d1_9) (by decide) (by decide)) ?_
    show own_F p e below s Z _ _ _ _ _ (T1.setTop (mkF m 13 #[.val (.ref a1), .val (.int p2)] [(.int (1 : Int32))]))
    refine own_retZ S1 (by simp) d1_13 (by decide) (by decide) ?_
    have hh : own_fx p2 t = (1 : Int32) := by simp [own_fx, hc5_2]
    rw [hh]; exact ⟨rfl, rfl⟩
theorem pn0 : plainFor x = true := plainFor_of_name (by first | (simp [plainName, overriddenIn]; done) | decide +kernel)
set_option maxRecDepth 65536 in
set_option maxHeartbeats 40000000 in
theorem own_law (l : Launch) (Z : State) (a0 : Array Value) (hw : ∀ d ∈ tables_1, d.before a0 Z = true) (p0 p1 p2 : Int32) (a_METADATA : Addr) (a_SASL_HANDSHAKE : Addr) (a_CREATE_DELEGATION_TOKEN : Addr) (a_DESCRIBE_DELEGATION_TOKEN : Addr) (a_API_VERSIONS : Addr) (a_SASL_AUTHENTICATE : Addr) (a_RENEW_DELEGATION_TOKEN : Addr) (a_EXPIRE_DELEGATION_TOKEN : Addr) (h0 : Heap) (hO : Ext Z.heap h0) (S_METADATA : Sta Z Z.heap "com/example/lanyard/lanyard/protocol/ApiKey" "METADATA" "Lcom/example/lanyard/lanyard/protocol/ApiKey;" (.ref a_METADATA)) (X_METADATA : Exa Z Z.heap a_METADATA "com/example/lanyard/lanyard/protocol/ApiKey") (F_METADATA_firstFlexibleVersion : Fld Z Z.heap a_METADATA "com/example/lanyard/lanyard/protocol/ApiKey" "firstFlexibleVersion" "I" (.int (9 : Int32))) (S_SASL_HANDSHAKE : Sta Z Z.heap "com/example/lanyard/lanyard/protocol/ApiKey" "SASL_HANDSHAKE" "Lcom/example/lanyard/lanyard/protocol/ApiKey;" (.ref a_SASL_HANDSHAKE)) (X_SASL_HANDSHAKE : Exa Z Z.heap a_SASL_HANDSHAKE "com/example/lanyard/lanyard/protocol/ApiKey") (F_SASL_HANDSHAKE_firstFlexibleVersion : Fld Z Z.heap a_SASL_HANDSHAKE "com/example/lanyard/lanyard/protocol/ApiKey" "firstFlexibleVersion" "I" (.int (2147483647 : Int32))) (S_CREATE_DELEGATION_TOKEN : Sta Z Z.heap "com/example/lanyard/lanyard/protocol/ApiKey" "CREATE_DELEGATION_TOKEN" "Lcom/example/lanyard/lanyard/protocol/ApiKey;" (.ref a_CREATE_DELEGATION_TOKEN)) (X_CREATE_DELEGATION_TOKEN : Exa Z Z.heap a_CREATE_DELEGATION_TOKEN "com/example/lanyard/lanyard/protocol/ApiKey") (F_CREATE_DELEGATION_TOKEN_firstFlexibleVersion : Fld Z Z.heap a_CREATE_DELEGATION_TOKEN "com/example/lanyard/lanyard/protocol/ApiKey" "firstFlexibleVersion" "I" (.int (2 : Int32))) (S_DESCRIBE_DELEGATION_TOKEN : Sta Z Z.heap "com/example/lanyard/lanyard/protocol/ApiKey" "DESCRIBE_DELEGATION_TOKEN" "Lcom/example/lanyard/lanyard/protocol/ApiKey;" (.ref a_DESCRIBE_DELEGATION_TOKEN)) (X_DESCRIBE_DELEGATION_TOKEN : Exa Z Z.heap a_DESCRIBE_DELEGATION_TOKEN "com/example/lanyard/lanyard/protocol/ApiKey") (F_DESCRIBE_DELEGATION_TOKEN_firstFlexibleVersion : Fld Z Z.heap a_DESCRIBE_DELEGATION_TOKEN "com/example/lanyard/lanyard/protocol/ApiKey" "firstFlexibleVersion" "I" (.int (2 : Int32))) (S_API_VERSIONS : Sta Z Z.heap "com/example/lanyard/lanyard/protocol/ApiKey" "API_VERSIONS" "Lcom/example/lanyard/lanyard/protocol/ApiKey;" (.ref a_API_VERSIONS)) (X_API_VERSIONS : Exa Z Z.heap a_API_VERSIONS "com/example/lanyard/lanyard/protocol/ApiKey") (F_API_VERSIONS_firstFlexibleVersion : Fld Z Z.heap a_API_VERSIONS "com/example/lanyard/lanyard/protocol/ApiKey" "firstFlexibleVersion" "I" (.int (3 : Int32))) (S_SASL_AUTHENTICATE : Sta Z Z.heap "com/example/lanyard/lanyard/protocol/ApiKey" "SASL_AUTHENTICATE" "Lcom/example/lanyard/lanyard/protocol/ApiKey;" (.ref a_SASL_AUTHENTICATE)) (X_SASL_AUTHENTICATE : Exa Z Z.heap a_SASL_AUTHENTICATE "com/example/lanyard/lanyard/protocol/ApiKey") (F_SASL_AUTHENTICATE_firstFlexibleVersion : Fld Z Z.heap a_SASL_AUTHENTICATE "com/example/lanyard/lanyard/protocol/ApiKey" "firstFlexibleVersion" "I" (.int (2 : Int32))) (S_RENEW_DELEGATION_TOKEN : Sta Z Z.heap "com/example/lanyard/lanyard/protocol/ApiKey" "RENEW_DELEGATION_TOKEN" "Lcom/example/lanyard/lanyard/protocol/ApiKey;" (.ref a_RENEW_DELEGATION_TOKEN)) (X_RENEW_DELEGATION_TOKEN : Exa Z Z.heap a_RENEW_DELEGATION_TOKEN "com/example/lanyard/lanyard/protocol/ApiKey") (F_RENEW_DELEGATION_TOKEN_firstFlexibleVersion : Fld Z Z.heap a_RENEW_DELEGATION_TOKEN "com/example/lanyard/lanyard/protocol/ApiKey" "firstFlexibleVersion" "I" (.int (2 : Int32))) (S_EXPIRE_DELEGATION_TOKEN : Sta Z Z.heap "com/example/lanyard/lanyard/protocol/ApiKey" "EXPIRE_DELEGATION_TOKEN" "Lcom/example/lanyard/lanyard/protocol/ApiKey;" (.ref a_EXPIRE_DELEGATION_TOKEN)) (X_EXPIRE_DELEGATION_TOKEN : Exa Z Z.heap a_EXPIRE_DELEGATION_TOKEN "com/example/lanyard/lanyard/protocol/ApiKey") (F_EXPIRE_DELEGATION_TOKEN_firstFlexibleVersion : Fld Z Z.heap a_EXPIRE_DELEGATION_TOKEN "com/example/lanyard/lanyard/protocol/ApiKey" "firstFlexibleVersion" "I" (.int (2 : Int32))) :
    own_C l Z x code maxLocals ret tables_1 room_1 [] #[(.int p0), (.int p1), (.int p2)] h0 (fun v _ => v = some (.int 1)) := by
  refine own_C.of pn0 hO all0 ?_
  intro p e s m below meth c T0 S0
  refine own_F.cast (by first | (simp [entryFrame, mkF, argsToLocals, Value.category, maxLocals]; done) | rfl : entryFrame m #[(.int p0), (.int p1), (.int p2)] maxLocals = mkF m 0 #[.val (.int p0), .val (.int p1), .val (.int p2), .unset, .unset, .unset, .unset, .unset] []) ?_
  show own_F p e below s Z _ _ _ _ _ (T0.setTop (mkF m 0 #[.val (.int p0), .val (.int p1), .val (.int p2), .unset, .unset, .unset, .unset, .unset] []))
  refine own_F.of (fun _ => XS.iloadN S0.here S0.hx rfl (S0.dec at_0) rfl) ?_
  show own_F p e below s Z _ _ _ _ _ (T0.setTop (mkF m 1 #[.val (.int p0), .val (.int p1), .val (.int p2), .unset, .unset, .unset, .unset, .unset] [(.int p0)]))
  refine own_ldcI S0 (own_w hw 0 rfl) at_1 ?_
  show own_F p e below s Z _ _ _ _ _ (T0.setTop (mkF m 3 #[.val (.int p0), .val (.int p1), .val (.int p2), .unset, .unset, .unset, .unset, .unset] [(.int (2147483647 : Int32)), (.int p0)]))
  refine own_F.of (fun _ => XS.iand S0.here S0.hx rfl (S0.dec at_3) rfl) ?_
  show own_F p e below s Z _ _ _ _ _ (T0.setTop (mkF m 4 #[.val (.int p0), .val (.int p1), .val (.int p2), .unset, .unset, .unset, .unset, .unset] [(.int (p0 &&& (2147483647 : Int32)))]))
  refine own_F.of (fun _ => XS.bipush S0.here S0.hx rfl (S0.dec at_4)) ?_
  show own_F p e below s Z _ _ _ _ _ (T0.setTop (mkF m 6 #[.val (.int p0), .val (.int p1), .val (.int p2), .unset, .unset, .unset, .unset, .unset] [(.int (8 : Int32)), (.int (p0 &&& (2147483647 : Int32)))]))
  refine own_F.of (fun _ => own_irem S0 at_6 (by decide)) ?_
  show own_F p e below s Z _ _ _ _ _ (T0.setTop (mkF m 7 #[.val (.int p0), .val (.int p1), .val (.int p2), .unset, .unset, .unset, .unset, .unset] [(.int ((p0 &&& (2147483647 : Int32)) % (8 : Int32)))]))
  refine own_F.of (fun _ => XS.istoreN S0.here S0.hx rfl (S0.dec at_7) rfl (l' := #[.val (.int p0), .val (.int p1), .val (.int p2), .val (.int ((p0 &&& (2147483647 : Int32)) % (8 : Int32))), .unset, .unset, .unset, .unset]) rfl) ?_
  show own_F p e below s Z _ _ _ _ _ (T0.setTop (mkF m 8 #[.val (.int p0), .val (.int p1), .val (.int p2), .val (.int ((p0 &&& (2147483647 : Int32)) % (8 : Int32))), .unset, .unset, .unset, .unset] []))
  refine own_F.of (fun _ => XS.iloadN S0.here S0.hx rfl (S0.dec at_8) rfl) ?_
  show own_F p e below s Z _ _ _ _ _ (T0.setTop (mkF m 9 #[.val (.int p0), .val (.int p1), .val (.int p2), .val (.int ((p0 &&& (2147483647 : Int32)) % (8 : Int32))), .unset, .unset, .unset, .unset] [(.int ((p0 &&& (2147483647 : Int32)) % (8 : Int32)))]))
  refine own_if S0 24 at_9 (by decide) (by decide) (fun (hc9_1 : ¬ (((p0 &&& (2147483647 : Int32)) % (8 : Int32)) = (0 : Int32))) => ?_) (fun (hc9_1 : ((p0 &&& (2147483647 : Int32)) % (8 : Int32)) = (0 : Int32)) => ?_)
  · show own_F p e below s Z _ _ _ _ _ (T0.setTop (mkF m 24 #[.val (.int p0), .val (.int p1), .val (.int p2), .val (.int ((p0 &&& (2147483647 : Int32)) % (8 : Int32))), .unset, .unset, .unset, .unset] []))
    refine own_F.of (fun _ => XS.iloadN S0.here S0.hx rfl (S0.dec at_24) rfl) ?_
    show own_F p e below s Z _ _ _ _ _ (T0.setTop (mkF m 25 #[.val (.int p0), .val (.int p1), .val (.int p2), .val (.int ((p0 &&& (2147483647 : Int32)) % (8 : Int32))), .unset, .unset, .unset, .unset] [(.int ((p0 &&& (2147483647 : Int32)) % (8 : Int32)))]))
    refine own_F.of (fun _ => XS.iconst S0.here S0.hx rfl (S0.dec at_25)) ?_
    show own_F p e below s Z _ _ _ _ _ (T0.setTop (mkF m 26 #[.val (.int p0), .val (.int p1), .val (.int p2), .val (.int ((p0 &&& (2147483647 : Int32)) % (8 : Int32))), .unset, .unset, .unset, .unset] [(.int (1 : Int32)), (.int ((p0 &&& (2147483647 : Int32)) % (8 : Int32)))]))
    refine own_icmp S0 41 at_26 (by decide) (by decide) (fun (hc26_2 : ¬ (((p0 &&& (2147483647 : Int32)) % (8 : Int32)) = (1 : Int32))) => ?_) (fun (hc26_2 : ((p0 &&& (2147483647 : Int32)) % (8 : Int32)) = (1 : Int32)) => ?_)
    · show own_F p e below s Z _ _ _ _ _ (T0.setTop (mkF m 41 #[.val (.int p0), .val (.int p1), .val (.int p2), .val (.int ((p0 &&& (2147483647 : Int32)) % (8 : Int32))), .unset, .unset, .unset, .unset] []))
      refine own_F.of (fun _ => XS.iloadN S0.here S0.hx rfl (S0.dec at_41) rfl) ?_
      show own_F p e below s Z _ _ _ _ _ (T0.setTop (mkF m 42 #[.val (.int p0), .val (.int p1), .val (.int p2), .val (.int ((p0 &&& (2147483647 : Int32)) % (8 : Int32))), .unset, .unset, .unset, .unset] [(.int ((p0 &&& (2147483647 : Int32)) % (8 : Int32)))]))
      refine own_F.of (fun _ => XS.iconst S0.here S0.hx rfl (S0.dec at_42)) ?_
      show own_F p e below s Z _ _ _ _ _ (T0.setTop (mkF m 43 #[.val (.int p0), .val (.int p1), .val (.int p2), .val (.int ((p0 &&& (2147483647 : Int32)) % (8 : Int32))), .unset, .unset, .unset, .unset] [(.int (2 : Int32)), (.int ((p0 &&& (2147483647 : Int32)) % (8 : Int32)))]))
      refine own_icmp S0 57 at_43 (by decide) (by decide) (fun (hc43_3 : ¬ (((p0 &&& (2147483647 : Int32)) % (8 : Int32)) = (2 : Int32))) => ?_) (fun (hc43_3 : ((p0 &&& (2147483647 : Int32)) % (8 : Int32)) = (2 : Int32)) => ?_)
      · show own_F p e below s Z _ _ _ _ _ (T0.setTop (mkF m 57 #[.val (.int p0), .val (.int p1), .val (.int p2), .val (.int ((p0 &&& (2147483647 : Int32)) % (8 : Int32))), .unset, .unset, .unset, .unset] []))
        refine own_F.of (fun _ => XS.iloadN S0.here S0.hx rfl (S0.dec at_57) rfl) ?_
        show own_F p e below s Z _ _ _ _ _ (T0.setTop (mkF m 58 #[.val (.int p0), .val (.int p1), .val (.int p2), .val (.int ((p0 &&& (2147483647 : Int32)) % (8 : Int32))), .unset, .unset, .unset, .unset] [(.int ((p0 &&& (2147483647 : Int32)) % (8 : Int32)))]))
        refine own_F.of (fun _ => XS.iconst S0.here S0.hx rfl (S0.dec at_58)) ?_
        show own_F p e below s Z _ _ _ _ _ (T0.setTop (mkF m 59 #[.val (.int p0), .val (.int p1), .val (.int p2), .val (.int ((p0 &&& (2147483647 : Int32)) % (8 : Int32))), .unset, .unset, .unset, .unset] [(.int (3 : Int32)), (.int ((p0 &&& (2147483647 : Int32)) % (8 : Int32)))]))
        refine own_icmp S0 73 at_59 (by decide) (by decide) (fun (hc59_4 : ¬ (((p0 &&& (2147483647 : Int32)) % (8 : Int32)) = (3 : Int32))) => ?_) (fun (hc59_4 : ((p0 &&& (2147483647 : Int32)) % (8 : Int32)) = (3 : Int32)) => ?_)
        · show own_F p e below s Z _ _ _ _ _ (T0.setTop (mkF m 73 #[.val (.int p0), .val (.int p1), .val (.int p2), .val (.int ((p0 &&& (2147483647 : Int32)) % (8 : Int32))), .unset, .unset, .unset, .unset] []))
          refine own_F.of (fun _ => XS.iloadN S0.here S0.hx rfl (S0.dec at_73) rfl) ?_
          show own_F p e below s Z _ _ _ _ _ (T0.setTop (mkF m 74 #[.val (.int p0), .val (.int p1), .val (.int p2), .val (.int ((p0 &&& (2147483647 : Int32)) % (8 : Int32))), .unset, .unset, .unset, .unset] [(.int ((p0 &&& (2147483647 : Int32)) % (8 : Int32)))]))
          refine own_F.of (fun _ => XS.iconst S0.here S0.hx rfl (S0.dec at_74)) ?_
          show own_F p e below s Z _ _ _ _ _ (T0.setTop (mkF m 75 #[.val (.int p0), .val (.int p1), .val (.int p2), .val (.int ((p0 &&& (2147483647 : Int32)) % (8 : Int32))), .unset, .unset, .unset, .unset] [(.int (4 : Int32)), (.int ((p0 &&& (2147483647 : Int32)) % (8 : Int32)))]))
          refine own_icmp S0 89 at_75 (by decide) (by decide) (fun (hc75_5 : ¬ (((p0 &&& (2147483647 : Int32)) % (8 : Int32)) = (4 : Int32))) => ?_) (fun (hc75_5 : ((p0 &&& (2147483647 : Int32)) % (8 : Int32)) = (4 : Int32)) => ?_)
          · show own_F p e below s Z _ _ _ _ _ (T0.setTop (mkF m 89 #[.val (.int p0), .val (.int p1), .val (.int p2), .val (.int ((p0 &&& (2147483647 : Int32)) % (8 : Int32))), .unset, .unset, .unset, .unset] []))
            refine own_F.of (fun _ => XS.iloadN S0.here S0.hx rfl (S0.dec at_89) rfl) ?_
            show own_F p e below s Z _ _ _ _ _ (T0.setTop (mkF m 90 #[.val (.int p0), .val (.int p1), .val (.int p2), .val (.int ((p0 &&& (2147483647 : Int32)) % (8 : Int32))), .unset, .unset, .unset, .unset] [(.int ((p0 &&& (2147483647 : Int32)) % (8 : Int32)))]))
            refine own_F.of (fun _ => XS.iconst S0.here S0.hx rfl (S0.dec at_90)) ?_
            show own_F p e below s Z _ _ _ _ _ (T0.setTop (mkF m 91 #[.val (.int p0), .val (.int p1), .val (.int p2), .val (.int ((p0 &&& (2147483647 : Int32)) % (8 : Int32))), .unset, .unset, .unset, .unset] [(.int (5 : Int32)), (.int ((p0 &&& (2147483647 : Int32)) % (8 : Int32)))]))
            refine own_icmp S0 105 at_91 (by decide) (by decide) (fun (hc91_6 : ¬ (((p0 &&& (2147483647 : Int32)) % (8 : Int32)) = (5 : Int32))) => ?_) (fun (hc91_6 : ((p0 &&& (2147483647 : Int32)) % (8 : Int32)) = (5 : Int32)) => ?_)
            · show own_F p e below s Z _ _ _ _ _ (T0.setTop (mkF m 105 #[.val (.int p0), .val (.int p1), .val (.int p2), .val (.int ((p0 &&& (2147483647 : Int32)) % (8 : Int32))), .unset, .unset, .unset, .unset] []))
              refine own_F.of (fun _ => XS.iloadN S0.here S0.hx rfl (S0.dec at_105) rfl) ?_
              show own_F p e below s Z _ _ _ _ _ (T0.setTop (mkF m 106 #[.val (.int p0), .val (.int p1), .val (.int p2), .val (.int ((p0 &&& (2147483647 : Int32)) % (8 : Int32))), .unset, .unset, .unset, .unset] [(.int ((p0 &&& (2147483647 : Int32)) % (8 : Int32)))]))
              refine own_F.of (fun _ => XS.bipush S0.here S0.hx rfl (S0.dec at_106)) ?_
              show own_F p e below s Z _ _ _ _ _ (T0.setTop (mkF m 108 #[.val (.int p0), .val (.int p1), .val (.int p2), .val (.int ((p0 &&& (2147483647 : Int32)) % (8 : Int32))), .unset, .unset, .unset, .unset] [(.int (6 : Int32)), (.int ((p0 &&& (2147483647 : Int32)) % (8 : Int32)))]))
              refine own_icmp S0 122 at_108 (by decide) (by decide) (fun (hc108_7 : ¬ (((p0 &&& (2147483647 : Int32)) % (8 : Int32)) = (6 : Int32))) => ?_) (fun (hc108_7 : ((p0 &&& (2147483647 : Int32)) % (8 : Int32)) = (6 : Int32)) => ?_)
              · show own_F p e below s Z _ _ _ _ _ (T0.setTop (mkF m 122 #[.val (.int p0), .val (.int p1), .val (.int p2), .val (.int ((p0 &&& (2147483647 : Int32)) % (8 : Int32))), .unset, .unset, .unset, .unset] []))
                refine own_getS S0 (host := "") (Or.inl (own_w hw 15 rfl)) Via.refl (S_DESCRIBE_DELEGATION_TOKEN.ext S0.old) at_122 (fun T8 S8 => ?_)
                show own_F p e below s Z _ _ _ _ _ (T8.setTop (mkF m 125 #[.val (.int p0), .val (.int p1), .val (.int p2), .val (.int ((p0 &&& (2147483647 : Int32)) % (8 : Int32))), .unset, .unset, .unset, .unset] [(.ref a_DESCRIBE_DELEGATION_TOKEN)]))
                refine own_F.of (fun _ => XS.astore S8.here S8.hx rfl (S8.dec at_125) rfl rfl (l' := #[.val (.int p0), .val (.int p1), .val (.int p2), .val (.int ((p0 &&& (2147483647 : Int32)) % (8 : Int32))), .val (.ref a_DESCRIBE_DELEGATION_TOKEN), .unset, .unset, .unset]) rfl) ?_
                show own_F p e below s Z _ _ _ _ _ (T8.setTop (mkF m 127 #[.val (.int p0), .val (.int p1), .val (.int p2), .val (.int ((p0 &&& (2147483647 : Int32)) % (8 : Int32))), .val (.ref a_DESCRIBE_DELEGATION_TOKEN), .unset, .unset, .unset] []))
                refine own_F.of (fun _ => XS.iconst S8.here S8.hx rfl (S8.dec at_127)) ?_
                show own_F p e below s Z _ _ _ _ _ (T8.setTop (mkF m 128 #[.val (.int p0), .val (.int p1), .val (.int p2), .val (.int ((p0 &&& (2147483647 : Int32)) % (8 : Int32))), .val (.ref a_DESCRIBE_DELEGATION_TOKEN), .unset, .unset, .unset] [(.int (2 : Int32))]))
                refine own_F.of (fun _ => XS.istore S8.here S8.hx rfl (S8.dec at_128) rfl (l' := #[.val (.int p0), .val (.int p1), .val (.int p2), .val (.int ((p0 &&& (2147483647 : Int32)) % (8 : Int32))), .val (.ref a_DESCRIBE_DELEGATION_TOKEN), .val (.int (2 : Int32)), .unset, .unset]) rfl) ?_
                show own_F p e below s Z _ _ _ _ _ (T8.setTop (mkF m 130 #[.val (.int p0), .val (.int p1), .val (.int p2), .val (.int ((p0 &&& (2147483647 : Int32)) % (8 : Int32))), .val (.ref a_DESCRIBE_DELEGATION_TOKEN), .val (.int (2 : Int32)), .unset, .unset] []))
                refine own_F.of (fun _ => XS.iloadN S8.here S8.hx rfl (S8.dec at_130) rfl) ?_
                show own_F p e below s Z _ _ _ _ _ (T8.setTop (mkF m 131 #[.val (.int p0), .val (.int p1), .val (.int p2), .val (.int ((p0 &&& (2147483647 : Int32)) % (8 : Int32))), .val (.ref a_DESCRIBE_DELEGATION_TOKEN), .val (.int (2 : Int32)), .unset, .unset] [(.int p1)]))
                refine own_F.of (fun _ => XS.istore S8.here S8.hx rfl (S8.dec at_131) rfl (l' := #[.val (.int p0), .val (.int p1), .val (.int p2), .val (.int ((p0 &&& (2147483647 : Int32)) % (8 : Int32))), .val (.ref a_DESCRIBE_DELEGATION_TOKEN), .val (.int (2 : Int32)), .val (.int p1), .unset]) rfl) ?_
                show own_F p e below s Z _ _ _ _ _ (T8.setTop (mkF m 133 #[.val (.int p0), .val (.int p1), .val (.int p2), .val (.int ((p0 &&& (2147483647 : Int32)) % (8 : Int32))), .val (.ref a_DESCRIBE_DELEGATION_TOKEN), .val (.int (2 : Int32)), .val (.int p1), .unset] []))
                refine own_F.of (fun _ => XS.iloadN S8.here S8.hx rfl (S8.dec at_133) rfl) ?_
                show own_F p e below s Z _ _ _ _ _ (T8.setTop (mkF m 134 #[.val (.int p0), .val (.int p1), .val (.int p2), .val (.int ((p0 &&& (2147483647 : Int32)) % (8 : Int32))), .val (.ref a_DESCRIBE_DELEGATION_TOKEN), .val (.int (2 : Int32)), .val (.int p1), .unset] [(.int p2)]))
                refine own_F.of (fun _ => XS.iconst S8.here S8.hx rfl (S8.dec at_134)) ?_
                show own_F p e below s Z _ _ _ _ _ (T8.setTop (mkF m 135 #[.val (.int p0), .val (.int p1), .val (.int p2), .val (.int ((p0 &&& (2147483647 : Int32)) % (8 : Int32))), .val (.ref a_DESCRIBE_DELEGATION_TOKEN), .val (.int (2 : Int32)), .val (.int p1), .unset] [(.int (1 : Int32)), (.int p2)]))
                refine own_F.of (fun _ => XS.iand S8.here S8.hx rfl (S8.dec at_135) rfl) ?_
                show own_F p e below s Z _ _ _ _ _ (T8.setTop (mkF m 136 #[.val (.int p0), .val (.int p1), .val (.int p2), .val (.int ((p0 &&& (2147483647 : Int32)) % (8 : Int32))), .val (.ref a_DESCRIBE_DELEGATION_TOKEN), .val (.int (2 : Int32)), .val (.int p1), .unset] [(.int (p2 &&& (1 : Int32)))]))
                refine own_if S8 151 at_136 (by decide) (by decide) (fun (hc136_9 : (p2 &&& (1 : Int32)) = (0 : Int32)) => ?_) (fun (hc136_9 : ¬ ((p2 &&& (1 : Int32)) = (0 : Int32))) => ?_)
                · show own_F p e below s Z _ _ _ _ _ (T8.setTop (mkF m 151 #[.val (.int p0), .val (.int p1), .val (.int p2), .val (.int ((p0 &&& (2147483647 : Int32)) % (8 : Int32))), .val (.ref a_DESCRIBE_DELEGATION_TOKEN), .val (.int (2 : Int32)), .val (.int p1), .unset] []))
                  refine own_F.of (fun _ => XS.iload S8.here S8.hx rfl (S8.dec at_151) rfl) ?_
                  show own_F p e below s Z _ _ _ _ _ (T8.setTop (mkF m 153 #[.val (.int p0), .val (.int p1), .val (.int p2), .val (.int ((p0 &&& (2147483647 : Int32)) % (8 : Int32))), .val (.ref a_DESCRIBE_DELEGATION_TOKEN), .val (.int (2 : Int32)), .val (.int p1), .unset] [(.int p1)]))
                  refine own_F.of (fun _ => XS.iload S8.here S8.hx rfl (S8.dec at_153) rfl) ?_
                  show own_F p e below s Z _ _ _ _ _ (T8.setTop (mkF m 155 #[.val (.int p0), .val (.int p1), .val (.int p2), .val (.int ((p0 &&& (2147483647 : Int32)) % (8 : Int32))), .val (.ref a_DESCRIBE_DELEGATION_TOKEN), .val (.int (2 : Int32)), .val (.int p1), .unset] [(.int (2 : Int32)), (.int p1)]))
                  refine own_icmp S8 162 at_155 (by decide) (by decide) (fun (hc155_10 : p1 < (2 : Int32)) => ?_) (fun (hc155_10 : ¬ (p1 < (2 : Int32))) => ?_)
                  · show own_F p e below s Z _ _ _ _ _ (T8.setTop (mkF m 162 #[.val (.int p0), .val (.int p1), .val (.int p2), .val (.int ((p0 &&& (2147483647 : Int32)) % (8 : Int32))), .val (.ref a_DESCRIBE_DELEGATION_TOKEN), .val (.int (2 : Int32)), .val (.int p1), .unset] []))
                    refine own_F.of (fun _ => XS.iconst S8.here S8.hx rfl (S8.dec at_162)) ?_
                    show own_F p e below s Z _ _ _ _ _ (T8.setTop (mkF m 163 #[.val (.int p0), .val (.int p1), .val (.int p2), .val (.int ((p0 &&& (2147483647 : Int32)) % (8 : Int32))), .val (.ref a_DESCRIBE_DELEGATION_TOKEN), .val (.int (2 : Int32)), .val (.int p1), .unset] [(.int (0 : Int32))]))
                    refine own_F.of (fun _ => XS.istore S8.here S8.hx rfl (S8.dec at_163) rfl (l' := #[.val (.int p0), .val (.int p1), .val (.int p2), .val (.int ((p0 &&& (2147483647 : Int32)) % (8 : Int32))), .val (.ref a_DESCRIBE_DELEGATION_TOKEN), .val (.int (2 : Int32)), .val (.int p1), .val (.int (0 : Int32))]) rfl) ?_
                    show own_F p e below s Z _ _ _ _ _ (T8.setTop (mkF m 165 #[.val (.int p0), .val (.int p1), .val (.int p2), .val (.int ((p0 &&& (2147483647 : Int32)) % (8 : Int32))), .val (.ref a_DESCRIBE_DELEGATION_TOKEN), .val (.int (2 : Int32)), .val (.int p1), .val (.int (0 : Int32))] []))
                    refine own_F.of (fun _ => XS.aload S8.here S8.hx rfl (S8.dec at_165) rfl rfl) ?_
                    show own_F p e below s Z _ _ _ _ _ (T8.setTop (mkF m 167 #[.val (.int p0), .val (.int p1), .val (.int p2), .val (.int ((p0 &&& (2147483647 : Int32)) % (8 : Int32))), .val (.ref a_DESCRIBE_DELEGATION_TOKEN), .val (.int (2 : Int32)), .val (.int p1), .val (.int (0 : Int32))] [(.ref a_DESCRIBE_DELEGATION_TOKEN)]))
                    refine own_F.of (fun _ => XS.iload S8.here S8.hx rfl (S8.dec at_167) rfl) ?_
                    show own_F p e below s Z _ _ _ _ _ (T8.setTop (mkF m 169 #[.val (.int p0), .val (.int p1), .val (.int p2), .val (.int ((p0 &&& (2147483647 : Int32)) % (8 : Int32))), .val (.ref a_DESCRIBE_DELEGATION_TOKEN), .val (.int (2 : Int32)), .val (.int p1), .val (.int (0 : Int32))] [(.int p1), (.ref a_DESCRIBE_DELEGATION_TOKEN)]))
                    refine own_callV S8 (y := (⟨"com/example/lanyard/lanyard/protocol/ApiKey", "isFlexible", "(I)Z"⟩ : MethodName)) (y' := (⟨"com/example/lanyard/lanyard/protocol/ApiKey", "isFlexible", "(I)Z"⟩ : MethodName)) (own_w hw 4 rfl) (own_w hw 5 rfl) (own_nf S8 (own_w hw 7 rfl)) (own_w hw 7 rfl) (own_w hw 6 rfl) (own_w hw 8 rfl) (own_w hw 2 rfl) (by decide) (X_DESCRIBE_DELEGATION_TOKEN.ext S8.old) (argsL := [(.int p1)]) (rest := []) (own_flex l Z a0 hw a_DESCRIBE_DELEGATION_TOKEN p1 (2 : Int32) h0 S8.old F_DESCRIBE_DELEGATION_TOKEN_firstFlexibleVersion) all0 (by decide +kernel : parseMethodDescriptor "(I)Z" = some ⟨[.int], some .boolean⟩) rfl rfl rfl at_169 (by decide) (Nat.le_of_ble_eq_true rfl) (by decide) (by decide) (fun T11 h11 v11 S11 K11 q11 => ?_)
                    obtain ⟨rfl, rfl⟩ := q11
                    show own_F p e below s Z _ _ _ _ _ (T11.setTop (mkF m 172 #[.val (.int p0), .val (.int p1), .val (.int p2), .val (.int ((p0 &&& (2147483647 : Int32)) % (8 : Int32))), .val (.ref a_DESCRIBE_DELEGATION_TOKEN), .val (.int (2 : Int32)), .val (.int p1), .val (.int (0 : Int32))] [(.int (own_fx p1 (2 : Int32)))]))
                    refine own_F.of (fun _ => XS.iload S11.here S11.hx rfl (S11.dec at_172) rfl) ?_
                    show own_F p e below s Z _ _ _ _ _ (T11.setTop (mkF m 174 #[.val (.int p0), .val (.int p1), .val (.int p2), .val (.int ((p0 &&& (2147483647 : Int32)) % (8 : Int32))), .val (.ref a_DESCRIBE_DELEGATION_TOKEN), .val (.int (2 : Int32)), .val (.int p1), .val (.int (0 : Int32))] [(.int (0 : Int32)), (.int (own_fx p1 (2 : Int32)))]))
                    refine own_icmp S11 181 at_174 (by decide) (by decide) (fun (hc174_12 : ¬ ((own_fx p1 (2 : Int32)) = (0 : Int32))) => False.elim (hc174_12 (by simp [own_fx, hc155_10]))) (fun (hc174_12 : (own_fx p1 (2 : Int32)) = (0 : Int32)) => ?_)
                    show own_F p e below s Z _ _ _ _ _ (T11.setTop (mkF m 177 #[.val (.int p0), .val (.int p1), .val (.int p2), .val (.int ((p0 &&& (2147483647 : Int32)) % (8 : Int32))), .val (.ref a_DESCRIBE_DELEGATION_TOKEN), .val (.int (2 : Int32)), .val (.int p1), .val (.int (0 : Int32))] []))
                    refine own_F.of (fun _ => XS.iconst S11.here S11.hx rfl (S11.dec at_177)) ?_
                    show own_F p e below s Z _ _ _ _ _ (T11.setTop (mkF m 178 #[.val (.int p0), .val (.int p1), .val (.int p2), .val (.int ((p0 &&& (2147483647 : Int32)) % (8 : Int32))), .val (.ref a_DESCRIBE_DELEGATION_TOKEN), .val (.int (2 : Int32)), .val (.int p1), .val (.int (0 : Int32))] [(.int (1 : Int32))]))
                    refine own_F.of (fun _ => XS.goto S11.here S11.hx rfl (pc0 := 178) (pc' := 182) rfl (S11.dec at_178) (by decide) (by decide)) ?_
                    show own_F p e below s Z _ _ _ _ _ (T11.setTop (mkF m 182 #[.val (.int p0), .val (.int p1), .val (.int p2), .val (.int ((p0 &&& (2147483647 : Int32)) % (8 : Int32))), .val (.ref a_DESCRIBE_DELEGATION_TOKEN), .val (.int (2 : Int32)), .val (.int p1), .val (.int (0 : Int32))] [(.int (1 : Int32))]))
                    refine own_retZ S11 (by simp) at_182 (by decide) (by decide) ?_
                    rfl
                  · show own_F p e below s Z _ _ _ _ _ (T8.setTop (mkF m 158 #[.val (.int p0), .val (.int p1), .val (.int p2), .val (.int ((p0 &&& (2147483647 : Int32)) % (8 : Int32))), .val (.ref a_DESCRIBE_DELEGATION_TOKEN), .val (.int (2 : Int32)), .val (.int p1), .unset] []))
                    refine own_F.of (fun _ => XS.iconst S8.here S8.hx rfl (S8.dec at_158)) ?_
                    show own_F p e below s Z _ _ _ _ _ (T8.setTop (mkF m 159 #[.val (.int p0), .val (.int p1), .val (.int p2), .val (.int ((p0 &&& (2147483647 : Int32)) % (8 : Int32))), .val (.ref a_DESCRIBE_DELEGATION_TOKEN), .val (.int (2 : Int32)), .val (.int p1), .unset] [(.int (1 : Int32))]))
                    refine own_F.of (fun _ => XS.goto S8.here S8.hx rfl (pc0 := 159) (pc' := 163) rfl (S8.dec at_159) (by decide) (by decide)) ?_
                    show own_F p e below s Z _ _ _ _ _ (T8.setTop (mkF m 163 #[.val (.int p0), .val (.int p1), .val (.int p2), .val (.int ((p0 &&& (2147483647 : Int32)) % (8 : Int32))), .val (.ref a_DESCRIBE_DELEGATION_TOKEN), .val (.int (2 : Int32)), .val (.int p1), .unset] [(.int (1 : Int32))]))
                    refine own_F.of (fun _ => XS.istore S8.here S8.hx rfl (S8.dec at_163) rfl (l' := #[.val (.int p0), .val (.int p1), .val (.int p2), .val (.int ((p0 &&& (2147483647 : Int32)) % (8 : Int32))), .val (.ref a_DESCRIBE_DELEGATION_TOKEN), .val (.int (2 : Int32)), .val (.int p1), .val (.int (1 : Int32))]) rfl) ?_
                    show own_F p e below s Z _ _ _ _ _ (T8.setTop (mkF m 165 #[.val (.int p0), .val (.int p1), .val (.int p2), .val (.int ((p0 &&& (2147483647 : Int32)) % (8 : Int32))), .val (.ref a_DESCRIBE_DELEGATION_TOKEN), .val (.int (2 : Int32)), .val (.int p1), .val (.int (1 : Int32))] []))
                    refine own_F.of (fun _ => XS.aload S8.here S8.hx rfl (S8.dec at_165) rfl rfl) ?_
                    show own_F p e below s Z _ _ _ _ _ (T8.setTop (mkF m 167 #[.val (.int p0), .val (.int p1), .val (.int p2), .val (.int ((p0 &&& (2147483647 : Int32)) % (8 : Int32))), .val (.ref a_DESCRIBE_DELEGATION_TOKEN), .val (.int (2 : Int32)), .val (.int p1), .val (.int (1 : Int32))] [(.ref a_DESCRIBE_DELEGATION_TOKEN)]))
                    refine own_F.of (fun _ => XS.iload S8.here S8.hx rfl (S8.dec at_167) rfl) ?_
                    show own_F p e below s Z _ _ _ _ _ (T8.setTop (mkF m 169 #[.val (.int p0), .val (.int p1), .val (.int p2), .val (.int ((p0 &&& (2147483647 : Int32)) % (8 : Int32))), .val (.ref a_DESCRIBE_DELEGATION_TOKEN), .val (.int (2 : Int32)), .val (.int p1), .val (.int (1 : Int32))] [(.int p1), (.ref a_DESCRIBE_DELEGATION_TOKEN)]))
                    refine own_callV S8 (y := (⟨"com/example/lanyard/lanyard/protocol/ApiKey", "isFlexible", "(I)Z"⟩ : MethodName)) (y' := (⟨"com/example/lanyard/lanyard/protocol/ApiKey", "isFlexible", "(I)Z"⟩ : MethodName)) (own_w hw 4 rfl) (own_w hw 5 rfl) (own_nf S8 (own_w hw 7 rfl)) (own_w hw 7 rfl) (own_w hw 6 rfl) (own_w hw 8 rfl) (own_w hw 2 rfl) (by decide) (X_DESCRIBE_DELEGATION_TOKEN.ext S8.old) (argsL := [(.int p1)]) (rest := []) (own_flex l Z a0 hw a_DESCRIBE_DELEGATION_TOKEN p1 (2 : Int32) h0 S8.old F_DESCRIBE_DELEGATION_TOKEN_firstFlexibleVersion) all0 (by decide +kernel : parseMethodDescriptor "(I)Z" = some ⟨[.int], some .boolean⟩) rfl rfl rfl at_169 (by decide) (Nat.le_of_ble_eq_true rfl) (by decide) (by decide) (fun T13 h13 v13 S13 K13 q13 => ?_)
                    obtain ⟨rfl, rfl⟩ := q13
                    show own_F p e below s Z _ _ _ _ _ (T13.setTop (mkF m 172 #[.val (.int p0), .val (.int p1), .val (.int p2), .val (.int ((p0 &&& (2147483647 : Int32)) % (8 : Int32))), .val (.ref a_DESCRIBE_DELEGATION_TOKEN), .val (.int (2 : Int32)), .val (.int p1), .val (.int (1 : Int32))] [(.int (own_fx p1 (2 : Int32)))]))
                    refine own_F.of (fun _ => XS.iload S13.here S13.hx rfl (S13.dec at_172) rfl) ?_
                    show own_F p e below s Z _ _ _ _ _ (T13.setTop (mkF m 174 #[.val (.int p0), .val (.int p1), .val (.int p2), .val (.int ((p0 &&& (2147483647 : Int32)) % (8 : Int32))), .val (.ref a_DESCRIBE_DELEGATION_TOKEN), .val (.int (2 : Int32)), .val (.int p1), .val (.int (1 : Int32))] [(.int (1 : Int32)), (.int (own_fx p1 (2 : Int32)))]))
                    refine own_icmp S13 181 at_174 (by decide) (by decide) (fun (hc174_14 : ¬ ((own_fx p1 (2 : Int32)) = (1 : Int32))) => False.elim (hc174_14 (by simp [own_fx, hc155_10]))) (fun (hc174_14 : (own_fx p1 (2 : Int32)) = (1 : Int32)) => ?_)
                    show own_F p e below s Z _ _ _ _ _ (T13.setTop (mkF m 177 #[.val (.int p0), .val (.int p1), .val (.int p2), .val (.int ((p0 &&& (2147483647 : Int32)) % (8 : Int32))), .val (.ref a_DESCRIBE_DELEGATION_TOKEN), .val (.int (2 : Int32)), .val (.int p1), .val (.int (1 : Int32))] []))
                    refine own_F.of (fun _ => XS.iconst S13.here S13.hx rfl (S13.dec at_177)) ?_
                    show own_F p e below s Z _ _ _ _ _ (T13.setTop (mkF m 178 #[.val (.int p0), .val (.int p1), .val (.int p2), .val (.int ((p0 &&& (2147483647 : Int32)) % (8 : Int32))), .val (.ref a_DESCRIBE_DELEGATION_TOKEN), .val (.int (2 : Int32)), .val (.int p1), .val (.int (1 : Int32))] [(.int (1 : Int32))]))
                    refine own_F.of (fun _ => XS.goto S13.here S13.hx rfl (pc0 := 178) (pc' := 182) rfl (S13.dec at_178) (by decide) (by decide)) ?_
                    show own_F p e below s Z _ _ _ _ _ (T13.setTop (mkF m 182 #[.val (.int p0), .val (.int p1), .val (.int p2), .val (.int ((p0 &&& (2147483647 : Int32)) % (8 : Int32))), .val (.ref a_DESCRIBE_DELEGATION_TOKEN), .val (.int (2 : Int32)), .val (.int p1), .val (.int (1 : Int32))] [(.int (1 : Int32))]))
                    refine own_retZ S13 (by simp) at_182 (by decide) (by decide) ?_
                    rfl
                · show own_F p e below s Z _ _ _ _ _ (T8.setTop (mkF m 139 #[.val (.int p0), .val (.int p1), .val (.int p2), .val (.int ((p0 &&& (2147483647 : Int32)) % (8 : Int32))), .val (.ref a_DESCRIBE_DELEGATION_TOKEN), .val (.int (2 : Int32)), .val (.int p1), .unset] []))
                  refine own_F.of (fun _ => XS.iload S8.here S8.hx rfl (S8.dec at_139) rfl) ?_
                  show own_F p e below s Z _ _ _ _ _ (T8.setTop (mkF m 141 #[.val (.int p0), .val (.int p1), .val (.int p2), .val (.int ((p0 &&& (2147483647 : Int32)) % (8 : Int32))), .val (.ref a_DESCRIBE_DELEGATION_TOKEN), .val (.int (2 : Int32)), .val (.int p1), .unset] [(.int (2 : Int32))]))
                  refine own_F.of (fun _ => XS.iloadN S8.here S8.hx rfl (S8.dec at_141) rfl) ?_
                  show own_F p e below s Z _ _ _ _ _ (T8.setTop (mkF m 142 #[.val (.int p0), .val (.int p1), .val (.int p2), .val (.int ((p0 &&& (2147483647 : Int32)) % (8 : Int32))), .val (.ref a_DESCRIBE_DELEGATION_TOKEN), .val (.int (2 : Int32)), .val (.int p1), .unset] [(.int p2), (.int (2 : Int32))]))
                  refine own_F.of (fun _ => XS.iconst S8.here S8.hx rfl (S8.dec at_142)) ?_
                  show own_F p e below s Z _ _ _ _ _ (T8.setTop (mkF m 143 #[.val (.int p0), .val (.int p1), .val (.int p2), .val (.int ((p0 &&& (2147483647 : Int32)) % (8 : Int32))), .val (.ref a_DESCRIBE_DELEGATION_TOKEN), .val (.int (2 : Int32)), .val (.int p1), .unset] [(.int (1 : Int32)), (.int p2), (.int (2 : Int32))]))
                  refine own_F.of (fun _ => XS.ishr S8.here S8.hx rfl (S8.dec at_143) rfl) ?_
                  show own_F p e below s Z _ _ _ _ _ (T8.setTop (mkF m 144 #[.val (.int p0), .val (.int p1), .val (.int p2), .val (.int ((p0 &&& (2147483647 : Int32)) % (8 : Int32))), .val (.ref a_DESCRIBE_DELEGATION_TOKEN), .val (.int (2 : Int32)), .val (.int p1), .unset] [(.int (p2 >>> ((1 : Int32) &&& 31))), (.int (2 : Int32))]))
                  refine own_F.of (fun _ => XS.iconst S8.here S8.hx rfl (S8.dec at_144)) ?_
                  show own_F p e below s Z _ _ _ _ _ (T8.setTop (mkF m 145 #[.val (.int p0), .val (.int p1), .val (.int p2), .val (.int ((p0 &&& (2147483647 : Int32)) % (8 : Int32))), .val (.ref a_DESCRIBE_DELEGATION_TOKEN), .val (.int (2 : Int32)), .val (.int p1), .unset] [(.int (3 : Int32)), (.int (p2 >>> ((1 : Int32) &&& 31))), (.int (2 : Int32))]))
                  refine own_F.of (fun _ => XS.iand S8.here S8.hx rfl (S8.dec at_145) rfl) ?_
                  show own_F p e below s Z _ _ _ _ _ (T8.setTop (mkF m 146 #[.val (.int p0), .val (.int p1), .val (.int p2), .val (.int ((p0 &&& (2147483647 : Int32)) % (8 : Int32))), .val (.ref a_DESCRIBE_DELEGATION_TOKEN), .val (.int (2 : Int32)), .val (.int p1), .unset] [(.int ((p2 >>> ((1 : Int32) &&& 31)) &&& (3 : Int32))), (.int (2 : Int32))]))
                  refine own_F.of (fun _ => XS.iconst S8.here S8.hx rfl (S8.dec at_146)) ?_
                  show own_F p e below s Z _ _ _ _ _ (T8.setTop (mkF m 147 #[.val (.int p0), .val (.int p1), .val (.int p2), .val (.int ((p0 &&& (2147483647 : Int32)) % (8 : Int32))), .val (.ref a_DESCRIBE_DELEGATION_TOKEN), .val (.int (2 : Int32)), .val (.int p1), .unset] [(.int (2 : Int32)), (.int ((p2 >>> ((1 : Int32) &&& 31)) &&& (3 : Int32))), (.int (2 : Int32))]))
                  refine own_F.of (fun _ => XS.isub S8.here S8.hx rfl (S8.dec at_147) rfl) ?_
                  show own_F p e below s Z _ _ _ _ _ (T8.setTop (mkF m 148 #[.val (.int p0), .val (.int p1), .val (.int p2), .val (.int ((p0 &&& (2147483647 : Int32)) % (8 : Int32))), .val (.ref a_DESCRIBE_DELEGATION_TOKEN), .val (.int (2 : Int32)), .val (.int p1), .unset] [(.int (((p2 >>> ((1 : Int32) &&& 31)) &&& (3 : Int32)) - (2 : Int32))), (.int (2 : Int32))]))
                  refine own_F.of (fun _ => XS.iadd S8.here S8.hx rfl (S8.dec at_148) rfl) ?_
                  show own_F p e below s Z _ _ _ _ _ (T8.setTop (mkF m 149 #[.val (.int p0), .val (.int p1), .val (.int p2), .val (.int ((p0 &&& (2147483647 : Int32)) % (8 : Int32))), .val (.ref a_DESCRIBE_DELEGATION_TOKEN), .val (.int (2 : Int32)), .val (.int p1), .unset] [(.int ((2 : Int32) + (((p2 >>> ((1 : Int32) &&& 31)) &&& (3 : Int32)) - (2 : Int32))))]))
                  refine own_F.of (fun _ => XS.istore S8.here S8.hx rfl (S8.dec at_149) rfl (l' := #[.val (.int p0), .val (.int p1), .val (.int p2), .val (.int ((p0 &&& (2147483647 : Int32)) % (8 : Int32))), .val (.ref a_DESCRIBE_DELEGATION_TOKEN), .val (.int (2 : Int32)), .val (.int ((2 : Int32) + (((p2 >>> ((1 : Int32) &&& 31)) &&& (3 : Int32)) - (2 : Int32)))), .unset]) rfl) ?_
                  show own_F p e below s Z _ _ _ _ _ (T8.setTop (mkF m 151 #[.val (.int p0), .val (.int p1), .val (.int p2), .val (.int ((p0 &&& (2147483647 : Int32)) % (8 : Int32))), .val (.ref a_DESCRIBE_DELEGATION_TOKEN), .val (.int (2 : Int32)), .val (.int ((2 : Int32) + (((p2 >>> ((1 : Int32) &&& 31)) &&& (3 : Int32)) - (2 : Int32)))), .unset] []))
                  refine own_F.of (fun _ => XS.iload S8.here S8.hx rfl (S8.dec at_151) rfl) ?_
                  show own_F p e below s Z _ _ _ _ _ (T8.setTop (mkF m 153 #[.val (.int p0), .val (.int p1), .val (.int p2), .val (.int ((p0 &&& (2147483647 : Int32)) % (8 : Int32))), .val (.ref a_DESCRIBE_DELEGATION_TOKEN), .val (.int (2 : Int32)), .val (.int ((2 : Int32) + (((p2 >>> ((1 : Int32) &&& 31)) &&& (3 : Int32)) - (2 : Int32)))), .unset] [(.int ((2 : Int32) + (((p2 >>> ((1 : Int32) &&& 31)) &&& (3 : Int32)) - (2 : Int32))))]))
                  refine own_F.of (fun _ => XS.iload S8.here S8.hx rfl (S8.dec at_153) rfl) ?_
                  show own_F p e below s Z _ _ _ _ _ (T8.setTop (mkF m 155 #[.val (.int p0), .val (.int p1), .val (.int p2), .val (.int ((p0 &&& (2147483647 : Int32)) % (8 : Int32))), .val (.ref a_DESCRIBE_DELEGATION_TOKEN), .val (.int (2 : Int32)), .val (.int ((2 : Int32) + (((p2 >>> ((1 : Int32) &&& 31)) &&& (3 : Int32)) - (2 : Int32)))), .unset] [(.int (2 : Int32)), (.int ((2 : Int32) + (((p2 >>> ((1 : Int32) &&& 31)) &&& (3 : Int32)) - (2 : Int32))))]))
                  refine own_icmp S8 162 at_155 (by decide) (by decide) (fun (hc155_15 : ((2 : Int32) + (((p2 >>> ((1 : Int32) &&& 31)) &&& (3 : Int32)) - (2 : Int32))) < (2 : Int32)) => ?_) (fun (hc155_15 : ¬ (((2 : Int32) + (((p2 >>> ((1 : Int32) &&& 31)) &&& (3 : Int32)) - (2 : Int32))) < (2 : Int32))) => ?_)
                  · show own_F p e below s Z _ _ _ _ _ (T8.setTop (mkF m 162 #[.val (.int p0), .val (.int p1), .val (.int p2), .val (.int ((p0 &&& (2147483647 : Int32)) % (8 : Int32))), .val (.ref a_DESCRIBE_DELEGATION_TOKEN), .val (.int (2 : Int32)), .val (.int ((2 : Int32) + (((p2 >>> ((1 : Int32) &&& 31)) &&& (3 : Int32)) - (2 : Int32)))), .unset] []))
                    refine own_F.of (fun _ => XS.iconst S8.here S8.hx rfl (S8.dec at_162)) ?_
                    show own_F p e below s Z _ _ _ _ _ (T8.setTop (mkF m 163 #[.val (.int p0), .val (.int p1), .val (.int p2), .val (.int ((p0 &&& (2147483647 : Int32)) % (8 : Int32))), .val (.ref a_DESCRIBE_DELEGATION_TOKEN), .val (.int (2 : Int32)), .val (.int ((2 : Int32) + (((p2 >>> ((1 : Int32) &&& 31)) &&& (3 : Int32)) - (2 : Int32)))), .unset] [(.int (0 : Int32))]))
                    refine own_F.of (fun _ => XS.istore S8.here S8.hx rfl (S8.dec at_163) rfl (l' := #[.val (.int p0), .val (.int p1), .val (.int p2), .val (.int ((p0 &&& (2147483647 : Int32)) % (8 : Int32))), .val (.ref a_DESCRIBE_DELEGATION_TOKEN), .val (.int (2 : Int32)), .val (.int ((2 : Int32) + (((p2 >>> ((1 : Int32) &&& 31)) &&& (3 : Int32)) - (2 : Int32)))), .val (.int (0 : Int32))]) rfl) ?_
                    show own_F p e below s Z _ _ _ _ _ (T8.setTop (mkF m 165 #[.val (.int p0), .val (.int p1), .val (.int p2), .val (.int ((p0 &&& (2147483647 : Int32)) % (8 : Int32))), .val (.ref a_DESCRIBE_DELEGATION_TOKEN), .val (.int (2 : Int32)), .val (.int ((2 : Int32) + (((p2 >>> ((1 : Int32) &&& 31)) &&& (3 : Int32)) - (2 : Int32)))), .val (.int (0 : Int32))] []))
                    refine own_F.of (fun _ => XS.aload S8.here S8.hx rfl (S8.dec at_165) rfl rfl) ?_
                    show own_F p e below s Z _ _ _ _ _ (T8.setTop (mkF m 167 #[.val (.int p0), .val (.int p1), .val (.int p2), .val (.int ((p0 &&& (2147483647 : Int32)) % (8 : Int32))), .val (.ref a_DESCRIBE_DELEGATION_TOKEN), .val (.int (2 : Int32)), .val (.int ((2 : Int32) + (((p2 >>> ((1 : Int32) &&& 31)) &&& (3 : Int32)) - (2 : Int32)))), .val (.int (0 : Int32))] [(.ref a_DESCRIBE_DELEGATION_TOKEN)]))
                    refine own_F.of (fun _ => XS.iload S8.here S8.hx rfl (S8.dec at_167) rfl) ?_
                    show own_F p e below s Z _ _ _ _ _ (T8.setTop (mkF m 169 #[.val (.int p0), .val (.int p1), .val (.int p2), .val (.int ((p0 &&& (2147483647 : Int32)) % (8 : Int32))), .val (.ref a_DESCRIBE_DELEGATION_TOKEN), .val (.int (2 : Int32)), .val (.int ((2 : Int32) + (((p2 >>> ((1 : Int32) &&& 31)) &&& (3 : Int32)) - (2 : Int32)))), .val (.int (0 : Int32))] [(.int ((2 : Int32) + (((p2 >>> ((1 : Int32) &&& 31)) &&& (3 : Int32)) - (2 : Int32)))), (.ref a_DESCRIBE_DELEGATION_TOKEN)]))
                    refine own_callV S8 (y := (⟨"com/example/lanyard/lanyard/protocol/ApiKey", "isFlexible", "(I)Z"⟩ : MethodName)) (y' := (⟨"com/example/lanyard/lanyard/protocol/ApiKey", "isFlexible", "(I)Z"⟩ : MethodName)) (own_w hw 4 rfl) (own_w hw 5 rfl) (own_nf S8 (own_w hw 7 rfl)) (own_w hw 7 rfl) (own_w hw 6 rfl) (own_w hw 8 rfl) (own_w hw 2 rfl) (by decide) (X_DESCRIBE_DELEGATION_TOKEN.ext S8.old) (argsL := [(.int ((2 : Int32) + (((p2 >>> ((1 : Int32) &&& 31)) &&& (3 : Int32)) - (2 : Int32))))]) (rest := []) (own_flex l Z a0 hw a_DESCRIBE_DELEGATION_TOKEN ((2 : Int32) + (((p2 >>> ((1 : Int32) &&& 31)) &&& (3 : Int32)) - (2 : Int32))) (2 : Int32) h0 S8.old F_DESCRIBE_DELEGATION_TOKEN_firstFlexibleVersion) all0 (by decide +kernel : parseMethodDescriptor "(I)Z" = some ⟨[.int], some .boolean⟩) rfl rfl rfl at_169 (by decide) (Nat.le_of_ble_eq_true rfl) (by decide) (by decide) (fun T16 h16 v16 S16 K16 q16 => ?_)
                    obtain ⟨rfl, rfl⟩ := q16
                    show own_F p e below s Z _ _ _ _ _ (T16.setTop (mkF m 172 #[.val (.int p0), .val (.int p1), .val (.int p2), .val (.int ((p0 &&& (2147483647 : Int32)) % (8 : Int32))), .val (.ref a_DESCRIBE_DELEGATION_TOKEN), .val (.int (2 : Int32)), .val (.int ((2 : Int32) + (((p2 >>> ((1 : Int32) &&& 31)) &&& (3 : Int32)) - (2 : Int32)))), .val (.int (0 : Int32))] [(.int (own_fx ((2 : Int32) + (((p2 >>> ((1 : Int32) &&& 31)) &&& (3 : Int32)) - (2 : Int32))) (2 : Int32)))]))
                    refine own_F.of (fun _ => XS.iload S16.here S16.hx rfl (S16.dec at_172) rfl) ?_
                    show own_F p e below s Z _ _ _ _ _ (T16.setTop (mkF m 174 #[.val (.int p0), .val (.int p1), .val (.int p2), .val (.int ((p0 &&& (2147483647 : Int32)) % (8 : Int32))), .val (.ref a_DESCRIBE_DELEGATION_TOKEN), .val (.int (2 : Int32)), .val (.int ((2 : Int32) + (((p2 >>> ((1 : Int32) &&& 31)) &&& (3 : Int32)) - (2 : Int32)))), .val (.int (0 : Int32))] [(.int (0 : Int32)), (.int (own_fx ((2 : Int32) + (((p2 >>> ((1 : Int32) &&& 31)) &&& (3 : Int32)) - (2 : Int32))) (2 : Int32)))]))
                    refine own_icmp S16 181 at_174 (by decide) (by decide) (fun (hc174_17 : ¬ ((own_fx ((2 : Int32) + (((p2 >>> ((1 : Int32) &&& 31)) &&& (3 : Int32)) - (2 : Int32))) (2 : Int32)) = (0 : Int32))) => False.elim (hc174_17 (by simp [own_fx, hc155_15]))) (fun (hc174_17 : (own_fx ((2 : Int32) + (((p2 >>> ((1 : Int32) &&& 31)) &&& (3 : Int32)) - (2 : Int32))) (2 : Int32)) = (0 : Int32)) => ?_)
                    show own_F p e below s Z _ _ _ _ _ (T16.setTop (mkF m 177 #[.val (.int p0), .val (.int p1), .val (.int p2), .val (.int ((p0 &&& (2147483647 : Int32)) % (8 : Int32))), .val (.ref a_DESCRIBE_DELEGATION_TOKEN), .val (.int (2 : Int32)), .val (.int ((2 : Int32) + (((p2 >>> ((1 : Int32) &&& 31)) &&& (3 : Int32)) - (2 : Int32)))), .val (.int (0 : Int32))] []))
                    refine own_F.of (fun _ => XS.iconst S16.here S16.hx rfl (S16.dec at_177)) ?_
                    show own_F p e below s Z _ _ _ _ _ (T16.setTop (mkF m 178 #[.val (.int p0), .val (.int p1), .val (.int p2), .val (.int ((p0 &&& (2147483647 : Int32)) % (8 : Int32))), .val (.ref a_DESCRIBE_DELEGATION_TOKEN), .val (.int (2 : Int32)), .val (.int ((2 : Int32) + (((p2 >>> ((1 : Int32) &&& 31)) &&& (3 : Int32)) - (2 : Int32)))), .val (.int (0 : Int32))] [(.int (1 : Int32))]))
                    refine own_F.of (fun _ => XS.goto S16.here S16.hx rfl (pc0 := 178) (pc' := 182) rfl (S16.dec at_178) (by decide) (by decide)) ?_
                    show own_F p e below s Z _ _ _ _ _ (T16.setTop (mkF m 182 #[.val (.int p0), .val (.int p1), .val (.int p2), .val (.int ((p0 &&& (2147483647 : Int32)) % (8 : Int32))), .val (.ref a_DESCRIBE_DELEGATION_TOKEN), .val (.int (2 : Int32)), .val (.int ((2 : Int32) + (((p2 >>> ((1 : Int32) &&& 31)) &&& (3 : Int32)) - (2 : Int32)))), .val (.int (0 : Int32))] [(.int (1 : Int32))]))
                    refine own_retZ S16 (by simp) at_182 (by decide) (by decide) ?_
                    rfl
                  · show own_F p e below s Z _ _ _ _ _ (T8.setTop (mkF m 158 #[.val (.int p0), .val (.int p1), .val (.int p2), .val (.int ((p0 &&& (2147483647 : Int32)) % (8 : Int32))), .val (.ref a_DESCRIBE_DELEGATION_TOKEN), .val (.int (2 : Int32)), .val (.int ((2 : Int32) + (((p2 >>> ((1 : Int32) &&& 31)) &&& (3 : Int32)) - (2 : Int32)))), .unset] []))
                    refine own_F.of (fun _ => XS.iconst S8.here S8.hx rfl (S8.dec at_158)) ?_
                    show own_F p e below s Z _ _ _ _ _ (T8.setTop (mkF m 159 #[.val (.int p0), .val (.int p1), .val (.int p2), .val (.int ((p0 &&& (2147483647 : Int32)) % (8 : Int32))), .val (.ref a_DESCRIBE_DELEGATION_TOKEN), .val (.int (2 : Int32)), .val (.int ((2 : Int32) + (((p2 >>> ((1 : Int32) &&& 31)) &&& (3 : Int32)) - (2 : Int32)))), .unset] [(.int (1 : Int32))]))
                    refine own_F.of (fun _ => XS.goto S8.here S8.hx rfl (pc0 := 159) (pc' := 163) rfl (S8.dec at_159) (by decide) (by decide)) ?_
                    show own_F p e below s Z _ _ _ _ _ (T8.setTop (mkF m 163 #[.val (.int p0), .val (.int p1), .val (.int p2), .val (.int ((p0 &&& (2147483647 : Int32)) % (8 : Int32))), .val (.ref a_DESCRIBE_DELEGATION_TOKEN), .val (.int (2 : Int32)), .val (.int ((2 : Int32) + (((p2 >>> ((1 : Int32) &&& 31)) &&& (3 : Int32)) - (2 : Int32)))), .unset] [(.int (1 : Int32))]))
                    refine own_F.of (fun _ => XS.istore S8.here S8.hx rfl (S8.dec at_163) rfl (l' := #[.val (.int p0), .val (.int p1), .val (.int p2), .val (.int ((p0 &&& (2147483647 : Int32)) % (8 : Int32))), .val (.ref a_DESCRIBE_DELEGATION_TOKEN), .val (.int (2 : Int32)), .val (.int ((2 : Int32) + (((p2 >>> ((1 : Int32) &&& 31)) &&& (3 : Int32)) - (2 : Int32)))), .val (.int (1 : Int32))]) rfl) ?_
                    show own_F p e below s Z _ _ _ _ _ (T8.setTop (mkF m 165 #[.val (.int p0), .val (.int p1), .val (.int p2), .val (.int ((p0 &&& (2147483647 : Int32)) % (8 : Int32))), .val (.ref a_DESCRIBE_DELEGATION_TOKEN), .val (.int (2 : Int32)), .val (.int ((2 : Int32) + (((p2 >>> ((1 : Int32) &&& 31)) &&& (3 : Int32)) - (2 : Int32)))), .val (.int (1 : Int32))] []))
                    refine own_F.of (fun _ => XS.aload S8.here S8.hx rfl (S8.dec at_165) rfl rfl) ?_
                    show own_F p e below s Z _ _ _ _ _ (T8.setTop (mkF m 167 #[.val (.int p0), .val (.int p1), .val (.int p2), .val (.int ((p0 &&& (2147483647 : Int32)) % (8 : Int32))), .val (.ref a_DESCRIBE_DELEGATION_TOKEN), .val (.int (2 : Int32)), .val (.int ((2 : Int32) + (((p2 >>> ((1 : Int32) &&& 31)) &&& (3 : Int32)) - (2 : Int32)))), .val (.int (1 : Int32))] [(.ref a_DESCRIBE_DELEGATION_TOKEN)]))
                    refine own_F.of (fun _ => XS.iload S8.here S8.hx rfl (S8.dec at_167) rfl) ?_
                    show own_F p e below s Z _ _ _ _ _ (T8.setTop (mkF m 169 #[.val (.int p0), .val (.int p1), .val (.int p2), .val (.int ((p0 &&& (2147483647 : Int32)) % (8 : Int32))), .val (.ref a_DESCRIBE_DELEGATION_TOKEN), .val (.int (2 : Int32)), .val (.int ((2 : Int32) + (((p2 >>> ((1 : Int32) &&& 31)) &&& (3 : Int32)) - (2 : Int32)))), .val (.int (1 : Int32))] [(.int ((2 : Int32) + (((p2 >>> ((1 : Int32) &&& 31)) &&& (3 : Int32)) - (2 : Int32)))), (.ref a_DESCRIBE_DELEGATION_TOKEN)]))
                    refine own_callV S8 (y := (⟨"com/example/lanyard/lanyard/protocol/ApiKey", "isFlexible", "(I)Z"⟩ : MethodName)) (y' := (⟨"com/example/lanyard/lanyard/protocol/ApiKey", "isFlexible", "(I)Z"⟩ : MethodName)) (own_w hw 4 rfl) (own_w hw 5 rfl) (own_nf S8 (own_w hw 7 rfl)) (own_w hw 7 rfl) (own_w hw 6 rfl) (own_w hw 8 rfl) (own_w hw 2 rfl) (by decide) (X_DESCRIBE_DELEGATION_TOKEN.ext S8.old) (argsL := [(.int ((2 : Int32) + (((p2 >>> ((1 : Int32) &&& 31)) &&& (3 : Int32)) - (2 : Int32))))]) (rest := []) (own_flex l Z a0 hw a_DESCRIBE_DELEGATION_TOKEN ((2 : Int32) + (((p2 >>> ((1 : Int32) &&& 31)) &&& (3 : Int32)) - (2 : Int32))) (2 : Int32) h0 S8.old F_DESCRIBE_DELEGATION_TOKEN_firstFlexibleVersion) all0 (by decide +kernel : parseMethodDescriptor "(I)Z" = some ⟨[.int], some .boolean⟩) rfl rfl rfl at_169 (by decide) (Nat.le_of_ble_eq_true rfl) (by decide) (by decide) (fun T18 h18 v18 S18 K18 q18 => ?_)
                    obtain ⟨rfl, rfl⟩ := q18
                    show own_F p e below s Z _ _ _ _ _ (T18.setTop (mkF m 172 #[.val (.int p0), .val (.int p1), .val (.int p2), .val (.int ((p0 &&& (2147483647 : Int32)) % (8 : Int32))), .val (.ref a_DESCRIBE_DELEGATION_TOKEN), .val (.int (2 : Int32)), .val (.int ((2 : Int32) + (((p2 >>> ((1 : Int32) &&& 31)) &&& (3 : Int32)) - (2 : Int32)))), .val (.int (1 : Int32))] [(.int (own_fx ((2 : Int32) + (((p2 >>> ((1 : Int32) &&& 31)) &&& (3 : Int32)) - (2 : Int32))) (2 : Int32)))]))
                    refine own_F.of (fun _ => XS.iload S18.here S18.hx rfl (S18.dec at_172) rfl) ?_
                    show own_F p e below s Z _ _ _ _ _ (T18.setTop (mkF m 174 #[.val (.int p0), .val (.int p1), .val (.int p2), .val (.int ((p0 &&& (2147483647 : Int32)) % (8 : Int32))), .val (.ref a_DESCRIBE_DELEGATION_TOKEN), .val (.int (2 : Int32)), .val (.int ((2 : Int32) + (((p2 >>> ((1 : Int32) &&& 31)) &&& (3 : Int32)) - (2 : Int32)))), .val (.int (1 : Int32))] [(.int (1 : Int32)), (.int (own_fx ((2 : Int32) + (((p2 >>> ((1 : Int32) &&& 31)) &&& (3 : Int32)) - (2 : Int32))) (2 : Int32)))]))
                    refine own_icmp S18 181 at_174 (by decide) (by decide) (fun (hc174_19 : ¬ ((own_fx ((2 : Int32) + (((p2 >>> ((1 : Int32) &&& 31)) &&& (3 : Int32)) - (2 : Int32))) (2 : Int32)) = (1 : Int32))) => False.elim (hc174_19 (by simp [own_fx, hc155_15]))) (fun (hc174_19 : (own_fx ((2 : Int32) + (((p2 >>> ((1 : Int32) &&& 31)) &&& (3 : Int32)) - (2 : Int32))) (2 : Int32)) = (1 : Int32)) => ?_)
                    show own_F p e below s Z _ _ _ _ _ (T18.setTop (mkF m 177 #[.val (.int p0), .val (.int p1), .val (.int p2), .val (.int ((p0 &&& (2147483647 : Int32)) % (8 : Int32))), .val (.ref a_DESCRIBE_DELEGATION_TOKEN), .val (.int (2 : Int32)), .val (.int ((2 : Int32) + (((p2 >>> ((1 : Int32) &&& 31)) &&& (3 : Int32)) - (2 : Int32)))), .val (.int (1 : Int32))] []))
                    refine own_F.of (fun _ => XS.iconst S18.here S18.hx rfl (S18.dec at_177)) ?_
                    show own_F p e below s Z _ _ _ _ _ (T18.setTop (mkF m 178 #[.val (.int p0), .val (.int p1), .val (.int p2), .val (.int ((p0 &&& (2147483647 : Int32)) % (8 : Int32))), .val (.ref a_DESCRIBE_DELEGATION_TOKEN), .val (.int (2 : Int32)), .val (.int ((2 : Int32) + (((p2 >>> ((1 : Int32) &&& 31)) &&& (3 : Int32)) - (2 : Int32)))), .val (.int (1 : Int32))] [(.int (1 : Int32))]))
                    refine own_F.of (fun _ => XS.goto S18.here S18.hx rfl (pc0 := 178) (pc' := 182) rfl (S18.dec at_178) (by decide) (by decide)) ?_
                    show own_F p e below s Z _ _ _ _ _ (T18.setTop (mkF m 182 #[.val (.int p0), .val (.int p1), .val (.int p2), .val (.int ((p0 &&& (2147483647 : Int32)) % (8 : Int32))), .val (.ref a_DESCRIBE_DELEGATION_TOKEN), .val (.int (2 : Int32)), .val (.int ((2 : Int32) + (((p2 >>> ((1 : Int32) &&& 31)) &&& (3 : Int32)) - (2 : Int32)))), .val (.int (1 : Int32))] [(.int (1 : Int32))]))
                    refine own_retZ S18 (by simp) at_182 (by decide) (by decide) ?_
                    rfl
              · show own_F p e below s Z _ _ _ _ _ (T0.setTop (mkF m 111 #[.val (.int p0), .val (.int p1), .val (.int p2), .val (.int ((p0 &&& (2147483647 : Int32)) % (8 : Int32))), .unset, .unset, .unset, .unset] []))
                refine own_getS S0 (host := "") (Or.inl (own_w hw 23 rfl)) Via.refl (S_EXPIRE_DELEGATION_TOKEN.ext S0.old) at_111 (fun T20 S20 => ?_)
                show own_F p e below s Z _ _ _ _ _ (T20.setTop (mkF m 114 #[.val (.int p0), .val (.int p1), .val (.int p2), .val (.int ((p0 &&& (2147483647 : Int32)) % (8 : Int32))), .unset, .unset, .unset, .unset] [(.ref a_EXPIRE_DELEGATION_TOKEN)]))
                refine own_F.of (fun _ => XS.astore S20.here S20.hx rfl (S20.dec at_114) rfl rfl (l' := #[.val (.int p0), .val (.int p1), .val (.int p2), .val (.int ((p0 &&& (2147483647 : Int32)) % (8 : Int32))), .val (.ref a_EXPIRE_DELEGATION_TOKEN), .unset, .unset, .unset]) rfl) ?_
                show own_F p e below s Z _ _ _ _ _ (T20.setTop (mkF m 116 #[.val (.int p0), .val (.int p1), .val (.int p2), .val (.int ((p0 &&& (2147483647 : Int32)) % (8 : Int32))), .val (.ref a_EXPIRE_DELEGATION_TOKEN), .unset, .unset, .unset] []))
                refine own_F.of (fun _ => XS.iconst S20.here S20.hx rfl (S20.dec at_116)) ?_
                show own_F p e below s Z _ _ _ _ _ (T20.setTop (mkF m 117 #[.val (.int p0), .val (.int p1), .val (.int p2), .val (.int ((p0 &&& (2147483647 : Int32)) % (8 : Int32))), .val (.ref a_EXPIRE_DELEGATION_TOKEN), .unset, .unset, .unset] [(.int (2 : Int32))]))
                refine own_F.of (fun _ => XS.istore S20.here S20.hx rfl (S20.dec at_117) rfl (l' := #[.val (.int p0), .val (.int p1), .val (.int p2), .val (.int ((p0 &&& (2147483647 : Int32)) % (8 : Int32))), .val (.ref a_EXPIRE_DELEGATION_TOKEN), .val (.int (2 : Int32)), .unset, .unset]) rfl) ?_
                show own_F p e below s Z _ _ _ _ _ (T20.setTop (mkF m 119 #[.val (.int p0), .val (.int p1), .val (.int p2), .val (.int ((p0 &&& (2147483647 : Int32)) % (8 : Int32))), .val (.ref a_EXPIRE_DELEGATION_TOKEN), .val (.int (2 : Int32)), .unset, .unset] []))
                refine own_F.of (fun _ => XS.goto S20.here S20.hx rfl (pc0 := 119) (pc' := 130) rfl (S20.dec at_119) (by decide) (by decide)) ?_
                show own_F p e below s Z _ _ _ _ _ (T20.setTop (mkF m 130 #[.val (.int p0), .val (.int p1), .val (.int p2), .val (.int ((p0 &&& (2147483647 : Int32)) % (8 : Int32))), .val (.ref a_EXPIRE_DELEGATION_TOKEN), .val (.int (2 : Int32)), .unset, .unset] []))
                refine own_F.of (fun _ => XS.iloadN S20.here S20.hx rfl (S20.dec at_130) rfl) ?_
                show own_F p e below s Z _ _ _ _ _ (T20.setTop (mkF m 131 #[.val (.int p0), .val (.int p1), .val (.int p2), .val (.int ((p0 &&& (2147483647 : Int32)) % (8 : Int32))), .val (.ref a_EXPIRE_DELEGATION_TOKEN), .val (.int (2 : Int32)), .unset, .unset] [(.int p1)]))
                refine own_F.of (fun _ => XS.istore S20.here S20.hx rfl (S20.dec at_131) rfl (l' := #[.val (.int p0), .val (.int p1), .val (.int p2), .val (.int ((p0 &&& (2147483647 : Int32)) % (8 : Int32))), .val (.ref a_EXPIRE_DELEGATION_TOKEN), .val (.int (2 : Int32)), .val (.int p1), .unset]) rfl) ?_
                show own_F p e below s Z _ _ _ _ _ (T20.setTop (mkF m 133 #[.val (.int p0), .val (.int p1), .val (.int p2), .val (.int ((p0 &&& (2147483647 : Int32)) % (8 : Int32))), .val (.ref a_EXPIRE_DELEGATION_TOKEN), .val (.int (2 : Int32)), .val (.int p1), .unset] []))
                refine own_F.of (fun _ => XS.iloadN S20.here S20.hx rfl (S20.dec at_133) rfl) ?_
                show own_F p e below s Z _ _ _ _ _ (T20.setTop (mkF m 134 #[.val (.int p0), .val (.int p1), .val (.int p2), .val (.int ((p0 &&& (2147483647 : Int32)) % (8 : Int32))), .val (.ref a_EXPIRE_DELEGATION_TOKEN), .val (.int (2 : Int32)), .val (.int p1), .unset] [(.int p2)]))
                refine own_F.of (fun _ => XS.iconst S20.here S20.hx rfl (S20.dec at_134)) ?_
                show own_F p e below s Z _ _ _ _ _ (T20.setTop (mkF m 135 #[.val (.int p0), .val (.int p1), .val (.int p2), .val (.int ((p0 &&& (2147483647 : Int32)) % (8 : Int32))), .val (.ref a_EXPIRE_DELEGATION_TOKEN), .val (.int (2 : Int32)), .val (.int p1), .unset] [(.int (1 : Int32)), (.int p2)]))
                refine own_F.of (fun _ => XS.iand S20.here S20.hx rfl (S20.dec at_135) rfl) ?_
                show own_F p e below s Z _ _ _ _ _ (T20.setTop (mkF m 136 #[.val (.int p0), .val (.int p1), .val (.int p2), .val (.int ((p0 &&& (2147483647 : Int32)) % (8 : Int32))), .val (.ref a_EXPIRE_DELEGATION_TOKEN), .val (.int (2 : Int32)), .val (.int p1), .unset] [(.int (p2 &&& (1 : Int32)))]))
                refine own_if S20 151 at_136 (by decide) (by decide) (fun (hc136_21 : (p2 &&& (1 : Int32)) = (0 : Int32)) => ?_) (fun (hc136_21 : ¬ ((p2 &&& (1 : Int32)) = (0 : Int32))) => ?_)
                · show own_F p e below s Z _ _ _ _ _ (T20.setTop (mkF m 151 #[.val (.int p0), .val (.int p1), .val (.int p2), .val (.int ((p0 &&& (2147483647 : Int32)) % (8 : Int32))), .val (.ref a_EXPIRE_DELEGATION_TOKEN), .val (.int (2 : Int32)), .val (.int p1), .unset] []))
                  refine own_F.of (fun _ => XS.iload S20.here S20.hx rfl (S20.dec at_151) rfl) ?_
                  show own_F p e below s Z _ _ _ _ _ (T20.setTop (mkF m 153 #[.val (.int p0), .val (.int p1), .val (.int p2), .val (.int ((p0 &&& (2147483647 : Int32)) % (8 : Int32))), .val (.ref a_EXPIRE_DELEGATION_TOKEN), .val (.int (2 : Int32)), .val (.int p1), .unset] [(.int p1)]))
                  refine own_F.of (fun _ => XS.iload S20.here S20.hx rfl (S20.dec at_153) rfl) ?_
                  show own_F p e below s Z _ _ _ _ _ (T20.setTop (mkF m 155 #[.val (.int p0), .val (.int p1), .val (.int p2), .val (.int ((p0 &&& (2147483647 : Int32)) % (8 : Int32))), .val (.ref a_EXPIRE_DELEGATION_TOKEN), .val (.int (2 : Int32)), .val (.int p1), .unset] [(.int (2 : Int32)), (.int p1)]))
                  refine own_icmp S20 162 at_155 (by decide) (by decide) (fun (hc155_22 : p1 < (2 : Int32)) => ?_) (fun (hc155_22 : ¬ (p1 < (2 : Int32))) => ?_)
                  · show own_F p e below s Z _ _ _ _ _ (T20.setTop (mkF m 162 #[.val (.int p0), .val (.int p1), .val (.int p2), .val (.int ((p0 &&& (2147483647 : Int32)) % (8 : Int32))), .val (.ref a_EXPIRE_DELEGATION_TOKEN), .val (.int (2 : Int32)), .val (.int p1), .unset] []))
                    refine own_F.of (fun _ => XS.iconst S20.here S20.hx rfl (S20.dec at_162)) ?_
                    show own_F p e below s Z _ _ _ _ _ (T20.setTop (mkF m 163 #[.val (.int p0), .val (.int p1), .val (.int p2), .val (.int ((p0 &&& (2147483647 : Int32)) % (8 : Int32))), .val (.ref a_EXPIRE_DELEGATION_TOKEN), .val (.int (2 : Int32)), .val (.int p1), .unset] [(.int (0 : Int32))]))
                    refine own_F.of (fun _ => XS.istore S20.here S20.hx rfl (S20.dec at_163) rfl (l' := #[.val (.int p0), .val (.int p1), .val (.int p2), .val (.int ((p0 &&& (2147483647 : Int32)) % (8 : Int32))), .val (.ref a_EXPIRE_DELEGATION_TOKEN), .val (.int (2 : Int32)), .val (.int p1), .val (.int (0 : Int32))]) rfl) ?_
                    show own_F p e below s Z _ _ _ _ _ (T20.setTop (mkF m 165 #[.val (.int p0), .val (.int p1), .val (.int p2), .val (.int ((p0 &&& (2147483647 : Int32)) % (8 : Int32))), .val (.ref a_EXPIRE_DELEGATION_TOKEN), .val (.int (2 : Int32)), .val (.int p1), .val (.int (0 : Int32))] []))
                    refine own_F.of (fun _ => XS.aload S20.here S20.hx rfl (S20.dec at_165) rfl rfl) ?_
                    show own_F p e below s Z _ _ _ _ _ (T20.setTop (mkF m 167 #[.val (.int p0), .val (.int p1), .val (.int p2), .val (.int ((p0 &&& (2147483647 : Int32)) % (8 : Int32))), .val (.ref a_EXPIRE_DELEGATION_TOKEN), .val (.int (2 : Int32)), .val (.int p1), .val (.int (0 : Int32))] [(.ref a_EXPIRE_DELEGATION_TOKEN)]))
                    refine own_F.of (fun _ => XS.iload S20.here S20.hx rfl (S20.dec at_167) rfl) ?_
                    show own_F p e below s Z _ _ _ _ _ (T20.setTop (mkF m 169 #[.val (.int p0), .val (.int p1), .val (.int p2), .val (.int ((p0 &&& (2147483647 : Int32)) % (8 : Int32))), .val (.ref a_EXPIRE_DELEGATION_TOKEN), .val (.int (2 : Int32)), .val (.int p1), .val (.int (0 : Int32))] [(.int p1), (.ref a_EXPIRE_DELEGATION_TOKEN)]))
                    refine own_callV S20 (y := (⟨"com/example/lanyard/lanyard/protocol/ApiKey", "isFlexible", "(I)Z"⟩ : MethodName)) (y' := (⟨"com/example/lanyard/lanyard/protocol/ApiKey", "isFlexible", "(I)Z"⟩ : MethodName)) (own_w hw 4 rfl) (own_w hw 5 rfl) (own_nf S20 (own_w hw 7 rfl)) (own_w hw 7 rfl) (own_w hw 6 rfl) (own_w hw 8 rfl) (own_w hw 2 rfl) (by decide) (X_EXPIRE_DELEGATION_TOKEN.ext S20.old) (argsL := [(.int p1)]) (rest := []) (own_flex l Z a0 hw a_EXPIRE_DELEGATION_TOKEN p1 (2 : Int32) h0 S20.old F_EXPIRE_DELEGATION_TOKEN_firstFlexibleVersion) all0 (by decide +kernel : parseMethodDescriptor "(I)Z" = some ⟨[.int], some .boolean⟩) rfl rfl rfl at_169 (by decide) (Nat.le_of_ble_eq_true rfl) (by decide) (by decide) (fun T23 h23 v23 S23 K23 q23 => ?_)
                    obtain ⟨rfl, rfl⟩ := q23
                    show own_F p e below s Z _ _ _ _ _ (T23.setTop (mkF m 172 #[.val (.int p0), .val (.int p1), .val (.int p2), .val (.int ((p0 &&& (2147483647 : Int32)) % (8 : Int32))), .val (.ref a_EXPIRE_DELEGATION_TOKEN), .val (.int (2 : Int32)), .val (.int p1), .val (.int (0 : Int32))] [(.int (own_fx p1 (2 : Int32)))]))
                    refine own_F.of (fun _ => XS.iload S23.here S23.hx rfl (S23.dec at_172) rfl) ?_
                    show own_F p e below s Z _ _ _ _ _ (T23.setTop (mkF m 174 #[.val (.int p0), .val (.int p1), .val (.int p2), .val (.int ((p0 &&& (2147483647 : Int32)) % (8 : Int32))), .val (.ref a_EXPIRE_DELEGATION_TOKEN), .val (.int (2 : Int32)), .val (.int p1), .val (.int (0 : Int32))] [(.int (0 : Int32)), (.int (own_fx p1 (2 : Int32)))]))
                    refine own_icmp S23 181 at_174 (by decide) (by decide) (fun (hc174_24 : ¬ ((own_fx p1 (2 : Int32)) = (0 : Int32))) => False.elim (hc174_24 (by simp [own_fx, hc155_22]))) (fun (hc174_24 : (own_fx p1 (2 : Int32)) = (0 : Int32)) => ?_)
                    show own_F p e below s Z _ _ _ _ _ (T23.setTop (mkF m 177 #[.val (.int p0), .val (.int p1), .val (.int p2), .val (.int ((p0 &&& (2147483647 : Int32)) % (8 : Int32))), .val (.ref a_EXPIRE_DELEGATION_TOKEN), .val (.int (2 : Int32)), .val (.int p1), .val (.int (0 : Int32))] []))
                    refine own_F.of (fun _ => XS.iconst S23.here S23.hx rfl (S23.dec at_177)) ?_
                    show own_F p e below s Z _ _ _ _ _ (T23.setTop (mkF m 178 #[.val (.int p0), .val (.int p1), .val (.int p2), .val (.int ((p0 &&& (2147483647 : Int32)) % (8 : Int32))), .val (.ref a_EXPIRE_DELEGATION_TOKEN), .val (.int (2 : Int32)), .val (.int p1), .val (.int (0 : Int32))] [(.int (1 : Int32))]))
                    refine own_F.of (fun _ => XS.goto S23.here S23.hx rfl (pc0 := 178) (pc' := 182) rfl (S23.dec at_178) (by decide) (by decide)) ?_
                    show own_F p e below s Z _ _ _ _ _ (T23.setTop (mkF m 182 #[.val (.int p0), .val (.int p1), .val (.int p2), .val (.int ((p0 &&& (2147483647 : Int32)) % (8 : Int32))), .val (.ref a_EXPIRE_DELEGATION_TOKEN), .val (.int (2 : Int32)), .val (.int p1), .val (.int (0 : Int32))] [(.int (1 : Int32))]))
                    refine own_retZ S23 (by simp) at_182 (by decide) (by decide) ?_
                    rfl
                  · show own_F p e below s Z _ _ _ _ _ (T20.setTop (mkF m 158 #[.val (.int p0), .val (.int p1), .val (.int p2), .val (.int ((p0 &&& (2147483647 : Int32)) % (8 : Int32))), .val (.ref a_EXPIRE_DELEGATION_TOKEN), .val (.int (2 : Int32)), .val (.int p1), .unset] []))
                    refine own_F.of (fun _ => XS.iconst S20.here S20.hx rfl (S20.dec at_158)) ?_
                    show own_F p e below s Z _ _ _ _ _ (T20.setTop (mkF m 159 #[.val (.int p0), .val (.int p1), .val (.int p2), .val (.int ((p0 &&& (2147483647 : Int32)) % (8 : Int32))), .val (.ref a_EXPIRE_DELEGATION_TOKEN), .val (.int (2 : Int32)), .val (.int p1), .unset] [(.int (1 : Int32))]))
                    refine own_F.of (fun _ => XS.goto S20.here S20.hx rfl (pc0 := 159) (pc' := 163) rfl (S20.dec at_159) (by decide) (by decide)) ?_
                    show own_F p e below s Z _ _ _ _ _ (T20.setTop (mkF m 163 #[.val (.int p0), .val (.int p1), .val (.int p2), .val (.int ((p0 &&& (2147483647 : Int32)) % (8 : Int32))), .val (.ref a_EXPIRE_DELEGATION_TOKEN), .val (.int (2 : Int32)), .val (.int p1), .unset] [(.int (1 : Int32))]))
                    refine own_F.of (fun _ => XS.istore S20.here S20.hx rfl (S20.dec at_163) rfl (l' := #[.val (.int p0), .val (.int p1), .val (.int p2), .val (.int ((p0 &&& (2147483647 : Int32)) % (8 : Int32))), .val (.ref a_EXPIRE_DELEGATION_TOKEN), .val (.int (2 : Int32)), .val (.int p1), .val (.int (1 : Int32))]) rfl) ?_
                    show own_F p e below s Z _ _ _ _ _ (T20.setTop (mkF m 165 #[.val (.int p0), .val (.int p1), .val (.int p2), .val (.int ((p0 &&& (2147483647 : Int32)) % (8 : Int32))), .val (.ref a_EXPIRE_DELEGATION_TOKEN), .val (.int (2 : Int32)), .val (.int p1), .val (.int (1 : Int32))] []))
                    refine own_F.of (fun _ => XS.aload S20.here S20.hx rfl (S20.dec at_165) rfl rfl) ?_
                    show own_F p e below s Z _ _ _ _ _ (T20.setTop (mkF m 167 #[.val (.int p0), .val (.int p1), .val (.int p2), .val (.int ((p0 &&& (2147483647 : Int32)) % (8 : Int32))), .val (.ref a_EXPIRE_DELEGATION_TOKEN), .val (.int (2 : Int32)), .val (.int p1), .val (.int (1 : Int32))] [(.ref a_EXPIRE_DELEGATION_TOKEN)]))
                    refine own_F.of (fun _ => XS.iload S20.here S20.hx rfl (S20.dec at_167) rfl) ?_
                    show own_F p e below s Z _ _ _ _ _ (T20.setTop (mkF m 169 #[.val (.int p0), .val (.int p1), .val (.int p2), .val (.int ((p0 &&& (2147483647 : Int32)) % (8 : Int32))), .val (.ref a_EXPIRE_DELEGATION_TOKEN), .val (.int (2 : Int32)), .val (.int p1), .val (.int (1 : Int32))] [(.int p1), (.ref a_EXPIRE_DELEGATION_TOKEN)]))
                    refine own_callV S20 (y := (⟨"com/example/lanyard/lanyard/protocol/ApiKey", "isFlexible", "(I)Z"⟩ : MethodName)) (y' := (⟨"com/example/lanyard/lanyard/protocol/ApiKey", "isFlexible", "(I)Z"⟩ : MethodName)) (own_w hw 4 rfl) (own_w hw 5 rfl) (own_nf S20 (own_w hw 7 rfl)) (own_w hw 7 rfl) (own_w hw 6 rfl) (own_w hw 8 rfl) (own_w hw 2 rfl) (by decide) (X_EXPIRE_DELEGATION_TOKEN.ext S20.old) (argsL := [(.int p1)]) (rest := []) (own_flex l Z a0 hw a_EXPIRE_DELEGATION_TOKEN p1 (2 : Int32) h0 S20.old F_EXPIRE_DELEGATION_TOKEN_firstFlexibleVersion) all0 (by decide +kernel : parseMethodDescriptor "(I)Z" = some ⟨[.int], some .boolean⟩) rfl rfl rfl at_169 (by decide) (Nat.le_of_ble_eq_true rfl) (by decide) (by decide) (fun T25 h25 v25 S25 K25 q25 => ?_)
                    obtain ⟨rfl, rfl⟩ := q25
                    show own_F p e below s Z _ _ _ _ _ (T25.setTop (mkF m 172 #[.val (.int p0), .val (.int p1), .val (.int p2), .val (.int ((p0 &&& (2147483647 : Int32)) % (8 : Int32))), .val (.ref a_EXPIRE_DELEGATION_TOKEN), .val (.int (2 : Int32)), .val (.int p1), .val (.int (1 : Int32))] [(.int (own_fx p1 (2 : Int32)))]))
                    refine own_F.of (fun _ => XS.iload S25.here S25.hx rfl (S25.dec at_172) rfl) ?_
                    show own_F p e below s Z _ _ _ _ _ (T25.setTop (mkF m 174 #[.val (.int p0), .val (.int p1), .val (.int p2), .val (.int ((p0 &&& (2147483647 : Int32)) % (8 : Int32))), .val (.ref a_EXPIRE_DELEGATION_TOKEN), .val (.int (2 : Int32)), .val (.int p1), .val (.int (1 : Int32))] [(.int (1 : Int32)), (.int (own_fx p1 (2 : Int32)))]))
                    refine own_icmp S25 181 at_174 (by decide) (by decide) (fun (hc174_26 : ¬ ((own_fx p1 (2 : Int32)) = (1 : Int32))) => False.elim (hc174_26 (by simp [own_fx, hc155_22]))) (fun (hc174_26 : (own_fx p1 (2 : Int32)) = (1 : Int32)) => ?_)
                    show own_F p e below s Z _ _ _ _ _ (T25.setTop (mkF m 177 #[.val (.int p0), .val (.int p1), .val (.int p2), .val (.int ((p0 &&& (2147483647 : Int32)) % (8 : Int32))), .val (.ref a_EXPIRE_DELEGATION_TOKEN), .val (.int (2 : Int32)), .val (.int p1), .val (.int (1 : Int32))] []))
                    refine own_F.of (fun _ => XS.iconst S25.here S25.hx rfl (S25.dec at_177)) ?_
                    show own_F p e below s Z _ _ _ _ _ (T25.setTop (mkF m 178 #[.val (.int p0), .val (.int p1), .val (.int p2), .val (.int ((p0 &&& (2147483647 : Int32)) % (8 : Int32))), .val (.ref a_EXPIRE_DELEGATION_TOKEN), .val (.int (2 : Int32)), .val (.int p1), .val (.int (1 : Int32))] [(.int (1 : Int32))]))
                    refine own_F.of (fun _ => XS.goto S25.here S25.hx rfl (pc0 := 178) (pc' := 182) rfl (S25.dec at_178) (by decide) (by decide)) ?_
                    show own_F p e below s Z _ _ _ _ _ (T25.setTop (mkF m 182 #[.val (.int p0), .val (.int p1), .val (.int p2), .val (.int ((p0 &&& (2147483647 : Int32)) % (8 : Int32))), .val (.ref a_EXPIRE_DELEGATION_TOKEN), .val (.int (2 : Int32)), .val (.int p1), .val (.int (1 : Int32))] [(.int (1 : Int32))]))
                    refine own_retZ S25 (by simp) at_182 (by decide) (by decide) ?_
                    rfl
                · show own_F p e below s Z _ _ _ _ _ (T20.setTop (mkF m 139 #[.val (.int p0), .val (.int p1), .val (.int p2), .val (.int ((p0 &&& (2147483647 : Int32)) % (8 : Int32))), .val (.ref a_EXPIRE_DELEGATION_TOKEN), .val (.int (2 : Int32)), .val (.int p1), .unset] []))
                  refine own_F.of (fun _ => XS.iload S20.here S20.hx rfl (S20.dec at_139) rfl) ?_
                  show own_F p e below s Z _ _ _ _ _ (T20.setTop (mkF m 141 #[.val (.int p0), .val (.int p1), .val (.int p2), .val (.int ((p0 &&& (2147483647 : Int32)) % (8 : Int32))), .val (.ref a_EXPIRE_DELEGATION_TOKEN), .val (.int (2 : Int32)), .val (.int p1), .unset] [(.int (2 : Int32))]))
                  refine own_F.of (fun _ => XS.iloadN S20.here S20.hx rfl (S20.dec at_141) rfl) ?_
                  show own_F p e below s Z _ _ _ _ _ (T20.setTop (mkF m 142 #[.val (.int p0), .val (.int p1), .val (.int p2), .val (.int ((p0 &&& (2147483647 : Int32)) % (8 : Int32))), .val (.ref a_EXPIRE_DELEGATION_TOKEN), .val (.int (2 : Int32)), .val (.int p1), .unset] [(.int p2), (.int (2 : Int32))]))
                  refine own_F.of (fun _ => XS.iconst S20.here S20.hx rfl (S20.dec at_142)) ?_
                  show own_F p e below s Z _ _ _ _ _ (T20.setTop (mkF m 143 #[.val (.int p0), .val (.int p1), .val (.int p2), .val (.int ((p0 &&& (2147483647 : Int32)) % (8 : Int32))), .val (.ref a_EXPIRE_DELEGATION_TOKEN), .val (.int (2 : Int32)), .val (.int p1), .unset] [(.int (1 : Int32)), (.int p2), (.int (2 : Int32))]))
                  refine own_F.of (fun _ => XS.ishr S20.here S20.hx rfl (S20.dec at_143) rfl) ?_
                  show own_F p e below s Z _ _ _ _ _ (T20.setTop (mkF m 144 #[.val (.int p0), .val (.int p1), .val (.int p2), .val (.int ((p0 &&& (2147483647 : Int32)) % (8 : Int32))), .val (.ref a_EXPIRE_DELEGATION_TOKEN), .val (.int (2 : Int32)), .val (.int p1), .unset] [(.int (p2 >>> ((1 : Int32) &&& 31))), (.int (2 : Int32))]))
                  refine own_F.of (fun _ => XS.iconst S20.here S20.hx rfl (S20.dec at_144)) ?_
                  show own_F p e below s Z _ _ _ _ _ (T20.setTop (mkF m 145 #[.val (.int p0), .val (.int p1), .val (.int p2), .val (.int ((p0 &&& (2147483647 : Int32)) % (8 : Int32))), .val (.ref a_EXPIRE_DELEGATION_TOKEN), .val (.int (2 : Int32)), .val (.int p1), .unset] [(.int (3 : Int32)), (.int (p2 >>> ((1 : Int32) &&& 31))), (.int (2 : Int32))]))
                  refine own_F.of (fun _ => XS.iand S20.here S20.hx rfl (S20.dec at_145) rfl) ?_
                  show own_F p e below s Z _ _ _ _ _ (T20.setTop (mkF m 146 #[.val (.int p0), .val (.int p1), .val (.int p2), .val (.int ((p0 &&& (2147483647 : Int32)) % (8 : Int32))), .val (.ref a_EXPIRE_DELEGATION_TOKEN), .val (.int (2 : Int32)), .val (.int p1), .unset] [(.int ((p2 >>> ((1 : Int32) &&& 31)) &&& (3 : Int32))), (.int (2 : Int32))]))
                  refine own_F.of (fun _ => XS.iconst S20.here S20.hx rfl (S20.dec at_146)) ?_
                  show own_F p e below s Z _ _ _ _ _ (T20.setTop (mkF m 147 #[.val (.int p0), .val (.int p1), .val (.int p2), .val (.int ((p0 &&& (2147483647 : Int32)) % (8 : Int32))), .val (.ref a_EXPIRE_DELEGATION_TOKEN), .val (.int (2 : Int32)), .val (.int p1), .unset] [(.int (2 : Int32)), (.int ((p2 >>> ((1 : Int32) &&& 31)) &&& (3 : Int32))), (.int (2 : Int32))]))
                  refine own_F.of (fun _ => XS.isub S20.here S20.hx rfl (S20.dec at_147) rfl) ?_
                  show own_F p e below s Z _ _ _ _ _ (T20.setTop (mkF m 148 #[.val (.int p0), .val (.int p1), .val (.int p2), .val (.int ((p0 &&& (2147483647 : Int32)) % (8 : Int32))), .val (.ref a_EXPIRE_DELEGATION_TOKEN), .val (.int (2 : Int32)), .val (.int p1), .unset] [(.int (((p2 >>> ((1 : Int32) &&& 31)) &&& (3 : Int32)) - (2 : Int32))), (.int (2 : Int32))]))
                  refine own_F.of (fun _ => XS.iadd S20.here S20.hx rfl (S20.dec at_148) rfl) ?_
                  show own_F p e below s Z _ _ _ _ _ (T20.setTop (mkF m 149 #[.val (.int p0), .val (.int p1), .val (.int p2), .val (.int ((p0 &&& (2147483647 : Int32)) % (8 : Int32))), .val (.ref a_EXPIRE_DELEGATION_TOKEN), .val (.int (2 : Int32)), .val (.int p1), .unset] [(.int ((2 : Int32) + (((p2 >>> ((1 : Int32) &&& 31)) &&& (3 : Int32)) - (2 : Int32))))]))
                  refine own_F.of (fun _ => XS.istore S20.here S20.hx rfl (S20.dec at_149) rfl (l' := #[.val (.int p0), .val (.int p1), .val (.int p2), .val (.int ((p0 &&& (2147483647 : Int32)) % (8 : Int32))), .val (.ref a_EXPIRE_DELEGATION_TOKEN), .val (.int (2 : Int32)), .val (.int ((2 : Int32) + (((p2 >>> ((1 : Int32) &&& 31)) &&& (3 : Int32)) - (2 : Int32)))), .unset]) rfl) ?_
                  show own_F p e below s Z _ _ _ _ _ (T20.setTop (mkF m 151 #[.val (.int p0), .val (.int p1), .val (.int p2), .val (.int ((p0 &&& (2147483647 : Int32)) % (8 : Int32))), .val (.ref a_EXPIRE_DELEGATION_TOKEN), .val (.int (2 : Int32)), .val (.int ((2 : Int32) + (((p2 >>> ((1 : Int32) &&& 31)) &&& (3 : Int32)) - (2 : Int32)))), .unset] []))
                  refine own_F.of (fun _ => XS.iload S20.here S20.hx rfl (S20.dec at_151) rfl) ?_
                  show own_F p e below s Z _ _ _ _ _ (T20.setTop (mkF m 153 #[.val (.int p0), .val (.int p1), .val (.int p2), .val (.int ((p0 &&& (2147483647 : Int32)) % (8 : Int32))), .val (.ref a_EXPIRE_DELEGATION_TOKEN), .val (.int (2 : Int32)), .val (.int ((2 : Int32) + (((p2 >>> ((1 : Int32) &&& 31)) &&& (3 : Int32)) - (2 : Int32)))), .unset] [(.int ((2 : Int32) + (((p2 >>> ((1 : Int32) &&& 31)) &&& (3 : Int32)) - (2 : Int32))))]))
                  refine own_F.of (fun _ => XS.iload S20.here S20.hx rfl (S20.dec at_153) rfl) ?_
                  show own_F p e below s Z _ _ _ _ _ (T20.setTop (mkF m 155 #[.val (.int p0), .val (.int p1), .val (.int p2), .val (.int ((p0 &&& (2147483647 : Int32)) % (8 : Int32))), .val (.ref a_EXPIRE_DELEGATION_TOKEN), .val (.int (2 : Int32)), .val (.int ((2 : Int32) + (((p2 >>> ((1 : Int32) &&& 31)) &&& (3 : Int32)) - (2 : Int32)))), .unset] [(.int (2 : Int32)), (.int ((2 : Int32) + (((p2 >>> ((1 : Int32) &&& 31)) &&& (3 : Int32)) - (2 : Int32))))]))
                  refine own_icmp S20 162 at_155 (by decide) (by decide) (fun (hc155_27 : ((2 : Int32) + (((p2 >>> ((1 : Int32) &&& 31)) &&& (3 : Int32)) - (2 : Int32))) < (2 : Int32)) => ?_) (fun (hc155_27 : ¬ (((2 : Int32) + (((p2 >>> ((1 : Int32) &&& 31)) &&& (3 : Int32)) - (2 : Int32))) < (2 : Int32))) => ?_)
                  · show own_F p e below s Z _ _ _ _ _ (T20.setTop (mkF m 162 #[.val (.int p0), .val (.int p1), .val (.int p2), .val (.int ((p0 &&& (2147483647 : Int32)) % (8 : Int32))), .val (.ref a_EXPIRE_DELEGATION_TOKEN), .val (.int (2 : Int32)), .val (.int ((2 : Int32) + (((p2 >>> ((1 : Int32) &&& 31)) &&& (3 : Int32)) - (2 : Int32)))), .unset] []))
                    refine own_F.of (fun _ => XS.iconst S20.here S20.hx rfl (S20.dec at_162)) ?_
                    show own_F p e below s Z _ _ _ _ _ (T20.setTop (mkF m 163 #[.val (.int p0), .val (.int p1), .val (.int p2), .val (.int ((p0 &&& (2147483647 : Int32)) % (8 : Int32))), .val (.ref a_EXPIRE_DELEGATION_TOKEN), .val (.int (2 : Int32)), .val (.int ((2 : Int32) + (((p2 >>> ((1 : Int32) &&& 31)) &&& (3 : Int32)) - (2 : Int32)))), .unset] [(.int (0 : Int32))]))
                    refine own_F.of (fun _ => XS.istore S20.here S20.hx rfl (S20.dec at_163) rfl (l' := #[.val (.int p0), .val (.int p1), .val (.int p2), .val (.int ((p0 &&& (2147483647 : Int32)) % (8 : Int32))), .val (.ref a_EXPIRE_DELEGATION_TOKEN), .val (.int (2 : Int32)), .val (.int ((2 : Int32) + (((p2 >>> ((1 : Int32) &&& 31)) &&& (3 : Int32)) - (2 : Int32)))), .val (.int (0 : Int32))]) rfl) ?_
                    show own_F p e below s Z _ _ _ _ _ (T20.setTop (mkF m 165 #[.val (.int p0), .val (.int p1), .val (.int p2), .val (.int ((p0 &&& (2147483647 : Int32)) % (8 : Int32))), .val (.ref a_EXPIRE_DELEGATION_TOKEN), .val (.int (2 : Int32)), .val (.int ((2 : Int32) + (((p2 >>> ((1 : Int32) &&& 31)) &&& (3 : Int32)) - (2 : Int32)))), .val (.int (0 : Int32))] []))
                    refine own_F.of (fun _ => XS.aload S20.here S20.hx rfl (S20.dec at_165) rfl rfl) ?_
                    show own_F p e below s Z _ _ _ _ _ (T20.setTop (mkF m 167 #[.val (.int p0), .val (.int p1), .val (.int p2), .val (.int ((p0 &&& (2147483647 : Int32)) % (8 : Int32))), .val (.ref a_EXPIRE_DELEGATION_TOKEN), .val (.int (2 : Int32)), .val (.int ((2 : Int32) + (((p2 >>> ((1 : Int32) &&& 31)) &&& (3 : Int32)) - (2 : Int32)))), .val (.int (0 : Int32))] [(.ref a_EXPIRE_DELEGATION_TOKEN)]))
                    refine own_F.of (fun _ => XS.iload S20.here S20.hx rfl (S20.dec at_167) rfl) ?_
                    show own_F p e below s Z _ _ _ _ _ (T20.setTop (mkF m 169 #[.val (.int p0), .val (.int p1), .val (.int p2), .val (.int ((p0 &&& (2147483647 : Int32)) % (8 : Int32))), .val (.ref a_EXPIRE_DELEGATION_TOKEN), .val (.int (2 : Int32)), .val (.int ((2 : Int32) + (((p2 >>> ((1 : Int32) &&& 31)) &&& (3 : Int32)) - (2 : Int32)))), .val (.int (0 : Int32))] [(.int ((2 : Int32) + (((p2 >>> ((1 : Int32) &&& 31)) &&& (3 : Int32)) - (2 : Int32)))), (.ref a_EXPIRE_DELEGATION_TOKEN)]))
                    refine own_callV S20 (y := (⟨"com/example/lanyard/lanyard/protocol/ApiKey", "isFlexible", "(I)Z"⟩ : MethodName)) (y' := (⟨"com/example/lanyard/lanyard/protocol/ApiKey", "isFlexible", "(I)Z"⟩ : MethodName)) (own_w hw 4 rfl) (own_w hw 5 rfl) (own_nf S20 (own_w hw 7 rfl)) (own_w hw 7 rfl) (own_w hw 6 rfl) (own_w hw 8 rfl) (own_w hw 2 rfl) (by decide) (X_EXPIRE_DELEGATION_TOKEN.ext S20.old) (argsL := [(.int ((2 : Int32) + (((p2 >>> ((1 : Int32) &&& 31)) &&& (3 : Int32)) - (2 : Int32))))]) (rest := []) (own_flex l Z a0 hw a_EXPIRE_DELEGATION_TOKEN ((2 : Int32) + (((p2 >>> ((1 : Int32) &&& 31)) &&& (3 : Int32)) - (2 : Int32))) (2 : Int32) h0 S20.old F_EXPIRE_DELEGATION_TOKEN_firstFlexibleVersion) all0 (by decide +kernel : parseMethodDescriptor "(I)Z" = some ⟨[.int], some .boolean⟩) rfl rfl rfl at_169 (by decide) (Nat.le_of_ble_eq_true rfl) (by decide) (by decide) (fun T28 h28 v28 S28 K28 q28 => ?_)
                    obtain ⟨rfl, rfl⟩ := q28
                    show own_F p e below s Z _ _ _ _ _ (T28.setTop (mkF m 172 #[.val (.int p0), .val (.int p1), .val (.int p2), .val (.int ((p0 &&& (2147483647 : Int32)) % (8 : Int32))), .val (.ref a_EXPIRE_DELEGATION_TOKEN), .val (.int (2 : Int32)), .val (.int ((2 : Int32) + (((p2 >>> ((1 : Int32) &&& 31)) &&& (3 : Int32)) - (2 : Int32)))), .val (.int (0 : Int32))] [(.int (own_fx ((2 : Int32) + (((p2 >>> ((1 : Int32) &&& 31)) &&& (3 : Int32)) - (2 : Int32))) (2 : Int32)))]))
                    refine own_F.of (fun _ => XS.iload S28.here S28.hx rfl (S28.dec at_172) rfl) ?_
                    show own_F p e below s Z _ _ _ _ _ (T28.setTop (mkF m 174 #[.val (.int p0), .val (.int p1), .val (.int p2), .val (.int ((p0 &&& (2147483647 : Int32)) % (8 : Int32))), .val (.ref a_EXPIRE_DELEGATION_TOKEN), .val (.int (2 : Int32)), .val (.int ((2 : Int32) + (((p2 >>> ((1 : Int32) &&& 31)) &&& (3 : Int32)) - (2 : Int32)))), .val (.int (0 : Int32))] [(.int (0 : Int32)), (.int (own_fx ((2 : Int32) + (((p2 >>> ((1 : Int32) &&& 31)) &&& (3 : Int32)) - (2 : Int32))) (2 : Int32)))]))
                    refine own_icmp S28 181 at_174 (by decide) (by decide) (fun (hc174_29 : ¬ ((own_fx ((2 : Int32) + (((p2 >>> ((1 : Int32) &&& 31)) &&& (3 : Int32)) - (2 : Int32))) (2 : Int32)) = (0 : Int32))) => False.elim (hc174_29 (by simp [own_fx, hc155_27]))) (fun (hc174_29 : (own_fx ((2 : Int32) + (((p2 >>> ((1 : Int32) &&& 31)) &&& (3 : Int32)) - (2 : Int32))) (2 : Int32)) = (0 : Int32)) => ?_)
                    show own_F p e below s Z _ _ _ _ _ (T28.setTop (mkF m 177 #[.val (.int p0), .val (.int p1), .val (.int p2), .val (.int ((p0 &&& (2147483647 : Int32)) % (8 : Int32))), .val (.ref a_EXPIRE_DELEGATION_TOKEN), .val (.int (2 : Int32)), .val (.int ((2 : Int32) + (((p2 >>> ((1 : Int32) &&& 31)) &&& (3 : Int32)) - (2 : Int32)))), .val (.int (0 : Int32))] []))
                    refine own_F.of (fun _ => XS.iconst S28.here S28.hx rfl (S28.dec at_177)) ?_
                    show own_F p e below s Z _ _ _ _ _ (T28.setTop (mkF m 178 #[.val (.int p0), .val (.int p1), .val (.int p2), .val (.int ((p0 &&& (2147483647 : Int32)) % (8 : Int32))), .val (.ref a_EXPIRE_DELEGATION_TOKEN), .val (.int (2 : Int32)), .val (.int ((2 : Int32) + (((p2 >>> ((1 : Int32) &&& 31)) &&& (3 : Int32)) - (2 : Int32)))), .val (.int (0 : Int32))] [(.int (1 : Int32))]))
                    refine own_F.of (fun _ => XS.goto S28.here S28.hx rfl (pc0 := 178) (pc' := 182) rfl (S28.dec at_178) (by decide) (by decide)) ?_
                    show own_F p e below s Z _ _ _ _ _ (T28.setTop (mkF m 182 #[.val (.int p0), .val (.int p1), .val (.int p2), .val (.int ((p0 &&& (2147483647 : Int32)) % (8 : Int32))), .val (.ref a_EXPIRE_DELEGATION_TOKEN), .val (.int (2 : Int32)), .val (.int ((2 : Int32) + (((p2 >>> ((1 : Int32) &&& 31)) &&& (3 : Int32)) - (2 : Int32)))), .val (.int (0 : Int32))] [(.int (1 : Int32))]))
                    refine own_retZ S28 (by simp) at_182 (by decide) (by decide) ?_
                    rfl
                  · show own_F p e below s Z _ _ _ _ _ (T20.setTop (mkF m 158 #[.val (.int p0), .val (.int p1), .val (.int p2), .val (.int ((p0 &&& (2147483647 : Int32)) % (8 : Int32))), .val (.ref a_EXPIRE_DELEGATION_TOKEN), .val (.int (2 : Int32)), .val (.int ((2 : Int32) + (((p2 >>> ((1 : Int32) &&& 31)) &&& (3 : Int32)) - (2 : Int32)))), .unset] []))
                    refine own_F.of (fun _ => XS.iconst S20.here S20.hx rfl (S20.dec at_158)) ?_
                    show own_F p e below s Z _ _ _ _ _ (T20.setTop (mkF m 159 #[.val (.int p0), .val (.int p1), .val (.int p2), .val (.int ((p0 &&& (2147483647 : Int32)) % (8 : Int32))), .val (.ref a_EXPIRE_DELEGATION_TOKEN), .val (.int (2 : Int32)), .val (.int ((2 : Int32) + (((p2 >>> ((1 : Int32) &&& 31)) &&& (3 : Int32)) - (2 : Int32)))), .unset] [(.int (1 : Int32))]))
                    refine own_F.of (fun _ => XS.goto S20.here S20.hx rfl (pc0 := 159) (pc' := 163) rfl (S20.dec at_159) (by decide) (by decide)) ?_
                    show own_F p e below s Z _ _ _ _ _ (T20.setTop (mkF m 163 #[.val (.int p0), .val (.int p1), .val (.int p2), .val (.int ((p0 &&& (2147483647 : Int32)) % (8 : Int32))), .val (.ref a_EXPIRE_DELEGATION_TOKEN), .val (.int (2 : Int32)), .val (.int ((2 : Int32) + (((p2 >>> ((1 : Int32) &&& 31)) &&& (3 : Int32)) - (2 : Int32)))), .unset] [(.int (1 : Int32))]))
                    refine own_F.of (fun _ => XS.istore S20.here S20.hx rfl (S20.dec at_163) rfl (l' := #[.val (.int p0), .val (.int p1), .val (.int p2), .val (.int ((p0 &&& (2147483647 : Int32)) % (8 : Int32))), .val (.ref a_EXPIRE_DELEGATION_TOKEN), .val (.int (2 : Int32)), .val (.int ((2 : Int32) + (((p2 >>> ((1 : Int32) &&& 31)) &&& (3 : Int32)) - (2 : Int32)))), .val (.int (1 : Int32))]) rfl) ?_
                    show own_F p e below s Z _ _ _ _ _ (T20.setTop (mkF m 165 #[.val (.int p0), .val (.int p1), .val (.int p2), .val (.int ((p0 &&& (2147483647 : Int32)) % (8 : Int32))), .val (.ref a_EXPIRE_DELEGATION_TOKEN), .val (.int (2 : Int32)), .val (.int ((2 : Int32) + (((p2 >>> ((1 : Int32) &&& 31)) &&& (3 : Int32)) - (2 : Int32)))), .val (.int (1 : Int32))] []))
                    refine own_F.of (fun _ => XS.aload S20.here S20.hx rfl (S20.dec at_165) rfl rfl) ?_
                    show own_F p e below s Z _ _ _ _ _ (T20.setTop (mkF m 167 #[.val (.int p0), .val (.int p1), .val (.int p2), .val (.int ((p0 &&& (2147483647 : Int32)) % (8 : Int32))), .val (.ref a_EXPIRE_DELEGATION_TOKEN), .val (.int (2 : Int32)), .val (.int ((2 : Int32) + (((p2 >>> ((1 : Int32) &&& 31)) &&& (3 : Int32)) - (2 : Int32)))), .val (.int (1 : Int32))] [(.ref a_EXPIRE_DELEGATION_TOKEN)]))
                    refine own_F.of (fun _ => XS.iload S20.here S20.hx rfl (S20.dec at_167) rfl) ?_
                    show own_F p e below s Z _ _ _ _ _ (T20.setTop (mkF m 169 #[.val (.int p0), .val (.int p1), .val (.int p2), .val (.int ((p0 &&& (2147483647 : Int32)) % (8 : Int32))), .val (.ref a_EXPIRE_DELEGATION_TOKEN), .val (.int (2 : Int32)), .val (.int ((2 : Int32) + (((p2 >>> ((1 : Int32) &&& 31)) &&& (3 : Int32)) - (2 : Int32)))), .val (.int (1 : Int32))] [(.int ((2 : Int32) + (((p2 >>> ((1 : Int32) &&& 31)) &&& (3 : Int32)) - (2 : Int32)))), (.ref a_EXPIRE_DELEGATION_TOKEN)]))
                    refine own_callV S20 (y := (⟨"com/example/lanyard/lanyard/protocol/ApiKey", "isFlexible", "(I)Z"⟩ : MethodName)) (y' := (⟨"com/example/lanyard/lanyard/protocol/ApiKey", "isFlexible", "(I)Z"⟩ : MethodName)) (own_w hw 4 rfl) (own_w hw 5 rfl) (own_nf S20 (own_w hw 7 rfl)) (own_w hw 7 rfl) (own_w hw 6 rfl) (own_w hw 8 rfl) (own_w hw 2 rfl) (by decide) (X_EXPIRE_DELEGATION_TOKEN.ext S20.old) (argsL := [(.int ((2 : Int32) + (((p2 >>> ((1 : Int32) &&& 31)) &&& (3 : Int32)) - (2 : Int32))))]) (rest := []) (own_flex l Z a0 hw a_EXPIRE_DELEGATION_TOKEN ((2 : Int32) + (((p2 >>> ((1 : Int32) &&& 31)) &&& (3 : Int32)) - (2 : Int32))) (2 : Int32) h0 S20.old F_EXPIRE_DELEGATION_TOKEN_firstFlexibleVersion) all0 (by decide +kernel : parseMethodDescriptor "(I)Z" = some ⟨[.int], some .boolean⟩) rfl rfl rfl at_169 (by decide) (Nat.le_of_ble_eq_true rfl) (by decide) (by decide) (fun T30 h30 v30 S30 K30 q30 => ?_)
                    obtain ⟨rfl, rfl⟩ := q30
                    show own_F p e below s Z _ _ _ _ _ (T30.setTop (mkF m 172 #[.val (.int p0), .val (.int p1), .val (.int p2), .val (.int ((p0 &&& (2147483647 : Int32)) % (8 : Int32))), .val (.ref a_EXPIRE_DELEGATION_TOKEN), .val (.int (2 : Int32)), .val (.int ((2 : Int32) + (((p2 >>> ((1 : Int32) &&& 31)) &&& (3 : Int32)) - (2 : Int32)))), .val (.int (1 : Int32))] [(.int (own_fx ((2 : Int32) + (((p2 >>> ((1 : Int32) &&& 31)) &&& (3 : Int32)) - (2 : Int32))) (2 : Int32)))]))
                    refine own_F.of (fun _ => XS.iload S30.here S30.hx rfl (S30.dec at_172) rfl) ?_
                    show own_F p e below s Z _ _ _ _ _ (T30.setTop (mkF m 174 #[.val (.int p0), .val (.int p1), .val (.int p2), .val (.int ((p0 &&& (2147483647 : Int32)) % (8 : Int32))), .val (.ref a_EXPIRE_DELEGATION_TOKEN), .val (.int (2 : Int32)), .val (.int ((2 : Int32) + (((p2 >>> ((1 : Int32) &&& 31)) &&& (3 : Int32)) - (2 : Int32)))), .val (.int (1 : Int32))] [(.int (1 : Int32)), (.int (own_fx ((2 : Int32) + (((p2 >>> ((1 : Int32) &&& 31)) &&& (3 : Int32)) - (2 : Int32))) (2 : Int32)))]))
                    refine own_icmp S30 181 at_174 (by decide) (by decide) (fun (hc174_31 : ¬ ((own_fx ((2 : Int32) + (((p2 >>> ((1 : Int32) &&& 31)) &&& (3 : Int32)) - (2 : Int32))) (2 : Int32)) = (1 : Int32))) => False.elim (hc174_31 (by simp [own_fx, hc155_27]))) (fun (hc174_31 : (own_fx ((2 : Int32) + (((p2 >>> ((1 : Int32) &&& 31)) &&& (3 : Int32)) - (2 : Int32))) (2 : Int32)) = (1 : Int32)) => ?_)
                    show own_F p e below s Z _ _ _ _ _ (T30.setTop (mkF m 177 #[.val (.int p0), .val (.int p1), .val (.int p2), .val (.int ((p0 &&& (2147483647 : Int32)) % (8 : Int32))), .val (.ref a_EXPIRE_DELEGATION_TOKEN), .val (.int (2 : Int32)), .val (.int ((2 : Int32) + (((p2 >>> ((1 : Int32) &&& 31)) &&& (3 : Int32)) - (2 : Int32)))), .val (.int (1 : Int32))] []))
                    refine own_F.of (fun _ => XS.iconst S30.here S30.hx rfl (S30.dec at_177)) ?_
                    show own_F p e below s Z _ _ _ _ _ (T30.setTop (mkF m 178 #[.val (.int p0), .val (.int p1), .val (.int p2), .val (.int ((p0 &&& (2147483647 : Int32)) % (8 : Int32))), .val (.ref a_EXPIRE_DELEGATION_TOKEN), .val (.int (2 : Int32)), .val (.int ((2 : Int32) + (((p2 >>> ((1 : Int32) &&& 31)) &&& (3 : Int32)) - (2 : Int32)))), .val (.int (1 : Int32))] [(.int (1 : Int32))]))
                    refine own_F.of (fun _ => XS.goto S30.here S30.hx rfl (pc0 := 178) (pc' := 182) rfl (S30.dec at_178) (by decide) (by decide)) ?_
                    show own_F p e below s Z _ _ _ _ _ (T30.setTop (mkF m 182 #[.val (.int p0), .val (.int p1), .val (.int p2), .val (.int ((p0 &&& (2147483647 : Int32)) % (8 : Int32))), .val (.ref a_EXPIRE_DELEGATION_TOKEN), .val (.int (2 : Int32)), .val (.int ((2 : Int32) + (((p2 >>> ((1 : Int32) &&& 31)) &&& (3 : Int32)) - (2 : Int32)))), .val (.int (1 : Int32))] [(.int (1 : Int32))]))
                    refine own_retZ S30 (by simp) at_182 (by decide) (by decide) ?_
                    rfl
            · show own_F p e below s Z _ _ _ _ _ (T0.setTop (mkF m 94 #[.val (.int p0), .val (.int p1), .val (.int p2), .val (.int ((p0 &&& (2147483647 : Int32)) % (8 : Int32))), .unset, .unset, .unset, .unset] []))
              refine own_getS S0 (host := "") (Or.inl (own_w hw 21 rfl)) Via.refl (S_RENEW_DELEGATION_TOKEN.ext S0.old) at_94 (fun T32 S32 => ?_)
              show own_F p e below s Z _ _ _ _ _ (T32.setTop (mkF m 97 #[.val (.int p0), .val (.int p1), .val (.int p2), .val (.int ((p0 &&& (2147483647 : Int32)) % (8 : Int32))), .unset, .unset, .unset, .unset] [(.ref a_RENEW_DELEGATION_TOKEN)]))
              refine own_F.of (fun _ => XS.astore S32.here S32.hx rfl (S32.dec at_97) rfl rfl (l' := #[.val (.int p0), .val (.int p1), .val (.int p2), .val (.int ((p0 &&& (2147483647 : Int32)) % (8 : Int32))), .val (.ref a_RENEW_DELEGATION_TOKEN), .unset, .unset, .unset]) rfl) ?_
              show own_F p e below s Z _ _ _ _ _ (T32.setTop (mkF m 99 #[.val (.int p0), .val (.int p1), .val (.int p2), .val (.int ((p0 &&& (2147483647 : Int32)) % (8 : Int32))), .val (.ref a_RENEW_DELEGATION_TOKEN), .unset, .unset, .unset] []))
              refine own_F.of (fun _ => XS.iconst S32.here S32.hx rfl (S32.dec at_99)) ?_
              show own_F p e below s Z _ _ _ _ _ (T32.setTop (mkF m 100 #[.val (.int p0), .val (.int p1), .val (.int p2), .val (.int ((p0 &&& (2147483647 : Int32)) % (8 : Int32))), .val (.ref a_RENEW_DELEGATION_TOKEN), .unset, .unset, .unset] [(.int (2 : Int32))]))
              refine own_F.of (fun _ => XS.istore S32.here S32.hx rfl (S32.dec at_100) rfl (l' := #[.val (.int p0), .val (.int p1), .val (.int p2), .val (.int ((p0 &&& (2147483647 : Int32)) % (8 : Int32))), .val (.ref a_RENEW_DELEGATION_TOKEN), .val (.int (2 : Int32)), .unset, .unset]) rfl) ?_
              show own_F p e below s Z _ _ _ _ _ (T32.setTop (mkF m 102 #[.val (.int p0), .val (.int p1), .val (.int p2), .val (.int ((p0 &&& (2147483647 : Int32)) % (8 : Int32))), .val (.ref a_RENEW_DELEGATION_TOKEN), .val (.int (2 : Int32)), .unset, .unset] []))
              refine own_F.of (fun _ => XS.goto S32.here S32.hx rfl (pc0 := 102) (pc' := 130) rfl (S32.dec at_102) (by decide) (by decide)) ?_
              show own_F p e below s Z _ _ _ _ _ (T32.setTop (mkF m 130 #[.val (.int p0), .val (.int p1), .val (.int p2), .val (.int ((p0 &&& (2147483647 : Int32)) % (8 : Int32))), .val (.ref a_RENEW_DELEGATION_TOKEN), .val (.int (2 : Int32)), .unset, .unset] []))
              refine own_F.of (fun _ => XS.iloadN S32.here S32.hx rfl (S32.dec at_130) rfl) ?_
              show own_F p e below s Z _ _ _ _ _ (T32.setTop (mkF m 131 #[.val (.int p0), .val (.int p1), .val (.int p2), .val (.int ((p0 &&& (2147483647 : Int32)) % (8 : Int32))), .val (.ref a_RENEW_DELEGATION_TOKEN), .val (.int (2 : Int32)), .unset, .unset] [(.int p1)]))
              refine own_F.of (fun _ => XS.istore S32.here S32.hx rfl (S32.dec at_131) rfl (l' := #[.val (.int p0), .val (.int p1), .val (.int p2), .val (.int ((p0 &&& (2147483647 : Int32)) % (8 : Int32))), .val (.ref a_RENEW_DELEGATION_TOKEN), .val (.int (2 : Int32)), .val (.int p1), .unset]) rfl) ?_
              show own_F p e below s Z _ _ _ _ _ (T32.setTop (mkF m 133 #[.val (.int p0), .val (.int p1), .val (.int p2), .val (.int ((p0 &&& (2147483647 : Int32)) % (8 : Int32))), .val (.ref a_RENEW_DELEGATION_TOKEN), .val (.int (2 : Int32)), .val (.int p1), .unset] []))
              refine own_F.of (fun _ => XS.iloadN S32.here S32.hx rfl (S32.dec at_133) rfl) ?_
              show own_F p e below s Z _ _ _ _ _ (T32.setTop (mkF m 134 #[.val (.int p0), .val (.int p1), .val (.int p2), .val (.int ((p0 &&& (2147483647 : Int32)) % (8 : Int32))), .val (.ref a_RENEW_DELEGATION_TOKEN), .val (.int (2 : Int32)), .val (.int p1), .unset] [(.int p2)]))
              refine own_F.of (fun _ => XS.iconst S32.here S32.hx rfl (S32.dec at_134)) ?_
              show own_F p e below s Z _ _ _ _ _ (T32.setTop (mkF m 135 #[.val (.int p0), .val (.int p1), .val (.int p2), .val (.int ((p0 &&& (2147483647 : Int32)) % (8 : Int32))), .val (.ref a_RENEW_DELEGATION_TOKEN), .val (.int (2 : Int32)), .val (.int p1), .unset] [(.int (1 : Int32)), (.int p2)]))
              refine own_F.of (fun _ => XS.iand S32.here S32.hx rfl (S32.dec at_135) rfl) ?_
              show own_F p e below s Z _ _ _ _ _ (T32.setTop (mkF m 136 #[.val (.int p0), .val (.int p1), .val (.int p2), .val (.int ((p0 &&& (2147483647 : Int32)) % (8 : Int32))), .val (.ref a_RENEW_DELEGATION_TOKEN), .val (.int (2 : Int32)), .val (.int p1), .unset] [(.int (p2 &&& (1 : Int32)))]))
              refine own_if S32 151 at_136 (by decide) (by decide) (fun (hc136_33 : (p2 &&& (1 : Int32)) = (0 : Int32)) => ?_) (fun (hc136_33 : ¬ ((p2 &&& (1 : Int32)) = (0 : Int32))) => ?_)
              · show own_F p e below s Z _ _ _ _ _ (T32.setTop (mkF m 151 #[.val (.int p0), .val (.int p1), .val (.int p2), .val (.int ((p0 &&& (2147483647 : Int32)) % (8 : Int32))), .val (.ref a_RENEW_DELEGATION_TOKEN), .val (.int (2 : Int32)), .val (.int p1), .unset] []))
                refine own_F.of (fun _ => XS.iload S32.here S32.hx rfl (S32.dec at_151) rfl) ?_
                show own_F p e below s Z _ _ _ _ _ (T32.setTop (mkF m 153 #[.val (.int p0), .val (.int p1), .val (.int p2), .val (.int ((p0 &&& (2147483647 : Int32)) % (8 : Int32))), .val (.ref a_RENEW_DELEGATION_TOKEN), .val (.int (2 : Int32)), .val (.int p1), .unset] [(.int p1)]))
                refine own_F.of (fun _ => XS.iload S32.here S32.hx rfl (S32.dec at_153) rfl) ?_
                show own_F p e below s Z _ _ _ _ _ (T32.setTop (mkF m 155 #[.val (.int p0), .val (.int p1), .val (.int p2), .val (.int ((p0 &&& (2147483647 : Int32)) % (8 : Int32))), .val (.ref a_RENEW_DELEGATION_TOKEN), .val (.int (2 : Int32)), .val (.int p1), .unset] [(.int (2 : Int32)), (.int p1)]))
                refine own_icmp S32 162 at_155 (by decide) (by decide) (fun (hc155_34 : p1 < (2 : Int32)) => ?_) (fun (hc155_34 : ¬ (p1 < (2 : Int32))) => ?_)
                · show own_F p e below s Z _ _ _ _ _ (T32.setTop (mkF m 162 #[.val (.int p0), .val (.int p1), .val (.int p2), .val (.int ((p0 &&& (2147483647 : Int32)) % (8 : Int32))), .val (.ref a_RENEW_DELEGATION_TOKEN), .val (.int (2 : Int32)), .val (.int p1), .unset] []))
                  refine own_F.of (fun _ => XS.iconst S32.here S32.hx rfl (S32.dec at_162)) ?_
                  show own_F p e below s Z _ _ _ _ _ (T32.setTop (mkF m 163 #[.val (.int p0), .val (.int p1), .val (.int p2), .val (.int ((p0 &&& (2147483647 : Int32)) % (8 : Int32))), .val (.ref a_RENEW_DELEGATION_TOKEN), .val (.int (2 : Int32)), .val (.int p1), .unset] [(.int (0 : Int32))]))
                  refine own_F.of (fun _ => XS.istore S32.here S32.hx rfl (S32.dec at_163) rfl (l' := #[.val (.int p0), .val (.int p1), .val (.int p2), .val (.int ((p0 &&& (2147483647 : Int32)) % (8 : Int32))), .val (.ref a_RENEW_DELEGATION_TOKEN), .val (.int (2 : Int32)), .val (.int p1), .val (.int (0 : Int32))]) rfl) ?_
                  show own_F p e below s Z _ _ _ _ _ (T32.setTop (mkF m 165 #[.val (.int p0), .val (.int p1), .val (.int p2), .val (.int ((p0 &&& (2147483647 : Int32)) % (8 : Int32))), .val (.ref a_RENEW_DELEGATION_TOKEN), .val (.int (2 : Int32)), .val (.int p1), .val (.int (0 : Int32))] []))
                  refine own_F.of (fun _ => XS.aload S32.here S32.hx rfl (S32.dec at_165) rfl rfl) ?_
                  show own_F p e below s Z _ _ _ _ _ (T32.setTop (mkF m 167 #[.val (.int p0), .val (.int p1), .val (.int p2), .val (.int ((p0 &&& (2147483647 : Int32)) % (8 : Int32))), .val (.ref a_RENEW_DELEGATION_TOKEN), .val (.int (2 : Int32)), .val (.int p1), .val (.int (0 : Int32))] [(.ref a_RENEW_DELEGATION_TOKEN)]))
                  refine own_F.of (fun _ => XS.iload S32.here S32.hx rfl (S32.dec at_167) rfl) ?_
                  show own_F p e below s Z _ _ _ _ _ (T32.setTop (mkF m 169 #[.val (.int p0), .val (.int p1), .val (.int p2), .val (.int ((p0 &&& (2147483647 : Int32)) % (8 : Int32))), .val (.ref a_RENEW_DELEGATION_TOKEN), .val (.int (2 : Int32)), .val (.int p1), .val (.int (0 : Int32))] [(.int p1), (.ref a_RENEW_DELEGATION_TOKEN)]))
                  refine own_callV S32 (y := (⟨"com/example/lanyard/lanyard/protocol/ApiKey", "isFlexible", "(I)Z"⟩ : MethodName)) (y' := (⟨"com/example/lanyard/lanyard/protocol/ApiKey", "isFlexible", "(I)Z"⟩ : MethodName)) (own_w hw 4 rfl) (own_w hw 5 rfl) (own_nf S32 (own_w hw 7 rfl)) (own_w hw 7 rfl) (own_w hw 6 rfl) (own_w hw 8 rfl) (own_w hw 2 rfl) (by decide) (X_RENEW_DELEGATION_TOKEN.ext S32.old) (argsL := [(.int p1)]) (rest := []) (own_flex l Z a0 hw a_RENEW_DELEGATION_TOKEN p1 (2 : Int32) h0 S32.old F_RENEW_DELEGATION_TOKEN_firstFlexibleVersion) all0 (by decide +kernel : parseMethodDescriptor "(I)Z" = some ⟨[.int], some .boolean⟩) rfl rfl rfl at_169 (by decide) (Nat.le_of_ble_eq_true rfl) (by decide) (by decide) (fun T35 h35 v35 S35 K35 q35 => ?_)
                  obtain ⟨rfl, rfl⟩ := q35
                  show own_F p e below s Z _ _ _ _ _ (T35.setTop (mkF m 172 #[.val (.int p0), .val (.int p1), .val (.int p2), .val (.int ((p0 &&& (2147483647 : Int32)) % (8 : Int32))), .val (.ref a_RENEW_DELEGATION_TOKEN), .val (.int (2 : Int32)), .val (.int p1), .val (.int (0 : Int32))] [(.int (own_fx p1 (2 : Int32)))]))
                  refine own_F.of (fun _ => XS.iload S35.here S35.hx rfl (S35.dec at_172) rfl) ?_
                  show own_F p e below s Z _ _ _ _ _ (T35.setTop (mkF m 174 #[.val (.int p0), .val (.int p1), .val (.int p2), .val (.int ((p0 &&& (2147483647 : Int32)) % (8 : Int32))), .val (.ref a_RENEW_DELEGATION_TOKEN), .val (.int (2 : Int32)), .val (.int p1), .val (.int (0 : Int32))] [(.int (0 : Int32)), (.int (own_fx p1 (2 : Int32)))]))
                  refine own_icmp S35 181 at_174 (by decide) (by decide) (fun (hc174_36 : ¬ ((own_fx p1 (2 : Int32)) = (0 : Int32))) => False.elim (hc174_36 (by simp [own_fx, hc155_34]))) (fun (hc174_36 : (own_fx p1 (2 : Int32)) = (0 : Int32)) => ?_)
                  show own_F p e below s Z _ _ _ _ _ (T35.setTop (mkF m 177 #[.val (.int p0), .val (.int p1), .val (.int p2), .val (.int ((p0 &&& (2147483647 : Int32)) % (8 : Int32))), .val (.ref a_RENEW_DELEGATION_TOKEN), .val (.int (2 : Int32)), .val (.int p1), .val (.int (0 : Int32))] []))
                  refine own_F.of (fun _ => XS.iconst S35.here S35.hx rfl (S35.dec at_177)) ?_
                  show own_F p e below s Z _ _ _ _ _ (T35.setTop (mkF m 178 #[.val (.int p0), .val (.int p1), .val (.int p2), .val (.int ((p0 &&& (2147483647 : Int32)) % (8 : Int32))), .val (.ref a_RENEW_DELEGATION_TOKEN), .val (.int (2 : Int32)), .val (.int p1), .val (.int (0 : Int32))] [(.int (1 : Int32))]))
                  refine own_F.of (fun _ => XS.goto S35.here S35.hx rfl (pc0 := 178) (pc' := 182) rfl (S35.dec at_178) (by decide) (by decide)) ?_
                  show own_F p e below s Z _ _ _ _ _ (T35.setTop (mkF m 182 #[.val (.int p0), .val (.int p1), .val (.int p2), .val (.int ((p0 &&& (2147483647 : Int32)) % (8 : Int32))), .val (.ref a_RENEW_DELEGATION_TOKEN), .val (.int (2 : Int32)), .val (.int p1), .val (.int (0 : Int32))] [(.int (1 : Int32))]))
                  refine own_retZ S35 (by simp) at_182 (by decide) (by decide) ?_
                  rfl
                · show own_F p e below s Z _ _ _ _ _ (T32.setTop (mkF m 158 #[.val (.int p0), .val (.int p1), .val (.int p2), .val (.int ((p0 &&& (2147483647 : Int32)) % (8 : Int32))), .val (.ref a_RENEW_DELEGATION_TOKEN), .val (.int (2 : Int32)), .val (.int p1), .unset] []))
                  refine own_F.of (fun _ => XS.iconst S32.here S32.hx rfl (S32.dec at_158)) ?_
                  show own_F p e below s Z _ _ _ _ _ (T32.setTop (mkF m 159 #[.val (.int p0), .val (.int p1), .val (.int p2), .val (.int ((p0 &&& (2147483647 : Int32)) % (8 : Int32))), .val (.ref a_RENEW_DELEGATION_TOKEN), .val (.int (2 : Int32)), .val (.int p1), .unset] [(.int (1 : Int32))]))
                  refine own_F.of (fun _ => XS.goto S32.here S32.hx rfl (pc0 := 159) (pc' := 163) rfl (S32.dec at_159) (by decide) (by decide)) ?_
                  show own_F p e below s Z _ _ _ _ _ (T32.setTop (mkF m 163 #[.val (.int p0), .val (.int p1), .val (.int p2), .val (.int ((p0 &&& (2147483647 : Int32)) % (8 : Int32))), .val (.ref a_RENEW_DELEGATION_TOKEN), .val (.int (2 : Int32)), .val (.int p1), .unset] [(.int (1 : Int32))]))
                  refine own_F.of (fun _ => XS.istore S32.here S32.hx rfl (S32.dec at_163) rfl (l' := #[.val (.int p0), .val (.int p1), .val (.int p2), .val (.int ((p0 &&& (2147483647 : Int32)) % (8 : Int32))), .val (.ref a_RENEW_DELEGATION_TOKEN), .val (.int (2 : Int32)), .val (.int p1), .val (.int (1 : Int32))]) rfl) ?_
                  show own_F p e below s Z _ _ _ _ _ (T32.setTop (mkF m 165 #[.val (.int p0), .val (.int p1), .val (.int p2), .val (.int ((p0 &&& (2147483647 : Int32)) % (8 : Int32))), .val (.ref a_RENEW_DELEGATION_TOKEN), .val (.int (2 : Int32)), .val (.int p1), .val (.int (1 : Int32))] []))
                  refine own_F.of (fun _ => XS.aload S32.here S32.hx rfl (S32.dec at_165) rfl rfl) ?_
                  show own_F p e below s Z _ _ _ _ _ (T32.setTop (mkF m 167 #[.val (.int p0), .val (.int p1), .val (.int p2), .val (.int ((p0 &&& (2147483647 : Int32)) % (8 : Int32))), .val (.ref a_RENEW_DELEGATION_TOKEN), .val (.int (2 : Int32)), .val (.int p1), .val (.int (1 : Int32))] [(.ref a_RENEW_DELEGATION_TOKEN)]))
                  refine own_F.of (fun _ => XS.iload S32.here S32.hx rfl (S32.dec at_167) rfl) ?_
                  show own_F p e below s Z _ _ _ _ _ (T32.setTop (mkF m 169 #[.val (.int p0), .val (.int p1), .val (.int p2), .val (.int ((p0 &&& (2147483647 : Int32)) % (8 : Int32))), .val (.ref a_RENEW_DELEGATION_TOKEN), .val (.int (2 : Int32)), .val (.int p1), .val (.int (1 : Int32))] [(.int p1), (.ref a_RENEW_DELEGATION_TOKEN)]))
                  refine own_callV S32 (y := (⟨"com/example/lanyard/lanyard/protocol/ApiKey", "isFlexible", "(I)Z"⟩ : MethodName)) (y' := (⟨"com/example/lanyard/lanyard/protocol/ApiKey", "isFlexible", "(I)Z"⟩ : MethodName)) (own_w hw 4 rfl) (own_w hw 5 rfl) (own_nf S32 (own_w hw 7 rfl)) (own_w hw 7 rfl) (own_w hw 6 rfl) (own_w hw 8 rfl) (own_w hw 2 rfl) (by decide) (X_RENEW_DELEGATION_TOKEN.ext S32.old) (argsL := [(.int p1)]) (rest := []) (own_flex l Z a0 hw a_RENEW_DELEGATION_TOKEN p1 (2 : Int32) h0 S32.old F_RENEW_DELEGATION_TOKEN_firstFlexibleVersion) all0 (by decide +kernel : parseMethodDescriptor "(I)Z" = some ⟨[.int], some .boolean⟩) rfl rfl rfl at_169 (by decide) (Nat.le_of_ble_eq_true rfl) (by decide) (by decide) (fun T37 h37 v37 S37 K37 q37 => ?_)
                  obtain ⟨rfl, rfl⟩ := q37
                  show own_F p e below s Z _ _ _ _ _ (T37.setTop (mkF m 172 #[.val (.int p0), .val (.int p1), .val (.int p2), .val (.int ((p0 &&& (2147483647 : Int32)) % (8 : Int32))), .val (.ref a_RENEW_DELEGATION_TOKEN), .val (.int (2 : Int32)), .val (.int p1), .val (.int (1 : Int32))] [(.int (own_fx p1 (2 : Int32)))]))
                  refine own_F.of (fun _ => XS.iload S37.here S37.hx rfl (S37.dec at_172) rfl) ?_
                  show own_F p e below s Z _ _ _ _ _ (T37.setTop (mkF m 174 #[.val (.int p0), .val (.int p1), .val (.int p2), .val (.int ((p0 &&& (2147483647 : Int32)) % (8 : Int32))), .val (.ref a_RENEW_DELEGATION_TOKEN), .val (.int (2 : Int32)), .val (.int p1), .val (.int (1 : Int32))] [(.int (1 : Int32)), (.int (own_fx p1 (2 : Int32)))]))
                  refine own_icmp S37 181 at_174 (by decide) (by decide) (fun (hc174_38 : ¬ ((own_fx p1 (2 : Int32)) = (1 : Int32))) => False.elim (hc174_38 (by simp [own_fx, hc155_34]))) (fun (hc174_38 : (own_fx p1 (2 : Int32)) = (1 : Int32)) => ?_)
                  show own_F p e below s Z _ _ _ _ _ (T37.setTop (mkF m 177 #[.val (.int p0), .val (.int p1), .val (.int p2), .val (.int ((p0 &&& (2147483647 : Int32)) % (8 : Int32))), .val (.ref a_RENEW_DELEGATION_TOKEN), .val (.int (2 : Int32)), .val (.int p1), .val (.int (1 : Int32))] []))
                  refine own_F.of (fun _ => XS.iconst S37.here S37.hx rfl (S37.dec at_177)) ?_
                  show own_F p e below s Z _ _ _ _ _ (T37.setTop (mkF m 178 #[.val (.int p0), .val (.int p1), .val (.int p2), .val (.int ((p0 &&& (2147483647 : Int32)) % (8 : Int32))), .val (.ref a_RENEW_DELEGATION_TOKEN), .val (.int (2 : Int32)), .val (.int p1), .val (.int (1 : Int32))] [(.int (1 : Int32))]))
                  refine own_F.of (fun _ => XS.goto S37.here S37.hx rfl (pc0 := 178) (pc' := 182) rfl (S37.dec at_178) (by decide) (by decide)) ?_
                  show own_F p e below s Z _ _ _ _ _ (T37.setTop (mkF m 182 #[.val (.int p0), .val (.int p1), .val (.int p2), .val (.int ((p0 &&& (2147483647 : Int32)) % (8 : Int32))), .val (.ref a_RENEW_DELEGATION_TOKEN), .val (.int (2 : Int32)), .val (.int p1), .val (.int (1 : Int32))] [(.int (1 : Int32))]))
                  refine own_retZ S37 (by simp) at_182 (by decide) (by decide) ?_
                  rfl
              · show own_F p e below s Z _ _ _ _ _ (T32.setTop (mkF m 139 #[.val (.int p0), .val (.int p1), .val (.int p2), .val (.int ((p0 &&& (2147483647 : Int32)) % (8 : Int32))), .val (.ref a_RENEW_DELEGATION_TOKEN), .val (.int (2 : Int32)), .val (.int p1), .unset] []))
                refine own_F.of (fun _ => XS.iload S32.here S32.hx rfl (S32.dec at_139) rfl) ?_
                show own_F p e below s Z _ _ _ _ _ (T32.setTop (mkF m 141 #[.val (.int p0), .val (.int p1), .val (.int p2), .val (.int ((p0 &&& (2147483647 : Int32)) % (8 : Int32))), .val (.ref a_RENEW_DELEGATION_TOKEN), .val (.int (2 : Int32)), .val (.int p1), .unset] [(.int (2 : Int32))]))
                refine own_F.of (fun _ => XS.iloadN S32.here S32.hx rfl (S32.dec at_141) rfl) ?_
                show own_F p e below s Z _ _ _ _ _ (T32.setTop (mkF m 142 #[.val (.int p0), .val (.int p1), .val (.int p2), .val (.int ((p0 &&& (2147483647 : Int32)) % (8 : Int32))), .val (.ref a_RENEW_DELEGATION_TOKEN), .val (.int (2 : Int32)), .val (.int p1), .unset] [(.int p2), (.int (2 : Int32))]))
                refine own_F.of (fun _ => XS.iconst S32.here S32.hx rfl (S32.dec at_142)) ?_
                show own_F p e below s Z _ _ _ _ _ (T32.setTop (mkF m 143 #[.val (.int p0), .val (.int p1), .val (.int p2), .val (.int ((p0 &&& (2147483647 : Int32)) % (8 : Int32))), .val (.ref a_RENEW_DELEGATION_TOKEN), .val (.int (2 : Int32)), .val (.int p1), .unset] [(.int (1 : Int32)), (.int p2), (.int (2 : Int32))]))
                refine own_F.of (fun _ => XS.ishr S32.here S32.hx rfl (S32.dec at_143) rfl) ?_
                show own_F p e below s Z _ _ _ _ _ (T32.setTop (mkF m 144 #[.val (.int p0), .val (.int p1), .val (.int p2), .val (.int ((p0 &&& (2147483647 : Int32)) % (8 : Int32))), .val (.ref a_RENEW_DELEGATION_TOKEN), .val (.int (2 : Int32)), .val (.int p1), .unset] [(.int (p2 >>> ((1 : Int32) &&& 31))), (.int (2 : Int32))]))
                refine own_F.of (fun _ => XS.iconst S32.here S32.hx rfl (S32.dec at_144)) ?_
                show own_F p e below s Z _ _ _ _ _ (T32.setTop (mkF m 145 #[.val (.int p0), .val (.int p1), .val (.int p2), .val (.int ((p0 &&& (2147483647 : Int32)) % (8 : Int32))), .val (.ref a_RENEW_DELEGATION_TOKEN), .val (.int (2 : Int32)), .val (.int p1), .unset] [(.int (3 : Int32)), (.int (p2 >>> ((1 : Int32) &&& 31))), (.int (2 : Int32))]))
                refine own_F.of (fun _ => XS.iand S32.here S32.hx rfl (S32.dec at_145) rfl) ?_
                show own_F p e below s Z _ _ _ _ _ (T32.setTop (mkF m 146 #[.val (.int p0), .val (.int p1), .val (.int p2), .val (.int ((p0 &&& (2147483647 : Int32)) % (8 : Int32))), .val (.ref a_RENEW_DELEGATION_TOKEN), .val (.int (2 : Int32)), .val (.int p1), .unset] [(.int ((p2 >>> ((1 : Int32) &&& 31)) &&& (3 : Int32))), (.int (2 : Int32))]))
                refine own_F.of (fun _ => XS.iconst S32.here S32.hx rfl (S32.dec at_146)) ?_
                show own_F p e below s Z _ _ _ _ _ (T32.setTop (mkF m 147 #[.val (.int p0), .val (.int p1), .val (.int p2), .val (.int ((p0 &&& (2147483647 : Int32)) % (8 : Int32))), .val (.ref a_RENEW_DELEGATION_TOKEN), .val (.int (2 : Int32)), .val (.int p1), .unset] [(.int (2 : Int32)), (.int ((p2 >>> ((1 : Int32) &&& 31)) &&& (3 : Int32))), (.int (2 : Int32))]))
                refine own_F.of (fun _ => XS.isub S32.here S32.hx rfl (S32.dec at_147) rfl) ?_
                show own_F p e below s Z _ _ _ _ _ (T32.setTop (mkF m 148 #[.val (.int p0), .val (.int p1), .val (.int p2), .val (.int ((p0 &&& (2147483647 : Int32)) % (8 : Int32))), .val (.ref a_RENEW_DELEGATION_TOKEN), .val (.int (2 : Int32)), .val (.int p1), .unset] [(.int (((p2 >>> ((1 : Int32) &&& 31)) &&& (3 : Int32)) - (2 : Int32))), (.int (2 : Int32))]))
                refine own_F.of (fun _ => XS.iadd S32.here S32.hx rfl (S32.dec at_148) rfl) ?_
                show own_F p e below s Z _ _ _ _ _ (T32.setTop (mkF m 149 #[.val (.int p0), .val (.int p1), .val (.int p2), .val (.int ((p0 &&& (2147483647 : Int32)) % (8 : Int32))), .val (.ref a_RENEW_DELEGATION_TOKEN), .val (.int (2 : Int32)), .val (.int p1), .unset] [(.int ((2 : Int32) + (((p2 >>> ((1 : Int32) &&& 31)) &&& (3 : Int32)) - (2 : Int32))))]))
                refine own_F.of (fun _ => XS.istore S32.here S32.hx rfl (S32.dec at_149) rfl (l' := #[.val (.int p0), .val (.int p1), .val (.int p2), .val (.int ((p0 &&& (2147483647 : Int32)) % (8 : Int32))), .val (.ref a_RENEW_DELEGATION_TOKEN), .val (.int (2 : Int32)), .val (.int ((2 : Int32) + (((p2 >>> ((1 : Int32) &&& 31)) &&& (3 : Int32)) - (2 : Int32)))), .unset]) rfl) ?_
                show own_F p e below s Z _ _ _ _ _ (T32.setTop (mkF m 151 #[.val (.int p0), .val (.int p1), .val (.int p2), .val (.int ((p0 &&& (2147483647 : Int32)) % (8 : Int32))), .val (.ref a_RENEW_DELEGATION_TOKEN), .val (.int (2 : Int32)), .val (.int ((2 : Int32) + (((p2 >>> ((1 : Int32) &&& 31)) &&& (3 : Int32)) - (2 : Int32)))), .unset] []))
                refine own_F.of (fun _ => XS.iload S32.here S32.hx rfl (S32.dec at_151) rfl) ?_
                show own_F p e below s Z _ _ _ _ _ (T32.setTop (mkF m 153 #[.val (.int p0), .val (.int p1), .val (.int p2), .val (.int ((p0 &&& (2147483647 : Int32)) % (8 : Int32))), .val (.ref a_RENEW_DELEGATION_TOKEN), .val (.int (2 : Int32)), .val (.int ((2 : Int32) + (((p2 >>> ((1 : Int32) &&& 31)) &&& (3 : Int32)) - (2 : Int32)))), .unset] [(.int ((2 : Int32) + (((p2 >>> ((1 : Int32) &&& 31)) &&& (3 : Int32)) - (2 : Int32))))]))
                refine own_F.of (fun _ => XS.iload S32.here S32.hx rfl (S32.dec at_153) rfl) ?_
                show own_F p e below s Z _ _ _ _ _ (T32.setTop (mkF m 155 #[.val (.int p0), .val (.int p1), .val (.int p2), .val (.int ((p0 &&& (2147483647 : Int32)) % (8 : Int32))), .val (.ref a_RENEW_DELEGATION_TOKEN), .val (.int (2 : Int32)), .val (.int ((2 : Int32) + (((p2 >>> ((1 : Int32) &&& 31)) &&& (3 : Int32)) - (2 : Int32)))), .unset] [(.int (2 : Int32)), (.int ((2 : Int32) + (((p2 >>> ((1 : Int32) &&& 31)) &&& (3 : Int32)) - (2 : Int32))))]))
                refine own_icmp S32 162 at_155 (by decide) (by decide) (fun (hc155_39 : ((2 : Int32) + (((p2 >>> ((1 : Int32) &&& 31)) &&& (3 : Int32)) - (2 : Int32))) < (2 : Int32)) => ?_) (fun (hc155_39 : ¬ (((2 : Int32) + (((p2 >>> ((1 : Int32) &&& 31)) &&& (3 : Int32)) - (2 : Int32))) < (2 : Int32))) => ?_)
                · show own_F p e below s Z _ _ _ _ _ (T32.setTop (mkF m 162 #[.val (.int p0), .val (.int p1), .val (.int p2), .val (.int ((p0 &&& (2147483647 : Int32)) % (8 : Int32))), .val (.ref a_RENEW_DELEGATION_TOKEN), .val (.int (2 : Int32)), .val (.int ((2 : Int32) + (((p2 >>> ((1 : Int32) &&& 31)) &&& (3 : Int32)) - (2 : Int32)))), .unset] []))
                  refine own_F.of (fun _ => XS.iconst S32.here S32.hx rfl (S32.dec at_162)) ?_
                  show own_F p e below s Z _ _ _ _ _ (T32.setTop (mkF m 163 #[.val (.int p0), .val (.int p1), .val (.int p2), .val (.int ((p0 &&& (2147483647 : Int32)) % (8 : Int32))), .val (.ref a_RENEW_DELEGATION_TOKEN), .val (.int (2 : Int32)), .val (.int ((2 : Int32) + (((p2 >>> ((1 : Int32) &&& 31)) &&& (3 : Int32)) - (2 : Int32)))), .unset] [(.int (0 : Int32))]))
                  refine own_F.of (fun _ => XS.istore S32.here S32.hx rfl (S32.dec at_163) rfl (l' := #[.val (.int p0), .val (.int p1), .val (.int p2), .val (.int ((p0 &&& (2147483647 : Int32)) % (8 : Int32))), .val (.ref a_RENEW_DELEGATION_TOKEN), .val (.int (2 : Int32)), .val (.int ((2 : Int32) + (((p2 >>> ((1 : Int32) &&& 31)) &&& (3 : Int32)) - (2 : Int32)))), .val (.int (0 : Int32))]) rfl) ?_
                  show own_F p e below s Z _ _ _ _ _ (T32.setTop (mkF m 165 #[.val (.int p0), .val (.int p1), .val (.int p2), .val (.int ((p0 &&& (2147483647 : Int32)) % (8 : Int32))), .val (.ref a_RENEW_DELEGATION_TOKEN), .val (.int (2 : Int32)), .val (.int ((2 : Int32) + (((p2 >>> ((1 : Int32) &&& 31)) &&& (3 : Int32)) - (2 : Int32)))), .val (.int (0 : Int32))] []))
                  refine own_F.of (fun _ => XS.aload S32.here S32.hx rfl (S32.dec at_165) rfl rfl) ?_
                  show own_F p e below s Z _ _ _ _ _ (T32.setTop (mkF m 167 #[.val (.int p0), .val (.int p1), .val (.int p2), .val (.int ((p0 &&& (2147483647 : Int32)) % (8 : Int32))), .val (.ref a_RENEW_DELEGATION_TOKEN), .val (.int (2 : Int32)), .val (.int ((2 : Int32) + (((p2 >>> ((1 : Int32) &&& 31)) &&& (3 : Int32)) - (2 : Int32)))), .val (.int (0 : Int32))] [(.ref a_RENEW_DELEGATION_TOKEN)]))
                  refine own_F.of (fun _ => XS.iload S32.here S32.hx rfl (S32.dec at_167) rfl) ?_
                  show own_F p e below s Z _ _ _ _ _ (T32.setTop (mkF m 169 #[.val (.int p0), .val (.int p1), .val (.int p2), .val (.int ((p0 &&& (2147483647 : Int32)) % (8 : Int32))), .val (.ref a_RENEW_DELEGATION_TOKEN), .val (.int (2 : Int32)), .val (.int ((2 : Int32) + (((p2 >>> ((1 : Int32) &&& 31)) &&& (3 : Int32)) - (2 : Int32)))), .val (.int (0 : Int32))] [(.int ((2 : Int32) + (((p2 >>> ((1 : Int32) &&& 31)) &&& (3 : Int32)) - (2 : Int32)))), (.ref a_RENEW_DELEGATION_TOKEN)]))
                  refine own_callV S32 (y := (⟨"com/example/lanyard/lanyard/protocol/ApiKey", "isFlexible", "(I)Z"⟩ : MethodName)) (y' := (⟨"com/example/lanyard/lanyard/protocol/ApiKey", "isFlexible", "(I)Z"⟩ : MethodName)) (own_w hw 4 rfl) (own_w hw 5 rfl) (own_nf S32 (own_w hw 7 rfl)) (own_w hw 7 rfl) (own_w hw 6 rfl) (own_w hw 8 rfl) (own_w hw 2 rfl) (by decide) (X_RENEW_DELEGATION_TOKEN.ext S32.old) (argsL := [(.int ((2 : Int32) + (((p2 >>> ((1 : Int32) &&& 31)) &&& (3 : Int32)) - (2 : Int32))))]) (rest := []) (own_flex l Z a0 hw a_RENEW_DELEGATION_TOKEN ((2 : Int32) + (((p2 >>> ((1 : Int32) &&& 31)) &&& (3 : Int32)) - (2 : Int32))) (2 : Int32) h0 S32.old F_RENEW_DELEGATION_TOKEN_firstFlexibleVersion) all0 (by decide +kernel : parseMethodDescriptor "(I)Z" = some ⟨[.int], some .boolean⟩) rfl rfl rfl at_169 (by decide) (Nat.le_of_ble_eq_true rfl) (by decide) (by decide) (fun T40 h40 v40 S40 K40 q40 => ?_)
                  obtain ⟨rfl, rfl⟩ := q40
                  show own_F p e below s Z _ _ _ _ _ (T40.setTop (mkF m 172 #[.val (.int p0), .val (.int p1), .val (.int p2), .val (.int ((p0 &&& (2147483647 : Int32)) % (8 : Int32))), .val (.ref a_RENEW_DELEGATION_TOKEN), .val (.int (2 : Int32)), .val (.int ((2 : Int32) + (((p2 >>> ((1 : Int32) &&& 31)) &&& (3 : Int32)) - (2 : Int32)))), .val (.int (0 : Int32))] [(.int (own_fx ((2 : Int32) + (((p2 >>> ((1 : Int32) &&& 31)) &&& (3 : Int32)) - (2 : Int32))) (2 : Int32)))]))
                  refine own_F.of (fun _ => XS.iload S40.here S40.hx rfl (S40.dec at_172) rfl) ?_
                  show own_F p e below s Z _ _ _ _ _ (T40.setTop (mkF m 174 #[.val (.int p0), .val (.int p1), .val (.int p2), .val (.int ((p0 &&& (2147483647 : Int32)) % (8 : Int32))), .val (.ref a_RENEW_DELEGATION_TOKEN), .val (.int (2 : Int32)), .val (.int ((2 : Int32) + (((p2 >>> ((1 : Int32) &&& 31)) &&& (3 : Int32)) - (2 : Int32)))), .val (.int (0 : Int32))] [(.int (0 : Int32)), (.int (own_fx ((2 : Int32) + (((p2 >>> ((1 : Int32) &&& 31)) &&& (3 : Int32)) - (2 : Int32))) (2 : Int32)))]))
                  refine own_icmp S40 181 at_174 (by decide) (by decide) (fun (hc174_41 : ¬ ((own_fx ((2 : Int32) + (((p2 >>> ((1 : Int32) &&& 31)) &&& (3 : Int32)) - (2 : Int32))) (2 : Int32)) = (0 : Int32))) => False.elim (hc174_41 (by simp [own_fx, hc155_39]))) (fun (hc174_41 : (own_fx ((2 : Int32) + (((p2 >>> ((1 : Int32) &&& 31)) &&& (3 : Int32)) - (2 : Int32))) (2 : Int32)) = (0 : Int32)) => ?_)
                  show own_F p e below s Z _ _ _ _ _ (T40.setTop (mkF m 177 #[.val (.int p0), .val (.int p1), .val (.int p2), .val (.int ((p0 &&& (2147483647 : Int32)) % (8 : Int32))), .val (.ref a_RENEW_DELEGATION_TOKEN), .val (.int (2 : Int32)), .val (.int ((2 : Int32) + (((p2 >>> ((1 : Int32) &&& 31)) &&& (3 : Int32)) - (2 : Int32)))), .val (.int (0 : Int32))] []))
                  refine own_F.of (fun _ => XS.iconst S40.here S40.hx rfl (S40.dec at_177)) ?_
                  show own_F p e below s Z _ _ _ _ _ (T40.setTop (mkF m 178 #[.val (.int p0), .val (.int p1), .val (.int p2), .val (.int ((p0 &&& (2147483647 : Int32)) % (8 : Int32))), .val (.ref a_RENEW_DELEGATION_TOKEN), .val (.int (2 : Int32)), .val (.int ((2 : Int32) + (((p2 >>> ((1 : Int32) &&& 31)) &&& (3 : Int32)) - (2 : Int32)))), .val (.int (0 : Int32))] [(.int (1 : Int32))]))
                  refine own_F.of (fun _ => XS.goto S40.here S40.hx rfl (pc0 := 178) (pc' := 182) rfl (S40.dec at_178) (by decide) (by decide)) ?_
                  show own_F p e below s Z _ _ _ _ _ (T40.setTop (mkF m 182 #[.val (.int p0), .val (.int p1), .val (.int p2), .val (.int ((p0 &&& (2147483647 : Int32)) % (8 : Int32))), .val (.ref a_RENEW_DELEGATION_TOKEN), .val (.int (2 : Int32)), .val (.int ((2 : Int32) + (((p2 >>> ((1 : Int32) &&& 31)) &&& (3 : Int32)) - (2 : Int32)))), .val (.int (0 : Int32))] [(.int (1 : Int32))]))
                  refine own_retZ S40 (by simp) at_182 (by decide) (by decide) ?_
                  rfl
                · show own_F p e below s Z _ _ _ _ _ (T32.setTop (mkF m 158 #[.val (.int p0), .val (.int p1), .val (.int p2), .val (.int ((p0 &&& (2147483647 : Int32)) % (8 : Int32))), .val (.ref a_RENEW_DELEGATION_TOKEN), .val (.int (2 : Int32)), .val (.int ((2 : Int32) + (((p2 >>> ((1 : Int32) &&& 31)) &&& (3 : Int32)) - (2 : Int32)))), .unset] []))
                  refine own_F.of (fun _ => XS.iconst S32.here S32.hx rfl (S32.dec at_158)) ?_
                  show own_F p e below s Z _ _ _ _ _ (T32.setTop (mkF m 159 #[.val (.int p0), .val (.int p1), .val (.int p2), .val (.int ((p0 &&& (2147483647 : Int32)) % (8 : Int32))), .val (.ref a_RENEW_DELEGATION_TOKEN), .val (.int (2 : Int32)), .val (.int ((2 : Int32) + (((p2 >>> ((1 : Int32) &&& 31)) &&& (3 : Int32)) - (2 : Int32)))), .unset] [(.int (1 : Int32))]))
                  refine own_F.of (fun _ => XS.goto S32.here S32.hx rfl (pc0 := 159) (pc' := 163) rfl (S32.dec at_159) (by decide) (by decide)) ?_
                  show own_F p e below s Z _ _ _ _ _ (T32.setTop (mkF m 163 #[.val (.int p0), .val (.int p1), .val (.int p2), .val (.int ((p0 &&& (2147483647 : Int32)) % (8 : Int32))), .val (.ref a_RENEW_DELEGATION_TOKEN), .val (.int (2 : Int32)), .val (.int ((2 : Int32) + (((p2 >>> ((1 : Int32) &&& 31)) &&& (3 : Int32)) - (2 : Int32)))), .unset] [(.int (1 : Int32))]))
                  refine own_F.of (fun _ => XS.istore S32.here S32.hx rfl (S32.dec at_163) rfl (l' := #[.val (.int p0), .val (.int p1), .val (.int p2), .val (.int ((p0 &&& (2147483647 : Int32)) % (8 : Int32))), .val (.ref a_RENEW_DELEGATION_TOKEN), .val (.int (2 : Int32)), .val (.int ((2 : Int32) + (((p2 >>> ((1 : Int32) &&& 31)) &&& (3 : Int32)) - (2 : Int32)))), .val (.int (1 : Int32))]) rfl) ?_
                  show own_F p e below s Z _ _ _ _ _ (T32.setTop (mkF m 165 #[.val (.int p0), .val (.int p1), .val (.int p2), .val (.int ((p0 &&& (2147483647 : Int32)) % (8 : Int32))), .val (.ref a_RENEW_DELEGATION_TOKEN), .val (.int (2 : Int32)), .val (.int ((2 : Int32) + (((p2 >>> ((1 : Int32) &&& 31)) &&& (3 : Int32)) - (2 : Int32)))), .val (.int (1 : Int32))] []))
                  refine own_F.of (fun _ => XS.aload S32.here S32.hx rfl (S32.dec at_165) rfl rfl) ?_
                  show own_F p e below s Z _ _ _ _ _ (T32.setTop (mkF m 167 #[.val (.int p0), .val (.int p1), .val (.int p2), .val (.int ((p0 &&& (2147483647 : Int32)) % (8 : Int32))), .val (.ref a_RENEW_DELEGATION_TOKEN), .val (.int (2 : Int32)), .val (.int ((2 : Int32) + (((p2 >>> ((1 : Int32) &&& 31)) &&& (3 : Int32)) - (2 : Int32)))), .val (.int (1 : Int32))] [(.ref a_RENEW_DELEGATION_TOKEN)]))
                  refine own_F.of (fun _ => XS.iload S32.here S32.hx rfl (S32.dec at_167) rfl) ?_
                  show own_F p e below s Z _ _ _ _ _ (T32.setTop (mkF m 169 #[.val (.int p0), .val (.int p1), .val (.int p2), .val (.int ((p0 &&& (2147483647 : Int32)) % (8 : Int32))), .val (.ref a_RENEW_DELEGATION_TOKEN), .val (.int (2 : Int32)), .val (.int ((2 : Int32) + (((p2 >>> ((1 : Int32) &&& 31)) &&& (3 : Int32)) - (2 : Int32)))), .val (.int (1 : Int32))] [(.int ((2 : Int32) + (((p2 >>> ((1 : Int32) &&& 31)) &&& (3 : Int32)) - (2 : Int32)))), (.ref a_RENEW_DELEGATION_TOKEN)]))
                  refine own_callV S32 (y := (⟨"com/example/lanyard/lanyard/protocol/ApiKey", "isFlexible", "(I)Z"⟩ : MethodName)) (y' := (⟨"com/example/lanyard/lanyard/protocol/ApiKey", "isFlexible", "(I)Z"⟩ : MethodName)) (own_w hw 4 rfl) (own_w hw 5 rfl) (own_nf S32 (own_w hw 7 rfl)) (own_w hw 7 rfl) (own_w hw 6 rfl) (own_w hw 8 rfl) (own_w hw 2 rfl) (by decide) (X_RENEW_DELEGATION_TOKEN.ext S32.old) (argsL := [(.int ((2 : Int32) + (((p2 >>> ((1 : Int32) &&& 31)) &&& (3 : Int32)) - (2 : Int32))))]) (rest := []) (own_flex l Z a0 hw a_RENEW_DELEGATION_TOKEN ((2 : Int32) + (((p2 >>> ((1 : Int32) &&& 31)) &&& (3 : Int32)) - (2 : Int32))) (2 : Int32) h0 S32.old F_RENEW_DELEGATION_TOKEN_firstFlexibleVersion) all0 (by decide +kernel : parseMethodDescriptor "(I)Z" = some ⟨[.int], some .boolean⟩) rfl rfl rfl at_169 (by decide) (Nat.le_of_ble_eq_true rfl) (by decide) (by decide) (fun T42 h42 v42 S42 K42 q42 => ?_)
                  obtain ⟨rfl, rfl⟩ := q42
                  show own_F p e below s Z _ _ _ _ _ (T42.setTop (mkF m 172 #[.val (.int p0), .val (.int p1), .val (.int p2), .val (.int ((p0 &&& (2147483647 : Int32)) % (8 : Int32))), .val (.ref a_RENEW_DELEGATION_TOKEN), .val (.int (2 : Int32)), .val (.int ((2 : Int32) + (((p2 >>> ((1 : Int32) &&& 31)) &&& (3 : Int32)) - (2 : Int32)))), .val (.int (1 : Int32))] [(.int (own_fx ((2 : Int32) + (((p2 >>> ((1 : Int32) &&& 31)) &&& (3 : Int32)) - (2 : Int32))) (2 : Int32)))]))
                  refine own_F.of (fun _ => XS.iload S42.here S42.hx rfl (S42.dec at_172) rfl) ?_
                  show own_F p e below s Z _ _ _ _ _ (T42.setTop (mkF m 174 #[.val (.int p0), .val (.int p1), .val (.int p2), .val (.int ((p0 &&& (2147483647 : Int32)) % (8 : Int32))), .val (.ref a_RENEW_DELEGATION_TOKEN), .val (.int (2 : Int32)), .val (.int ((2 : Int32) + (((p2 >>> ((1 : Int32) &&& 31)) &&& (3 : Int32)) - (2 : Int32)))), .val (.int (1 : Int32))] [(.int (1 : Int32)), (.int (own_fx ((2 : Int32) + (((p2 >>> ((1 : Int32) &&& 31)) &&& (3 : Int32)) - (2 : Int32))) (2 : Int32)))]))
                  refine own_icmp S42 181 at_174 (by decide) (by decide) (fun (hc174_43 : ¬ ((own_fx ((2 : Int32) + (((p2 >>> ((1 : Int32) &&& 31)) &&& (3 : Int32)) - (2 : Int32))) (2 : Int32)) = (1 : Int32))) => False.elim (hc174_43 (by simp [own_fx, hc155_39]))) (fun (hc174_43 : (own_fx ((2 : Int32) + (((p2 >>> ((1 : Int32) &&& 31)) &&& (3 : Int32)) - (2 : Int32))) (2 : Int32)) = (1 : Int32)) => ?_)
                  show own_F p e below s Z _ _ _ _ _ (T42.setTop (mkF m 177 #[.val (.int p0), .val (.int p1), .val (.int p2), .val (.int ((p0 &&& (2147483647 : Int32)) % (8 : Int32))), .val (.ref a_RENEW_DELEGATION_TOKEN), .val (.int (2 : Int32)), .val (.int ((2 : Int32) + (((p2 >>> ((1 : Int32) &&& 31)) &&& (3 : Int32)) - (2 : Int32)))), .val (.int (1 : Int32))] []))
                  refine own_F.of (fun _ => XS.iconst S42.here S42.hx rfl (S42.dec at_177)) ?_
                  show own_F p e below s Z _ _ _ _ _ (T42.setTop (mkF m 178 #[.val (.int p0), .val (.int p1), .val (.int p2), .val (.int ((p0 &&& (2147483647 : Int32)) % (8 : Int32))), .val (.ref a_RENEW_DELEGATION_TOKEN), .val (.int (2 : Int32)), .val (.int ((2 : Int32) + (((p2 >>> ((1 : Int32) &&& 31)) &&& (3 : Int32)) - (2 : Int32)))), .val (.int (1 : Int32))] [(.int (1 : Int32))]))
                  refine own_F.of (fun _ => XS.goto S42.here S42.hx rfl (pc0 := 178) (pc' := 182) rfl (S42.dec at_178) (by decide) (by decide)) ?_
                  show own_F p e below s Z _ _ _ _ _ (T42.setTop (mkF m 182 #[.val (.int p0), .val (.int p1), .val (.int p2), .val (.int ((p0 &&& (2147483647 : Int32)) % (8 : Int32))), .val (.ref a_RENEW_DELEGATION_TOKEN), .val (.int (2 : Int32)), .val (.int ((2 : Int32) + (((p2 >>> ((1 : Int32) &&& 31)) &&& (3 : Int32)) - (2 : Int32)))), .val (.int (1 : Int32))] [(.int (1 : Int32))]))
                  refine own_retZ S42 (by simp) at_182 (by decide) (by decide) ?_
                  rfl
          · show own_F p e below s Z _ _ _ _ _ (T0.setTop (mkF m 78 #[.val (.int p0), .val (.int p1), .val (.int p2), .val (.int ((p0 &&& (2147483647 : Int32)) % (8 : Int32))), .unset, .unset, .unset, .unset] []))
            refine own_getS S0 (host := "") (Or.inl (own_w hw 13 rfl)) Via.refl (S_CREATE_DELEGATION_TOKEN.ext S0.old) at_78 (fun T44 S44 => ?_)
            show own_F p e below s Z _ _ _ _ _ (T44.setTop (mkF m 81 #[.val (.int p0), .val (.int p1), .val (.int p2), .val (.int ((p0 &&& (2147483647 : Int32)) % (8 : Int32))), .unset, .unset, .unset, .unset] [(.ref a_CREATE_DELEGATION_TOKEN)]))
            refine own_F.of (fun _ => XS.astore S44.here S44.hx rfl (S44.dec at_81) rfl rfl (l' := #[.val (.int p0), .val (.int p1), .val (.int p2), .val (.int ((p0 &&& (2147483647 : Int32)) % (8 : Int32))), .val (.ref a_CREATE_DELEGATION_TOKEN), .unset, .unset, .unset]) rfl) ?_
            show own_F p e below s Z _ _ _ _ _ (T44.setTop (mkF m 83 #[.val (.int p0), .val (.int p1), .val (.int p2), .val (.int ((p0 &&& (2147483647 : Int32)) % (8 : Int32))), .val (.ref a_CREATE_DELEGATION_TOKEN), .unset, .unset, .unset] []))
            refine own_F.of (fun _ => XS.iconst S44.here S44.hx rfl (S44.dec at_83)) ?_
            show own_F p e below s Z _ _ _ _ _ (T44.setTop (mkF m 84 #[.val (.int p0), .val (.int p1), .val (.int p2), .val (.int ((p0 &&& (2147483647 : Int32)) % (8 : Int32))), .val (.ref a_CREATE_DELEGATION_TOKEN), .unset, .unset, .unset] [(.int (2 : Int32))]))
            refine own_F.of (fun _ => XS.istore S44.here S44.hx rfl (S44.dec at_84) rfl (l' := #[.val (.int p0), .val (.int p1), .val (.int p2), .val (.int ((p0 &&& (2147483647 : Int32)) % (8 : Int32))), .val (.ref a_CREATE_DELEGATION_TOKEN), .val (.int (2 : Int32)), .unset, .unset]) rfl) ?_
            show own_F p e below s Z _ _ _ _ _ (T44.setTop (mkF m 86 #[.val (.int p0), .val (.int p1), .val (.int p2), .val (.int ((p0 &&& (2147483647 : Int32)) % (8 : Int32))), .val (.ref a_CREATE_DELEGATION_TOKEN), .val (.int (2 : Int32)), .unset, .unset] []))
            refine own_F.of (fun _ => XS.goto S44.here S44.hx rfl (pc0 := 86) (pc' := 130) rfl (S44.dec at_86) (by decide) (by decide)) ?_
            show own_F p e below s Z _ _ _ _ _ (T44.setTop (mkF m 130 #[.val (.int p0), .val (.int p1), .val (.int p2), .val (.int ((p0 &&& (2147483647 : Int32)) % (8 : Int32))), .val (.ref a_CREATE_DELEGATION_TOKEN), .val (.int (2 : Int32)), .unset, .unset] []))
            refine own_F.of (fun _ => XS.iloadN S44.here S44.hx rfl (S44.dec at_130) rfl) ?_
            show own_F p e below s Z _ _ _ _ _ (T44.setTop (mkF m 131 #[.val (.int p0), .val (.int p1), .val (.int p2), .val (.int ((p0 &&& (2147483647 : Int32)) % (8 : Int32))), .val (.ref a_CREATE_DELEGATION_TOKEN), .val (.int (2 : Int32)), .unset, .unset] [(.int p1)]))
            refine own_F.of (fun _ => XS.istore S44.here S44.hx rfl (S44.dec at_131) rfl (l' := #[.val (.int p0), .val (.int p1), .val (.int p2), .val (.int ((p0 &&& (2147483647 : Int32)) % (8 : Int32))), .val (.ref a_CREATE_DELEGATION_TOKEN), .val (.int (2 : Int32)), .val (.int p1), .unset]) rfl) ?_
            show own_F p e below s Z _ _ _ _ _ (T44.setTop (mkF m 133 #[.val (.int p0), .val (.int p1), .val (.int p2), .val (.int ((p0 &&& (2147483647 : Int32)) % (8 : Int32))), .val (.ref a_CREATE_DELEGATION_TOKEN), .val (.int (2 : Int32)), .val (.int p1), .unset] []))
            refine own_F.of (fun _ => XS.iloadN S44.here S44.hx rfl (S44.dec at_133) rfl) ?_
            show own_F p e below s Z _ _ _ _ _ (T44.setTop (mkF m 134 #[.val (.int p0), .val (.int p1), .val (.int p2), .val (.int ((p0 &&& (2147483647 : Int32)) % (8 : Int32))), .val (.ref a_CREATE_DELEGATION_TOKEN), .val (.int (2 : Int32)), .val (.int p1), .unset] [(.int p2)]))
            refine own_F.of (fun _ => XS.iconst S44.here S44.hx rfl (S44.dec at_134)) ?_
            show own_F p e below s Z _ _ _ _ _ (T44.setTop (mkF m 135 #[.val (.int p0), .val (.int p1), .val (.int p2), .val (.int ((p0 &&& (2147483647 : Int32)) % (8 : Int32))), .val (.ref a_CREATE_DELEGATION_TOKEN), .val (.int (2 : Int32)), .val (.int p1), .unset] [(.int (1 : Int32)), (.int p2)]))
            refine own_F.of (fun _ => XS.iand S44.here S44.hx rfl (S44.dec at_135) rfl) ?_
            show own_F p e below s Z _ _ _ _ _ (T44.setTop (mkF m 136 #[.val (.int p0), .val (.int p1), .val (.int p2), .val (.int ((p0 &&& (2147483647 : Int32)) % (8 : Int32))), .val (.ref a_CREATE_DELEGATION_TOKEN), .val (.int (2 : Int32)), .val (.int p1), .unset] [(.int (p2 &&& (1 : Int32)))]))
            refine own_if S44 151 at_136 (by decide) (by decide) (fun (hc136_45 : (p2 &&& (1 : Int32)) = (0 : Int32)) => ?_) (fun (hc136_45 : ¬ ((p2 &&& (1 : Int32)) = (0 : Int32))) => ?_)
            · show own_F p e below s Z _ _ _ _ _ (T44.setTop (mkF m 151 #[.val (.int p0), .val (.int p1), .val (.int p2), .val (.int ((p0 &&& (2147483647 : Int32)) % (8 : Int32))), .val (.ref a_CREATE_DELEGATION_TOKEN), .val (.int (2 : Int32)), .val (.int p1), .unset] []))
              refine own_F.of (fun _ => XS.iload S44.here S44.hx rfl (S44.dec at_151) rfl) ?_
              show own_F p e below s Z _ _ _ _ _ (T44.setTop (mkF m 153 #[.val (.int p0), .val (.int p1), .val (.int p2), .val (.int ((p0 &&& (2147483647 : Int32)) % (8 : Int32))), .val (.ref a_CREATE_DELEGATION_TOKEN), .val (.int (2 : Int32)), .val (.int p1), .unset] [(.int p1)]))
              refine own_F.of (fun _ => XS.iload S44.here S44.hx rfl (S44.dec at_153) rfl) ?_
              show own_F p e below s Z _ _ _ _ _ (T44.setTop (mkF m 155 #[.val (.int p0), .val (.int p1), .val (.int p2), .val (.int ((p0 &&& (2147483647 : Int32)) % (8 : Int32))), .val (.ref a_CREATE_DELEGATION_TOKEN), .val (.int (2 : Int32)), .val (.int p1), .unset] [(.int (2 : Int32)), (.int p1)]))
              refine own_icmp S44 162 at_155 (by decide) (by decide) (fun (hc155_46 : p1 < (2 : Int32)) => ?_) (fun (hc155_46 : ¬ (p1 < (2 : Int32))) => ?_)
              · show own_F p e below s Z _ _ _ _ _ (T44.setTop (mkF m 162 #[.val (.int p0), .val (.int p1), .val (.int p2), .val (.int ((p0 &&& (2147483647 : Int32)) % (8 : Int32))), .val (.ref a_CREATE_DELEGATION_TOKEN), .val (.int (2 : Int32)), .val (.int p1), .unset] []))
                refine own_F.of (fun _ => XS.iconst S44.here S44.hx rfl (S44.dec at_162)) ?_
                show own_F p e below s Z _ _ _ _ _ (T44.setTop (mkF m 163 #[.val (.int p0), .val (.int p1), .val (.int p2), .val (.int ((p0 &&& (2147483647 : Int32)) % (8 : Int32))), .val (.ref a_CREATE_DELEGATION_TOKEN), .val (.int (2 : Int32)), .val (.int p1), .unset] [(.int (0 : Int32))]))
                refine own_F.of (fun _ => XS.istore S44.here S44.hx rfl (S44.dec at_163) rfl (l' := #[.val (.int p0), .val (.int p1), .val (.int p2), .val (.int ((p0 &&& (2147483647 : Int32)) % (8 : Int32))), .val (.ref a_CREATE_DELEGATION_TOKEN), .val (.int (2 : Int32)), .val (.int p1), .val (.int (0 : Int32))]) rfl) ?_
                show own_F p e below s Z _ _ _ _ _ (T44.setTop (mkF m 165 #[.val (.int p0), .val (.int p1), .val (.int p2), .val (.int ((p0 &&& (2147483647 : Int32)) % (8 : Int32))), .val (.ref a_CREATE_DELEGATION_TOKEN), .val (.int (2 : Int32)), .val (.int p1), .val (.int (0 : Int32))] []))
                refine own_F.of (fun _ => XS.aload S44.here S44.hx rfl (S44.dec at_165) rfl rfl) ?_
                show own_F p e below s Z _ _ _ _ _ (T44.setTop (mkF m 167 #[.val (.int p0), .val (.int p1), .val (.int p2), .val (.int ((p0 &&& (2147483647 : Int32)) % (8 : Int32))), .val (.ref a_CREATE_DELEGATION_TOKEN), .val (.int (2 : Int32)), .val (.int p1), .val (.int (0 : Int32))] [(.ref a_CREATE_DELEGATION_TOKEN)]))
                refine own_F.of (fun _ => XS.iload S44.here S44.hx rfl (S44.dec at_167) rfl) ?_
                show own_F p e below s Z _ _ _ _ _ (T44.setTop (mkF m 169 #[.val (.int p0), .val (.int p1), .val (.int p2), .val (.int ((p0 &&& (2147483647 : Int32)) % (8 : Int32))), .val (.ref a_CREATE_DELEGATION_TOKEN), .val (.int (2 : Int32)), .val (.int p1), .val (.int (0 : Int32))] [(.int p1), (.ref a_CREATE_DELEGATION_TOKEN)]))
                refine own_callV S44 (y := (⟨"com/example/lanyard/lanyard/protocol/ApiKey", "isFlexible", "(I)Z"⟩ : MethodName)) (y' := (⟨"com/example/lanyard/lanyard/protocol/ApiKey", "isFlexible", "(I)Z"⟩ : MethodName)) (own_w hw 4 rfl) (own_w hw 5 rfl) (own_nf S44 (own_w hw 7 rfl)) (own_w hw 7 rfl) (own_w hw 6 rfl) (own_w hw 8 rfl) (own_w hw 2 rfl) (by decide) (X_CREATE_DELEGATION_TOKEN.ext S44.old) (argsL := [(.int p1)]) (rest := []) (own_flex l Z a0 hw a_CREATE_DELEGATION_TOKEN p1 (2 : Int32) h0 S44.old F_CREATE_DELEGATION_TOKEN_firstFlexibleVersion) all0 (by decide +kernel : parseMethodDescriptor "(I)Z" = some ⟨[.int], some .boolean⟩) rfl rfl rfl at_169 (by decide) (Nat.le_of_ble_eq_true rfl) (by decide) (by decide) (fun T47 h47 v47 S47 K47 q47 => ?_)
                obtain ⟨rfl, rfl⟩ := q47
                show own_F p e below s Z _ _ _ _ _ (T47.setTop (mkF m 172 #[.val (.int p0), .val (.int p1), .val (.int p2), .val (.int ((p0 &&& (2147483647 : Int32)) % (8 : Int32))), .val (.ref a_CREATE_DELEGATION_TOKEN), .val (.int (2 : Int32)), .val (.int p1), .val (.int (0 : Int32))] [(.int (own_fx p1 (2 : Int32)))]))
                refine own_F.of (fun _ => XS.iload S47.here S47.hx rfl (S47.dec at_172) rfl) ?_
                show own_F p e below s Z _ _ _ _ _ (T47.setTop (mkF m 174 #[.val (.int p0), .val (.int p1), .val (.int p2), .val (.int ((p0 &&& (2147483647 : Int32)) % (8 : Int32))), .val (.ref a_CREATE_DELEGATION_TOKEN), .val (.int (2 : Int32)), .val (.int p1), .val (.int (0 : Int32))] [(.int (0 : Int32)), (.int (own_fx p1 (2 : Int32)))]))
                refine own_icmp S47 181 at_174 (by decide) (by decide) (fun (hc174_48 : ¬ ((own_fx p1 (2 : Int32)) = (0 : Int32))) => False.elim (hc174_48 (by simp [own_fx, hc155_46]))) (fun (hc174_48 : (own_fx p1 (2 : Int32)) = (0 : Int32)) => ?_)
                show own_F p e below s Z _ _ _ _ _ (T47.setTop (mkF m 177 #[.val (.int p0), .val (.int p1), .val (.int p2), .val (.int ((p0 &&& (2147483647 : Int32)) % (8 : Int32))), .val (.ref a_CREATE_DELEGATION_TOKEN), .val (.int (2 : Int32)), .val (.int p1), .val (.int (0 : Int32))] []))
                refine own_F.of (fun _ => XS.iconst S47.here S47.hx rfl (S47.dec at_177)) ?_
                show own_F p e below s Z _ _ _ _ _ (T47.setTop (mkF m 178 #[.val (.int p0), .val (.int p1), .val (.int p2), .val (.int ((p0 &&& (2147483647 : Int32)) % (8 : Int32))), .val (.ref a_CREATE_DELEGATION_TOKEN), .val (.int (2 : Int32)), .val (.int p1), .val (.int (0 : Int32))] [(.int (1 : Int32))]))
                refine own_F.of (fun _ => XS.goto S47.here S47.hx rfl (pc0 := 178) (pc' := 182) rfl (S47.dec at_178) (by decide) (by decide)) ?_
                show own_F p e below s Z _ _ _ _ _ (T47.setTop (mkF m 182 #[.val (.int p0), .val (.int p1), .val (.int p2), .val (.int ((p0 &&& (2147483647 : Int32)) % (8 : Int32))), .val (.ref a_CREATE_DELEGATION_TOKEN), .val (.int (2 : Int32)), .val (.int p1), .val (.int (0 : Int32))] [(.int (1 : Int32))]))
                refine own_retZ S47 (by simp) at_182 (by decide) (by decide) ?_
                rfl
              · show own_F p e below s Z _ _ _ _ _ (T44.setTop (mkF m 158 #[.val (.int p0), .val (.int p1), .val (.int p2), .val (.int ((p0 &&& (2147483647 : Int32)) % (8 : Int32))), .val (.ref a_CREATE_DELEGATION_TOKEN), .val (.int (2 : Int32)), .val (.int p1), .unset] []))
                refine own_F.of (fun _ => XS.iconst S44.here S44.hx rfl (S44.dec at_158)) ?_
                show own_F p e below s Z _ _ _ _ _ (T44.setTop (mkF m 159 #[.val (.int p0), .val (.int p1), .val (.int p2), .val (.int ((p0 &&& (2147483647 : Int32)) % (8 : Int32))), .val (.ref a_CREATE_DELEGATION_TOKEN), .val (.int (2 : Int32)), .val (.int p1), .unset] [(.int (1 : Int32))]))
                refine own_F.of (fun _ => XS.goto S44.here S44.hx rfl (pc0 := 159) (pc' := 163) rfl (S44.dec at_159) (by decide) (by decide)) ?_
                show own_F p e below s Z _ _ _ _ _ (T44.setTop (mkF m 163 #[.val (.int p0), .val (.int p1), .val (.int p2), .val (.int ((p0 &&& (2147483647 : Int32)) % (8 : Int32))), .val (.ref a_CREATE_DELEGATION_TOKEN), .val (.int (2 : Int32)), .val (.int p1), .unset] [(.int (1 : Int32))]))
                refine own_F.of (fun _ => XS.istore S44.here S44.hx rfl (S44.dec at_163) rfl (l' := #[.val (.int p0), .val (.int p1), .val (.int p2), .val (.int ((p0 &&& (2147483647 : Int32)) % (8 : Int32))), .val (.ref a_CREATE_DELEGATION_TOKEN), .val (.int (2 : Int32)), .val (.int p1), .val (.int (1 : Int32))]) rfl) ?_
                show own_F p e below s Z _ _ _ _ _ (T44.setTop (mkF m 165 #[.val (.int p0), .val (.int p1), .val (.int p2), .val (.int ((p0 &&& (2147483647 : Int32)) % (8 : Int32))), .val (.ref a_CREATE_DELEGATION_TOKEN), .val (.int (2 : Int32)), .val (.int p1), .val (.int (1 : Int32))] []))
                refine own_F.of (fun _ => XS.aload S44.here S44.hx rfl (S44.dec at_165) rfl rfl) ?_
                show own_F p e below s Z _ _ _ _ _ (T44.setTop (mkF m 167 #[.val (.int p0), .val (.int p1), .val (.int p2), .val (.int ((p0 &&& (2147483647 : Int32)) % (8 : Int32))), .val (.ref a_CREATE_DELEGATION_TOKEN), .val (.int (2 : Int32)), .val (.int p1), .val (.int (1 : Int32))] [(.ref a_CREATE_DELEGATION_TOKEN)]))
                refine own_F.of (fun _ => XS.iload S44.here S44.hx rfl (S44.dec at_167) rfl) ?_
                show own_F p e below s Z _ _ _ _ _ (T44.setTop (mkF m 169 #[.val (.int p0), .val (.int p1), .val (.int p2), .val (.int ((p0 &&& (2147483647 : Int32)) % (8 : Int32))), .val (.ref a_CREATE_DELEGATION_TOKEN), .val (.int (2 : Int32)), .val (.int p1), .val (.int (1 : Int32))] [(.int p1), (.ref a_CREATE_DELEGATION_TOKEN)]))
                refine own_callV S44 (y := (⟨"com/example/lanyard/lanyard/protocol/ApiKey", "isFlexible", "(I)Z"⟩ : MethodName)) (y' := (⟨"com/example/lanyard/lanyard/protocol/ApiKey", "isFlexible", "(I)Z"⟩ : MethodName)) (own_w hw 4 rfl) (own_w hw 5 rfl) (own_nf S44 (own_w hw 7 rfl)) (own_w hw 7 rfl) (own_w hw 6 rfl) (own_w hw 8 rfl) (own_w hw 2 rfl) (by decide) (X_CREATE_DELEGATION_TOKEN.ext S44.old) (argsL := [(.int p1)]) (rest := []) (own_flex l Z a0 hw a_CREATE_DELEGATION_TOKEN p1 (2 : Int32) h0 S44.old F_CREATE_DELEGATION_TOKEN_firstFlexibleVersion) all0 (by decide +kernel : parseMethodDescriptor "(I)Z" = some ⟨[.int], some .boolean⟩) rfl rfl rfl at_169 (by decide) (Nat.le_of_ble_eq_true rfl) (by decide) (by decide) (fun T49 h49 v49 S49 K49 q49 => ?_)
                obtain ⟨rfl, rfl⟩ := q49
                show own_F p e below s Z _ _ _ _ _ (T49.setTop (mkF m 172 #[.val (.int p0), .val (.int p1), .val (.int p2), .val (.int ((p0 &&& (2147483647 : Int32)) % (8 : Int32))), .val (.ref a_CREATE_DELEGATION_TOKEN), .val (.int (2 : Int32)), .val (.int p1), .val (.int (1 : Int32))] [(.int (own_fx p1 (2 : Int32)))]))
                refine own_F.of (fun _ => XS.iload S49.here S49.hx rfl (S49.dec at_172) rfl) ?_
                show own_F p e below s Z _ _ _ _ _ (T49.setTop (mkF m 174 #[.val (.int p0), .val (.int p1), .val (.int p2), .val (.int ((p0 &&& (2147483647 : Int32)) % (8 : Int32))), .val (.ref a_CREATE_DELEGATION_TOKEN), .val (.int (2 : Int32)), .val (.int p1), .val (.int (1 : Int32))] [(.int (1 : Int32)), (.int (own_fx p1 (2 : Int32)))]))
                refine own_icmp S49 181 at_174 (by decide) (by decide) (fun (hc174_50 : ¬ ((own_fx p1 (2 : Int32)) = (1 : Int32))) => False.elim (hc174_50 (by simp [own_fx, hc155_46]))) (fun (hc174_50 : (own_fx p1 (2 : Int32)) = (1 : Int32)) => ?_)
                show own_F p e below s Z _ _ _ _ _ (T49.setTop (mkF m 177 #[.val (.int p0), .val (.int p1), .val (.int p2), .val (.int ((p0 &&& (2147483647 : Int32)) % (8 : Int32))), .val (.ref a_CREATE_DELEGATION_TOKEN), .val (.int (2 : Int32)), .val (.int p1), .val (.int (1 : Int32))] []))
                refine own_F.of (fun _ => XS.iconst S49.here S49.hx rfl (S49.dec at_177)) ?_
                show own_F p e below s Z _ _ _ _ _ (T49.setTop (mkF m 178 #[.val (.int p0), .val (.int p1), .val (.int p2), .val (.int ((p0 &&& (2147483647 : Int32)) % (8 : Int32))), .val (.ref a_CREATE_DELEGATION_TOKEN), .val (.int (2 : Int32)), .val (.int p1), .val (.int (1 : Int32))] [(.int (1 : Int32))]))
                refine own_F.of (fun _ => XS.goto S49.here S49.hx rfl (pc0 := 178) (pc' := 182) rfl (S49.dec at_178) (by decide) (by decide)) ?_
                show own_F p e below s Z _ _ _ _ _ (T49.setTop (mkF m 182 #[.val (.int p0), .val (.int p1), .val (.int p2), .val (.int ((p0 &&& (2147483647 : Int32)) % (8 : Int32))), .val (.ref a_CREATE_DELEGATION_TOKEN), .val (.int (2 : Int32)), .val (.int p1), .val (.int (1 : Int32))] [(.int (1 : Int32))]))
                refine own_retZ S49 (by simp) at_182 (by decide) (by decide) ?_
                rfl
            · show own_F p e below s Z _ _ _ _ _ (T44.setTop (mkF m 139 #[.val (.int p0), .val (.int p1), .val (.int p2), .val (.int ((p0 &&& (2147483647 : Int32)) % (8 : Int32))), .val (.ref a_CREATE_DELEGATION_TOKEN), .val (.int (2 : Int32)), .val (.int p1), .unset] []))
              refine own_F.of (fun _ => XS.iload S44.here S44.hx rfl (S44.dec at_139) rfl) ?_
              show own_F p e below s Z _ _ _ _ _ (T44.setTop (mkF m 141 #[.val (.int p0), .val (.int p1), .val (.int p2), .val (.int ((p0 &&& (2147483647 : Int32)) % (8 : Int32))), .val (.ref a_CREATE_DELEGATION_TOKEN), .val (.int (2 : Int32)), .val (.int p1), .unset] [(.int (2 : Int32))]))
              refine own_F.of (fun _ => XS.iloadN S44.here S44.hx rfl (S44.dec at_141) rfl) ?_
              show own_F p e below s Z _ _ _ _ _ (T44.setTop (mkF m 142 #[.val (.int p0), .val (.int p1), .val (.int p2), .val (.int ((p0 &&& (2147483647 : Int32)) % (8 : Int32))), .val (.ref a_CREATE_DELEGATION_TOKEN), .val (.int (2 : Int32)), .val (.int p1), .unset] [(.int p2), (.int (2 : Int32))]))
              refine own_F.of (fun _ => XS.iconst S44.here S44.hx rfl (S44.dec at_142)) ?_
              show own_F p e below s Z _ _ _ _ _ (T44.setTop (mkF m 143 #[.val (.int p0), .val (.int p1), .val (.int p2), .val (.int ((p0 &&& (2147483647 : Int32)) % (8 : Int32))), .val (.ref a_CREATE_DELEGATION_TOKEN), .val (.int (2 : Int32)), .val (.int p1), .unset] [(.int (1 : Int32)), (.int p2), (.int (2 : Int32))]))
              refine own_F.of (fun _ => XS.ishr S44.here S44.hx rfl (S44.dec at_143) rfl) ?_
              show own_F p e below s Z _ _ _ _ _ (T44.setTop (mkF m 144 #[.val (.int p0), .val (.int p1), .val (.int p2), .val (.int ((p0 &&& (2147483647 : Int32)) % (8 : Int32))), .val (.ref a_CREATE_DELEGATION_TOKEN), .val (.int (2 : Int32)), .val (.int p1), .unset] [(.int (p2 >>> ((1 : Int32) &&& 31))), (.int (2 : Int32))]))
              refine own_F.of (fun _ => XS.iconst S44.here S44.hx rfl (S44.dec at_144)) ?_
              show own_F p e below s Z _ _ _ _ _ (T44.setTop (mkF m 145 #[.val (.int p0), .val (.int p1), .val (.int p2), .val (.int ((p0 &&& (2147483647 : Int32)) % (8 : Int32))), .val (.ref a_CREATE_DELEGATION_TOKEN), .val (.int (2 : Int32)), .val (.int p1), .unset] [(.int (3 : Int32)), (.int (p2 >>> ((1 : Int32) &&& 31))), (.int (2 : Int32))]))
              refine own_F.of (fun _ => XS.iand S44.here S44.hx rfl (S44.dec at_145) rfl) ?_
              show own_F p e below s Z _ _ _ _ _ (T44.setTop (mkF m 146 #[.val (.int p0), .val (.int p1), .val (.int p2), .val (.int ((p0 &&& (2147483647 : Int32)) % (8 : Int32))), .val (.ref a_CREATE_DELEGATION_TOKEN), .val (.int (2 : Int32)), .val (.int p1), .unset] [(.int ((p2 >>> ((1 : Int32) &&& 31)) &&& (3 : Int32))), (.int (2 : Int32))]))
              refine own_F.of (fun _ => XS.iconst S44.here S44.hx rfl (S44.dec at_146)) ?_
              show own_F p e below s Z _ _ _ _ _ (T44.setTop (mkF m 147 #[.val (.int p0), .val (.int p1), .val (.int p2), .val (.int ((p0 &&& (2147483647 : Int32)) % (8 : Int32))), .val (.ref a_CREATE_DELEGATION_TOKEN), .val (.int (2 : Int32)), .val (.int p1), .unset] [(.int (2 : Int32)), (.int ((p2 >>> ((1 : Int32) &&& 31)) &&& (3 : Int32))), (.int (2 : Int32))]))
              refine own_F.of (fun _ => XS.isub S44.here S44.hx rfl (S44.dec at_147) rfl) ?_
              show own_F p e below s Z _ _ _ _ _ (T44.setTop (mkF m 148 #[.val (.int p0), .val (.int p1), .val (.int p2), .val (.int ((p0 &&& (2147483647 : Int32)) % (8 : Int32))), .val (.ref a_CREATE_DELEGATION_TOKEN), .val (.int (2 : Int32)), .val (.int p1), .unset] [(.int (((p2 >>> ((1 : Int32) &&& 31)) &&& (3 : Int32)) - (2 : Int32))), (.int (2 : Int32))]))
              refine own_F.of (fun _ => XS.iadd S44.here S44.hx rfl (S44.dec at_148) rfl) ?_
              show own_F p e below s Z _ _ _ _ _ (T44.setTop (mkF m 149 #[.val (.int p0), .val (.int p1), .val (.int p2), .val (.int ((p0 &&& (2147483647 : Int32)) % (8 : Int32))), .val (.ref a_CREATE_DELEGATION_TOKEN), .val (.int (2 : Int32)), .val (.int p1), .unset] [(.int ((2 : Int32) + (((p2 >>> ((1 : Int32) &&& 31)) &&& (3 : Int32)) - (2 : Int32))))]))
              refine own_F.of (fun _ => XS.istore S44.here S44.hx rfl (S44.dec at_149) rfl (l' := #[.val (.int p0), .val (.int p1), .val (.int p2), .val (.int ((p0 &&& (2147483647 : Int32)) % (8 : Int32))), .val (.ref a_CREATE_DELEGATION_TOKEN), .val (.int (2 : Int32)), .val (.int ((2 : Int32) + (((p2 >>> ((1 : Int32) &&& 31)) &&& (3 : Int32)) - (2 : Int32)))), .unset]) rfl) ?_
              show own_F p e below s Z _ _ _ _ _ (T44.setTop (mkF m 151 #[.val (.int p0), .val (.int p1), .val (.int p2), .val (.int ((p0 &&& (2147483647 : Int32)) % (8 : Int32))), .val (.ref a_CREATE_DELEGATION_TOKEN), .val (.int (2 : Int32)), .val (.int ((2 : Int32) + (((p2 >>> ((1 : Int32) &&& 31)) &&& (3 : Int32)) - (2 : Int32)))), .unset] []))
              refine own_F.of (fun _ => XS.iload S44.here S44.hx rfl (S44.dec at_151) rfl) ?_
              show own_F p e below s Z _ _ _ _ _ (T44.setTop (mkF m 153 #[.val (.int p0), .val (.int p1), .val (.int p2), .val (.int ((p0 &&& (2147483647 : Int32)) % (8 : Int32))), .val (.ref a_CREATE_DELEGATION_TOKEN), .val (.int (2 : Int32)), .val (.int ((2 : Int32) + (((p2 >>> ((1 : Int32) &&& 31)) &&& (3 : Int32)) - (2 : Int32)))), .unset] [(.int ((2 : Int32) + (((p2 >>> ((1 : Int32) &&& 31)) &&& (3 : Int32)) - (2 : Int32))))]))
              refine own_F.of (fun _ => XS.iload S44.here S44.hx rfl (S44.dec at_153) rfl) ?_
              show own_F p e below s Z _ _ _ _ _ (T44.setTop (mkF m 155 #[.val (.int p0), .val (.int p1), .val (.int p2), .val (.int ((p0 &&& (2147483647 : Int32)) % (8 : Int32))), .val (.ref a_CREATE_DELEGATION_TOKEN), .val (.int (2 : Int32)), .val (.int ((2 : Int32) + (((p2 >>> ((1 : Int32) &&& 31)) &&& (3 : Int32)) - (2 : Int32)))), .unset] [(.int (2 : Int32)), (.int ((2 : Int32) + (((p2 >>> ((1 : Int32) &&& 31)) &&& (3 : Int32)) - (2 : Int32))))]))
              refine own_icmp S44 162 at_155 (by decide) (by decide) (fun (hc155_51 : ((2 : Int32) + (((p2 >>> ((1 : Int32) &&& 31)) &&& (3 : Int32)) - (2 : Int32))) < (2 : Int32)) => ?_) (fun (hc155_51 : ¬ (((2 : Int32) + (((p2 >>> ((1 : Int32) &&& 31)) &&& (3 : Int32)) - (2 : Int32))) < (2 : Int32))) => ?_)
              · show own_F p e below s Z _ _ _ _ _ (T44.setTop (mkF m 162 #[.val (.int p0), .val (.int p1), .val (.int p2), .val (.int ((p0 &&& (2147483647 : Int32)) % (8 : Int32))), .val (.ref a_CREATE_DELEGATION_TOKEN), .val (.int (2 : Int32)), .val (.int ((2 : Int32) + (((p2 >>> ((1 : Int32) &&& 31)) &&& (3 : Int32)) - (2 : Int32)))), .unset] []))
                refine own_F.of (fun _ => XS.iconst S44.here S44.hx rfl (S44.dec at_162)) ?_
                show own_F p e below s Z _ _ _ _ _ (T44.setTop (mkF m 163 #[.val (.int p0), .val (.int p1), .val (.int p2), .val (.int ((p0 &&& (2147483647 : Int32)) % (8 : Int32))), .val (.ref a_CREATE_DELEGATION_TOKEN), .val (.int (2 : Int32)), .val (.int ((2 : Int32) + (((p2 >>> ((1 : Int32) &&& 31)) &&& (3 : Int32)) - (2 : Int32)))), .unset] [(.int (0 : Int32))]))
                refine own_F.of (fun _ => XS.istore S44.here S44.hx rfl (S44.dec at_163) rfl (l' := #[.val (.int p0), .val (.int p1), .val (.int p2), .val (.int ((p0 &&& (2147483647 : Int32)) % (8 : Int32))), .val (.ref a_CREATE_DELEGATION_TOKEN), .val (.int (2 : Int32)), .val (.int ((2 : Int32) + (((p2 >>> ((1 : Int32) &&& 31)) &&& (3 : Int32)) - (2 : Int32)))), .val (.int (0 : Int32))]) rfl) ?_
                show own_F p e below s Z _ _ _ _ _ (T44.setTop (mkF m 165 #[.val (.int p0), .val (.int p1), .val (.int p2), .val (.int ((p0 &&& (2147483647 : Int32)) % (8 : Int32))), .val (.ref a_CREATE_DELEGATION_TOKEN), .val (.int (2 : Int32)), .val (.int ((2 : Int32) + (((p2 >>> ((1 : Int32) &&& 31)) &&& (3 : Int32)) - (2 : Int32)))), .val (.int (0 : Int32))] []))
                refine own_F.of (fun _ => XS.aload S44.here S44.hx rfl (S44.dec at_165) rfl rfl) ?_
                show own_F p e below s Z _ _ _ _ _ (T44.setTop (mkF m 167 #[.val (.int p0), .val (.int p1), .val (.int p2), .val (.int ((p0 &&& (2147483647 : Int32)) % (8 : Int32))), .val (.ref a_CREATE_DELEGATION_TOKEN), .val (.int (2 : Int32)), .val (.int ((2 : Int32) + (((p2 >>> ((1 : Int32) &&& 31)) &&& (3 : Int32)) - (2 : Int32)))), .val (.int (0 : Int32))] [(.ref a_CREATE_DELEGATION_TOKEN)]))
                refine own_F.of (fun _ => XS.iload S44.here S44.hx rfl (S44.dec at_167) rfl) ?_
                show own_F p e below s Z _ _ _ _ _ (T44.setTop (mkF m 169 #[.val (.int p0), .val (.int p1), .val (.int p2), .val (.int ((p0 &&& (2147483647 : Int32)) % (8 : Int32))), .val (.ref a_CREATE_DELEGATION_TOKEN), .val (.int (2 : Int32)), .val (.int ((2 : Int32) + (((p2 >>> ((1 : Int32) &&& 31)) &&& (3 : Int32)) - (2 : Int32)))), .val (.int (0 : Int32))] [(.int ((2 : Int32) + (((p2 >>> ((1 : Int32) &&& 31)) &&& (3 : Int32)) - (2 : Int32)))), (.ref a_CREATE_DELEGATION_TOKEN)]))
                refine own_callV S44 (y := (⟨"com/example/lanyard/lanyard/protocol/ApiKey", "isFlexible", "(I)Z"⟩ : MethodName)) (y' := (⟨"com/example/lanyard/lanyard/protocol/ApiKey", "isFlexible", "(I)Z"⟩ : MethodName)) (own_w hw 4 rfl) (own_w hw 5 rfl) (own_nf S44 (own_w hw 7 rfl)) (own_w hw 7 rfl) (own_w hw 6 rfl) (own_w hw 8 rfl) (own_w hw 2 rfl) (by decide) (X_CREATE_DELEGATION_TOKEN.ext S44.old) (argsL := [(.int ((2 : Int32) + (((p2 >>> ((1 : Int32) &&& 31)) &&& (3 : Int32)) - (2 : Int32))))]) (rest := []) (own_flex l Z a0 hw a_CREATE_DELEGATION_TOKEN ((2 : Int32) + (((p2 >>> ((1 : Int32) &&& 31)) &&& (3 : Int32)) - (2 : Int32))) (2 : Int32) h0 S44.old F_CREATE_DELEGATION_TOKEN_firstFlexibleVersion) all0 (by decide +kernel : parseMethodDescriptor "(I)Z" = some ⟨[.int], some .boolean⟩) rfl rfl rfl at_169 (by decide) (Nat.le_of_ble_eq_true rfl) (by decide) (by decide) (fun T52 h52 v52 S52 K52 q52 => ?_)
                obtain ⟨rfl, rfl⟩ := q52
                show own_F p e below s Z _ _ _ _ _ (T52.setTop (mkF m 172 #[.val (.int p0), .val (.int p1), .val (.int p2), .val (.int ((p0 &&& (2147483647 : Int32)) % (8 : Int32))), .val (.ref a_CREATE_DELEGATION_TOKEN), .val (.int (2 : Int32)), .val (.int ((2 : Int32) + (((p2 >>> ((1 : Int32) &&& 31)) &&& (3 : Int32)) - (2 : Int32)))), .val (.int (0 : Int32))] [(.int (own_fx ((2 : Int32) + (((p2 >>> ((1 : Int32) &&& 31)) &&& (3 : Int32)) - (2 : Int32))) (2 : Int32)))]))
                refine own_F.of (fun _ => XS.iload S52.here S52.hx rfl (S52.dec at_172) rfl) ?_
                show own_F p e below s Z _ _ _ _ _ (T52.setTop (mkF m 174 #[.val (.int p0), .val (.int p1), .val (.int p2), .val (.int ((p0 &&& (2147483647 : Int32)) % (8 : Int32))), .val (.ref a_CREATE_DELEGATION_TOKEN), .val (.int (2 : Int32)), .val (.int ((2 : Int32) + (((p2 >>> ((1 : Int32) &&& 31)) &&& (3 : Int32)) - (2 : Int32)))), .val (.int (0 : Int32))] [(.int (0 : Int32)), (.int (own_fx ((2 : Int32) + (((p2 >>> ((1 : Int32) &&& 31)) &&& (3 : Int32)) - (2 : Int32))) (2 : Int32)))]))
                refine own_icmp S52 181 at_174 (by decide) (by decide) (fun (hc174_53 : ¬ ((own_fx ((2 : Int32) + (((p2 >>> ((1 : Int32) &&& 31)) &&& (3 : Int32)) - (2 : Int32))) (2 : Int32)) = (0 : Int32))) => False.elim (hc174_53 (by simp [own_fx, hc155_51]))) (fun (hc174_53 : (own_fx ((2 : Int32) + (((p2 >>> ((1 : Int32) &&& 31)) &&& (3 : Int32)) - (2 : Int32))) (2 : Int32)) = (0 : Int32)) => ?_)
                show own_F p e below s Z _ _ _ _ _ (T52.setTop (mkF m 177 #[.val (.int p0), .val (.int p1), .val (.int p2), .val (.int ((p0 &&& (2147483647 : Int32)) % (8 : Int32))), .val (.ref a_CREATE_DELEGATION_TOKEN), .val (.int (2 : Int32)), .val (.int ((2 : Int32) + (((p2 >>> ((1 : Int32) &&& 31)) &&& (3 : Int32)) - (2 : Int32)))), .val (.int (0 : Int32))] []))
                refine own_F.of (fun _ => XS.iconst S52.here S52.hx rfl (S52.dec at_177)) ?_
                show own_F p e below s Z _ _ _ _ _ (T52.setTop (mkF m 178 #[.val (.int p0), .val (.int p1), .val (.int p2), .val (.int ((p0 &&& (2147483647 : Int32)) % (8 : Int32))), .val (.ref a_CREATE_DELEGATION_TOKEN), .val (.int (2 : Int32)), .val (.int ((2 : Int32) + (((p2 >>> ((1 : Int32) &&& 31)) &&& (3 : Int32)) - (2 : Int32)))), .val (.int (0 : Int32))] [(.int (1 : Int32))]))
                refine own_F.of (fun _ => XS.goto S52.here S52.hx rfl (pc0 := 178) (pc' := 182) rfl (S52.dec at_178) (by decide) (by decide)) ?_
                show own_F p e below s Z _ _ _ _ _ (T52.setTop (mkF m 182 #[.val (.int p0), .val (.int p1), .val (.int p2), .val (.int ((p0 &&& (2147483647 : Int32)) % (8 : Int32))), .val (.ref a_CREATE_DELEGATION_TOKEN), .val (.int (2 : Int32)), .val (.int ((2 : Int32) + (((p2 >>> ((1 : Int32) &&& 31)) &&& (3 : Int32)) - (2 : Int32)))), .val (.int (0 : Int32))] [(.int (1 : Int32))]))
                refine own_retZ S52 (by simp) at_182 (by decide) (by decide) ?_
                rfl
              · show own_F p e below s Z _ _ _ _ _ (T44.setTop (mkF m 158 #[.val (.int p0), .val (.int p1), .val (.int p2), .val (.int ((p0 &&& (2147483647 : Int32)) % (8 : Int32))), .val (.ref a_CREATE_DELEGATION_TOKEN), .val (.int (2 : Int32)), .val (.int ((2 : Int32) + (((p2 >>> ((1 : Int32) &&& 31)) &&& (3 : Int32)) - (2 : Int32)))), .unset] []))
                refine own_F.of (fun _ => XS.iconst S44.here S44.hx rfl (S44.dec at_158)) ?_
                show own_F p e below s Z _ _ _ _ _ (T44.setTop (mkF m 159 #[.val (.int p0), .val (.int p1), .val (.int p2), .val (.int ((p0 &&& (2147483647 : Int32)) % (8 : Int32))), .val (.ref a_CREATE_DELEGATION_TOKEN), .val (.int (2 : Int32)), .val (.int ((2 : Int32) + (((p2 >>> ((1 : Int32) &&& 31)) &&& (3 : Int32)) - (2 : Int32)))), .unset] [(.int (1 : Int32))]))
                refine own_F.of (fun _ => XS.goto S44.here S44.hx rfl (pc0 := 159) (pc' := 163) rfl (S44.dec at_159) (by decide) (by decide)) ?_
                show own_F p e below s Z _ _ _ _ _ (T44.setTop (mkF m 163 #[.val (.int p0), .val (.int p1), .val (.int p2), .val (.int ((p0 &&& (2147483647 : Int32)) % (8 : Int32))), .val (.ref a_CREATE_DELEGATION_TOKEN), .val (.int (2 : Int32)), .val (.int ((2 : Int32) + (((p2 >>> ((1 : Int32) &&& 31)) &&& (3 : Int32)) - (2 : Int32)))), .unset] [(.int (1 : Int32))]))
                refine own_F.of (fun _ => XS.istore S44.here S44.hx rfl (S44.dec at_163) rfl (l' := #[.val (.int p0), .val (.int p1), .val (.int p2), .val (.int ((p0 &&& (2147483647 : Int32)) % (8 : Int32))), .val (.ref a_CREATE_DELEGATION_TOKEN), .val (.int (2 : Int32)), .val (.int ((2 : Int32) + (((p2 >>> ((1 : Int32) &&& 31)) &&& (3 : Int32)) - (2 : Int32)))), .val (.int (1 : Int32))]) rfl) ?_
                show own_F p e below s Z _ _ _ _ _ (T44.setTop (mkF m 165 #[.val (.int p0), .val (.int p1), .val (.int p2), .val (.int ((p0 &&& (2147483647 : Int32)) % (8 : Int32))), .val (.ref a_CREATE_DELEGATION_TOKEN), .val (.int (2 : Int32)), .val (.int ((2 : Int32) + (((p2 >>> ((1 : Int32) &&& 31)) &&& (3 : Int32)) - (2 : Int32)))), .val (.int (1 : Int32))] []))
                refine own_F.of (fun _ => XS.aload S44.here S44.hx rfl (S44.dec at_165) rfl rfl) ?_
                show own_F p e below s Z _ _ _ _ _ (T44.setTop (mkF m 167 #[.val (.int p0), .val (.int p1), .val (.int p2), .val (.int ((p0 &&& (2147483647 : Int32)) % (8 : Int32))), .val (.ref a_CREATE_DELEGATION_TOKEN), .val (.int (2 : Int32)), .val (.int ((2 : Int32) + (((p2 >>> ((1 : Int32) &&& 31)) &&& (3 : Int32)) - (2 : Int32)))), .val (.int (1 : Int32))] [(.ref a_CREATE_DELEGATION_TOKEN)]))
                refine own_F.of (fun _ => XS.iload S44.here S44.hx rfl (S44.dec at_167) rfl) ?_
                show own_F p e below s Z _ _ _ _ _ (T44.setTop (mkF m 169 #[.val (.int p0), .val (.int p1), .val (.int p2), .val (.int ((p0 &&& (2147483647 : Int32)) % (8 : Int32))), .val (.ref a_CREATE_DELEGATION_TOKEN), .val (.int (2 : Int32)), .val (.int ((2 : Int32) + (((p2 >>> ((1 : Int32) &&& 31)) &&& (3 : Int32)) - (2 : Int32)))), .val (.int (1 : Int32))] [(.int ((2 : Int32) + (((p2 >>> ((1 : Int32) &&& 31)) &&& (3 : Int32)) - (2 : Int32)))), (.ref a_CREATE_DELEGATION_TOKEN)]))
                refine own_callV S44 (y := (⟨"com/example/lanyard/lanyard/protocol/ApiKey", "isFlexible", "(I)Z"⟩ : MethodName)) (y' := (⟨"com/example/lanyard/lanyard/protocol/ApiKey", "isFlexible", "(I)Z"⟩ : MethodName)) (own_w hw 4 rfl) (own_w hw 5 rfl) (own_nf S44 (own_w hw 7 rfl)) (own_w hw 7 rfl) (own_w hw 6 rfl) (own_w hw 8 rfl) (own_w hw 2 rfl) (by decide) (X_CREATE_DELEGATION_TOKEN.ext S44.old) (argsL := [(.int ((2 : Int32) + (((p2 >>> ((1 : Int32) &&& 31)) &&& (3 : Int32)) - (2 : Int32))))]) (rest := []) (own_flex l Z a0 hw a_CREATE_DELEGATION_TOKEN ((2 : Int32) + (((p2 >>> ((1 : Int32) &&& 31)) &&& (3 : Int32)) - (2 : Int32))) (2 : Int32) h0 S44.old F_CREATE_DELEGATION_TOKEN_firstFlexibleVersion) all0 (by decide +kernel : parseMethodDescriptor "(I)Z" = some ⟨[.int], some .boolean⟩) rfl rfl rfl at_169 (by decide) (Nat.le_of_ble_eq_true rfl) (by decide) (by decide) (fun T54 h54 v54 S54 K54 q54 => ?_)
                obtain ⟨rfl, rfl⟩ := q54
                show own_F p e below s Z _ _ _ _ _ (T54.setTop (mkF m 172 #[.val (.int p0), .val (.int p1), .val (.int p2), .val (.int ((p0 &&& (2147483647 : Int32)) % (8 : Int32))), .val (.ref a_CREATE_DELEGATION_TOKEN), .val (.int (2 : Int32)), .val (.int ((2 : Int32) + (((p2 >>> ((1 : Int32) &&& 31)) &&& (3 : Int32)) - (2 : Int32)))), .val (.int (1 : Int32))] [(.int (own_fx ((2 : Int32) + (((p2 >>> ((1 : Int32) &&& 31)) &&& (3 : Int32)) - (2 : Int32))) (2 : Int32)))]))
                refine own_F.of (fun _ => XS.iload S54.here S54.hx rfl (S54.dec at_172) rfl) ?_
                show own_F p e below s Z _ _ _ _ _ (T54.setTop (mkF m 174 #[.val (.int p0), .val (.int p1), .val (.int p2), .val (.int ((p0 &&& (2147483647 : Int32)) % (8 : Int32))), .val (.ref a_CREATE_DELEGATION_TOKEN), .val (.int (2 : Int32)), .val (.int ((2 : Int32) + (((p2 >>> ((1 : Int32) &&& 31)) &&& (3 : Int32)) - (2 : Int32)))), .val (.int (1 : Int32))] [(.int (1 : Int32)), (.int (own_fx ((2 : Int32) + (((p2 >>> ((1 : Int32) &&& 31)) &&& (3 : Int32)) - (2 : Int32))) (2 : Int32)))]))
                refine own_icmp S54 181 at_174 (by decide) (by decide) (fun (hc174_55 : ¬ ((own_fx ((2 : Int32) + (((p2 >>> ((1 : Int32) &&& 31)) &&& (3 : Int32)) - (2 : Int32))) (2 : Int32)) = (1 : Int32))) => False.elim (hc174_55 (by simp [own_fx, hc155_51]))) (fun (hc174_55 : (own_fx ((2 : Int32) + (((p2 >>> ((1 : Int32) &&& 31)) &&& (3 : Int32)) - (2 : Int32))) (2 : Int32)) = (1 : Int32)) => ?_)
                show own_F p e below s Z _ _ _ _ _ (T54.setTop (mkF m 177 #[.val (.int p0), .val (.int p1), .val (.int p2), .val (.int ((p0 &&& (2147483647 : Int32)) % (8 : Int32))), .val (.ref a_CREATE_DELEGATION_TOKEN), .val (.int (2 : Int32)), .val (.int ((2 : Int32) + (((p2 >>> ((1 : Int32) &&& 31)) &&& (3 : Int32)) - (2 : Int32)))), .val (.int (1 : Int32))] []))
                refine own_F.of (fun _ => XS.iconst S54.here S54.hx rfl (S54.dec at_177)) ?_
                show own_F p e below s Z _ _ _ _ _ (T54.setTop (mkF m 178 #[.val (.int p0), .val (.int p1), .val (.int p2), .val (.int ((p0 &&& (2147483647 : Int32)) % (8 : Int32))), .val (.ref a_CREATE_DELEGATION_TOKEN), .val (.int (2 : Int32)), .val (.int ((2 : Int32) + (((p2 >>> ((1 : Int32) &&& 31)) &&& (3 : Int32)) - (2 : Int32)))), .val (.int (1 : Int32))] [(.int (1 : Int32))]))
                refine own_F.of (fun _ => XS.goto S54.here S54.hx rfl (pc0 := 178) (pc' := 182) rfl (S54.dec at_178) (by decide) (by decide)) ?_
                show own_F p e below s Z _ _ _ _ _ (T54.setTop (mkF m 182 #[.val (.int p0), .val (.int p1), .val (.int p2), .val (.int ((p0 &&& (2147483647 : Int32)) % (8 : Int32))), .val (.ref a_CREATE_DELEGATION_TOKEN), .val (.int (2 : Int32)), .val (.int ((2 : Int32) + (((p2 >>> ((1 : Int32) &&& 31)) &&& (3 : Int32)) - (2 : Int32)))), .val (.int (1 : Int32))] [(.int (1 : Int32))]))
                refine own_retZ S54 (by simp) at_182 (by decide) (by decide) ?_
                rfl
        · show own_F p e below s Z _ _ _ _ _ (T0.setTop (mkF m 62 #[.val (.int p0), .val (.int p1), .val (.int p2), .val (.int ((p0 &&& (2147483647 : Int32)) % (8 : Int32))), .unset, .unset, .unset, .unset] []))
          refine own_getS S0 (host := "") (Or.inl (own_w hw 19 rfl)) Via.refl (S_SASL_AUTHENTICATE.ext S0.old) at_62 (fun T56 S56 => ?_)
          show own_F p e below s Z _ _ _ _ _ (T56.setTop (mkF m 65 #[.val (.int p0), .val (.int p1), .val (.int p2), .val (.int ((p0 &&& (2147483647 : Int32)) % (8 : Int32))), .unset, .unset, .unset, .unset] [(.ref a_SASL_AUTHENTICATE)]))
          refine own_F.of (fun _ => XS.astore S56.here S56.hx rfl (S56.dec at_65) rfl rfl (l' := #[.val (.int p0), .val (.int p1), .val (.int p2), .val (.int ((p0 &&& (2147483647 : Int32)) % (8 : Int32))), .val (.ref a_SASL_AUTHENTICATE), .unset, .unset, .unset]) rfl) ?_
          show own_F p e below s Z _ _ _ _ _ (T56.setTop (mkF m 67 #[.val (.int p0), .val (.int p1), .val (.int p2), .val (.int ((p0 &&& (2147483647 : Int32)) % (8 : Int32))), .val (.ref a_SASL_AUTHENTICATE), .unset, .unset, .unset] []))
          refine own_F.of (fun _ => XS.iconst S56.here S56.hx rfl (S56.dec at_67)) ?_
          show own_F p e below s Z _ _ _ _ _ (T56.setTop (mkF m 68 #[.val (.int p0), .val (.int p1), .val (.int p2), .val (.int ((p0 &&& (2147483647 : Int32)) % (8 : Int32))), .val (.ref a_SASL_AUTHENTICATE), .unset, .unset, .unset] [(.int (2 : Int32))]))
          refine own_F.of (fun _ => XS.istore S56.here S56.hx rfl (S56.dec at_68) rfl (l' := #[.val (.int p0), .val (.int p1), .val (.int p2), .val (.int ((p0 &&& (2147483647 : Int32)) % (8 : Int32))), .val (.ref a_SASL_AUTHENTICATE), .val (.int (2 : Int32)), .unset, .unset]) rfl) ?_
          show own_F p e below s Z _ _ _ _ _ (T56.setTop (mkF m 70 #[.val (.int p0), .val (.int p1), .val (.int p2), .val (.int ((p0 &&& (2147483647 : Int32)) % (8 : Int32))), .val (.ref a_SASL_AUTHENTICATE), .val (.int (2 : Int32)), .unset, .unset] []))
          refine own_F.of (fun _ => XS.goto S56.here S56.hx rfl (pc0 := 70) (pc' := 130) rfl (S56.dec at_70) (by decide) (by decide)) ?_
          show own_F p e below s Z _ _ _ _ _ (T56.setTop (mkF m 130 #[.val (.int p0), .val (.int p1), .val (.int p2), .val (.int ((p0 &&& (2147483647 : Int32)) % (8 : Int32))), .val (.ref a_SASL_AUTHENTICATE), .val (.int (2 : Int32)), .unset, .unset] []))
          refine own_F.of (fun _ => XS.iloadN S56.here S56.hx rfl (S56.dec at_130) rfl) ?_
          show own_F p e below s Z _ _ _ _ _ (T56.setTop (mkF m 131 #[.val (.int p0), .val (.int p1), .val (.int p2), .val (.int ((p0 &&& (2147483647 : Int32)) % (8 : Int32))), .val (.ref a_SASL_AUTHENTICATE), .val (.int (2 : Int32)), .unset, .unset] [(.int p1)]))
          refine own_F.of (fun _ => XS.istore S56.here S56.hx rfl (S56.dec at_131) rfl (l' := #[.val (.int p0), .val (.int p1), .val (.int p2), .val (.int ((p0 &&& (2147483647 : Int32)) % (8 : Int32))), .val (.ref a_SASL_AUTHENTICATE), .val (.int (2 : Int32)), .val (.int p1), .unset]) rfl) ?_
          show own_F p e below s Z _ _ _ _ _ (T56.setTop (mkF m 133 #[.val (.int p0), .val (.int p1), .val (.int p2), .val (.int ((p0 &&& (2147483647 : Int32)) % (8 : Int32))), .val (.ref a_SASL_AUTHENTICATE), .val (.int (2 : Int32)), .val (.int p1), .unset] []))
          refine own_F.of (fun _ => XS.iloadN S56.here S56.hx rfl (S56.dec at_133) rfl) ?_
          show own_F p e below s Z _ _ _ _ _ (T56.setTop (mkF m 134 #[.val (.int p0), .val (.int p1), .val (.int p2), .val (.int ((p0 &&& (2147483647 : Int32)) % (8 : Int32))), .val (.ref a_SASL_AUTHENTICATE), .val (.int (2 : Int32)), .val (.int p1), .unset] [(.int p2)]))
          refine own_F.of (fun _ => XS.iconst S56.here S56.hx rfl (S56.dec at_134)) ?_
          show own_F p e below s Z _ _ _ _ _ (T56.setTop (mkF m 135 #[.val (.int p0), .val (.int p1), .val (.int p2), .val (.int ((p0 &&& (2147483647 : Int32)) % (8 : Int32))), .val (.ref a_SASL_AUTHENTICATE), .val (.int (2 : Int32)), .val (.int p1), .unset] [(.int (1 : Int32)), (.int p2)]))
          refine own_F.of (fun _ => XS.iand S56.here S56.hx rfl (S56.dec at_135) rfl) ?_
          show own_F p e below s Z _ _ _ _ _ (T56.setTop (mkF m 136 #[.val (.int p0), .val (.int p1), .val (.int p2), .val (.int ((p0 &&& (2147483647 : Int32)) % (8 : Int32))), .val (.ref a_SASL_AUTHENTICATE), .val (.int (2 : Int32)), .val (.int p1), .unset] [(.int (p2 &&& (1 : Int32)))]))
          refine own_if S56 151 at_136 (by decide) (by decide) (fun (hc136_57 : (p2 &&& (1 : Int32)) = (0 : Int32)) => ?_) (fun (hc136_57 : ¬ ((p2 &&& (1 : Int32)) = (0 : Int32))) => ?_)
          · show own_F p e below s Z _ _ _ _ _ (T56.setTop (mkF m 151 #[.val (.int p0), .val (.int p1), .val (.int p2), .val (.int ((p0 &&& (2147483647 : Int32)) % (8 : Int32))), .val (.ref a_SASL_AUTHENTICATE), .val (.int (2 : Int32)), .val (.int p1), .unset] []))
            refine own_F.of (fun _ => XS.iload S56.here S56.hx rfl (S56.dec at_151) rfl) ?_
            show own_F p e below s Z _ _ _ _ _ (T56.setTop (mkF m 153 #[.val (.int p0), .val (.int p1), .val (.int p2), .val (.int ((p0 &&& (2147483647 : Int32)) % (8 : Int32))), .val (.ref a_SASL_AUTHENTICATE), .val (.int (2 : Int32)), .val (.int p1), .unset] [(.int p1)]))
            refine own_F.of (fun _ => XS.iload S56.here S56.hx rfl (S56.dec at_153) rfl) ?_
            show own_F p e below s Z _ _ _ _ _ (T56.setTop (mkF m 155 #[.val (.int p0), .val (.int p1), .val (.int p2), .val (.int ((p0 &&& (2147483647 : Int32)) % (8 : Int32))), .val (.ref a_SASL_AUTHENTICATE), .val (.int (2 : Int32)), .val (.int p1), .unset] [(.int (2 : Int32)), (.int p1)]))
            refine own_icmp S56 162 at_155 (by decide) (by decide) (fun (hc155_58 : p1 < (2 : Int32)) => ?_) (fun (hc155_58 : ¬ (p1 < (2 : Int32))) => ?_)
            · show own_F p e below s Z _ _ _ _ _ (T56.setTop (mkF m 162 #[.val (.int p0), .val (.int p1), .val (.int p2), .val (.int ((p0 &&& (2147483647 : Int32)) % (8 : Int32))), .val (.ref a_SASL_AUTHENTICATE), .val (.int (2 : Int32)), .val (.int p1), .unset] []))
              refine own_F.of (fun _ => XS.iconst S56.here S56.hx rfl (S56.dec at_162)) ?_
              show own_F p e below s Z _ _ _ _ _ (T56.setTop (mkF m 163 #[.val (.int p0), .val (.int p1), .val (.int p2), .val (.int ((p0 &&& (2147483647 : Int32)) % (8 : Int32))), .val (.ref a_SASL_AUTHENTICATE), .val (.int (2 : Int32)), .val (.int p1), .unset] [(.int (0 : Int32))]))
              refine own_F.of (fun _ => XS.istore S56.here S56.hx rfl (S56.dec at_163) rfl (l' := #[.val (.int p0), .val (.int p1), .val (.int p2), .val (.int ((p0 &&& (2147483647 : Int32)) % (8 : Int32))), .val (.ref a_SASL_AUTHENTICATE), .val (.int (2 : Int32)), .val (.int p1), .val (.int (0 : Int32))]) rfl) ?_
              show own_F p e below s Z _ _ _ _ _ (T56.setTop (mkF m 165 #[.val (.int p0), .val (.int p1), .val (.int p2), .val (.int ((p0 &&& (2147483647 : Int32)) % (8 : Int32))), .val (.ref a_SASL_AUTHENTICATE), .val (.int (2 : Int32)), .val (.int p1), .val (.int (0 : Int32))] []))
              refine own_F.of (fun _ => XS.aload S56.here S56.hx rfl (S56.dec at_165) rfl rfl) ?_
              show own_F p e below s Z _ _ _ _ _ (T56.setTop (mkF m 167 #[.val (.int p0), .val (.int p1), .val (.int p2), .val (.int ((p0 &&& (2147483647 : Int32)) % (8 : Int32))), .val (.ref a_SASL_AUTHENTICATE), .val (.int (2 : Int32)), .val (.int p1), .val (.int (0 : Int32))] [(.ref a_SASL_AUTHENTICATE)]))
              refine own_F.of (fun _ => XS.iload S56.here S56.hx rfl (S56.dec at_167) rfl) ?_
              show own_F p e below s Z _ _ _ _ _ (T56.setTop (mkF m 169 #[.val (.int p0), .val (.int p1), .val (.int p2), .val (.int ((p0 &&& (2147483647 : Int32)) % (8 : Int32))), .val (.ref a_SASL_AUTHENTICATE), .val (.int (2 : Int32)), .val (.int p1), .val (.int (0 : Int32))] [(.int p1), (.ref a_SASL_AUTHENTICATE)]))
              refine own_callV S56 (y := (⟨"com/example/lanyard/lanyard/protocol/ApiKey", "isFlexible", "(I)Z"⟩ : MethodName)) (y' := (⟨"com/example/lanyard/lanyard/protocol/ApiKey", "isFlexible", "(I)Z"⟩ : MethodName)) (own_w hw 4 rfl) (own_w hw 5 rfl) (own_nf S56 (own_w hw 7 rfl)) (own_w hw 7 rfl) (own_w hw 6 rfl) (own_w hw 8 rfl) (own_w hw 2 rfl) (by decide) (X_SASL_AUTHENTICATE.ext S56.old) (argsL := [(.int p1)]) (rest := []) (own_flex l Z a0 hw a_SASL_AUTHENTICATE p1 (2 : Int32) h0 S56.old F_SASL_AUTHENTICATE_firstFlexibleVersion) all0 (by decide +kernel : parseMethodDescriptor "(I)Z" = some ⟨[.int], some .boolean⟩) rfl rfl rfl at_169 (by decide) (Nat.le_of_ble_eq_true rfl) (by decide) (by decide) (fun T59 h59 v59 S59 K59 q59 => ?_)
              obtain ⟨rfl, rfl⟩ := q59
              show own_F p e below s Z _ _ _ _ _ (T59.setTop (mkF m 172 #[.val (.int p0), .val (.int p1), .val (.int p2), .val (.int ((p0 &&& (2147483647 : Int32)) % (8 : Int32))), .val (.ref a_SASL_AUTHENTICATE), .val (.int (2 : Int32)), .val (.int p1), .val (.int (0 : Int32))] [(.int (own_fx p1 (2 : Int32)))]))
              refine own_F.of (fun _ => XS.iload S59.here S59.hx rfl (S59.dec at_172) rfl) ?_
              show own_F p e below s Z _ _ _ _ _ (T59.setTop (mkF m 174 #[.val (.int p0), .val (.int p1), .val (.int p2), .val (.int ((p0 &&& (2147483647 : Int32)) % (8 : Int32))), .val (.ref a_SASL_AUTHENTICATE), .val (.int (2 : Int32)), .val (.int p1), .val (.int (0 : Int32))] [(.int (0 : Int32)), (.int (own_fx p1 (2 : Int32)))]))
              refine own_icmp S59 181 at_174 (by decide) (by decide) (fun (hc174_60 : ¬ ((own_fx p1 (2 : Int32)) = (0 : Int32))) => False.elim (hc174_60 (by simp [own_fx, hc155_58]))) (fun (hc174_60 : (own_fx p1 (2 : Int32)) = (0 : Int32)) => ?_)
              show own_F p e below s Z _ _ _ _ _ (T59.setTop (mkF m 177 #[.val (.int p0), .val (.int p1), .val (.int p2), .val (.int ((p0 &&& (2147483647 : Int32)) % (8 : Int32))), .val (.ref a_SASL_AUTHENTICATE), .val (.int (2 : Int32)), .val (.int p1), .val (.int (0 : Int32))] []))
              refine own_F.of (fun _ => XS.iconst S59.here S59.hx rfl (S59.dec at_177)) ?_
              show own_F p e below s Z _ _ _ _ _ (T59.setTop (mkF m 178 #[.val (.int p0), .val (.int p1), .val (.int p2), .val (.int ((p0 &&& (2147483647 : Int32)) % (8 : Int32))), .val (.ref a_SASL_AUTHENTICATE), .val (.int (2 : Int32)), .val (.int p1), .val (.int (0 : Int32))] [(.int (1 : Int32))]))
              refine own_F.of (fun _ => XS.goto S59.here S59.hx rfl (pc0 := 178) (pc' := 182) rfl (S59.dec at_178) (by decide) (by decide)) ?_
              show own_F p e below s Z _ _ _ _ _ (T59.setTop (mkF m 182 #[.val (.int p0), .val (.int p1), .val (.int p2), .val (.int ((p0 &&& (2147483647 : Int32)) % (8 : Int32))), .val (.ref a_SASL_AUTHENTICATE), .val (.int (2 : Int32)), .val (.int p1), .val (.int (0 : Int32))] [(.int (1 : Int32))]))
              refine own_retZ S59 (by simp) at_182 (by decide) (by decide) ?_
              rfl
            · show own_F p e below s Z _ _ _ _ _ (T56.setTop (mkF m 158 #[.val (.int p0), .val (.int p1), .val (.int p2), .val (.int ((p0 &&& (2147483647 : Int32)) % (8 : Int32))), .val (.ref a_SASL_AUTHENTICATE), .val (.int (2 : Int32)), .val (.int p1), .unset] []))
              refine own_F.of (fun _ => XS.iconst S56.here S56.hx rfl (S56.dec at_158)) ?_
              show own_F p e below s Z _ _ _ _ _ (T56.setTop (mkF m 159 #[.val (.int p0), .val (.int p1), .val (.int p2), .val (.int ((p0 &&& (2147483647 : Int32)) % (8 : Int32))), .val (.ref a_SASL_AUTHENTICATE), .val (.int (2 : Int32)), .val (.int p1), .unset] [(.int (1 : Int32))]))
              refine own_F.of (fun _ => XS.goto S56.here S56.hx rfl (pc0 := 159) (pc' := 163) rfl (S56.dec at_159) (by decide) (by decide)) ?_
              show own_F p e below s Z _ _ _ _ _ (T56.setTop (mkF m 163 #[.val (.int p0), .val (.int p1), .val (.int p2), .val (.int ((p0 &&& (2147483647 : Int32)) % (8 : Int32))), .val (.ref a_SASL_AUTHENTICATE), .val (.int (2 : Int32)), .val (.int p1), .unset] [(.int (1 : Int32))]))
              refine own_F.of (fun _ => XS.istore S56.here S56.hx rfl (S56.dec at_163) rfl (l' := #[.val (.int p0), .val (.int p1), .val (.int p2), .val (.int ((p0 &&& (2147483647 : Int32)) % (8 : Int32))), .val (.ref a_SASL_AUTHENTICATE), .val (.int (2 : Int32)), .val (.int p1), .val (.int (1 : Int32))]) rfl) ?_
              show own_F p e below s Z _ _ _ _ _ (T56.setTop (mkF m 165 #[.val (.int p0), .val (.int p1), .val (.int p2), .val (.int ((p0 &&& (2147483647 : Int32)) % (8 : Int32))), .val (.ref a_SASL_AUTHENTICATE), .val (.int (2 : Int32)), .val (.int p1), .val (.int (1 : Int32))] []))
              refine own_F.of (fun _ => XS.aload S56.here S56.hx rfl (S56.dec at_165) rfl rfl) ?_
              show own_F p e below s Z _ _ _ _ _ (T56.setTop (mkF m 167 #[.val (.int p0), .val (.int p1), .val (.int p2), .val (.int ((p0 &&& (2147483647 : Int32)) % (8 : Int32))), .val (.ref a_SASL_AUTHENTICATE), .val (.int (2 : Int32)), .val (.int p1), .val (.int (1 : Int32))] [(.ref a_SASL_AUTHENTICATE)]))
              refine own_F.of (fun _ => XS.iload S56.here S56.hx rfl (S56.dec at_167) rfl) ?_
              show own_F p e below s Z _ _ _ _ _ (T56.setTop (mkF m 169 #[.val (.int p0), .val (.int p1), .val (.int p2), .val (.int ((p0 &&& (2147483647 : Int32)) % (8 : Int32))), .val (.ref a_SASL_AUTHENTICATE), .val (.int (2 : Int32)), .val (.int p1), .val (.int (1 : Int32))] [(.int p1), (.ref a_SASL_AUTHENTICATE)]))
              refine own_callV S56 (y := (⟨"com/example/lanyard/lanyard/protocol/ApiKey", "isFlexible", "(I)Z"⟩ : MethodName)) (y' := (⟨"com/example/lanyard/lanyard/protocol/ApiKey", "isFlexible", "(I)Z"⟩ : MethodName)) (own_w hw 4 rfl) (own_w hw 5 rfl) (own_nf S56 (own_w hw 7 rfl)) (own_w hw 7 rfl) (own_w hw 6 rfl) (own_w hw 8 rfl) (own_w hw 2 rfl) (by decide) (X_SASL_AUTHENTICATE.ext S56.old) (argsL := [(.int p1)]) (rest := []) (own_flex l Z a0 hw a_SASL_AUTHENTICATE p1 (2 : Int32) h0 S56.old F_SASL_AUTHENTICATE_firstFlexibleVersion) all0 (by decide +kernel : parseMethodDescriptor "(I)Z" = some ⟨[.int], some .boolean⟩) rfl rfl rfl at_169 (by decide) (Nat.le_of_ble_eq_true rfl) (by decide) (by decide) (fun T61 h61 v61 S61 K61 q61 => ?_)
              obtain ⟨rfl, rfl⟩ := q61
              show own_F p e below s Z _ _ _ _ _ (T61.setTop (mkF m 172 #[.val (.int p0), .val (.int p1), .val (.int p2), .val (.int ((p0 &&& (2147483647 : Int32)) % (8 : Int32))), .val (.ref a_SASL_AUTHENTICATE), .val (.int (2 : Int32)), .val (.int p1), .val (.int (1 : Int32))] [(.int (own_fx p1 (2 : Int32)))]))
              refine own_F.of (fun _ => XS.iload S61.here S61.hx rfl (S61.dec at_172) rfl) ?_
              show own_F p e below s Z _ _ _ _ _ (T61.setTop (mkF m 174 #[.val (.int p0), .val (.int p1), .val (.int p2), .val (.int ((p0 &&& (2147483647 : Int32)) % (8 : Int32))), .val (.ref a_SASL_AUTHENTICATE), .val (.int (2 : Int32)), .val (.int p1), .val (.int (1 : Int32))] [(.int (1 : Int32)), (.int (own_fx p1 (2 : Int32)))]))
              refine own_icmp S61 181 at_174 (by decide) (by decide) (fun (hc174_62 : ¬ ((own_fx p1 (2 : Int32)) = (1 : Int32))) => False.elim (hc174_62 (by simp [own_fx, hc155_58]))) (fun (hc174_62 : (own_fx p1 (2 : Int32)) = (1 : Int32)) => ?_)
              show own_F p e below s Z _ _ _ _ _ (T61.setTop (mkF m 177 #[.val (.int p0), .val (.int p1), .val (.int p2), .val (.int ((p0 &&& (2147483647 : Int32)) % (8 : Int32))), .val (.ref a_SASL_AUTHENTICATE), .val (.int (2 : Int32)), .val (.int p1), .val (.int (1 : Int32))] []))
              refine own_F.of (fun _ => XS.iconst S61.here S61.hx rfl (S61.dec at_177)) ?_
              show own_F p e below s Z _ _ _ _ _ (T61.setTop (mkF m 178 #[.val (.int p0), .val (.int p1), .val (.int p2), .val (.int ((p0 &&& (2147483647 : Int32)) % (8 : Int32))), .val (.ref a_SASL_AUTHENTICATE), .val (.int (2 : Int32)), .val (.int p1), .val (.int (1 : Int32))] [(.int (1 : Int32))]))
              refine own_F.of (fun _ => XS.goto S61.here S61.hx rfl (pc0 := 178) (pc' := 182) rfl (S61.dec at_178) (by decide) (by decide)) ?_
              show own_F p e below s Z _ _ _ _ _ (T61.setTop (mkF m 182 #[.val (.int p0), .val (.int p1), .val (.int p2), .val (.int ((p0 &&& (2147483647 : Int32)) % (8 : Int32))), .val (.ref a_SASL_AUTHENTICATE), .val (.int (2 : Int32)), .val (.int p1), .val (.int (1 : Int32))] [(.int (1 : Int32))]))
              refine own_retZ S61 (by simp) at_182 (by decide) (by decide) ?_
              rfl
          · show own_F p e below s Z _ _ _ _ _ (T56.setTop (mkF m 139 #[.val (.int p0), .val (.int p1), .val (.int p2), .val (.int ((p0 &&& (2147483647 : Int32)) % (8 : Int32))), .val (.ref a_SASL_AUTHENTICATE), .val (.int (2 : Int32)), .val (.int p1), .unset] []))
            refine own_F.of (fun _ => XS.iload S56.here S56.hx rfl (S56.dec at_139) rfl) ?_
            show own_F p e below s Z _ _ _ _ _ (T56.setTop (mkF m 141 #[.val (.int p0), .val (.int p1), .val (.int p2), .val (.int ((p0 &&& (2147483647 : Int32)) % (8 : Int32))), .val (.ref a_SASL_AUTHENTICATE), .val (.int (2 : Int32)), .val (.int p1), .unset] [(.int (2 : Int32))]))
            refine own_F.of (fun _ => XS.iloadN S56.here S56.hx rfl (S56.dec at_141) rfl) ?_
            show own_F p e below s Z _ _ _ _ _ (T56.setTop (mkF m 142 #[.val (.int p0), .val (.int p1), .val (.int p2), .val (.int ((p0 &&& (2147483647 : Int32)) % (8 : Int32))), .val (.ref a_SASL_AUTHENTICATE), .val (.int (2 : Int32)), .val (.int p1), .unset] [(.int p2), (.int (2 : Int32))]))
            refine own_F.of (fun _ => XS.iconst S56.here S56.hx rfl (S56.dec at_142)) ?_
            show own_F p e below s Z _ _ _ _ _ (T56.setTop (mkF m 143 #[.val (.int p0), .val (.int p1), .val (.int p2), .val (.int ((p0 &&& (2147483647 : Int32)) % (8 : Int32))), .val (.ref a_SASL_AUTHENTICATE), .val (.int (2 : Int32)), .val (.int p1), .unset] [(.int (1 : Int32)), (.int p2), (.int (2 : Int32))]))
            refine own_F.of (fun _ => XS.ishr S56.here S56.hx rfl (S56.dec at_143) rfl) ?_
            show own_F p e below s Z _ _ _ _ _ (T56.setTop (mkF m 144 #[.val (.int p0), .val (.int p1), .val (.int p2), .val (.int ((p0 &&& (2147483647 : Int32)) % (8 : Int32))), .val (.ref a_SASL_AUTHENTICATE), .val (.int (2 : Int32)), .val (.int p1), .unset] [(.int (p2 >>> ((1 : Int32) &&& 31))), (.int (2 : Int32))]))
            refine own_F.of (fun _ => XS.iconst S56.here S56.hx rfl (S56.dec at_144)) ?_
            show own_F p e below s Z _ _ _ _ _ (T56.setTop (mkF m 145 #[.val (.int p0), .val (.int p1), .val (.int p2), .val (.int ((p0 &&& (2147483647 : Int32)) % (8 : Int32))), .val (.ref a_SASL_AUTHENTICATE), .val (.int (2 : Int32)), .val (.int p1), .unset] [(.int (3 : Int32)), (.int (p2 >>> ((1 : Int32) &&& 31))), (.int (2 : Int32))]))
            refine own_F.of (fun _ => XS.iand S56.here S56.hx rfl (S56.dec at_145) rfl) ?_
            show own_F p e below s Z _ _ _ _ _ (T56.setTop (mkF m 146 #[.val (.int p0), .val (.int p1), .val (.int p2), .val (.int ((p0 &&& (2147483647 : Int32)) % (8 : Int32))), .val (.ref a_SASL_AUTHENTICATE), .val (.int (2 : Int32)), .val (.int p1), .unset] [(.int ((p2 >>> ((1 : Int32) &&& 31)) &&& (3 : Int32))), (.int (2 : Int32))]))
            refine own_F.of (fun _ => XS.iconst S56.here S56.hx rfl (S56.dec at_146)) ?_
            show own_F p e below s Z _ _ _ _ _ (T56.setTop (mkF m 147 #[.val (.int p0), .val (.int p1), .val (.int p2), .val (.int ((p0 &&& (2147483647 : Int32)) % (8 : Int32))), .val (.ref a_SASL_AUTHENTICATE), .val (.int (2 : Int32)), .val (.int p1), .unset] [(.int (2 : Int32)), (.int ((p2 >>> ((1 : Int32) &&& 31)) &&& (3 : Int32))), (.int (2 : Int32))]))
            refine own_F.of (fun _ => XS.isub S56.here S56.hx rfl (S56.dec at_147) rfl) ?_
            show own_F p e below s Z _ _ _ _ _ (T56.setTop (mkF m 148 #[.val (.int p0), .val (.int p1), .val (.int p2), .val (.int ((p0 &&& (2147483647 : Int32)) % (8 : Int32))), .val (.ref a_SASL_AUTHENTICATE), .val (.int (2 : Int32)), .val (.int p1), .unset] [(.int (((p2 >>> ((1 : Int32) &&& 31)) &&& (3 : Int32)) - (2 : Int32))), (.int (2 : Int32))]))
            refine own_F.of (fun _ => XS.iadd S56.here S56.hx rfl (S56.dec at_148) rfl) ?_
            show own_F p e below s Z _ _ _ _ _ (T56.setTop (mkF m 149 #[.val (.int p0), .val (.int p1), .val (.int p2), .val (.int ((p0 &&& (2147483647 : Int32)) % (8 : Int32))), .val (.ref a_SASL_AUTHENTICATE), .val (.int (2 : Int32)), .val (.int p1), .unset] [(.int ((2 : Int32) + (((p2 >>> ((1 : Int32) &&& 31)) &&& (3 : Int32)) - (2 : Int32))))]))
            refine own_F.of (fun _ => XS.istore S56.here S56.hx rfl (S56.dec at_149) rfl (l' := #[.val (.int p0), .val (.int p1), .val (.int p2), .val (.int ((p0 &&& (2147483647 : Int32)) % (8 : Int32))), .val (.ref a_SASL_AUTHENTICATE), .val (.int (2 : Int32)), .val (.int ((2 : Int32) + (((p2 >>> ((1 : Int32) &&& 31)) &&& (3 : Int32)) - (2 : Int32)))), .unset]) rfl) ?_
            show own_F p e below s Z _ _ _ _ _ (T56.setTop (mkF m 151 #[.val (.int p0), .val (.int p1), .val (.int p2), .val (.int ((p0 &&& (2147483647 : Int32)) % (8 : Int32))), .val (.ref a_SASL_AUTHENTICATE), .val (.int (2 : Int32)), .val (.int ((2 : Int32) + (((p2 >>> ((1 : Int32) &&& 31)) &&& (3 : Int32)) - (2 : Int32)))), .unset] []))
            refine own_F.of (fun _ => XS.iload S56.here S56.hx rfl (S56.dec at_151) rfl) ?_
            show own_F p e below s Z _ _ _ _ _ (T56.setTop (mkF m 153 #[.val (.int p0), .val (.int p1), .val (.int p2), .val (.int ((p0 &&& (2147483647 : Int32)) % (8 : Int32))), .val (.ref a_SASL_AUTHENTICATE), .val (.int (2 : Int32)), .val (.int ((2 : Int32) + (((p2 >>> ((1 : Int32) &&& 31)) &&& (3 : Int32)) - (2 : Int32)))), .unset] [(.int ((2 : Int32) + (((p2 >>> ((1 : Int32) &&& 31)) &&& (3 : Int32)) - (2 : Int32))))]))
            refine own_F.of (fun _ => XS.iload S56.here S56.hx rfl (S56.dec at_153) rfl) ?_
            show own_F p e below s Z _ _ _ _ _ (T56.setTop (mkF m 155 #[.val (.int p0), .val (.int p1), .val (.int p2), .val (.int ((p0 &&& (2147483647 : Int32)) % (8 : Int32))), .val (.ref a_SASL_AUTHENTICATE), .val (.int (2 : Int32)), .val (.int ((2 : Int32) + (((p2 >>> ((1 : Int32) &&& 31)) &&& (3 : Int32)) - (2 : Int32)))), .unset] [(.int (2 : Int32)), (.int ((2 : Int32) + (((p2 >>> ((1 : Int32) &&& 31)) &&& (3 : Int32)) - (2 : Int32))))]))
            refine own_icmp S56 162 at_155 (by decide) (by decide) (fun (hc155_63 : ((2 : Int32) + (((p2 >>> ((1 : Int32) &&& 31)) &&& (3 : Int32)) - (2 : Int32))) < (2 : Int32)) => ?_) (fun (hc155_63 : ¬ (((2 : Int32) + (((p2 >>> ((1 : Int32) &&& 31)) &&& (3 : Int32)) - (2 : Int32))) < (2 : Int32))) => ?_)
            · show own_F p e below s Z _ _ _ _ _ (T56.setTop (mkF m 162 #[.val (.int p0), .val (.int p1), .val (.int p2), .val (.int ((p0 &&& (2147483647 : Int32)) % (8 : Int32))), .val (.ref a_SASL_AUTHENTICATE), .val (.int (2 : Int32)), .val (.int ((2 : Int32) + (((p2 >>> ((1 : Int32) &&& 31)) &&& (3 : Int32)) - (2 : Int32)))), .unset] []))
              refine own_F.of (fun _ => XS.iconst S56.here S56.hx rfl (S56.dec at_162)) ?_
              show own_F p e below s Z _ _ _ _ _ (T56.setTop (mkF m 163 #[.val (.int p0), .val (.int p1), .val (.int p2), .val (.int ((p0 &&& (2147483647 : Int32)) % (8 : Int32))), .val (.ref a_SASL_AUTHENTICATE), .val (.int (2 : Int32)), .val (.int ((2 : Int32) + (((p2 >>> ((1 : Int32) &&& 31)) &&& (3 : Int32)) - (2 : Int32)))), .unset] [(.int (0 : Int32))]))
              refine own_F.of (fun _ => XS.istore S56.here S56.hx rfl (S56.dec at_163) rfl (l' := #[.val (.int p0), .val (.int p1), .val (.int p2), .val (.int ((p0 &&& (2147483647 : Int32)) % (8 : Int32))), .val (.ref a_SASL_AUTHENTICATE), .val (.int (2 : Int32)), .val (.int ((2 : Int32) + (((p2 >>> ((1 : Int32) &&& 31)) &&& (3 : Int32)) - (2 : Int32)))), .val (.int (0 : Int32))]) rfl) ?_
              show own_F p e below s Z _ _ _ _ _ (T56.setTop (mkF m 165 #[.val (.int p0), .val (.int p1), .val (.int p2), .val (.int ((p0 &&& (2147483647 : Int32)) % (8 : Int32))), .val (.ref a_SASL_AUTHENTICATE), .val (.int (2 : Int32)), .val (.int ((2 : Int32) + (((p2 >>> ((1 : Int32) &&& 31)) &&& (3 : Int32)) - (2 : Int32)))), .val (.int (0 : Int32))] []))
              refine own_F.of (fun _ => XS.aload S56.here S56.hx rfl (S56.dec at_165) rfl rfl) ?_
              show own_F p e below s Z _ _ _ _ _ (T56.setTop (mkF m 167 #[.val (.int p0), .val (.int p1), .val (.int p2), .val (.int ((p0 &&& (2147483647 : Int32)) % (8 : Int32))), .val (.ref a_SASL_AUTHENTICATE), .val (.int (2 : Int32)), .val (.int ((2 : Int32) + (((p2 >>> ((1 : Int32) &&& 31)) &&& (3 : Int32)) - (2 : Int32)))), .val (.int (0 : Int32))] [(.ref a_SASL_AUTHENTICATE)]))
              refine own_F.of (fun _ => XS.iload S56.here S56.hx rfl (S56.dec at_167) rfl) ?_
              show own_F p e below s Z _ _ _ _ _ (T56.setTop (mkF m 169 #[.val (.int p0), .val (.int p1), .val (.int p2), .val (.int ((p0 &&& (2147483647 : Int32)) % (8 : Int32))), .val (.ref a_SASL_AUTHENTICATE), .val (.int (2 : Int32)), .val (.int ((2 : Int32) + (((p2 >>> ((1 : Int32) &&& 31)) &&& (3 : Int32)) - (2 : Int32)))), .val (.int (0 : Int32))] [(.int ((2 : Int32) + (((p2 >>> ((1 : Int32) &&& 31)) &&& (3 : Int32)) - (2 : Int32)))), (.ref a_SASL_AUTHENTICATE)]))
              refine own_callV S56 (y := (⟨"com/example/lanyard/lanyard/protocol/ApiKey", "isFlexible", "(I)Z"⟩ : MethodName)) (y' := (⟨"com/example/lanyard/lanyard/protocol/ApiKey", "isFlexible", "(I)Z"⟩ : MethodName)) (own_w hw 4 rfl) (own_w hw 5 rfl) (own_nf S56 (own_w hw 7 rfl)) (own_w hw 7 rfl) (own_w hw 6 rfl) (own_w hw 8 rfl) (own_w hw 2 rfl) (by decide) (X_SASL_AUTHENTICATE.ext S56.old) (argsL := [(.int ((2 : Int32) + (((p2 >>> ((1 : Int32) &&& 31)) &&& (3 : Int32)) - (2 : Int32))))]) (rest := []) (own_flex l Z a0 hw a_SASL_AUTHENTICATE ((2 : Int32) + (((p2 >>> ((1 : Int32) &&& 31)) &&& (3 : Int32)) - (2 : Int32))) (2 : Int32) h0 S56.old F_SASL_AUTHENTICATE_firstFlexibleVersion) all0 (by decide +kernel : parseMethodDescriptor "(I)Z" = some ⟨[.int], some .boolean⟩) rfl rfl rfl at_169 (by decide) (Nat.le_of_ble_eq_true rfl) (by decide) (by decide) (fun T64 h64 v64 S64 K64 q64 => ?_)
              obtain ⟨rfl, rfl⟩ := q64
              show own_F p e below s Z _ _ _ _ _ (T64.setTop (mkF m 172 #[.val (.int p0), .val (.int p1), .val (.int p2), .val (.int ((p0 &&& (2147483647 : Int32)) % (8 : Int32))), .val (.ref a_SASL_AUTHENTICATE), .val (.int (2 : Int32)), .val (.int ((2 : Int32) + (((p2 >>> ((1 : Int32) &&& 31)) &&& (3 : Int32)) - (2 : Int32)))), .val (.int (0 : Int32))] [(.int (own_fx ((2 : Int32) + (((p2 >>> ((1 : Int32) &&& 31)) &&& (3 : Int32)) - (2 : Int32))) (2 : Int32)))]))
              refine own_F.of (fun _ => XS.iload S64.here S64.hx rfl (S64.dec at_172) rfl) ?_
              show own_F p e below s Z _ _ _ _ _ (T64.setTop (mkF m 174 #[.val (.int p0), .val (.int p1), .val (.int p2), .val (.int ((p0 &&& (2147483647 : Int32)) % (8 : Int32))), .val (.ref a_SASL_AUTHENTICATE), .val (.int (2 : Int32)), .val (.int ((2 : Int32) + (((p2 >>> ((1 : Int32) &&& 31)) &&& (3 : Int32)) - (2 : Int32)))), .val (.int (0 : Int32))] [(.int (0 : Int32)), (.int (own_fx ((2 : Int32) + (((p2 >>> ((1 : Int32) &&& 31)) &&& (3 : Int32)) - (2 : Int32))) (2 : Int32)))]))
              refine own_icmp S64 181 at_174 (by decide) (by decide) (fun (hc174_65 : ¬ ((own_fx ((2 : Int32) + (((p2 >>> ((1 : Int32) &&& 31)) &&& (3 : Int32)) - (2 : Int32))) (2 : Int32)) = (0 : Int32))) => False.elim (hc174_65 (by simp [own_fx, hc155_63]))) (fun (hc174_65 : (own_fx ((2 : Int32) + (((p2 >>> ((1 : Int32) &&& 31)) &&& (3 : Int32)) - (2 : Int32))) (2 : Int32)) = (0 : Int32)) => ?_)
              show own_F p e below s Z _ _ _ _ _ (T64.setTop (mkF m 177 #[.val (.int p0), .val (.int p1), .val (.int p2), .val (.int ((p0 &&& (2147483647 : Int32)) % (8 : Int32))), .val (.ref a_SASL_AUTHENTICATE), .val (.int (2 : Int32)), .val (.int ((2 : Int32) + (((p2 >>> ((1 : Int32) &&& 31)) &&& (3 : Int32)) - (2 : Int32)))), .val (.int (0 : Int32))] []))
              refine own_F.of (fun _ => XS.iconst S64.here S64.hx rfl (S64.dec at_177)) ?_
              show own_F p e below s Z _ _ _ _ _ (T64.setTop (mkF m 178 #[.val (.int p0), .val (.int p1), .val (.int p2), .val (.int ((p0 &&& (2147483647 : Int32)) % (8 : Int32))), .val (.ref a_SASL_AUTHENTICATE), .val (.int (2 : Int32)), .val (.int ((2 : Int32) + (((p2 >>> ((1 : Int32) &&& 31)) &&& (3 : Int32)) - (2 : Int32)))), .val (.int (0 : Int32))] [(.int (1 : Int32))]))
              refine own_F.of (fun _ => XS.goto S64.here S64.hx rfl (pc0 := 178) (pc' := 182) rfl (S64.dec at_178) (by decide) (by decide)) ?_
              show own_F p e below s Z _ _ _ _ _ (T64.setTop (mkF m 182 #[.val (.int p0), .val (.int p1), .val (.int p2), .val (.int ((p0 &&& (2147483647 : Int32)) % (8 : Int32))), .val (.ref a_SASL_AUTHENTICATE), .val (.int (2 : Int32)), .val (.int ((2 : Int32) + (((p2 >>> ((1 : Int32) &&& 31)) &&& (3 : Int32)) - (2 : Int32)))), .val (.int (0 : Int32))] [(.int (1 : Int32))]))
              refine own_retZ S64 (by simp) at_182 (by decide) (by decide) ?_
              rfl
            · show own_F p e below s Z _ _ _ _ _ (T56.setTop (mkF m 158 #[.val (.int p0), .val (.int p1), .val (.int p2), .val (.int ((p0 &&& (2147483647 : Int32)) % (8 : Int32))), .val (.ref a_SASL_AUTHENTICATE), .val (.int (2 : Int32)), .val (.int ((2 : Int32) + (((p2 >>> ((1 : Int32) &&& 31)) &&& (3 : Int32)) - (2 : Int32)))), .unset] []))
              refine own_F.of (fun _ => XS.iconst S56.here S56.hx rfl (S56.dec at_158)) ?_
              show own_F p e below s Z _ _ _ _ _ (T56.setTop (mkF m 159 #[.val (.int p0), .val (.int p1), .val (.int p2), .val (.int ((p0 &&& (2147483647 : Int32)) % (8 : Int32))), .val (.ref a_SASL_AUTHENTICATE), .val (.int (2 : Int32)), .val (.int ((2 : Int32) + (((p2 >>> ((1 : Int32) &&& 31)) &&& (3 : Int32)) - (2 : Int32)))), .unset] [(.int (1 : Int32))]))
              refine own_F.of (fun _ => XS.goto S56.here S56.hx rfl (pc0 := 159) (pc' := 163) rfl (S56.dec at_159) (by decide) (by decide)) ?_
              show own_F p e below s Z _ _ _ _ _ (T56.setTop (mkF m 163 #[.val (.int p0), .val (.int p1), .val (.int p2), .val (.int ((p0 &&& (2147483647 : Int32)) % (8 : Int32))), .val (.ref a_SASL_AUTHENTICATE), .val (.int (2 : Int32)), .val (.int ((2 : Int32) + (((p2 >>> ((1 : Int32) &&& 31)) &&& (3 : Int32)) - (2 : Int32)))), .unset] [(.int (1 : Int32))]))
              refine own_F.of (fun _ => XS.istore S56.here S56.hx rfl (S56.dec at_163) rfl (l' := #[.val (.int p0), .val (.int p1), .val (.int p2), .val (.int ((p0 &&& (2147483647 : Int32)) % (8 : Int32))), .val (.ref a_SASL_AUTHENTICATE), .val (.int (2 : Int32)), .val (.int ((2 : Int32) + (((p2 >>> ((1 : Int32) &&& 31)) &&& (3 : Int32)) - (2 : Int32)))), .val (.int (1 : Int32))]) rfl) ?_
              show own_F p e below s Z _ _ _ _ _ (T56.setTop (mkF m 165 #[.val (.int p0), .val (.int p1), .val (.int p2), .val (.int ((p0 &&& (2147483647 : Int32)) % (8 : Int32))), .val (.ref a_SASL_AUTHENTICATE), .val (.int (2 : Int32)), .val (.int ((2 : Int32) + (((p2 >>> ((1 : Int32) &&& 31)) &&& (3 : Int32)) - (2 : Int32)))), .val (.int (1 : Int32))] []))
              refine own_F.of (fun _ => XS.aload S56.here S56.hx rfl (S56.dec at_165) rfl rfl) ?_
              show own_F p e below s Z _ _ _ _ _ (T56.setTop (mkF m 167 #[.val (.int p0), .val (.int p1), .val (.int p2), .val (.int ((p0 &&& (2147483647 : Int32)) % (8 : Int32))), .val (.ref a_SASL_AUTHENTICATE), .val (.int (2 : Int32)), .val (.int ((2 : Int32) + (((p2 >>> ((1 : Int32) &&& 31)) &&& (3 : Int32)) - (2 : Int32)))), .val (.int (1 : Int32))] [(.ref a_SASL_AUTHENTICATE)]))
              refine own_F.of (fun _ => XS.iload S56.here S56.hx rfl (S56.dec at_167) rfl) ?_
              show own_F p e below s Z _ _ _ _ _ (T56.setTop (mkF m 169 #[.val (.int p0), .val (.int p1), .val (.int p2), .val (.int ((p0 &&& (2147483647 : Int32)) % (8 : Int32))), .val (.ref a_SASL_AUTHENTICATE), .val (.int (2 : Int32)), .val (.int ((2 : Int32) + (((p2 >>> ((1 : Int32) &&& 31)) &&& (3 : Int32)) - (2 : Int32)))), .val (.int (1 : Int32))] [(.int ((2 : Int32) + (((p2 >>> ((1 : Int32) &&& 31)) &&& (3 : Int32)) - (2 : Int32)))), (.ref a_SASL_AUTHENTICATE)]))
              refine own_callV S56 (y := (⟨"com/example/lanyard/lanyard/protocol/ApiKey", "isFlexible", "(I)Z"⟩ : MethodName)) (y' := (⟨"com/example/lanyard/lanyard/protocol/ApiKey", "isFlexible", "(I)Z"⟩ : MethodName)) (own_w hw 4 rfl) (own_w hw 5 rfl) (own_nf S56 (own_w hw 7 rfl)) (own_w hw 7 rfl) (own_w hw 6 rfl) (own_w hw 8 rfl) (own_w hw 2 rfl) (by decide) (X_SASL_AUTHENTICATE.ext S56.old) (argsL := [(.int ((2 : Int32) + (((p2 >>> ((1 : Int32) &&& 31)) &&& (3 : Int32)) - (2 : Int32))))]) (rest := []) (own_flex l Z a0 hw a_SASL_AUTHENTICATE ((2 : Int32) + (((p2 >>> ((1 : Int32) &&& 31)) &&& (3 : Int32)) - (2 : Int32))) (2 : Int32) h0 S56.old F_SASL_AUTHENTICATE_firstFlexibleVersion) all0 (by decide +kernel : parseMethodDescriptor "(I)Z" = some ⟨[.int], some .boolean⟩) rfl rfl rfl at_169 (by decide) (Nat.le_of_ble_eq_true rfl) (by decide) (by decide) (fun T66 h66 v66 S66 K66 q66 => ?_)
              obtain ⟨rfl, rfl⟩ := q66
              show own_F p e below s Z _ _ _ _ _ (T66.setTop (mkF m 172 #[.val (.int p0), .val (.int p1), .val (.int p2), .val (.int ((p0 &&& (2147483647 : Int32)) % (8 : Int32))), .val (.ref a_SASL_AUTHENTICATE), .val (.int (2 : Int32)), .val (.int ((2 : Int32) + (((p2 >>> ((1 : Int32) &&& 31)) &&& (3 : Int32)) - (2 : Int32)))), .val (.int (1 : Int32))] [(.int (own_fx ((2 : Int32) + (((p2 >>> ((1 : Int32) &&& 31)) &&& (3 : Int32)) - (2 : Int32))) (2 : Int32)))]))
              refine own_F.of (fun _ => XS.iload S66.here S66.hx rfl (S66.dec at_172) rfl) ?_
              show own_F p e below s Z _ _ _ _ _ (T66.setTop (mkF m 174 #[.val (.int p0), .val (.int p1), .val (.int p2), .val (.int ((p0 &&& (2147483647 : Int32)) % (8 : Int32))), .val (.ref a_SASL_AUTHENTICATE), .val (.int (2 : Int32)), .val (.int ((2 : Int32) + (((p2 >>> ((1 : Int32) &&& 31)) &&& (3 : Int32)) - (2 : Int32)))), .val (.int (1 : Int32))] [(.int (1 : Int32)), (.int (own_fx ((2 : Int32) + (((p2 >>> ((1 : Int32) &&& 31)) &&& (3 : Int32)) - (2 : Int32))) (2 : Int32)))]))
              refine own_icmp S66 181 at_174 (by decide) (by decide) (fun (hc174_67 : ¬ ((own_fx ((2 : Int32) + (((p2 >>> ((1 : Int32) &&& 31)) &&& (3 : Int32)) - (2 : Int32))) (2 : Int32)) = (1 : Int32))) => False.elim (hc174_67 (by simp [own_fx, hc155_63]))) (fun (hc174_67 : (own_fx ((2 : Int32) + (((p2 >>> ((1 : Int32) &&& 31)) &&& (3 : Int32)) - (2 : Int32))) (2 : Int32)) = (1 : Int32)) => ?_)
              show own_F p e below s Z _ _ _ _ _ (T66.setTop (mkF m 177 #[.val (.int p0), .val (.int p1), .val (.int p2), .val (.int ((p0 &&& (2147483647 : Int32)) % (8 : Int32))), .val (.ref a_SASL_AUTHENTICATE), .val (.int (2 : Int32)), .val (.int ((2 : Int32) + (((p2 >>> ((1 : Int32) &&& 31)) &&& (3 : Int32)) - (2 : Int32)))), .val (.int (1 : Int32))] []))
              refine own_F.of (fun _ => XS.iconst S66.here S66.hx rfl (S66.dec at_177)) ?_
              show own_F p e below s Z _ _ _ _ _ (T66.setTop (mkF m 178 #[.val (.int p0), .val (.int p1), .val (.int p2), .val (.int ((p0 &&& (2147483647 : Int32)) % (8 : Int32))), .val (.ref a_SASL_AUTHENTICATE), .val (.int (2 : Int32)), .val (.int ((2 : Int32) + (((p2 >>> ((1 : Int32) &&& 31)) &&& (3 : Int32)) - (2 : Int32)))), .val (.int (1 : Int32))] [(.int (1 : Int32))]))
              refine own_F.of (fun _ => XS.goto S66.here S66.hx rfl (pc0 := 178) (pc' := 182) rfl (S66.dec at_178) (by decide) (by decide)) ?_
              show own_F p e below s Z _ _ _ _ _ (T66.setTop (mkF m 182 #[.val (.int p0), .val (.int p1), .val (.int p2), .val (.int ((p0 &&& (2147483647 : Int32)) % (8 : Int32))), .val (.ref a_SASL_AUTHENTICATE), .val (.int (2 : Int32)), .val (.int ((2 : Int32) + (((p2 >>> ((1 : Int32) &&& 31)) &&& (3 : Int32)) - (2 : Int32)))), .val (.int (1 : Int32))] [(.int (1 : Int32))]))
              refine own_retZ S66 (by simp) at_182 (by decide) (by decide) ?_
              rfl
      · show own_F p e below s Z _ _ _ _ _ (T0.setTop (mkF m 46 #[.val (.int p0), .val (.int p1), .val (.int p2), .val (.int ((p0 &&& (2147483647 : Int32)) % (8 : Int32))), .unset, .unset, .unset, .unset] []))
        refine own_getS S0 (host := "") (Or.inl (own_w hw 17 rfl)) Via.refl (S_API_VERSIONS.ext S0.old) at_46 (fun T68 S68 => ?_)
        show own_F p e below s Z _ _ _ _ _ (T68.setTop (mkF m 49 #[.val (.int p0), .val (.int p1), .val (.int p2), .val (.int ((p0 &&& (2147483647 : Int32)) % (8 : Int32))), .unset, .unset, .unset, .unset] [(.ref a_API_VERSIONS)]))
        refine own_F.of (fun _ => XS.astore S68.here S68.hx rfl (S68.dec at_49) rfl rfl (l' := #[.val (.int p0), .val (.int p1), .val (.int p2), .val (.int ((p0 &&& (2147483647 : Int32)) % (8 : Int32))), .val (.ref a_API_VERSIONS), .unset, .unset, .unset]) rfl) ?_
        show own_F p e below s Z _ _ _ _ _ (T68.setTop (mkF m 51 #[.val (.int p0), .val (.int p1), .val (.int p2), .val (.int ((p0 &&& (2147483647 : Int32)) % (8 : Int32))), .val (.ref a_API_VERSIONS), .unset, .unset, .unset] []))
        refine own_F.of (fun _ => XS.iconst S68.here S68.hx rfl (S68.dec at_51)) ?_
        show own_F p e below s Z _ _ _ _ _ (T68.setTop (mkF m 52 #[.val (.int p0), .val (.int p1), .val (.int p2), .val (.int ((p0 &&& (2147483647 : Int32)) % (8 : Int32))), .val (.ref a_API_VERSIONS), .unset, .unset, .unset] [(.int (3 : Int32))]))
        refine own_F.of (fun _ => XS.istore S68.here S68.hx rfl (S68.dec at_52) rfl (l' := #[.val (.int p0), .val (.int p1), .val (.int p2), .val (.int ((p0 &&& (2147483647 : Int32)) % (8 : Int32))), .val (.ref a_API_VERSIONS), .val (.int (3 : Int32)), .unset, .unset]) rfl) ?_
        show own_F p e below s Z _ _ _ _ _ (T68.setTop (mkF m 54 #[.val (.int p0), .val (.int p1), .val (.int p2), .val (.int ((p0 &&& (2147483647 : Int32)) % (8 : Int32))), .val (.ref a_API_VERSIONS), .val (.int (3 : Int32)), .unset, .unset] []))
        refine own_F.of (fun _ => XS.goto S68.here S68.hx rfl (pc0 := 54) (pc' := 130) rfl (S68.dec at_54) (by decide) (by decide)) ?_
        show own_F p e below s Z _ _ _ _ _ (T68.setTop (mkF m 130 #[.val (.int p0), .val (.int p1), .val (.int p2), .val (.int ((p0 &&& (2147483647 : Int32)) % (8 : Int32))), .val (.ref a_API_VERSIONS), .val (.int (3 : Int32)), .unset, .unset] []))
        refine own_F.of (fun _ => XS.iloadN S68.here S68.hx rfl (S68.dec at_130) rfl) ?_
        show own_F p e below s Z _ _ _ _ _ (T68.setTop (mkF m 131 #[.val (.int p0), .val (.int p1), .val (.int p2), .val (.int ((p0 &&& (2147483647 : Int32)) % (8 : Int32))), .val (.ref a_API_VERSIONS), .val (.int (3 : Int32)), .unset, .unset] [(.int p1)]))
        refine own_F.of (fun _ => XS.istore S68.here S68.hx rfl (S68.dec at_131) rfl (l' := #[.val (.int p0), .val (.int p1), .val (.int p2), .val (.int ((p0 &&& (2147483647 : Int32)) % (8 : Int32))), .val (.ref a_API_VERSIONS), .val (.int (3 : Int32)), .val (.int p1), .unset]) rfl) ?_
        show own_F p e below s Z _ _ _ _ _ (T68.setTop (mkF m 133 #[.val (.int p0), .val (.int p1), .val (.int p2), .val (.int ((p0 &&& (2147483647 : Int32)) % (8 : Int32))), .val (.ref a_API_VERSIONS), .val (.int (3 : Int32)), .val (.int p1), .unset] []))
        refine own_F.of (fun _ => XS.iloadN S68.here S68.hx rfl (S68.dec at_133) rfl) ?_
        show own_F p e below s Z _ _ _ _ _ (T68.setTop (mkF m 134 #[.val (.int p0), .val (.int p1), .val (.int p2), .val (.int ((p0 &&& (2147483647 : Int32)) % (8 : Int32))), .val (.ref a_API_VERSIONS), .val (.int (3 : Int32)), .val (.int p1), .unset] [(.int p2)]))
        refine own_F.of (fun _ => XS.iconst S68.here S68.hx rfl (S68.dec at_134)) ?_
        show own_F p e below s Z _ _ _ _ _ (T68.setTop (mkF m 135 #[.val (.int p0), .val (.int p1), .val (.int p2), .val (.int ((p0 &&& (2147483647 : Int32)) % (8 : Int32))), .val (.ref a_API_VERSIONS), .val (.int (3 : Int32)), .val (.int p1), .unset] [(.int (1 : Int32)), (.int p2)]))
        refine own_F.of (fun _ => XS.iand S68.here S68.hx rfl (S68.dec at_135) rfl) ?_
        show own_F p e below s Z _ _ _ _ _ (T68.setTop (mkF m 136 #[.val (.int p0), .val (.int p1), .val (.int p2), .val (.int ((p0 &&& (2147483647 : Int32)) % (8 : Int32))), .val (.ref a_API_VERSIONS), .val (.int (3 : Int32)), .val (.int p1), .unset] [(.int (p2 &&& (1 : Int32)))]))
        refine own_if S68 151 at_136 (by decide) (by decide) (fun (hc136_69 : (p2 &&& (1 : Int32)) = (0 : Int32)) => ?_) (fun (hc136_69 : ¬ ((p2 &&& (1 : Int32)) = (0 : Int32))) => ?_)
        · show own_F p e below s Z _ _ _ _ _ (T68.setTop (mkF m 151 #[.val (.int p0), .val (.int p1), .val (.int p2), .val (.int ((p0 &&& (2147483647 : Int32)) % (8 : Int32))), .val (.ref a_API_VERSIONS), .val (.int (3 : Int32)), .val (.int p1), .unset] []))
          refine own_F.of (fun _ => XS.iload S68.here S68.hx rfl (S68.dec at_151) rfl) ?_
          show own_F p e below s Z _ _ _ _ _ (T68.setTop (mkF m 153 #[.val (.int p0), .val (.int p1), .val (.int p2), .val (.int ((p0 &&& (2147483647 : Int32)) % (8 : Int32))), .val (.ref a_API_VERSIONS), .val (.int (3 : Int32)), .val (.int p1), .unset] [(.int p1)]))
          refine own_F.of (fun _ => XS.iload S68.here S68.hx rfl (S68.dec at_153) rfl) ?_
          show own_F p e below s Z _ _ _ _ _ (T68.setTop (mkF m 155 #[.val (.int p0), .val (.int p1), .val (.int p2), .val (.int ((p0 &&& (2147483647 : Int32)) % (8 : Int32))), .val (.ref a_API_VERSIONS), .val (.int (3 : Int32)), .val (.int p1), .unset] [(.int (3 : Int32)), (.int p1)]))
          refine own_icmp S68 162 at_155 (by decide) (by decide) (fun (hc155_70 : p1 < (3 : Int32)) => ?_) (fun (hc155_70 : ¬ (p1 < (3 : Int32))) => ?_)
          · show own_F p e below s Z _ _ _ _ _ (T68.setTop (mkF m 162 #[.val (.int p0), .val (.int p1), .val (.int p2), .val (.int ((p0 &&& (2147483647 : Int32)) % (8 : Int32))), .val (.ref a_API_VERSIONS), .val (.int (3 : Int32)), .val (.int p1), .unset] []))
            refine own_F.of (fun _ => XS.iconst S68.here S68.hx rfl (S68.dec at_162)) ?_
            show own_F p e below s Z _ _ _ _ _ (T68.setTop (mkF m 163 #[.val (.int p0), .val (.int p1), .val (.int p2), .val (.int ((p0 &&& (2147483647 : Int32)) % (8 : Int32))), .val (.ref a_API_VERSIONS), .val (.int (3 : Int32)), .val (.int p1), .unset] [(.int (0 : Int32))]))
            refine own_F.of (fun _ => XS.istore S68.here S68.hx rfl (S68.dec at_163) rfl (l' := #[.val (.int p0), .val (.int p1), .val (.int p2), .val (.int ((p0 &&& (2147483647 : Int32)) % (8 : Int32))), .val (.ref a_API_VERSIONS), .val (.int (3 : Int32)), .val (.int p1), .val (.int (0 : Int32))]) rfl) ?_
            show own_F p e below s Z _ _ _ _ _ (T68.setTop (mkF m 165 #[.val (.int p0), .val (.int p1), .val (.int p2), .val (.int ((p0 &&& (2147483647 : Int32)) % (8 : Int32))), .val (.ref a_API_VERSIONS), .val (.int (3 : Int32)), .val (.int p1), .val (.int (0 : Int32))] []))
            refine own_F.of (fun _ => XS.aload S68.here S68.hx rfl (S68.dec at_165) rfl rfl) ?_
            show own_F p e below s Z _ _ _ _ _ (T68.setTop (mkF m 167 #[.val (.int p0), .val (.int p1), .val (.int p2), .val (.int ((p0 &&& (2147483647 : Int32)) % (8 : Int32))), .val (.ref a_API_VERSIONS), .val (.int (3 : Int32)), .val (.int p1), .val (.int (0 : Int32))] [(.ref a_API_VERSIONS)]))
            refine own_F.of (fun _ => XS.iload S68.here S68.hx rfl (S68.dec at_167) rfl) ?_
            show own_F p e below s Z _ _ _ _ _ (T68.setTop (mkF m 169 #[.val (.int p0), .val (.int p1), .val (.int p2), .val (.int ((p0 &&& (2147483647 : Int32)) % (8 : Int32))), .val (.ref a_API_VERSIONS), .val (.int (3 : Int32)), .val (.int p1), .val (.int (0 : Int32))] [(.int p1), (.ref a_API_VERSIONS)]))
            refine own_callV S68 (y := (⟨"com/example/lanyard/lanyard/protocol/ApiKey", "isFlexible", "(I)Z"⟩ : MethodName)) (y' := (⟨"com/example/lanyard/lanyard/protocol/ApiKey", "isFlexible", "(I)Z"⟩ : MethodName)) (own_w hw 4 rfl) (own_w hw 5 rfl) (own_nf S68 (own_w hw 7 rfl)) (own_w hw 7 rfl) (own_w hw 6 rfl) (own_w hw 8 rfl) (own_w hw 2 rfl) (by decide) (X_API_VERSIONS.ext S68.old) (argsL := [(.int p1)]) (rest := []) (own_flex l Z a0 hw a_API_VERSIONS p1 (3 : Int32) h0 S68.old F_API_VERSIONS_firstFlexibleVersion) all0 (by decide +kernel : parseMethodDescriptor "(I)Z" = some ⟨[.int], some .boolean⟩) rfl rfl rfl at_169 (by decide) (Nat.le_of_ble_eq_true rfl) (by decide) (by decide) (fun T71 h71 v71 S71 K71 q71 => ?_)
            obtain ⟨rfl, rfl⟩ := q71
            show own_F p e below s Z _ _ _ _ _ (T71.setTop (mkF m 172 #[.val (.int p0), .val (.int p1), .val (.int p2), .val (.int ((p0 &&& (2147483647 : Int32)) % (8 : Int32))), .val (.ref a_API_VERSIONS), .val (.int (3 : Int32)), .val (.int p1), .val (.int (0 : Int32))] [(.int (own_fx p1 (3 : Int32)))]))
            refine own_F.of (fun _ => XS.iload S71.here S71.hx rfl (S71.dec at_172) rfl) ?_
            show own_F p e below s Z _ _ _ _ _ (T71.setTop (mkF m 174 #[.val (.int p0), .val (.int p1), .val (.int p2), .val (.int ((p0 &&& (2147483647 : Int32)) % (8 : Int32))), .val (.ref a_API_VERSIONS), .val (.int (3 : Int32)), .val (.int p1), .val (.int (0 : Int32))] [(.int (0 : Int32)), (.int (own_fx p1 (3 : Int32)))]))
            refine own_icmp S71 181 at_174 (by decide) (by decide) (fun (hc174_72 : ¬ ((own_fx p1 (3 : Int32)) = (0 : Int32))) => False.elim (hc174_72 (by simp [own_fx, hc155_70]))) (fun (hc174_72 : (own_fx p1 (3 : Int32)) = (0 : Int32)) => ?_)
            show own_F p e below s Z _ _ _ _ _ (T71.setTop (mkF m 177 #[.val (.int p0), .val (.int p1), .val (.int p2), .val (.int ((p0 &&& (2147483647 : Int32)) % (8 : Int32))), .val (.ref a_API_VERSIONS), .val (.int (3 : Int32)), .val (.int p1), .val (.int (0 : Int32))] []))
            refine own_F.of (fun _ => XS.iconst S71.here S71.hx rfl (S71.dec at_177)) ?_
            show own_F p e below s Z _ _ _ _ _ (T71.setTop (mkF m 178 #[.val (.int p0), .val (.int p1), .val (.int p2), .val (.int ((p0 &&& (2147483647 : Int32)) % (8 : Int32))), .val (.ref a_API_VERSIONS), .val (.int (3 : Int32)), .val (.int p1), .val (.int (0 : Int32))] [(.int (1 : Int32))]))
            refine own_F.of (fun _ => XS.goto S71.here S71.hx rfl (pc0 := 178) (pc' := 182) rfl (S71.dec at_178) (by decide) (by decide)) ?_
            show own_F p e below s Z _ _ _ _ _ (T71.setTop (mkF m 182 #[.val (.int p0), .val (.int p1), .val (.int p2), .val (.int ((p0 &&& (2147483647 : Int32)) % (8 : Int32))), .val (.ref a_API_VERSIONS), .val (.int (3 : Int32)), .val (.int p1), .val (.int (0 : Int32))] [(.int (1 : Int32))]))
            refine own_retZ S71 (by simp) at_182 (by decide) (by decide) ?_
            rfl
          · show own_F p e below s Z _ _ _ _ _ (T68.setTop (mkF m 158 #[.val (.int p0), .val (.int p1), .val (.int p2), .val (.int ((p0 &&& (2147483647 : Int32)) % (8 : Int32))), .val (.ref a_API_VERSIONS), .val (.int (3 : Int32)), .val (.int p1), .unset] []))
            refine own_F.of (fun _ => XS.iconst S68.here S68.hx rfl (S68.dec at_158)) ?_
            show own_F p e below s Z _ _ _ _ _ (T68.setTop (mkF m 159 #[.val (.int p0), .val (.int p1), .val (.int p2), .val (.int ((p0 &&& (2147483647 : Int32)) % (8 : Int32))), .val (.ref a_API_VERSIONS), .val (.int (3 : Int32)), .val (.int p1), .unset] [(.int (1 : Int32))]))
            refine own_F.of (fun _ => XS.goto S68.here S68.hx rfl (pc0 := 159) (pc' := 163) rfl (S68.dec at_159) (by decide) (by decide)) ?_
            show own_F p e below s Z _ _ _ _ _ (T68.setTop (mkF m 163 #[.val (.int p0), .val (.int p1), .val (.int p2), .val (.int ((p0 &&& (2147483647 : Int32)) % (8 : Int32))), .val (.ref a_API_VERSIONS), .val (.int (3 : Int32)), .val (.int p1), .unset] [(.int (1 : Int32))]))
            refine own_F.of (fun _ => XS.istore S68.here S68.hx rfl (S68.dec at_163) rfl (l' := #[.val (.int p0), .val (.int p1), .val (.int p2), .val (.int ((p0 &&& (2147483647 : Int32)) % (8 : Int32))), .val (.ref a_API_VERSIONS), .val (.int (3 : Int32)), .val (.int p1), .val (.int (1 : Int32))]) rfl) ?_
            show own_F p e below s Z _ _ _ _ _ (T68.setTop (mkF m 165 #[.val (.int p0), .val (.int p1), .val (.int p2), .val (.int ((p0 &&& (2147483647 : Int32)) % (8 : Int32))), .val (.ref a_API_VERSIONS), .val (.int (3 : Int32)), .val (.int p1), .val (.int (1 : Int32))] []))
            refine own_F.of (fun _ => XS.aload S68.here S68.hx rfl (S68.dec at_165) rfl rfl) ?_
            show own_F p e below s Z _ _ _ _ _ (T68.setTop (mkF m 167 #[.val (.int p0), .val (.int p1), .val (.int p2), .val (.int ((p0 &&& (2147483647 : Int32)) % (8 : Int32))), .val (.ref a_API_VERSIONS), .val (.int (3 : Int32)), .val (.int p1), .val (.int (1 : Int32))] [(.ref a_API_VERSIONS)]))
            refine own_F.of (fun _ => XS.iload S68.here S68.hx rfl (S68.dec at_167) rfl) ?_
            show own_F p e below s Z _ _ _ _ _ (T68.setTop (mkF m 169 #[.val (.int p0), .val (.int p1), .val (.int p2), .val (.int ((p0 &&& (2147483647 : Int32)) % (8 : Int32))), .val (.ref a_API_VERSIONS), .val (.int (3 : Int32)), .val (.int p1), .val (.int (1 : Int32))] [(.int p1), (.ref a_API_VERSIONS)]))
            refine own_callV S68 (y := (⟨"com/example/lanyard/lanyard/protocol/ApiKey", "isFlexible", "(I)Z"⟩ : MethodName)) (y' := (⟨"com/example/lanyard/lanyard/protocol/ApiKey", "isFlexible", "(I)Z"⟩ : MethodName)) (own_w hw 4 rfl) (own_w hw 5 rfl) (own_nf S68 (own_w hw 7 rfl)) (own_w hw 7 rfl) (own_w hw 6 rfl) (own_w hw 8 rfl) (own_w hw 2 rfl) (by decide) (X_API_VERSIONS.ext S68.old) (argsL := [(.int p1)]) (rest := []) (own_flex l Z a0 hw a_API_VERSIONS p1 (3 : Int32) h0 S68.old F_API_VERSIONS_firstFlexibleVersion) all0 (by decide +kernel : parseMethodDescriptor "(I)Z" = some ⟨[.int], some .boolean⟩) rfl rfl rfl at_169 (by decide) (Nat.le_of_ble_eq_true rfl) (by decide) (by decide) (fun T73 h73 v73 S73 K73 q73 => ?_)
            obtain ⟨rfl, rfl⟩ := q73
            show own_F p e below s Z _ _ _ _ _ (T73.setTop (mkF m 172 #[.val (.int p0), .val (.int p1), .val (.int p2), .val (.int ((p0 &&& (2147483647 : Int32)) % (8 : Int32))), .val (.ref a_API_VERSIONS), .val (.int (3 : Int32)), .val (.int p1), .val (.int (1 : Int32))] [(.int (own_fx p1 (3 : Int32)))]))
            refine own_F.of (fun _ => XS.iload S73.here S73.hx rfl (S73.dec at_172) rfl) ?_
            show own_F p e below s Z _ _ _ _ _ (T73.setTop (mkF m 174 #[.val (.int p0), .val (.int p1), .val (.int p2), .val (.int ((p0 &&& (2147483647 : Int32)) % (8 : Int32))), .val (.ref a_API_VERSIONS), .val (.int (3 : Int32)), .val (.int p1), .val (.int (1 : Int32))] [(.int (1 : Int32)), (.int (own_fx p1 (3 : Int32)))]))
            refine own_icmp S73 181 at_174 (by decide) (by decide) (fun (hc174_74 : ¬ ((own_fx p1 (3 : Int32)) = (1 : Int32))) => False.elim (hc174_74 (by simp [own_fx, hc155_70]))) (fun (hc174_74 : (own_fx p1 (3 : Int32)) = (1 : Int32)) => ?_)
            show own_F p e below s Z _ _ _ _ _ (T73.setTop (mkF m 177 #[.val (.int p0), .val (.int p1), .val (.int p2), .val (.int ((p0 &&& (2147483647 : Int32)) % (8 : Int32))), .val (.ref a_API_VERSIONS), .val (.int (3 : Int32)), .val (.int p1), .val (.int (1 : Int32))] []))
            refine own_F.of (fun _ => XS.iconst S73.here S73.hx rfl (S73.dec at_177)) ?_
            show own_F p e below s Z _ _ _ _ _ (T73.setTop (mkF m 178 #[.val (.int p0), .val (.int p1), .val (.int p2), .val (.int ((p0 &&& (2147483647 : Int32)) % (8 : Int32))), .val (.ref a_API_VERSIONS), .val (.int (3 : Int32)), .val (.int p1), .val (.int (1 : Int32))] [(.int (1 : Int32))]))
            refine own_F.of (fun _ => XS.goto S73.here S73.hx rfl (pc0 := 178) (pc' := 182) rfl (S73.dec at_178) (by decide) (by decide)) ?_
            show own_F p e below s Z _ _ _ _ _ (T73.setTop (mkF m 182 #[.val (.int p0), .val (.int p1), .val (.int p2), .val (.int ((p0 &&& (2147483647 : Int32)) % (8 : Int32))), .val (.ref a_API_VERSIONS), .val (.int (3 : Int32)), .val (.int p1), .val (.int (1 : Int32))] [(.int (1 : Int32))]))
            refine own_retZ S73 (by simp) at_182 (by decide) (by decide) ?_
            rfl
        · show own_F p e below s Z _ _ _ _ _ (T68.setTop (mkF m 139 #[.val (.int p0), .val (.int p1), .val (.int p2), .val (.int ((p0 &&& (2147483647 : Int32)) % (8 : Int32))), .val (.ref a_API_VERSIONS), .val (.int (3 : Int32)), .val (.int p1), .unset] []))
          refine own_F.of (fun _ => XS.iload S68.here S68.hx rfl (S68.dec at_139) rfl) ?_
          show own_F p e below s Z _ _ _ _ _ (T68.setTop (mkF m 141 #[.val (.int p0), .val (.int p1), .val (.int p2), .val (.int ((p0 &&& (2147483647 : Int32)) % (8 : Int32))), .val (.ref a_API_VERSIONS), .val (.int (3 : Int32)), .val (.int p1), .unset] [(.int (3 : Int32))]))
          refine own_F.of (fun _ => XS.iloadN S68.here S68.hx rfl (S68.dec at_141) rfl) ?_
          show own_F p e below s Z _ _ _ _ _ (T68.setTop (mkF m 142 #[.val (.int p0), .val (.int p1), .val (.int p2), .val (.int ((p0 &&& (2147483647 : Int32)) % (8 : Int32))), .val (.ref a_API_VERSIONS), .val (.int (3 : Int32)), .val (.int p1), .unset] [(.int p2), (.int (3 : Int32))]))
          refine own_F.of (fun _ => XS.iconst S68.here S68.hx rfl (S68.dec at_142)) ?_
          show own_F p e below s Z _ _ _ _ _ (T68.setTop (mkF m 143 #[.val (.int p0), .val (.int p1), .val (.int p2), .val (.int ((p0 &&& (2147483647 : Int32)) % (8 : Int32))), .val (.ref a_API_VERSIONS), .val (.int (3 : Int32)), .val (.int p1), .unset] [(.int (1 : Int32)), (.int p2), (.int (3 : Int32))]))
          refine own_F.of (fun _ => XS.ishr S68.here S68.hx rfl (S68.dec at_143) rfl) ?_
          show own_F p e below s Z _ _ _ _ _ (T68.setTop (mkF m 144 #[.val (.int p0), .val (.int p1), .val (.int p2), .val (.int ((p0 &&& (2147483647 : Int32)) % (8 : Int32))), .val (.ref a_API_VERSIONS), .val (.int (3 : Int32)), .val (.int p1), .unset] [(.int (p2 >>> ((1 : Int32) &&& 31))), (.int (3 : Int32))]))
          refine own_F.of (fun _ => XS.iconst S68.here S68.hx rfl (S68.dec at_144)) ?_
          show own_F p e below s Z _ _ _ _ _ (T68.setTop (mkF m 145 #[.val (.int p0), .val (.int p1), .val (.int p2), .val (.int ((p0 &&& (2147483647 : Int32)) % (8 : Int32))), .val (.ref a_API_VERSIONS), .val (.int (3 : Int32)), .val (.int p1), .unset] [(.int (3 : Int32)), (.int (p2 >>> ((1 : Int32) &&& 31))), (.int (3 : Int32))]))
          refine own_F.of (fun _ => XS.iand S68.here S68.hx rfl (S68.dec at_145) rfl) ?_
          show own_F p e below s Z _ _ _ _ _ (T68.setTop (mkF m 146 #[.val (.int p0), .val (.int p1), .val (.int p2), .val (.int ((p0 &&& (2147483647 : Int32)) % (8 : Int32))), .val (.ref a_API_VERSIONS), .val (.int (3 : Int32)), .val (.int p1), .unset] [(.int ((p2 >>> ((1 : Int32) &&& 31)) &&& (3 : Int32))), (.int (3 : Int32))]))
          refine own_F.of (fun _ => XS.iconst S68.here S68.hx rfl (S68.dec at_146)) ?_
          show own_F p e below s Z _ _ _ _ _ (T68.setTop (mkF m 147 #[.val (.int p0), .val (.int p1), .val (.int p2), .val (.int ((p0 &&& (2147483647 : Int32)) % (8 : Int32))), .val (.ref a_API_VERSIONS), .val (.int (3 : Int32)), .val (.int p1), .unset] [(.int (2 : Int32)), (.int ((p2 >>> ((1 : Int32) &&& 31)) &&& (3 : Int32))), (.int (3 : Int32))]))
          refine own_F.of (fun _ => XS.isub S68.here S68.hx rfl (S68.dec at_147) rfl) ?_
          show own_F p e below s Z _ _ _ _ _ (T68.setTop (mkF m 148 #[.val (.int p0), .val (.int p1), .val (.int p2), .val (.int ((p0 &&& (2147483647 : Int32)) % (8 : Int32))), .val (.ref a_API_VERSIONS), .val (.int (3 : Int32)), .val (.int p1), .unset] [(.int (((p2 >>> ((1 : Int32) &&& 31)) &&& (3 : Int32)) - (2 : Int32))), (.int (3 : Int32))]))
          refine own_F.of (fun _ => XS.iadd S68.here S68.hx rfl (S68.dec at_148) rfl) ?_
          show own_F p e below s Z _ _ _ _ _ (T68.setTop (mkF m 149 #[.val (.int p0), .val (.int p1), .val (.int p2), .val (.int ((p0 &&& (2147483647 : Int32)) % (8 : Int32))), .val (.ref a_API_VERSIONS), .val (.int (3 : Int32)), .val (.int p1), .unset] [(.int ((3 : Int32) + (((p2 >>> ((1 : Int32) &&& 31)) &&& (3 : Int32)) - (2 : Int32))))]))
          refine own_F.of (fun _ => XS.istore S68.here S68.hx rfl (S68.dec at_149) rfl (l' := #[.val (.int p0), .val (.int p1), .val (.int p2), .val (.int ((p0 &&& (2147483647 : Int32)) % (8 : Int32))), .val (.ref a_API_VERSIONS), .val (.int (3 : Int32)), .val (.int ((3 : Int32) + (((p2 >>> ((1 : Int32) &&& 31)) &&& (3 : Int32)) - (2 : Int32)))), .unset]) rfl) ?_
          show own_F p e below s Z _ _ _ _ _ (T68.setTop (mkF m 151 #[.val (.int p0), .val (.int p1), .val (.int p2), .val (.int ((p0 &&& (2147483647 : Int32)) % (8 : Int32))), .val (.ref a_API_VERSIONS), .val (.int (3 : Int32)), .val (.int ((3 : Int32) + (((p2 >>> ((1 : Int32) &&& 31)) &&& (3 : Int32)) - (2 : Int32)))), .unset] []))
          refine own_F.of (fun _ => XS.iload S68.here S68.hx rfl (S68.dec at_151) rfl) ?_
          show own_F p e below s Z _ _ _ _ _ (T68.setTop (mkF m 153 #[.val (.int p0), .val (.int p1), .val (.int p2), .val (.int ((p0 &&& (2147483647 : Int32)) % (8 : Int32))), .val (.ref a_API_VERSIONS), .val (.int (3 : Int32)), .val (.int ((3 : Int32) + (((p2 >>> ((1 : Int32) &&& 31)) &&& (3 : Int32)) - (2 : Int32)))), .unset] [(.int ((3 : Int32) + (((p2 >>> ((1 : Int32) &&& 31)) &&& (3 : Int32)) - (2 : Int32))))]))
          refine own_F.of (fun _ => XS.iload S68.here S68.hx rfl (S68.dec at_153) rfl) ?_
          show own_F p e below s Z _ _ _ _ _ (T68.setTop (mkF m 155 #[.val (.int p0), .val (.int p1), .val (.int p2), .val (.int ((p0 &&& (2147483647 : Int32)) % (8 : Int32))), .val (.ref a_API_VERSIONS), .val (.int (3 : Int32)), .val (.int ((3 : Int32) + (((p2 >>> ((1 : Int32) &&& 31)) &&& (3 : Int32)) - (2 : Int32)))), .unset] [(.int (3 : Int32)), (.int ((3 : Int32) + (((p2 >>> ((1 : Int32) &&& 31)) &&& (3 : Int32)) - (2 : Int32))))]))
          refine own_icmp S68 162 at_155 (by decide) (by decide) (fun (hc155_75 : ((3 : Int32) + (((p2 >>> ((1 : Int32) &&& 31)) &&& (3 : Int32)) - (2 : Int32))) < (3 : Int32)) => ?_) (fun (hc155_75 : ¬ (((3 : Int32) + (((p2 >>> ((1 : Int32) &&& 31)) &&& (3 : Int32)) - (2 : Int32))) < (3 : Int32))) => ?_)
          · show own_F p e below s Z _ _ _ _ _ (T68.setTop (mkF m 162 #[.val (.int p0), .val (.int p1), .val (.int p2), .val (.int ((p0 &&& (2147483647 : Int32)) % (8 : Int32))), .val (.ref a_API_VERSIONS), .val (.int (3 : Int32)), .val (.int ((3 : Int32) + (((p2 >>> ((1 : Int32) &&& 31)) &&& (3 : Int32)) - (2 : Int32)))), .unset] []))
            refine own_F.of (fun _ => XS.iconst S68.here S68.hx rfl (S68.dec at_162)) ?_
            show own_F p e below s Z _ _ _ _ _ (T68.setTop (mkF m 163 #[.val (.int p0), .val (.int p1), .val (.int p2), .val (.int ((p0 &&& (2147483647 : Int32)) % (8 : Int32))), .val (.ref a_API_VERSIONS), .val (.int (3 : Int32)), .val (.int ((3 : Int32) + (((p2 >>> ((1 : Int32) &&& 31)) &&& (3 : Int32)) - (2 : Int32)))), .unset] [(.int (0 : Int32))]))
            refine own_F.of (fun _ => XS.istore S68.here S68.hx rfl (S68.dec at_163) rfl (l' := #[.val (.int p0), .val (.int p1), .val (.int p2), .val (.int ((p0 &&& (2147483647 : Int32)) % (8 : Int32))), .val (.ref a_API_VERSIONS), .val (.int (3 : Int32)), .val (.int ((3 : Int32) + (((p2 >>> ((1 : Int32) &&& 31)) &&& (3 : Int32)) - (2 : Int32)))), .val (.int (0 : Int32))]) rfl) ?_
            show own_F p e below s Z _ _ _ _ _ (T68.setTop (mkF m 165 #[.val (.int p0), .val (.int p1), .val (.int p2), .val (.int ((p0 &&& (2147483647 : Int32)) % (8 : Int32))), .val (.ref a_API_VERSIONS), .val (.int (3 : Int32)), .val (.int ((3 : Int32) + (((p2 >>> ((1 : Int32) &&& 31)) &&& (3 : Int32)) - (2 : Int32)))), .val (.int (0 : Int32))] []))
            refine own_F.of (fun _ => XS.aload S68.here S68.hx rfl (S68.dec at_165) rfl rfl) ?_
            show own_F p e below s Z _ _ _ _ _ (T68.setTop (mkF m 167 #[.val (.int p0), .val (.int p1), .val (.int p2), .val (.int ((p0 &&& (2147483647 : Int32)) % (8 : Int32))), .val (.ref a_API_VERSIONS), .val (.int (3 : Int32)), .val (.int ((3 : Int32) + (((p2 >>> ((1 : Int32) &&& 31)) &&& (3 : Int32)) - (2 : Int32)))), .val (.int (0 : Int32))] [(.ref a_API_VERSIONS)]))
            refine own_F.of (fun _ => XS.iload S68.here S68.hx rfl (S68.dec at_167) rfl) ?_
            show own_F p e below s Z _ _ _ _ _ (T68.setTop (mkF m 169 #[.val (.int p0), .val (.int p1), .val (.int p2), .val (.int ((p0 &&& (2147483647 : Int32)) % (8 : Int32))), .val (.ref a_API_VERSIONS), .val (.int (3 : Int32)), .val (.int ((3 : Int32) + (((p2 >>> ((1 : Int32) &&& 31)) &&& (3 : Int32)) - (2 : Int32)))), .val (.int (0 : Int32))] [(.int ((3 : Int32) + (((p2 >>> ((1 : Int32) &&& 31)) &&& (3 : Int32)) - (2 : Int32)))), (.ref a_API_VERSIONS)]))
            refine own_callV S68 (y := (⟨"com/example/lanyard/lanyard/protocol/ApiKey", "isFlexible", "(I)Z"⟩ : MethodName)) (y' := (⟨"com/example/lanyard/lanyard/protocol/ApiKey", "isFlexible", "(I)Z"⟩ : MethodName)) (own_w hw 4 rfl) (own_w hw 5 rfl) (own_nf S68 (own_w hw 7 rfl)) (own_w hw 7 rfl) (own_w hw 6 rfl) (own_w hw 8 rfl) (own_w hw 2 rfl) (by decide) (X_API_VERSIONS.ext S68.old) (argsL := [(.int ((3 : Int32) + (((p2 >>> ((1 : Int32) &&& 31)) &&& (3 : Int32)) - (2 : Int32))))]) (rest := []) (own_flex l Z a0 hw a_API_VERSIONS ((3 : Int32) + (((p2 >>> ((1 : Int32) &&& 31)) &&& (3 : Int32)) - (2 : Int32))) (3 : Int32) h0 S68.old F_API_VERSIONS_firstFlexibleVersion) all0 (by decide +kernel : parseMethodDescriptor "(I)Z" = some ⟨[.int], some .boolean⟩) rfl rfl rfl at_169 (by decide) (Nat.le_of_ble_eq_true rfl) (by decide) (by decide) (fun T76 h76 v76 S76 K76 q76 => ?_)
            obtain ⟨rfl, rfl⟩ := q76
            show own_F p e below s Z _ _ _ _ _ (T76.setTop (mkF m 172 #[.val (.int p0), .val (.int p1), .val (.int p2), .val (.int ((p0 &&& (2147483647 : Int32)) % (8 : Int32))), .val (.ref a_API_VERSIONS), .val (.int (3 : Int32)), .val (.int ((3 : Int32) + (((p2 >>> ((1 : Int32) &&& 31)) &&& (3 : Int32)) - (2 : Int32)))), .val (.int (0 : Int32))] [(.int (own_fx ((3 : Int32) + (((p2 >>> ((1 : Int32) &&& 31)) &&& (3 : Int32)) - (2 : Int32))) (3 : Int32)))]))
            refine own_F.of (fun _ => XS.iload S76.here S76.hx rfl (S76.dec at_172) rfl) ?_
            show own_F p e below s Z _ _ _ _ _ (T76.setTop (mkF m 174 #[.val (.int p0), .val (.int p1), .val (.int p2), .val (.int ((p0 &&& (2147483647 : Int32)) % (8 : Int32))), .val (.ref a_API_VERSIONS), .val (.int (3 : Int32)), .val (.int ((3 : Int32) + (((p2 >>> ((1 : Int32) &&& 31)) &&& (3 : Int32)) - (2 : Int32)))), .val (.int (0 : Int32))] [(.int (0 : Int32)), (.int (own_fx ((3 : Int32) + (((p2 >>> ((1 : Int32) &&& 31)) &&& (3 : Int32)) - (2 : Int32))) (3 : Int32)))]))
            refine own_icmp S76 181 at_174 (by decide) (by decide) (fun (hc174_77 : ¬ ((own_fx ((3 : Int32) + (((p2 >>> ((1 : Int32) &&& 31)) &&& (3 : Int32)) - (2 : Int32))) (3 : Int32)) = (0 : Int32))) => False.elim (hc174_77 (by simp [own_fx, hc155_75]))) (fun (hc174_77 : (own_fx ((3 : Int32) + (((p2 >>> ((1 : Int32) &&& 31)) &&& (3 : Int32)) - (2 : Int32))) (3 : Int32)) = (0 : Int32)) => ?_)
            show own_F p e below s Z _ _ _ _ _ (T76.setTop (mkF m 177 #[.val (.int p0), .val (.int p1), .val (.int p2), .val (.int ((p0 &&& (2147483647 : Int32)) % (8 : Int32))), .val (.ref a_API_VERSIONS), .val (.int (3 : Int32)), .val (.int ((3 : Int32) + (((p2 >>> ((1 : Int32) &&& 31)) &&& (3 : Int32)) - (2 : Int32)))), .val (.int (0 : Int32))] []))
            refine own_F.of (fun _ => XS.iconst S76.here S76.hx rfl (S76.dec at_177)) ?_
            show own_F p e below s Z _ _ _ _ _ (T76.setTop (mkF m 178 #[.val (.int p0), .val (.int p1), .val (.int p2), .val (.int ((p0 &&& (2147483647 : Int32)) % (8 : Int32))), .val (.ref a_API_VERSIONS), .val (.int (3 : Int32)), .val (.int ((3 : Int32) + (((p2 >>> ((1 : Int32) &&& 31)) &&& (3 : Int32)) - (2 : Int32)))), .val (.int (0 : Int32))] [(.int (1 : Int32))]))
            refine own_F.of (fun _ => XS.goto S76.here S76.hx rfl (pc0 := 178) (pc' := 182) rfl (S76.dec at_178) (by decide) (by decide)) ?_
            show own_F p e below s Z _ _ _ _ _ (T76.setTop (mkF m 182 #[.val (.int p0), .val (.int p1), .val (.int p2), .val (.int ((p0 &&& (2147483647 : Int32)) % (8 : Int32))), .val (.ref a_API_VERSIONS), .val (.int (3 : Int32)), .val (.int ((3 : Int32) + (((p2 >>> ((1 : Int32) &&& 31)) &&& (3 : Int32)) - (2 : Int32)))), .val (.int (0 : Int32))] [(.int (1 : Int32))]))
            refine own_retZ S76 (by simp) at_182 (by decide) (by decide) ?_
            rfl
          · show own_F p e below s Z _ _ _ _ _ (T68.setTop (mkF m 158 #[.val (.int p0), .val (.int p1), .val (.int p2), .val (.int ((p0 &&& (2147483647 : Int32)) % (8 : Int32))), .val (.ref a_API_VERSIONS), .val (.int (3 : Int32)), .val (.int ((3 : Int32) + (((p2 >>> ((1 : Int32) &&& 31)) &&& (3 : Int32)) - (2 : Int32)))), .unset] []))
            refine own_F.of (fun _ => XS.iconst S68.here S68.hx rfl (S68.dec at_158)) ?_
            show own_F p e below s Z _ _ _ _ _ (T68.setTop (mkF m 159 #[.val (.int p0), .val (.int p1), .val (.int p2), .val (.int ((p0 &&& (2147483647 : Int32)) % (8 : Int32))), .val (.ref a_API_VERSIONS), .val (.int (3 : Int32)), .val (.int ((3 : Int32) + (((p2 >>> ((1 : Int32) &&& 31)) &&& (3 : Int32)) - (2 : Int32)))), .unset] [(.int (1 : Int32))]))
            refine own_F.of (fun _ => XS.goto S68.here S68.hx rfl (pc0 := 159) (pc' := 163) rfl (S68.dec at_159) (by decide) (by decide)) ?_
            show own_F p e below s Z _ _ _ _ _ (T68.setTop (mkF m 163 #[.val (.int p0), .val (.int p1), .val (.int p2), .val (.int ((p0 &&& (2147483647 : Int32)) % (8 : Int32))), .val (.ref a_API_VERSIONS), .val (.int (3 : Int32)), .val (.int ((3 : Int32) + (((p2 >>> ((1 : Int32) &&& 31)) &&& (3 : Int32)) - (2 : Int32)))), .unset] [(.int (1 : Int32))]))
            refine own_F.of (fun _ => XS.istore S68.here S68.hx rfl (S68.dec at_163) rfl (l' := #[.val (.int p0), .val (.int p1), .val (.int p2), .val (.int ((p0 &&& (2147483647 : Int32)) % (8 : Int32))), .val (.ref a_API_VERSIONS), .val (.int (3 : Int32)), .val (.int ((3 : Int32) + (((p2 >>> ((1 : Int32) &&& 31)) &&& (3 : Int32)) - (2 : Int32)))), .val (.int (1 : Int32))]) rfl) ?_
            show own_F p e below s Z _ _ _ _ _ (T68.setTop (mkF m 165 #[.val (.int p0), .val (.int p1), .val (.int p2), .val (.int ((p0 &&& (2147483647 : Int32)) % (8 : Int32))), .val (.ref a_API_VERSIONS), .val (.int (3 : Int32)), .val (.int ((3 : Int32) + (((p2 >>> ((1 : Int32) &&& 31)) &&& (3 : Int32)) - (2 : Int32)))), .val (.int (1 : Int32))] []))
            refine own_F.of (fun _ => XS.aload S68.here S68.hx rfl (S68.dec at_165) rfl rfl) ?_
            show own_F p e below s Z _ _ _ _ _ (T68.setTop (mkF m 167 #[.val (.int p0), .val (.int p1), .val (.int p2), .val (.int ((p0 &&& (2147483647 : Int32)) % (8 : Int32))), .val (.ref a_API_VERSIONS), .val (.int (3 : Int32)), .val (.int ((3 : Int32) + (((p2 >>> ((1 : Int32) &&& 31)) &&& (3 : Int32)) - (2 : Int32)))), .val (.int (1 : Int32))] [(.ref a_API_VERSIONS)]))
            refine own_F.of (fun _ => XS.iload S68.here S68.hx rfl (S68.dec at_167) rfl) ?_
            show own_F p e below s Z _ _ _ _ _ (T68.setTop (mkF m 169 #[.val (.int p0), .val (.int p1), .val (.int p2), .val (.int ((p0 &&& (2147483647 : Int32)) % (8 : Int32))), .val (.ref a_API_VERSIONS), .val (.int (3 : Int32)), .val (.int ((3 : Int32) + (((p2 >>> ((1 : Int32) &&& 31)) &&& (3 : Int32)) - (2 : Int32)))), .val (.int (1 : Int32))] [(.int ((3 : Int32) + (((p2 >>> ((1 : Int32) &&& 31)) &&& (3 : Int32)) - (2 : Int32)))), (.ref a_API_VERSIONS)]))
            refine own_callV S68 (y := (⟨"com/example/lanyard/lanyard/protocol/ApiKey", "isFlexible", "(I)Z"⟩ : MethodName)) (y' := (⟨"com/example/lanyard/lanyard/protocol/ApiKey", "isFlexible", "(I)Z"⟩ : MethodName)) (own_w hw 4 rfl) (own_w hw 5 rfl) (own_nf S68 (own_w hw 7 rfl)) (own_w hw 7 rfl) (own_w hw 6 rfl) (own_w hw 8 rfl) (own_w hw 2 rfl) (by decide) (X_API_VERSIONS.ext S68.old) (argsL := [(.int ((3 : Int32) + (((p2 >>> ((1 : Int32) &&& 31)) &&& (3 : Int32)) - (2 : Int32))))]) (rest := []) (own_flex l Z a0 hw a_API_VERSIONS ((3 : Int32) + (((p2 >>> ((1 : Int32) &&& 31)) &&& (3 : Int32)) - (2 : Int32))) (3 : Int32) h0 S68.old F_API_VERSIONS_firstFlexibleVersion) all0 (by decide +kernel : parseMethodDescriptor "(I)Z" = some ⟨[.int], some .boolean⟩) rfl rfl rfl at_169 (by decide) (Nat.le_of_ble_eq_true rfl) (by decide) (by decide) (fun T78 h78 v78 S78 K78 q78 => ?_)
            obtain ⟨rfl, rfl⟩ := q78
            show own_F p e below s Z _ _ _ _ _ (T78.setTop (mkF m 172 #[.val (.int p0), .val (.int p1), .val (.int p2), .val (.int ((p0 &&& (2147483647 : Int32)) % (8 : Int32))), .val (.ref a_API_VERSIONS), .val (.int (3 : Int32)), .val (.int ((3 : Int32) + (((p2 >>> ((1 : Int32) &&& 31)) &&& (3 : Int32)) - (2 : Int32)))), .val (.int (1 : Int32))] [(.int (own_fx ((3 : Int32) + (((p2 >>> ((1 : Int32) &&& 31)) &&& (3 : Int32)) - (2 : Int32))) (3 : Int32)))]))
            refine own_F.of (fun _ => XS.iload S78.here S78.hx rfl (S78.dec at_172) rfl) ?_
            show own_F p e below s Z _ _ _ _ _ (T78.setTop (mkF m 174 #[.val (.int p0), .val (.int p1), .val (.int p2), .val (.int ((p0 &&& (2147483647 : Int32)) % (8 : Int32))), .val (.ref a_API_VERSIONS), .val (.int (3 : Int32)), .val (.int ((3 : Int32) + (((p2 >>> ((1 : Int32) &&& 31)) &&& (3 : Int32)) - (2 : Int32)))), .val (.int (1 : Int32))] [(.int (1 : Int32)), (.int (own_fx ((3 : Int32) + (((p2 >>> ((1 : Int32) &&& 31)) &&& (3 : Int32)) - (2 : Int32))) (3 : Int32)))]))
            refine own_icmp S78 181 at_174 (by decide) (by decide) (fun (hc174_79 : ¬ ((own_fx ((3 : Int32) + (((p2 >>> ((1 : Int32) &&& 31)) &&& (3 : Int32)) - (2 : Int32))) (3 : Int32)) = (1 : Int32))) => False.elim (hc174_79 (by simp [own_fx, hc155_75]))) (fun (hc174_79 : (own_fx ((3 : Int32) + (((p2 >>> ((1 : Int32) &&& 31)) &&& (3 : Int32)) - (2 : Int32))) (3 : Int32)) = (1 : Int32)) => ?_)
            show own_F p e below s Z _ _ _ _ _ (T78.setTop (mkF m 177 #[.val (.int p0), .val (.int p1), .val (.int p2), .val (.int ((p0 &&& (2147483647 : Int32)) % (8 : Int32))), .val (.ref a_API_VERSIONS), .val (.int (3 : Int32)), .val (.int ((3 : Int32) + (((p2 >>> ((1 : Int32) &&& 31)) &&& (3 : Int32)) - (2 : Int32)))), .val (.int (1 : Int32))] []))
            refine own_F.of (fun _ => XS.iconst S78.here S78.hx rfl (S78.dec at_177)) ?_
            show own_F p e below s Z _ _ _ _ _ (T78.setTop (mkF m 178 #[.val (.int p0), .val (.int p1), .val (.int p2), .val (.int ((p0 &&& (2147483647 : Int32)) % (8 : Int32))), .val (.ref a_API_VERSIONS), .val (.int (3 : Int32)), .val (.int ((3 : Int32) + (((p2 >>> ((1 : Int32) &&& 31)) &&& (3 : Int32)) - (2 : Int32)))), .val (.int (1 : Int32))] [(.int (1 : Int32))]))
            refine own_F.of (fun _ => XS.goto S78.here S78.hx rfl (pc0 := 178) (pc' := 182) rfl (S78.dec at_178) (by decide) (by decide)) ?_
            show own_F p e below s Z _ _ _ _ _ (T78.setTop (mkF m 182 #[.val (.int p0), .val (.int p1), .val (.int p2), .val (.int ((p0 &&& (2147483647 : Int32)) % (8 : Int32))), .val (.ref a_API_VERSIONS), .val (.int (3 : Int32)), .val (.int ((3 : Int32) + (((p2 >>> ((1 : Int32) &&& 31)) &&& (3 : Int32)) - (2 : Int32)))), .val (.int (1 : Int32))] [(.int (1 : Int32))]))
            refine own_retZ S78 (by simp) at_182 (by decide) (by decide) ?_
            rfl
    · show own_F p e below s Z _ _ _ _ _ (T0.setTop (mkF m 29 #[.val (.int p0), .val (.int p1), .val (.int p2), .val (.int ((p0 &&& (2147483647 : Int32)) % (8 : Int32))), .unset, .unset, .unset, .unset] []))
      refine own_getS S0 (host := "") (Or.inl (own_w hw 11 rfl)) Via.refl (S_SASL_HANDSHAKE.ext S0.old) at_29 (fun T80 S80 => ?_)
      show own_F p e below s Z _ _ _ _ _ (T80.setTop (mkF m 32 #[.val (.int p0), .val (.int p1), .val (.int p2), .val (.int ((p0 &&& (2147483647 : Int32)) % (8 : Int32))), .unset, .unset, .unset, .unset] [(.ref a_SASL_HANDSHAKE)]))
      refine own_F.of (fun _ => XS.astore S80.here S80.hx rfl (S80.dec at_32) rfl rfl (l' := #[.val (.int p0), .val (.int p1), .val (.int p2), .val (.int ((p0 &&& (2147483647 : Int32)) % (8 : Int32))), .val (.ref a_SASL_HANDSHAKE), .unset, .unset, .unset]) rfl) ?_
      show own_F p e below s Z _ _ _ _ _ (T80.setTop (mkF m 34 #[.val (.int p0), .val (.int p1), .val (.int p2), .val (.int ((p0 &&& (2147483647 : Int32)) % (8 : Int32))), .val (.ref a_SASL_HANDSHAKE), .unset, .unset, .unset] []))
      refine own_ldcI S80 (own_w hw 0 rfl) at_34 ?_
      show own_F p e below s Z _ _ _ _ _ (T80.setTop (mkF m 36 #[.val (.int p0), .val (.int p1), .val (.int p2), .val (.int ((p0 &&& (2147483647 : Int32)) % (8 : Int32))), .val (.ref a_SASL_HANDSHAKE), .unset, .unset, .unset] [(.int (2147483647 : Int32))]))
      refine own_F.of (fun _ => XS.istore S80.here S80.hx rfl (S80.dec at_36) rfl (l' := #[.val (.int p0), .val (.int p1), .val (.int p2), .val (.int ((p0 &&& (2147483647 : Int32)) % (8 : Int32))), .val (.ref a_SASL_HANDSHAKE), .val (.int (2147483647 : Int32)), .unset, .unset]) rfl) ?_
      show own_F p e below s Z _ _ _ _ _ (T80.setTop (mkF m 38 #[.val (.int p0), .val (.int p1), .val (.int p2), .val (.int ((p0 &&& (2147483647 : Int32)) % (8 : Int32))), .val (.ref a_SASL_HANDSHAKE), .val (.int (2147483647 : Int32)), .unset, .unset] []))
      refine own_F.of (fun _ => XS.goto S80.here S80.hx rfl (pc0 := 38) (pc' := 130) rfl (S80.dec at_38) (by decide) (by decide)) ?_
      show own_F p e below s Z _ _ _ _ _ (T80.setTop (mkF m 130 #[.val (.int p0), .val (.int p1), .val (.int p2), .val (.int ((p0 &&& (2147483647 : Int32)) % (8 : Int32))), .val (.ref a_SASL_HANDSHAKE), .val (.int (2147483647 : Int32)), .unset, .unset] []))
      refine own_F.of (fun _ => XS.iloadN S80.here S80.hx rfl (S80.dec at_130) rfl) ?_
      show own_F p e below s Z _ _ _ _ _ (T80.setTop (mkF m 131 #[.val (.int p0), .val (.int p1), .val (.int p2), .val (.int ((p0 &&& (2147483647 : Int32)) % (8 : Int32))), .val (.ref a_SASL_HANDSHAKE), .val (.int (2147483647 : Int32)), .unset, .unset] [(.int p1)]))
      refine own_F.of (fun _ => XS.istore S80.here S80.hx rfl (S80.dec at_131) rfl (l' := #[.val (.int p0), .val (.int p1), .val (.int p2), .val (.int ((p0 &&& (2147483647 : Int32)) % (8 : Int32))), .val (.ref a_SASL_HANDSHAKE), .val (.int (2147483647 : Int32)), .val (.int p1), .unset]) rfl) ?_
      show own_F p e below s Z _ _ _ _ _ (T80.setTop (mkF m 133 #[.val (.int p0), .val (.int p1), .val (.int p2), .val (.int ((p0 &&& (2147483647 : Int32)) % (8 : Int32))), .val (.ref a_SASL_HANDSHAKE), .val (.int (2147483647 : Int32)), .val (.int p1), .unset] []))
      refine own_F.of (fun _ => XS.iloadN S80.here S80.hx rfl (S80.dec at_133) rfl) ?_
      show own_F p e below s Z _ _ _ _ _ (T80.setTop (mkF m 134 #[.val (.int p0), .val (.int p1), .val (.int p2), .val (.int ((p0 &&& (2147483647 : Int32)) % (8 : Int32))), .val (.ref a_SASL_HANDSHAKE), .val (.int (2147483647 : Int32)), .val (.int p1), .unset] [(.int p2)]))
      refine own_F.of (fun _ => XS.iconst S80.here S80.hx rfl (S80.dec at_134)) ?_
      show own_F p e below s Z _ _ _ _ _ (T80.setTop (mkF m 135 #[.val (.int p0), .val (.int p1), .val (.int p2), .val (.int ((p0 &&& (2147483647 : Int32)) % (8 : Int32))), .val (.ref a_SASL_HANDSHAKE), .val (.int (2147483647 : Int32)), .val (.int p1), .unset] [(.int (1 : Int32)), (.int p2)]))
      refine own_F.of (fun _ => XS.iand S80.here S80.hx rfl (S80.dec at_135) rfl) ?_
      show own_F p e below s Z _ _ _ _ _ (T80.setTop (mkF m 136 #[.val (.int p0), .val (.int p1), .val (.int p2), .val (.int ((p0 &&& (2147483647 : Int32)) % (8 : Int32))), .val (.ref a_SASL_HANDSHAKE), .val (.int (2147483647 : Int32)), .val (.int p1), .unset] [(.int (p2 &&& (1 : Int32)))]))
      refine own_if S80 151 at_136 (by decide) (by decide) (fun (hc136_81 : (p2 &&& (1 : Int32)) = (0 : Int32)) => ?_) (fun (hc136_81 : ¬ ((p2 &&& (1 : Int32)) = (0 : Int32))) => ?_)
      · show own_F p e below s Z _ _ _ _ _ (T80.setTop (mkF m 151 #[.val (.int p0), .val (.int p1), .val (.int p2), .val (.int ((p0 &&& (2147483647 : Int32)) % (8 : Int32))), .val (.ref a_SASL_HANDSHAKE), .val (.int (2147483647 : Int32)), .val (.int p1), .unset] []))
        refine own_F.of (fun _ => XS.iload S80.here S80.hx rfl (S80.dec at_151) rfl) ?_
        show own_F p e below s Z _ _ _ _ _ (T80.setTop (mkF m 153 #[.val (.int p0), .val (.int p1), .val (.int p2), .val (.int ((p0 &&& (2147483647 : Int32)) % (8 : Int32))), .val (.ref a_SASL_HANDSHAKE), .val (.int (2147483647 : Int32)), .val (.int p1), .unset] [(.int p1)]))
        refine own_F.of (fun _ => XS.iload S80.here S80.hx rfl (S80.dec at_153) rfl) ?_
        show own_F p e below s Z _ _ _ _ _ (T80.setTop (mkF m 155 #[.val (.int p0), .val (.int p1), .val (.int p2), .val (.int ((p0 &&& (2147483647 : Int32)) % (8 : Int32))), .val (.ref a_SASL_HANDSHAKE), .val (.int (2147483647 : Int32)), .val (.int p1), .unset] [(.int (2147483647 : Int32)), (.int p1)]))
        refine own_icmp S80 162 at_155 (by decide) (by decide) (fun (hc155_82 : p1 < (2147483647 : Int32)) => ?_) (fun (hc155_82 : ¬ (p1 < (2147483647 : Int32))) => ?_)
        · show own_F p e below s Z _ _ _ _ _ (T80.setTop (mkF m 162 #[.val (.int p0), .val (.int p1), .val (.int p2), .val (.int ((p0 &&& (2147483647 : Int32)) % (8 : Int32))), .val (.ref a_SASL_HANDSHAKE), .val (.int (2147483647 : Int32)), .val (.int p1), .unset] []))
          refine own_F.of (fun _ => XS.iconst S80.here S80.hx rfl (S80.dec at_162)) ?_
          show own_F p e below s Z _ _ _ _ _ (T80.setTop (mkF m 163 #[.val (.int p0), .val (.int p1), .val (.int p2), .val (.int ((p0 &&& (2147483647 : Int32)) % (8 : Int32))), .val (.ref a_SASL_HANDSHAKE), .val (.int (2147483647 : Int32)), .val (.int p1), .unset] [(.int (0 : Int32))]))
          refine own_F.of (fun _ => XS.istore S80.here S80.hx rfl (S80.dec at_163) rfl (l' := #[.val (.int p0), .val (.int p1), .val (.int p2), .val (.int ((p0 &&& (2147483647 : Int32)) % (8 : Int32))), .val (.ref a_SASL_HANDSHAKE), .val (.int (2147483647 : Int32)), .val (.int p1), .val (.int (0 : Int32))]) rfl) ?_
          show own_F p e below s Z _ _ _ _ _ (T80.setTop (mkF m 165 #[.val (.int p0), .val (.int p1), .val (.int p2), .val (.int ((p0 &&& (2147483647 : Int32)) % (8 : Int32))), .val (.ref a_SASL_HANDSHAKE), .val (.int (2147483647 : Int32)), .val (.int p1), .val (.int (0 : Int32))] []))
          refine own_F.of (fun _ => XS.aload S80.here S80.hx rfl (S80.dec at_165) rfl rfl) ?_
          show own_F p e below s Z _ _ _ _ _ (T80.setTop (mkF m 167 #[.val (.int p0), .val (.int p1), .val (.int p2), .val (.int ((p0 &&& (2147483647 : Int32)) % (8 : Int32))), .val (.ref a_SASL_HANDSHAKE), .val (.int (2147483647 : Int32)), .val (.int p1), .val (.int (0 : Int32))] [(.ref a_SASL_HANDSHAKE)]))
          refine own_F.of (fun _ => XS.iload S80.here S80.hx rfl (S80.dec at_167) rfl) ?_
          show own_F p e below s Z _ _ _ _ _ (T80.setTop (mkF m 169 #[.val (.int p0), .val (.int p1), .val (.int p2), .val (.int ((p0 &&& (2147483647 : Int32)) % (8 : Int32))), .val (.ref a_SASL_HANDSHAKE), .val (.int (2147483647 : Int32)), .val (.int p1), .val (.int (0 : Int32))] [(.int p1), (.ref a_SASL_HANDSHAKE)]))
          refine own_callV S80 (y := (⟨"com/example/lanyard/lanyard/protocol/ApiKey", "isFlexible", "(I)Z"⟩ : MethodName)) (y' := (⟨"com/example/lanyard/lanyard/protocol/ApiKey", "isFlexible", "(I)Z"⟩ : MethodName)) (own_w hw 4 rfl) (own_w hw 5 rfl) (own_nf S80 (own_w hw 7 rfl)) (own_w hw 7 rfl) (own_w hw 6 rfl) (own_w hw 8 rfl) (own_w hw 2 rfl) (by decide) (X_SASL_HANDSHAKE.ext S80.old) (argsL := [(.int p1)]) (rest := []) (own_flex l Z a0 hw a_SASL_HANDSHAKE p1 (2147483647 : Int32) h0 S80.old F_SASL_HANDSHAKE_firstFlexibleVersion) all0 (by decide +kernel : parseMethodDescriptor "(I)Z" = some ⟨[.int], some .boolean⟩) rfl rfl rfl at_169 (by decide) (Nat.le_of_ble_eq_true rfl) (by decide) (by decide) (fun T83 h83 v83 S83 K83 q83 => ?_)
          obtain ⟨rfl, rfl⟩ := q83
          show own_F p e below s Z _ _ _ _ _ (T83.setTop (mkF m 172 #[.val (.int p0), .val (.int p1), .val (.int p2), .val (.int ((p0 &&& (2147483647 : Int32)) % (8 : Int32))), .val (.ref a_SASL_HANDSHAKE), .val (.int (2147483647 : Int32)), .val (.int p1), .val (.int (0 : Int32))] [(.int (own_fx p1 (2147483647 : Int32)))]))
          refine own_F.of (fun _ => XS.iload S83.here S83.hx rfl (S83.dec at_172) rfl) ?_
          show own_F p e below s Z _ _ _ _ _ (T83.setTop (mkF m 174 #[.val (.int p0), .val (.int p1), .val (.int p2), .val (.int ((p0 &&& (2147483647 : Int32)) % (8 : Int32))), .val (.ref a_SASL_HANDSHAKE), .val (.int (2147483647 : Int32)), .val (.int p1), .val (.int (0 : Int32))] [(.int (0 : Int32)), (.int (own_fx p1 (2147483647 : Int32)))]))
          refine own_icmp S83 181 at_174 (by decide) (by decide) (fun (hc174_84 : ¬ ((own_fx p1 (2147483647 : Int32)) = (0 : Int32))) => False.elim (hc174_84 (by simp [own_fx, hc155_82]))) (fun (hc174_84 : (own_fx p1 (2147483647 : Int32)) = (0 : Int32)) => ?_)
          show own_F p e below s Z _ _ _ _ _ (T83.setTop (mkF m 177 #[.val (.int p0), .val (.int p1), .val (.int p2), .val (.int ((p0 &&& (2147483647 : Int32)) % (8 : Int32))), .val (.ref a_SASL_HANDSHAKE), .val (.int (2147483647 : Int32)), .val (.int p1), .val (.int (0 : Int32))] []))
          refine own_F.of (fun _ => XS.iconst S83.here S83.hx rfl (S83.dec at_177)) ?_
          show own_F p e below s Z _ _ _ _ _ (T83.setTop (mkF m 178 #[.val (.int p0), .val (.int p1), .val (.int p2), .val (.int ((p0 &&& (2147483647 : Int32)) % (8 : Int32))), .val (.ref a_SASL_HANDSHAKE), .val (.int (2147483647 : Int32)), .val (.int p1), .val (.int (0 : Int32))] [(.int (1 : Int32))]))
          refine own_F.of (fun _ => XS.goto S83.here S83.hx rfl (pc0 := 178) (pc' := 182) rfl (S83.dec at_178) (by decide) (by decide)) ?_
          show own_F p e below s Z _ _ _ _ _ (T83.setTop (mkF m 182 #[.val (.int p0), .val (.int p1), .val (.int p2), .val (.int ((p0 &&& (2147483647 : Int32)) % (8 : Int32))), .val (.ref a_SASL_HANDSHAKE), .val (.int (2147483647 : Int32)), .val (.int p1), .val (.int (0 : Int32))] [(.int (1 : Int32))]))
          refine own_retZ S83 (by simp) at_182 (by decide) (by decide) ?_
          rfl
        · show own_F p e below s Z _ _ _ _ _ (T80.setTop (mkF m 158 #[.val (.int p0), .val (.int p1), .val (.int p2), .val (.int ((p0 &&& (2147483647 : Int32)) % (8 : Int32))), .val (.ref a_SASL_HANDSHAKE), .val (.int (2147483647 : Int32)), .val (.int p1), .unset] []))
          refine own_F.of (fun _ => XS.iconst S80.here S80.hx rfl (S80.dec at_158)) ?_
          show own_F p e below s Z _ _ _ _ _ (T80.setTop (mkF m 159 #[.val (.int p0), .val (.int p1), .val (.int p2), .val (.int ((p0 &&& (2147483647 : Int32)) % (8 : Int32))), .val (.ref a_SASL_HANDSHAKE), .val (.int (2147483647 : Int32)), .val (.int p1), .unset] [(.int (1 : Int32))]))
          refine own_F.of (fun _ => XS.goto S80.here S80.hx rfl (pc0 := 159) (pc' := 163) rfl (S80.dec at_159) (by decide) (by decide)) ?_
          show own_F p e below s Z _ _ _ _ _ (T80.setTop (mkF m 163 #[.val (.int p0), .val (.int p1), .val (.int p2), .val (.int ((p0 &&& (2147483647 : Int32)) % (8 : Int32))), .val (.ref a_SASL_HANDSHAKE), .val (.int (2147483647 : Int32)), .val (.int p1), .unset] [(.int (1 : Int32))]))
          refine own_F.of (fun _ => XS.istore S80.here S80.hx rfl (S80.dec at_163) rfl (l' := #[.val (.int p0), .val (.int p1), .val (.int p2), .val (.int ((p0 &&& (2147483647 : Int32)) % (8 : Int32))), .val (.ref a_SASL_HANDSHAKE), .val (.int (2147483647 : Int32)), .val (.int p1), .val (.int (1 : Int32))]) rfl) ?_
          show own_F p e below s Z _ _ _ _ _ (T80.setTop (mkF m 165 #[.val (.int p0), .val (.int p1), .val (.int p2), .val (.int ((p0 &&& (2147483647 : Int32)) % (8 : Int32))), .val (.ref a_SASL_HANDSHAKE), .val (.int (2147483647 : Int32)), .val (.int p1), .val (.int (1 : Int32))] []))
          refine own_F.of (fun _ => XS.aload S80.here S80.hx rfl (S80.dec at_165) rfl rfl) ?_
          show own_F p e below s Z _ _ _ _ _ (T80.setTop (mkF m 167 #[.val (.int p0), .val (.int p1), .val (.int p2), .val (.int ((p0 &&& (2147483647 : Int32)) % (8 : Int32))), .val (.ref a_SASL_HANDSHAKE), .val (.int (2147483647 : Int32)), .val (.int p1), .val (.int (1 : Int32))] [(.ref a_SASL_HANDSHAKE)]))
          refine own_F.of (fun _ => XS.iload S80.here S80.hx rfl (S80.dec at_167) rfl) ?_
          show own_F p e below s Z _ _ _ _ _ (T80.setTop (mkF m 169 #[.val (.int p0), .val (.int p1), .val (.int p2), .val (.int ((p0 &&& (2147483647 : Int32)) % (8 : Int32))), .val (.ref a_SASL_HANDSHAKE), .val (.int (2147483647 : Int32)), .val (.int p1), .val (.int (1 : Int32))] [(.int p1), (.ref a_SASL_HANDSHAKE)]))
          refine own_callV S80 (y := (⟨"com/example/lanyard/lanyard/protocol/ApiKey", "isFlexible", "(I)Z"⟩ : MethodName)) (y' := (⟨"com/example/lanyard/lanyard/protocol/ApiKey", "isFlexible", "(I)Z"⟩ : MethodName)) (own_w hw 4 rfl) (own_w hw 5 rfl) (own_nf S80 (own_w hw 7 rfl)) (own_w hw 7 rfl) (own_w hw 6 rfl) (own_w hw 8 rfl) (own_w hw 2 rfl) (by decide) (X_SASL_HANDSHAKE.ext S80.old) (argsL := [(.int p1)]) (rest := []) (own_flex l Z a0 hw a_SASL_HANDSHAKE p1 (2147483647 : Int32) h0 S80.old F_SASL_HANDSHAKE_firstFlexibleVersion) all0 (by decide +kernel : parseMethodDescriptor "(I)Z" = some ⟨[.int], some .boolean⟩) rfl rfl rfl at_169 (by decide) (Nat.le_of_ble_eq_true rfl) (by decide) (by decide) (fun T85 h85 v85 S85 K85 q85 => ?_)
          obtain ⟨rfl, rfl⟩ := q85
          show own_F p e below s Z _ _ _ _ _ (T85.setTop (mkF m 172 #[.val (.int p0), .val (.int p1), .val (.int p2), .val (.int ((p0 &&& (2147483647 : Int32)) % (8 : Int32))), .val (.ref a_SASL_HANDSHAKE), .val (.int (2147483647 : Int32)), .val (.int p1), .val (.int (1 : Int32))] [(.int (own_fx p1 (2147483647 : Int32)))]))
          refine own_F.of (fun _ => XS.iload S85.here S85.hx rfl (S85.dec at_172) rfl) ?_
          show own_F p e below s Z _ _ _ _ _ (T85.setTop (mkF m 174 #[.val (.int p0), .val (.int p1), .val (.int p2), .val (.int ((p0 &&& (2147483647 : Int32)) % (8 : Int32))), .val (.ref a_SASL_HANDSHAKE), .val (.int (2147483647 : Int32)), .val (.int p1), .val (.int (1 : Int32))] [(.int (1 : Int32)), (.int (own_fx p1 (2147483647 : Int32)))]))
          refine own_icmp S85 181 at_174 (by decide) (by decide) (fun (hc174_86 : ¬ ((own_fx p1 (2147483647 : Int32)) = (1 : Int32))) => False.elim (hc174_86 (by simp [own_fx, hc155_82]))) (fun (hc174_86 : (own_fx p1 (2147483647 : Int32)) = (1 : Int32)) => ?_)
          show own_F p e below s Z _ _ _ _ _ (T85.setTop (mkF m 177 #[.val (.int p0), .val (.int p1), .val (.int p2), .val (.int ((p0 &&& (2147483647 : Int32)) % (8 : Int32))), .val (.ref a_SASL_HANDSHAKE), .val (.int (2147483647 : Int32)), .val (.int p1), .val (.int (1 : Int32))] []))
          refine own_F.of (fun _ => XS.iconst S85.here S85.hx rfl (S85.dec at_177)) ?_
          show own_F p e below s Z _ _ _ _ _ (T85.setTop (mkF m 178 #[.val (.int p0), .val (.int p1), .val (.int p2), .val (.int ((p0 &&& (2147483647 : Int32)) % (8 : Int32))), .val (.ref a_SASL_HANDSHAKE), .val (.int (2147483647 : Int32)), .val (.int p1), .val (.int (1 : Int32))] [(.int (1 : Int32))]))
          refine own_F.of (fun _ => XS.goto S85.here S85.hx rfl (pc0 := 178) (pc' := 182) rfl (S85.dec at_178) (by decide) (by decide)) ?_
          show own_F p e below s Z _ _ _ _ _ (T85.setTop (mkF m 182 #[.val (.int p0), .val (.int p1), .val (.int p2), .val (.int ((p0 &&& (2147483647 : Int32)) % (8 : Int32))), .val (.ref a_SASL_HANDSHAKE), .val (.int (2147483647 : Int32)), .val (.int p1), .val (.int (1 : Int32))] [(.int (1 : Int32))]))
          refine own_retZ S85 (by simp) at_182 (by decide) (by decide) ?_
          rfl
      · show own_F p e below s Z _ _ _ _ _ (T80.setTop (mkF m 139 #[.val (.int p0), .val (.int p1), .val (.int p2), .val (.int ((p0 &&& (2147483647 : Int32)) % (8 : Int32))), .val (.ref a_SASL_HANDSHAKE), .val (.int (2147483647 : Int32)), .val (.int p1), .unset] []))
        refine own_F.of (fun _ => XS.iload S80.here S80.hx rfl (S80.dec at_139) rfl) ?_
        show own_F p e below s Z _ _ _ _ _ (T80.setTop (mkF m 141 #[.val (.int p0), .val (.int p1), .val (.int p2), .val (.int ((p0 &&& (2147483647 : Int32)) % (8 : Int32))), .val (.ref a_SASL_HANDSHAKE), .val (.int (2147483647 : Int32)), .val (.int p1), .unset] [(.int (2147483647 : Int32))]))
        refine own_F.of (fun _ => XS.iloadN S80.here S80.hx rfl (S80.dec at_141) rfl) ?_
        show own_F p e below s Z _ _ _ _ _ (T80.setTop (mkF m 142 #[.val (.int p0), .val (.int p1), .val (.int p2), .val (.int ((p0 &&& (2147483647 : Int32)) % (8 : Int32))), .val (.ref a_SASL_HANDSHAKE), .val (.int (2147483647 : Int32)), .val (.int p1), .unset] [(.int p2), (.int (2147483647 : Int32))]))
        refine own_F.of (fun _ => XS.iconst S80.here S80.hx rfl (S80.dec at_142)) ?_
        show own_F p e below s Z _ _ _ _ _ (T80.setTop (mkF m 143 #[.val (.int p0), .val (.int p1), .val (.int p2), .val (.int ((p0 &&& (2147483647 : Int32)) % (8 : Int32))), .val (.ref a_SASL_HANDSHAKE), .val (.int (2147483647 : Int32)), .val (.int p1), .unset] [(.int (1 : Int32)), (.int p2), (.int (2147483647 : Int32))]))
        refine own_F.of (fun _ => XS.ishr S80.here S80.hx rfl (S80.dec at_143) rfl) ?_
        show own_F p e below s Z _ _ _ _ _ (T80.setTop (mkF m 144 #[.val (.int p0), .val (.int p1), .val (.int p2), .val (.int ((p0 &&& (2147483647 : Int32)) % (8 : Int32))), .val (.ref a_SASL_HANDSHAKE), .val (.int (2147483647 : Int32)), .val (.int p1), .unset] [(.int (p2 >>> ((1 : Int32) &&& 31))), (.int (2147483647 : Int32))]))
        refine own_F.of (fun _ => XS.iconst S80.here S80.hx rfl (S80.dec at_144)) ?_
        show own_F p e below s Z _ _ _ _ _ (T80.setTop (mkF m 145 #[.val (.int p0), .val (.int p1), .val (.int p2), .val (.int ((p0 &&& (2147483647 : Int32)) % (8 : Int32))), .val (.ref a_SASL_HANDSHAKE), .val (.int (2147483647 : Int32)), .val (.int p1), .unset] [(.int (3 : Int32)), (.int (p2 >>> ((1 : Int32) &&& 31))), (.int (2147483647 : Int32))]))
        refine own_F.of (fun _ => XS.iand S80.here S80.hx rfl (S80.dec at_145) rfl) ?_
        show own_F p e below s Z _ _ _ _ _ (T80.setTop (mkF m 146 #[.val (.int p0), .val (.int p1), .val (.int p2), .val (.int ((p0 &&& (2147483647 : Int32)) % (8 : Int32))), .val (.ref a_SASL_HANDSHAKE), .val (.int (2147483647 : Int32)), .val (.int p1), .unset] [(.int ((p2 >>> ((1 : Int32) &&& 31)) &&& (3 : Int32))), (.int (2147483647 : Int32))]))
        refine own_F.of (fun _ => XS.iconst S80.here S80.hx rfl (S80.dec at_146)) ?_
        show own_F p e below s Z _ _ _ _ _ (T80.setTop (mkF m 147 #[.val (.int p0), .val (.int p1), .val (.int p2), .val (.int ((p0 &&& (2147483647 : Int32)) % (8 : Int32))), .val (.ref a_SASL_HANDSHAKE), .val (.int (2147483647 : Int32)), .val (.int p1), .unset] [(.int (2 : Int32)), (.int ((p2 >>> ((1 : Int32) &&& 31)) &&& (3 : Int32))), (.int (2147483647 : Int32))]))
        refine own_F.of (fun _ => XS.isub S80.here S80.hx rfl (S80.dec at_147) rfl) ?_
        show own_F p e below s Z _ _ _ _ _ (T80.setTop (mkF m 148 #[.val (.int p0), .val (.int p1), .val (.int p2), .val (.int ((p0 &&& (2147483647 : Int32)) % (8 : Int32))), .val (.ref a_SASL_HANDSHAKE), .val (.int (2147483647 : Int32)), .val (.int p1), .unset] [(.int (((p2 >>> ((1 : Int32) &&& 31)) &&& (3 : Int32)) - (2 : Int32))), (.int (2147483647 : Int32))]))
        refine own_F.of (fun _ => XS.iadd S80.here S80.hx rfl (S80.dec at_148) rfl) ?_
        show own_F p e below s Z _ _ _ _ _ (T80.setTop (mkF m 149 #[.val (.int p0), .val (.int p1), .val (.int p2), .val (.int ((p0 &&& (2147483647 : Int32)) % (8 : Int32))), .val (.ref a_SASL_HANDSHAKE), .val (.int (2147483647 : Int32)), .val (.int p1), .unset] [(.int ((2147483647 : Int32) + (((p2 >>> ((1 : Int32) &&& 31)) &&& (3 : Int32)) - (2 : Int32))))]))
        refine own_F.of (fun _ => XS.istore S80.here S80.hx rfl (S80.dec at_149) rfl (l' := #[.val (.int p0), .val (.int p1), .val (.int p2), .val (.int ((p0 &&& (2147483647 : Int32)) % (8 : Int32))), .val (.ref a_SASL_HANDSHAKE), .val (.int (2147483647 : Int32)), .val (.int ((2147483647 : Int32) + (((p2 >>> ((1 : Int32) &&& 31)) &&& (3 : Int32)) - (2 : Int32)))), .unset]) rfl) ?_
        show own_F p e below s Z _ _ _ _ _ (T80.setTop (mkF m 151 #[.val (.int p0), .val (.int p1), .val (.int p2), .val (.int ((p0 &&& (2147483647 : Int32)) % (8 : Int32))), .val (.ref a_SASL_HANDSHAKE), .val (.int (2147483647 : Int32)), .val (.int ((2147483647 : Int32) + (((p2 >>> ((1 : Int32) &&& 31)) &&& (3 : Int32)) - (2 : Int32)))), .unset] []))
        refine own_F.of (fun _ => XS.iload S80.here S80.hx rfl (S80.dec at_151) rfl) ?_
        show own_F p e below s Z _ _ _ _ _ (T80.setTop (mkF m 153 #[.val (.int p0), .val (.int p1), .val (.int p2), .val (.int ((p0 &&& (2147483647 : Int32)) % (8 : Int32))), .val (.ref a_SASL_HANDSHAKE), .val (.int (2147483647 : Int32)), .val (.int ((2147483647 : Int32) + (((p2 >>> ((1 : Int32) &&& 31)) &&& (3 : Int32)) - (2 : Int32)))), .unset] [(.int ((2147483647 : Int32) + (((p2 >>> ((1 : Int32) &&& 31)) &&& (3 : Int32)) - (2 : Int32))))]))
        refine own_F.of (fun _ => XS.iload S80.here S80.hx rfl (S80.dec at_153) rfl) ?_
        show own_F p e below s Z _ _ _ _ _ (T80.setTop (mkF m 155 #[.val (.int p0), .val (.int p1), .val (.int p2), .val (.int ((p0 &&& (2147483647 : Int32)) % (8 : Int32))), .val (.ref a_SASL_HANDSHAKE), .val (.int (2147483647 : Int32)), .val (.int ((2147483647 : Int32) + (((p2 >>> ((1 : Int32) &&& 31)) &&& (3 : Int32)) - (2 : Int32)))), .unset] [(.int (2147483647 : Int32)), (.int ((2147483647 : Int32) + (((p2 >>> ((1 : Int32) &&& 31)) &&& (3 : Int32)) - (2 : Int32))))]))
        refine own_icmp S80 162 at_155 (by decide) (by decide) (fun (hc155_87 : ((2147483647 : Int32) + (((p2 >>> ((1 : Int32) &&& 31)) &&& (3 : Int32)) - (2 : Int32))) < (2147483647 : Int32)) => ?_) (fun (hc155_87 : ¬ (((2147483647 : Int32) + (((p2 >>> ((1 : Int32) &&& 31)) &&& (3 : Int32)) - (2 : Int32))) < (2147483647 : Int32))) => ?_)
        · show own_F p e below s Z _ _ _ _ _ (T80.setTop (mkF m 162 #[.val (.int p0), .val (.int p1), .val (.int p2), .val (.int ((p0 &&& (2147483647 : Int32)) % (8 : Int32))), .val (.ref a_SASL_HANDSHAKE), .val (.int (2147483647 : Int32)), .val (.int ((2147483647 : Int32) + (((p2 >>> ((1 : Int32) &&& 31)) &&& (3 : Int32)) - (2 : Int32)))), .unset] []))
          refine own_F.of (fun _ => XS.iconst S80.here S80.hx rfl (S80.dec at_162)) ?_
          show own_F p e below s Z _ _ _ _ _ (T80.setTop (mkF m 163 #[.val (.int p0), .val (.int p1), .val (.int p2), .val (.int ((p0 &&& (2147483647 : Int32)) % (8 : Int32))), .val (.ref a_SASL_HANDSHAKE), .val (.int (2147483647 : Int32)), .val (.int ((2147483647 : Int32) + (((p2 >>> ((1 : Int32) &&& 31)) &&& (3 : Int32)) - (2 : Int32)))), .unset] [(.int (0 : Int32))]))
          refine own_F.of (fun _ => XS.istore S80.here S80.hx rfl (S80.dec at_163) rfl (l' := #[.val (.int p0), .val (.int p1), .val (.int p2), .val (.int ((p0 &&& (2147483647 : Int32)) % (8 : Int32))), .val (.ref a_SASL_HANDSHAKE), .val (.int (2147483647 : Int32)), .val (.int ((2147483647 : Int32) + (((p2 >>> ((1 : Int32) &&& 31)) &&& (3 : Int32)) - (2 : Int32)))), .val (.int (0 : Int32))]) rfl) ?_
          show own_F p e below s Z _ _ _ _ _ (T80.setTop (mkF m 165 #[.val (.int p0), .val (.int p1), .val (.int p2), .val (.int ((p0 &&& (2147483647 : Int32)) % (8 : Int32))), .val (.ref a_SASL_HANDSHAKE), .val (.int (2147483647 : Int32)), .val (.int ((2147483647 : Int32) + (((p2 >>> ((1 : Int32) &&& 31)) &&& (3 : Int32)) - (2 : Int32)))), .val (.int (0 : Int32))] []))
          refine own_F.of (fun _ => XS.aload S80.here S80.hx rfl (S80.dec at_165) rfl rfl) ?_
          show own_F p e below s Z _ _ _ _ _ (T80.setTop (mkF m 167 #[.val (.int p0), .val (.int p1), .val (.int p2), .val (.int ((p0 &&& (2147483647 : Int32)) % (8 : Int32))), .val (.ref a_SASL_HANDSHAKE), .val (.int (2147483647 : Int32)), .val (.int ((2147483647 : Int32) + (((p2 >>> ((1 : Int32) &&& 31)) &&& (3 : Int32)) - (2 : Int32)))), .val (.int (0 : Int32))] [(.ref a_SASL_HANDSHAKE)]))
          refine own_F.of (fun _ => XS.iload S80.here S80.hx rfl (S80.dec at_167) rfl) ?_
          show own_F p e below s Z _ _ _ _ _ (T80.setTop (mkF m 169 #[.val (.int p0), .val (.int p1), .val (.int p2), .val (.int ((p0 &&& (2147483647 : Int32)) % (8 : Int32))), .val (.ref a_SASL_HANDSHAKE), .val (.int (2147483647 : Int32)), .val (.int ((2147483647 : Int32) + (((p2 >>> ((1 : Int32) &&& 31)) &&& (3 : Int32)) - (2 : Int32)))), .val (.int (0 : Int32))] [(.int ((2147483647 : Int32) + (((p2 >>> ((1 : Int32) &&& 31)) &&& (3 : Int32)) - (2 : Int32)))), (.ref a_SASL_HANDSHAKE)]))
          refine own_callV S80 (y := (⟨"com/example/lanyard/lanyard/protocol/ApiKey", "isFlexible", "(I)Z"⟩ : MethodName)) (y' := (⟨"com/example/lanyard/lanyard/protocol/ApiKey", "isFlexible", "(I)Z"⟩ : MethodName)) (own_w hw 4 rfl) (own_w hw 5 rfl) (own_nf S80 (own_w hw 7 rfl)) (own_w hw 7 rfl) (own_w hw 6 rfl) (own_w hw 8 rfl) (own_w hw 2 rfl) (by decide) (X_SASL_HANDSHAKE.ext S80.old) (argsL := [(.int ((2147483647 : Int32) + (((p2 >>> ((1 : Int32) &&& 31)) &&& (3 : Int32)) - (2 : Int32))))]) (rest := []) (own_flex l Z a0 hw a_SASL_HANDSHAKE ((2147483647 : Int32) + (((p2 >>> ((1 : Int32) &&& 31)) &&& (3 : Int32)) - (2 : Int32))) (2147483647 : Int32) h0 S80.old F_SASL_HANDSHAKE_firstFlexibleVersion) all0 (by decide +kernel : parseMethodDescriptor "(I)Z" = some ⟨[.int], some .boolean⟩) rfl rfl rfl at_169 (by decide) (Nat.le_of_ble_eq_true rfl) (by decide) (by decide) (fun T88 h88 v88 S88 K88 q88 => ?_)
          obtain ⟨rfl, rfl⟩ := q88
          show own_F p e below s Z _ _ _ _ _ (T88.setTop (mkF m 172 #[.val (.int p0), .val (.int p1), .val (.int p2), .val (.int ((p0 &&& (2147483647 : Int32)) % (8 : Int32))), .val (.ref a_SASL_HANDSHAKE), .val (.int (2147483647 : Int32)), .val (.int ((2147483647 : Int32) + (((p2 >>> ((1 : Int32) &&& 31)) &&& (3 : Int32)) - (2 : Int32)))), .val (.int (0 : Int32))] [(.int (own_fx ((2147483647 : Int32) + (((p2 >>> ((1 : Int32) &&& 31)) &&& (3 : Int32)) - (2 : Int32))) (2147483647 : Int32)))]))
          refine own_F.of (fun _ => XS.iload S88.here S88.hx rfl (S88.dec at_172) rfl) ?_
          show own_F p e below s Z _ _ _ _ _ (T88.setTop (mkF m 174 #[.val (.int p0), .val (.int p1), .val (.int p2), .val (.int ((p0 &&& (2147483647 : Int32)) % (8 : Int32))), .val (.ref a_SASL_HANDSHAKE), .val (.int (2147483647 : Int32)), .val (.int ((2147483647 : Int32) + (((p2 >>> ((1 : Int32) &&& 31)) &&& (3 : Int32)) - (2 : Int32)))), .val (.int (0 : Int32))] [(.int (0 : Int32)), (.int (own_fx ((2147483647 : Int32) + (((p2 >>> ((1 : Int32) &&& 31)) &&& (3 : Int32)) - (2 : Int32))) (2147483647 : Int32)))]))
          refine own_icmp S88 181 at_174 (by decide) (by decide) (fun (hc174_89 : ¬ ((own_fx ((2147483647 : Int32) + (((p2 >>> ((1 : Int32) &&& 31)) &&& (3 : Int32)) - (2 : Int32))) (2147483647 : Int32)) = (0 : Int32))) => False.elim (hc174_89 (by simp [own_fx, hc155_87]))) (fun (hc174_89 : (own_fx ((2147483647 : Int32) + (((p2 >>> ((1 : Int32) &&& 31)) &&& (3 : Int32)) - (2 : Int32))) (2147483647 : Int32)) = (0 : Int32)) => ?_)
          show own_F p e below s Z _ _ _ _ _ (T88.setTop (mkF m 177 #[.val (.int p0), .val (.int p1), .val (.int p2), .val (.int ((p0 &&& (2147483647 : Int32)) % (8 : Int32))), .val (.ref a_SASL_HANDSHAKE), .val (.int (2147483647 : Int32)), .val (.int ((2147483647 : Int32) + (((p2 >>> ((1 : Int32) &&& 31)) &&& (3 : Int32)) - (2 : Int32)))), .val (.int (0 : Int32))] []))
          refine own_F.of (fun _ => XS.iconst S88.here S88.hx rfl (S88.dec at_177)) ?_
          show own_F p e below s Z _ _ _ _ _ (T88.setTop (mkF m 178 #[.val (.int p0), .val (.int p1), .val (.int p2), .val (.int ((p0 &&& (2147483647 : Int32)) % (8 : Int32))), .val (.ref a_SASL_HANDSHAKE), .val (.int (2147483647 : Int32)), .val (.int ((2147483647 : Int32) + (((p2 >>> ((1 : Int32) &&& 31)) &&& (3 : Int32)) - (2 : Int32)))), .val (.int (0 : Int32))] [(.int (1 : Int32))]))
          refine own_F.of (fun _ => XS.goto S88.here S88.hx rfl (pc0 := 178) (pc' := 182) rfl (S88.dec at_178) (by decide) (by decide)) ?_
          show own_F p e below s Z _ _ _ _ _ (T88.setTop (mkF m 182 #[.val (.int p0), .val (.int p1), .val (.int p2), .val (.int ((p0 &&& (2147483647 : Int32)) % (8 : Int32))), .val (.ref a_SASL_HANDSHAKE), .val (.int (2147483647 : Int32)), .val (.int ((2147483647 : Int32) + (((p2 >>> ((1 : Int32) &&& 31)) &&& (3 : Int32)) - (2 : Int32)))), .val (.int (0 : Int32))] [(.int (1 : Int32))]))
          refine own_retZ S88 (by simp) at_182 (by decide) (by decide) ?_
          rfl
        · show own_F p e below s Z _ _ _ _ _ (T80.setTop (mkF m 158 #[.val (.int p0), .val (.int p1), .val (.int p2), .val (.int ((p0 &&& (2147483647 : Int32)) % (8 : Int32))), .val (.ref a_SASL_HANDSHAKE), .val (.int (2147483647 : Int32)), .val (.int ((2147483647 : Int32) + (((p2 >>> ((1 : Int32) &&& 31)) &&& (3 : Int32)) - (2 : Int32)))), .unset] []))
          refine own_F.of (fun _ => XS.iconst S80.here S80.hx rfl (S80.dec at_158)) ?_
          show own_F p e below s Z _ _ _ _ _ (T80.setTop (mkF m 159 #[.val (.int p0), .val (.int p1), .val (.int p2), .val (.int ((p0 &&& (2147483647 : Int32)) % (8 : Int32))), .val (.ref a_SASL_HANDSHAKE), .val (.int (2147483647 : Int32)), .val (.int ((2147483647 : Int32) + (((p2 >>> ((1 : Int32) &&& 31)) &&& (3 : Int32)) - (2 : Int32)))), .unset] [(.int (1 : Int32))]))
          refine own_F.of (fun _ => XS.goto S80.here S80.hx rfl (pc0 := 159) (pc' := 163) rfl (S80.dec at_159) (by decide) (by decide)) ?_
          show own_F p e below s Z _ _ _ _ _ (T80.setTop (mkF m 163 #[.val (.int p0), .val (.int p1), .val (.int p2), .val (.int ((p0 &&& (2147483647 : Int32)) % (8 : Int32))), .val (.ref a_SASL_HANDSHAKE), .val (.int (2147483647 : Int32)), .val (.int ((2147483647 : Int32) + (((p2 >>> ((1 : Int32) &&& 31)) &&& (3 : Int32)) - (2 : Int32)))), .unset] [(.int (1 : Int32))]))
          refine own_F.of (fun _ => XS.istore S80.here S80.hx rfl (S80.dec at_163) rfl (l' := #[.val (.int p0), .val (.int p1), .val (.int p2), .val (.int ((p0 &&& (2147483647 : Int32)) % (8 : Int32))), .val (.ref a_SASL_HANDSHAKE), .val (.int (2147483647 : Int32)), .val (.int ((2147483647 : Int32) + (((p2 >>> ((1 : Int32) &&& 31)) &&& (3 : Int32)) - (2 : Int32)))), .val (.int (1 : Int32))]) rfl) ?_
          show own_F p e below s Z _ _ _ _ _ (T80.setTop (mkF m 165 #[.val (.int p0), .val (.int p1), .val (.int p2), .val (.int ((p0 &&& (2147483647 : Int32)) % (8 : Int32))), .val (.ref a_SASL_HANDSHAKE), .val (.int (2147483647 : Int32)), .val (.int ((2147483647 : Int32) + (((p2 >>> ((1 : Int32) &&& 31)) &&& (3 : Int32)) - (2 : Int32)))), .val (.int (1 : Int32))] []))
          refine own_F.of (fun _ => XS.aload S80.here S80.hx rfl (S80.dec at_165) rfl rfl) ?_
          show own_F p e below s Z _ _ _ _ _ (T80.setTop (mkF m 167 #[.val (.int p0), .val (.int p1), .val (.int p2), .val (.int ((p0 &&& (2147483647 : Int32)) % (8 : Int32))), .val (.ref a_SASL_HANDSHAKE), .val (.int (2147483647 : Int32)), .val (.int ((2147483647 : Int32) + (((p2 >>> ((1 : Int32) &&& 31)) &&& (3 : Int32)) - (2 : Int32)))), .val (.int (1 : Int32))] [(.ref a_SASL_HANDSHAKE)]))
          refine own_F.of (fun _ => XS.iload S80.here S80.hx rfl (S80.dec at_167) rfl) ?_
          show own_F p e below s Z _ _ _ _ _ (T80.setTop (mkF m 169 #[.val (.int p0), .val (.int p1), .val (.int p2), .val (.int ((p0 &&& (2147483647 : Int32)) % (8 : Int32))), .val (.ref a_SASL_HANDSHAKE), .val (.int (2147483647 : Int32)), .val (.int ((2147483647 : Int32) + (((p2 >>> ((1 : Int32) &&& 31)) &&& (3 : Int32)) - (2 : Int32)))), .val (.int (1 : Int32))] [(.int ((2147483647 : Int32) + (((p2 >>> ((1 : Int32) &&& 31)) &&& (3 : Int32)) - (2 : Int32)))), (.ref a_SASL_HANDSHAKE)]))
          refine own_callV S80 (y := (⟨"com/example/lanyard/lanyard/protocol/ApiKey", "isFlexible", "(I)Z"⟩ : MethodName)) (y' := (⟨"com/example/lanyard/lanyard/protocol/ApiKey", "isFlexible", "(I)Z"⟩ : MethodName)) (own_w hw 4 rfl) (own_w hw 5 rfl) (own_nf S80 (own_w hw 7 rfl)) (own_w hw 7 rfl) (own_w hw 6 rfl) (own_w hw 8 rfl) (own_w hw 2 rfl) (by decide) (X_SASL_HANDSHAKE.ext S80.old) (argsL := [(.int ((2147483647 : Int32) + (((p2 >>> ((1 : Int32) &&& 31)) &&& (3 : Int32)) - (2 : Int32))))]) (rest := []) (own_flex l Z a0 hw a_SASL_HANDSHAKE ((2147483647 : Int32) + (((p2 >>> ((1 : Int32) &&& 31)) &&& (3 : Int32)) - (2 : Int32))) (2147483647 : Int32) h0 S80.old F_SASL_HANDSHAKE_firstFlexibleVersion) all0 (by decide +kernel : parseMethodDescriptor "(I)Z" = some ⟨[.int], some .boolean⟩) rfl rfl rfl at_169 (by decide) (Nat.le_of_ble_eq_true rfl) (by decide) (by decide) (fun T90 h90 v90 S90 K90 q90 => ?_)
          obtain ⟨rfl, rfl⟩ := q90
          show own_F p e below s Z _ _ _ _ _ (T90.setTop (mkF m 172 #[.val (.int p0), .val (.int p1), .val (.int p2), .val (.int ((p0 &&& (2147483647 : Int32)) % (8 : Int32))), .val (.ref a_SASL_HANDSHAKE), .val (.int (2147483647 : Int32)), .val (.int ((2147483647 : Int32) + (((p2 >>> ((1 : Int32) &&& 31)) &&& (3 : Int32)) - (2 : Int32)))), .val (.int (1 : Int32))] [(.int (own_fx ((2147483647 : Int32) + (((p2 >>> ((1 : Int32) &&& 31)) &&& (3 : Int32)) - (2 : Int32))) (2147483647 : Int32)))]))
          refine own_F.of (fun _ => XS.iload S90.here S90.hx rfl (S90.dec at_172) rfl) ?_
          show own_F p e below s Z _ _ _ _ _ (T90.setTop (mkF m 174 #[.val (.int p0), .val (.int p1), .val (.int p2), .val (.int ((p0 &&& (2147483647 : Int32)) % (8 : Int32))), .val (.ref a_SASL_HANDSHAKE), .val (.int (2147483647 : Int32)), .val (.int ((2147483647 : Int32) + (((p2 >>> ((1 : Int32) &&& 31)) &&& (3 : Int32)) - (2 : Int32)))), .val (.int (1 : Int32))] [(.int (1 : Int32)), (.int (own_fx ((2147483647 : Int32) + (((p2 >>> ((1 : Int32) &&& 31)) &&& (3 : Int32)) - (2 : Int32))) (2147483647 : Int32)))]))
          refine own_icmp S90 181 at_174 (by decide) (by decide) (fun (hc174_91 : ¬ ((own_fx ((2147483647 : Int32) + (((p2 >>> ((1 : Int32) &&& 31)) &&& (3 : Int32)) - (2 : Int32))) (2147483647 : Int32)) = (1 : Int32))) => False.elim (hc174_91 (by simp [own_fx, hc155_87]))) (fun (hc174_91 : (own_fx ((2147483647 : Int32) + (((p2 >>> ((1 : Int32) &&& 31)) &&& (3 : Int32)) - (2 : Int32))) (2147483647 : Int32)) = (1 : Int32)) => ?_)
          show own_F p e below s Z _ _ _ _ _ (T90.setTop (mkF m 177 #[.val (.int p0), .val (.int p1), .val (.int p2), .val (.int ((p0 &&& (2147483647 : Int32)) % (8 : Int32))), .val (.ref a_SASL_HANDSHAKE), .val (.int (2147483647 : Int32)), .val (.int ((2147483647 : Int32) + (((p2 >>> ((1 : Int32) &&& 31)) &&& (3 : Int32)) - (2 : Int32)))), .val (.int (1 : Int32))] []))
          refine own_F.of (fun _ => XS.iconst S90.here S90.hx rfl (S90.dec at_177)) ?_
          show own_F p e below s Z _ _ _ _ _ (T90.setTop (mkF m 178 #[.val (.int p0), .val (.int p1), .val (.int p2), .val (.int ((p0 &&& (2147483647 : Int32)) % (8 : Int32))), .val (.ref a_SASL_HANDSHAKE), .val (.int (2147483647 : Int32)), .val (.int ((2147483647 : Int32) + (((p2 >>> ((1 : Int32) &&& 31)) &&& (3 : Int32)) - (2 : Int32)))), .val (.int (1 : Int32))] [(.int (1 : Int32))]))
          refine own_F.of (fun _ => XS.goto S90.here S90.hx rfl (pc0 := 178) (pc' := 182) rfl (S90.dec at_178) (by decide) (by decide)) ?_
          show own_F p e below s Z _ _ _ _ _ (T90.setTop (mkF m 182 #[.val (.int p0), .val (.int p1), .val (.int p2), .val (.int ((p0 &&& (2147483647 : Int32)) % (8 : Int32))), .val (.ref a_SASL_HANDSHAKE), .val (.int (2147483647 : Int32)), .val (.int ((2147483647 : Int32) + (((p2 >>> ((1 : Int32) &&& 31)) &&& (3 : Int32)) - (2 : Int32)))), .val (.int (1 : Int32))] [(.int (1 : Int32))]))
          refine own_retZ S90 (by simp) at_182 (by decide) (by decide) ?_
          rfl
  · show own_F p e below s Z _ _ _ _ _ (T0.setTop (mkF m 12 #[.val (.int p0), .val (.int p1), .val (.int p2), .val (.int ((p0 &&& (2147483647 : Int32)) % (8 : Int32))), .unset, .unset, .unset, .unset] []))
    refine own_getS S0 (host := "") (Or.inl (own_w hw 1 rfl)) Via.refl (S_METADATA.ext S0.old) at_12 (fun T92 S92 => ?_)
    show own_F p e below s Z _ _ _ _ _ (T92.setTop (mkF m 15 #[.val (.int p0), .val (.int p1), .val (.int p2), .val (.int ((p0 &&& (2147483647 : Int32)) % (8 : Int32))), .unset, .unset, .unset, .unset] [(.ref a_METADATA)]))
    refine own_F.of (fun _ => XS.astore S92.here S92.hx rfl (S92.dec at_15) rfl rfl (l' := #[.val (.int p0), .val (.int p1), .val (.int p2), .val (.int ((p0 &&& (2147483647 : Int32)) % (8 : Int32))), .val (.ref a_METADATA), .unset, .unset, .unset]) rfl) ?_
    show own_F p e below s Z _ _ _ _ _ (T92.setTop (mkF m 17 #[.val (.int p0), .val (.int p1), .val (.int p2), .val (.int ((p0 &&& (2147483647 : Int32)) % (8 : Int32))), .val (.ref a_METADATA), .unset, .unset, .unset] []))
    refine own_F.of (fun _ => XS.bipush S92.here S92.hx rfl (S92.dec at_17)) ?_
    show own_F p e below s Z _ _ _ _ _ (T92.setTop (mkF m 19 #[.val (.int p0), .val (.int p1), .val (.int p2), .val (.int ((p0 &&& (2147483647 : Int32)) % (8 : Int32))), .val (.ref a_METADATA), .unset, .unset, .unset] [(.int (9 : Int32))]))
    refine own_F.of (fun _ => XS.istore S92.here S92.hx rfl (S92.dec at_19) rfl (l' := #[.val (.int p0), .val (.int p1), .val (.int p2), .val (.int ((p0 &&& (2147483647 : Int32)) % (8 : Int32))), .val (.ref a_METADATA), .val (.int (9 : Int32)), .unset, .unset]) rfl) ?_
    show own_F p e below s Z _ _ _ _ _ (T92.setTop (mkF m 21 #[.val (.int p0), .val (.int p1), .val (.int p2), .val (.int ((p0 &&& (2147483647 : Int32)) % (8 : Int32))), .val (.ref a_METADATA), .val (.int (9 : Int32)), .unset, .unset] []))
    refine own_F.of (fun _ => XS.goto S92.here S92.hx rfl (pc0 := 21) (pc' := 130) rfl (S92.dec at_21) (by decide) (by decide)) ?_
    show own_F p e below s Z _ _ _ _ _ (T92.setTop (mkF m 130 #[.val (.int p0), .val (.int p1), .val (.int p2), .val (.int ((p0 &&& (2147483647 : Int32)) % (8 : Int32))), .val (.ref a_METADATA), .val (.int (9 : Int32)), .unset, .unset] []))
    refine own_F.of (fun _ => XS.iloadN S92.here S92.hx rfl (S92.dec at_130) rfl) ?_
    show own_F p e below s Z _ _ _ _ _ (T92.setTop (mkF m 131 #[.val (.int p0), .val (.int p1), .val (.int p2), .val (.int ((p0 &&& (2147483647 : Int32)) % (8 : Int32))), .val (.ref a_METADATA), .val (.int (9 : Int32)), .unset, .unset] [(.int p1)]))
    refine own_F.of (fun _ => XS.istore S92.here S92.hx rfl (S92.dec at_131) rfl (l' := #[.val (.int p0), .val (.int p1), .val (.int p2), .val (.int ((p0 &&& (2147483647 : Int32)) % (8 : Int32))), .val (.ref a_METADATA), .val (.int (9 : Int32)), .val (.int p1), .unset]) rfl) ?_
    show own_F p e below s Z _ _ _ _ _ (T92.setTop (mkF m 133 #[.val (.int p0), .val (.int p1), .val (.int p2), .val (.int ((p0 &&& (2147483647 : Int32)) % (8 : Int32))), .val (.ref a_METADATA), .val (.int (9 : Int32)), .val (.int p1), .unset] []))
    refine own_F.of (fun _ => XS.iloadN S92.here S92.hx rfl (S92.dec at_133) rfl) ?_
    show own_F p e below s Z _ _ _ _ _ (T92.setTop (mkF m 134 #[.val (.int p0), .val (.int p1), .val (.int p2), .val (.int ((p0 &&& (2147483647 : Int32)) % (8 : Int32))), .val (.ref a_METADATA), .val (.int (9 : Int32)), .val (.int p1), .unset] [(.int p2)]))
    refine own_F.of (fun _ => XS.iconst S92.here S92.hx rfl (S92.dec at_134)) ?_
    show own_F p e below s Z _ _ _ _ _ (T92.setTop (mkF m 135 #[.val (.int p0), .val (.int p1), .val (.int p2), .val (.int ((p0 &&& (2147483647 : Int32)) % (8 : Int32))), .val (.ref a_METADATA), .val (.int (9 : Int32)), .val (.int p1), .unset] [(.int (1 : Int32)), (.int p2)]))
    refine own_F.of (fun _ => XS.iand S92.here S92.hx rfl (S92.dec at_135) rfl) ?_
    show own_F p e below s Z _ _ _ _ _ (T92.setTop (mkF m 136 #[.val (.int p0), .val (.int p1), .val (.int p2), .val (.int ((p0 &&& (2147483647 : Int32)) % (8 : Int32))), .val (.ref a_METADATA), .val (.int (9 : Int32)), .val (.int p1), .unset] [(.int (p2 &&& (1 : Int32)))]))
    refine own_if S92 151 at_136 (by decide) (by decide) (fun (hc136_93 : (p2 &&& (1 : Int32)) = (0 : Int32)) => ?_) (fun (hc136_93 : ¬ ((p2 &&& (1 : Int32)) = (0 : Int32))) => ?_)
    · show own_F p e below s Z _ _ _ _ _ (T92.setTop (mkF m 151 #[.val (.int p0), .val (.int p1), .val (.int p2), .val (.int ((p0 &&& (2147483647 : Int32)) % (8 : Int32))), .val (.ref a_METADATA), .val (.int (9 : Int32)), .val (.int p1), .unset] []))
      refine own_F.of (fun _ => XS.iload S92.here S92.hx rfl (S92.dec at_151) rfl) ?_
      show own_F p e below s Z _ _ _ _ _ (T92.setTop (mkF m 153 #[.val (.int p0), .val (.int p1), .val (.int p2), .val (.int ((p0 &&& (2147483647 : Int32)) % (8 : Int32))), .val (.ref a_METADATA), .val (.int (9 : Int32)), .val (.int p1), .unset] [(.int p1)]))
      refine own_F.of (fun _ => XS.iload S92.here S92.hx rfl (S92.dec at_153) rfl) ?_
      show own_F p e below s Z _ _ _ _ _ (T92.setTop (mkF m 155 #[.val (.int p0), .val (.int p1), .val (.int p2), .val (.int ((p0 &&& (2147483647 : Int32)) % (8 : Int32))), .val (.ref a_METADATA), .val (.int (9 : Int32)), .val (.int p1), .unset] [(.int (9 : Int32)), (.int p1)]))
      refine own_icmp S92 162 at_155 (by decide) (by decide) (fun (hc155_94 : p1 < (9 : Int32)) => ?_) (fun (hc155_94 : ¬ (p1 < (9 : Int32))) => ?_)
      · show own_F p e below s Z _ _ _ _ _ (T92.setTop (mkF m 162 #[.val (.int p0), .val (.int p1), .val (.int p2), .val (.int ((p0 &&& (2147483647 : Int32)) % (8 : Int32))), .val (.ref a_METADATA), .val (.int (9 : Int32)), .val (.int p1), .unset] []))
        refine own_F.of (fun _ => XS.iconst S92.here S92.hx rfl (S92.dec at_162)) ?_
        show own_F p e below s Z _ _ _ _ _ (T92.setTop (mkF m 163 #[.val (.int p0), .val (.int p1), .val (.int p2), .val (.int ((p0 &&& (2147483647 : Int32)) % (8 : Int32))), .val (.ref a_METADATA), .val (.int (9 : Int32)), .val (.int p1), .unset] [(.int (0 : Int32))]))
        refine own_F.of (fun _ => XS.istore S92.here S92.hx rfl (S92.dec at_163) rfl (l' := #[.val (.int p0), .val (.int p1), .val (.int p2), .val (.int ((p0 &&& (2147483647 : Int32)) % (8 : Int32))), .val (.ref a_METADATA), .val (.int (9 : Int32)), .val (.int p1), .val (.int (0 : Int32))]) rfl) ?_
        show own_F p e below s Z _ _ _ _ _ (T92.setTop (mkF m 165 #[.val (.int p0), .val (.int p1), .val (.int p2), .val (.int ((p0 &&& (2147483647 : Int32)) % (8 : Int32))), .val (.ref a_METADATA), .val (.int (9 : Int32)), .val (.int p1), .val (.int (0 : Int32))] []))
        refine own_F.of (fun _ => XS.aload S92.here S92.hx rfl (S92.dec at_165) rfl rfl) ?_
        show own_F p e below s Z _ _ _ _ _ (T92.setTop (mkF m 167 #[.val (.int p0), .val (.int p1), .val (.int p2), .val (.int ((p0 &&& (2147483647 : Int32)) % (8 : Int32))), .val (.ref a_METADATA), .val (.int (9 : Int32)), .val (.int p1), .val (.int (0 : Int32))] [(.ref a_METADATA)]))
        refine own_F.of (fun _ => XS.iload S92.here S92.hx rfl (S92.dec at_167) rfl) ?_
        show own_F p e below s Z _ _ _ _ _ (T92.setTop (mkF m 169 #[.val (.int p0), .val (.int p1), .val (.int p2), .val (.int ((p0 &&& (2147483647 : Int32)) % (8 : Int32))), .val (.ref a_METADATA), .val (.int (9 : Int32)), .val (.int p1), .val (.int (0 : Int32))] [(.int p1), (.ref a_METADATA)]))
        refine own_callV S92 (y := (⟨"com/example/lanyard/lanyard/protocol/ApiKey", "isFlexible", "(I)Z"⟩ : MethodName)) (y' := (⟨"com/example/lanyard/lanyard/protocol/ApiKey", "isFlexible", "(I)Z"⟩ : MethodName)) (own_w hw 4 rfl) (own_w hw 5 rfl) (own_nf S92 (own_w hw 7 rfl)) (own_w hw 7 rfl) (own_w hw 6 rfl) (own_w hw 8 rfl) (own_w hw 2 rfl) (by decide) (X_METADATA.ext S92.old) (argsL := [(.int p1)]) (rest := []) (own_flex l Z a0 hw a_METADATA p1 (9 : Int32) h0 S92.old F_METADATA_firstFlexibleVersion) all0 (by decide +kernel : parseMethodDescriptor "(I)Z" = some ⟨[.int], some .boolean⟩) rfl rfl rfl at_169 (by decide) (Nat.le_of_ble_eq_true rfl) (by decide) (by decide) (fun T95 h95 v95 S95 K95 q95 => ?_)
        obtain ⟨rfl, rfl⟩ := q95
        show own_F p e below s Z _ _ _ _ _ (T95.setTop (mkF m 172 #[.val (.int p0), .val (.int p1), .val (.int p2), .val (.int ((p0 &&& (2147483647 : Int32)) % (8 : Int32))), .val (.ref a_METADATA), .val (.int (9 : Int32)), .val (.int p1), .val (.int (0 : Int32))] [(.int (own_fx p1 (9 : Int32)))]))
        refine own_F.of (fun _ => XS.iload S95.here S95.hx rfl (S95.dec at_172) rfl) ?_
        show own_F p e below s Z _ _ _ _ _ (T95.setTop (mkF m 174 #[.val (.int p0), .val (.int p1), .val (.int p2), .val (.int ((p0 &&& (2147483647 : Int32)) % (8 : Int32))), .val (.ref a_METADATA), .val (.int (9 : Int32)), .val (.int p1), .val (.int (0 : Int32))] [(.int (0 : Int32)), (.int (own_fx p1 (9 : Int32)))]))
        refine own_icmp S95 181 at_174 (by decide) (by decide) (fun (hc174_96 : ¬ ((own_fx p1 (9 : Int32)) = (0 : Int32))) => False.elim (hc174_96 (by simp [own_fx, hc155_94]))) (fun (hc174_96 : (own_fx p1 (9 : Int32)) = (0 : Int32)) => ?_)
        show own_F p e below s Z _ _ _ _ _ (T95.setTop (mkF m 177 #[.val (.int p0), .val (.int p1), .val (.int p2), .val (.int ((p0 &&& (2147483647 : Int32)) % (8 : Int32))), .val (.ref a_METADATA), .val (.int (9 : Int32)), .val (.int p1), .val (.int (0 : Int32))] []))
        refine own_F.of (fun _ => XS.iconst S95.here S95.hx rfl (S95.dec at_177)) ?_
        show own_F p e below s Z _ _ _ _ _ (T95.setTop (mkF m 178 #[.val (.int p0), .val (.int p1), .val (.int p2), .val (.int ((p0 &&& (2147483647 : Int32)) % (8 : Int32))), .val (.ref a_METADATA), .val (.int (9 : Int32)), .val (.int p1), .val (.int (0 : Int32))] [(.int (1 : Int32))]))
        refine own_F.of (fun _ => XS.goto S95.here S95.hx rfl (pc0 := 178) (pc' := 182) rfl (S95.dec at_178) (by decide) (by decide)) ?_
        show own_F p e below s Z _ _ _ _ _ (T95.setTop (mkF m 182 #[.val (.int p0), .val (.int p1), .val (.int p2), .val (.int ((p0 &&& (2147483647 : Int32)) % (8 : Int32))), .val (.ref a_METADATA), .val (.int (9 : Int32)), .val (.int p1), .val (.int (0 : Int32))] [(.int (1 : Int32))]))
        refine own_retZ S95 (by simp) at_182 (by decide) (by decide) ?_
        rfl
      · show own_F p e below s Z _ _ _ _ _ (T92.setTop (mkF m 158 #[.val (.int p0), .val (.int p1), .val (.int p2), .val (.int ((p0 &&& (2147483647 : Int32)) % (8 : Int32))), .val (.ref a_METADATA), .val (.int (9 : Int32)), .val (.int p1), .unset] []))
        refine own_F.of (fun _ => XS.iconst S92.here S92.hx rfl (S92.dec at_158)) ?_
        show own_F p e below s Z _ _ _ _ _ (T92.setTop (mkF m 159 #[.val (.int p0), .val (.int p1), .val (.int p2), .val (.int ((p0 &&& (2147483647 : Int32)) % (8 : Int32))), .val (.ref a_METADATA), .val (.int (9 : Int32)), .val (.int p1), .unset] [(.int (1 : Int32))]))
        refine own_F.of (fun _ => XS.goto S92.here S92.hx rfl (pc0 := 159) (pc' := 163) rfl (S92.dec at_159) (by decide) (by decide)) ?_
        show own_F p e below s Z _ _ _ _ _ (T92.setTop (mkF m 163 #[.val (.int p0), .val (.int p1), .val (.int p2), .val (.int ((p0 &&& (2147483647 : Int32)) % (8 : Int32))), .val (.ref a_METADATA), .val (.int (9 : Int32)), .val (.int p1), .unset] [(.int (1 : Int32))]))
        refine own_F.of (fun _ => XS.istore S92.here S92.hx rfl (S92.dec at_163) rfl (l' := #[.val (.int p0), .val (.int p1), .val (.int p2), .val (.int ((p0 &&& (2147483647 : Int32)) % (8 : Int32))), .val (.ref a_METADATA), .val (.int (9 : Int32)), .val (.int p1), .val (.int (1 : Int32))]) rfl) ?_
        show own_F p e below s Z _ _ _ _ _ (T92.setTop (mkF m 165 #[.val (.int p0), .val (.int p1), .val (.int p2), .val (.int ((p0 &&& (2147483647 : Int32)) % (8 : Int32))), .val (.ref a_METADATA), .val (.int (9 : Int32)), .val (.int p1), .val (.int (1 : Int32))] []))
        refine own_F.of (fun _ => XS.aload S92.here S92.hx rfl (S92.dec at_165) rfl rfl) ?_
        show own_F p e below s Z _ _ _ _ _ (T92.setTop (mkF m 167 #[.val (.int p0), .val (.int p1), .val (.int p2), .val (.int ((p0 &&& (2147483647 : Int32)) % (8 : Int32))), .val (.ref a_METADATA), .val (.int (9 : Int32)), .val (.int p1), .val (.int (1 : Int32))] [(.ref a_METADATA)]))
        refine own_F.of (fun _ => XS.iload S92.here S92.hx rfl (S92.dec at_167) rfl) ?_
        show own_F p e below s Z _ _ _ _ _ (T92.setTop (mkF m 169 #[.val (.int p0), .val (.int p1), .val (.int p2), .val (.int ((p0 &&& (2147483647 : Int32)) % (8 : Int32))), .val (.ref a_METADATA), .val (.int (9 : Int32)), .val (.int p1), .val (.int (1 : Int32))] [(.int p1), (.ref a_METADATA)]))
        refine own_callV S92 (y := (⟨"com/example/lanyard/lanyard/protocol/ApiKey", "isFlexible", "(I)Z"⟩ : MethodName)) (y' := (⟨"com/example/lanyard/lanyard/protocol/ApiKey", "isFlexible", "(I)Z"⟩ : MethodName)) (own_w hw 4 rfl) (own_w hw 5 rfl) (own_nf S92 (own_w hw 7 rfl)) (own_w hw 7 rfl) (own_w hw 6 rfl) (own_w hw 8 rfl) (own_w hw 2 rfl) (by decide) (X_METADATA.ext S92.old) (argsL := [(.int p1)]) (rest := []) (own_flex l Z a0 hw a_METADATA p1 (9 : Int32) h0 S92.old F_METADATA_firstFlexibleVersion) all0 (by decide +kernel : parseMethodDescriptor "(I)Z" = some ⟨[.int], some .boolean⟩) rfl rfl rfl at_169 (by decide) (Nat.le_of_ble_eq_true rfl) (by decide) (by decide) (fun T97 h97 v97 S97 K97 q97 => ?_)
        obtain ⟨rfl, rfl⟩ := q97
        show own_F p e below s Z _ _ _ _ _ (T97.setTop (mkF m 172 #[.val (.int p0), .val (.int p1), .val (.int p2), .val (.int ((p0 &&& (2147483647 : Int32)) % (8 : Int32))), .val (.ref a_METADATA), .val (.int (9 : Int32)), .val (.int p1), .val (.int (1 : Int32))] [(.int (own_fx p1 (9 : Int32)))]))
        refine own_F.of (fun _ => XS.iload S97.here S97.hx rfl (S97.dec at_172) rfl) ?_
        show own_F p e below s Z _ _ _ _ _ (T97.setTop (mkF m 174 #[.val (.int p0), .val (.int p1), .val (.int p2), .val (.int ((p0 &&& (2147483647 : Int32)) % (8 : Int32))), .val (.ref a_METADATA), .val (.int (9 : Int32)), .val (.int p1), .val (.int (1 : Int32))] [(.int (1 : Int32)), (.int (own_fx p1 (9 : Int32)))]))
        refine own_icmp S97 181 at_174 (by decide) (by decide) (fun (hc174_98 : ¬ ((own_fx p1 (9 : Int32)) = (1 : Int32))) => False.elim (hc174_98 (by simp [own_fx, hc155_94]))) (fun (hc174_98 : (own_fx p1 (9 : Int32)) = (1 : Int32)) => ?_)
        show own_F p e below s Z _ _ _ _ _ (T97.setTop (mkF m 177 #[.val (.int p0), .val (.int p1), .val (.int p2), .val (.int ((p0 &&& (2147483647 : Int32)) % (8 : Int32))), .val (.ref a_METADATA), .val (.int (9 : Int32)), .val (.int p1), .val (.int (1 : Int32))] []))
        refine own_F.of (fun _ => XS.iconst S97.here S97.hx rfl (S97.dec at_177)) ?_
        show own_F p e below s Z _ _ _ _ _ (T97.setTop (mkF m 178 #[.val (.int p0), .val (.int p1), .val (.int p2), .val (.int ((p0 &&& (2147483647 : Int32)) % (8 : Int32))), .val (.ref a_METADATA), .val (.int (9 : Int32)), .val (.int p1), .val (.int (1 : Int32))] [(.int (1 : Int32))]))
        refine own_F.of (fun _ => XS.goto S97.here S97.hx rfl (pc0 := 178) (pc' := 182) rfl (S97.dec at_178) (by decide) (by decide)) ?_
        show own_F p e below s Z _ _ _ _ _ (T97.setTop (mkF m 182 #[.val (.int p0), .val (.int p1), .val (.int p2), .val (.int ((p0 &&& (2147483647 : Int32)) % (8 : Int32))), .val (.ref a_METADATA), .val (.int (9 : Int32)), .val (.int p1), .val (.int (1 : Int32))] [(.int (1 : Int32))]))
        refine own_retZ S97 (by simp) at_182 (by decide) (by decide) ?_
        rfl
    · show own_F p e below s Z _ _ _ _ _ (T92.setTop (mkF m 139 #[.val (.int p0), .val (.int p1), .val (.int p2), .val (.int ((p0 &&& (2147483647 : Int32)) % (8 : Int32))), .val (.ref a_METADATA), .val (.int (9 : Int32)), .val (.int p1), .unset] []))
      refine own_F.of (fun _ => XS.iload S92.here S92.hx rfl (S92.dec at_139) rfl) ?_
      show own_F p e below s Z _ _ _ _ _ (T92.setTop (mkF m 141 #[.val (.int p0), .val (.int p1), .val (.int p2), .val (.int ((p0 &&& (2147483647 : Int32)) % (8 : Int32))), .val (.ref a_METADATA), .val (.int (9 : Int32)), .val (.int p1), .unset] [(.int (9 : Int32))]))
      refine own_F.of (fun _ => XS.iloadN S92.here S92.hx rfl (S92.dec at_141) rfl) ?_
      show own_F p e below s Z _ _ _ _ _ (T92.setTop (mkF m 142 #[.val (.int p0), .val (.int p1), .val (.int p2), .val (.int ((p0 &&& (2147483647 : Int32)) % (8 : Int32))), .val (.ref a_METADATA), .val (.int (9 : Int32)), .val (.int p1), .unset] [(.int p2), (.int (9 : Int32))]))
      refine own_F.of (fun _ => XS.iconst S92.here S92.hx rfl (S92.dec at_142)) ?_
      show own_F p e below s Z _ _ _ _ _ (T92.setTop (mkF m 143 #[.val (.int p0), .val (.int p1), .val (.int p2), .val (.int ((p0 &&& (2147483647 : Int32)) % (8 : Int32))), .val (.ref a_METADATA), .val (.int (9 : Int32)), .val (.int p1), .unset] [(.int (1 : Int32)), (.int p2), (.int (9 : Int32))]))
      refine own_F.of (fun _ => XS.ishr S92.here S92.hx rfl (S92.dec at_143) rfl) ?_
      show own_F p e below s Z _ _ _ _ _ (T92.setTop (mkF m 144 #[.val (.int p0), .val (.int p1), .val (.int p2), .val (.int ((p0 &&& (2147483647 : Int32)) % (8 : Int32))), .val (.ref a_METADATA), .val (.int (9 : Int32)), .val (.int p1), .unset] [(.int (p2 >>> ((1 : Int32) &&& 31))), (.int (9 : Int32))]))
      refine own_F.of (fun _ => XS.iconst S92.here S92.hx rfl (S92.dec at_144)) ?_
      show own_F p e below s Z _ _ _ _ _ (T92.setTop (mkF m 145 #[.val (.int p0), .val (.int p1), .val (.int p2), .val (.int ((p0 &&& (2147483647 : Int32)) % (8 : Int32))), .val (.ref a_METADATA), .val (.int (9 : Int32)), .val (.int p1), .unset] [(.int (3 : Int32)), (.int (p2 >>> ((1 : Int32) &&& 31))), (.int (9 : Int32))]))
      refine own_F.of (fun _ => XS.iand S92.here S92.hx rfl (S92.dec at_145) rfl) ?_
      show own_F p e below s Z _ _ _ _ _ (T92.setTop (mkF m 146 #[.val (.int p0), .val (.int p1), .val (.int p2), .val (.int ((p0 &&& (2147483647 : Int32)) % (8 : Int32))), .val (.ref a_METADATA), .val (.int (9 : Int32)), .val (.int p1), .unset] [(.int ((p2 >>> ((1 : Int32) &&& 31)) &&& (3 : Int32))), (.int (9 : Int32))]))
      refine own_F.of (fun _ => XS.iconst S92.here S92.hx rfl (S92.dec at_146)) ?_
      show own_F p e below s Z _ _ _ _ _ (T92.setTop (mkF m 147 #[.val (.int p0), .val (.int p1), .val (.int p2), .val (.int ((p0 &&& (2147483647 : Int32)) % (8 : Int32))), .val (.ref a_METADATA), .val (.int (9 : Int32)), .val (.int p1), .unset] [(.int (2 : Int32)), (.int ((p2 >>> ((1 : Int32) &&& 31)) &&& (3 : Int32))), (.int (9 : Int32))]))
      refine own_F.of (fun _ => XS.isub S92.here S92.hx rfl (S92.dec at_147) rfl) ?_
      show own_F p e below s Z _ _ _ _ _ (T92.setTop (mkF m 148 #[.val (.int p0), .val (.int p1), .val (.int p2), .val (.int ((p0 &&& (2147483647 : Int32)) % (8 : Int32))), .val (.ref a_METADATA), .val (.int (9 : Int32)), .val (.int p1), .unset] [(.int (((p2 >>> ((1 : Int32) &&& 31)) &&& (3 : Int32)) - (2 : Int32))), (.int (9 : Int32))]))
      refine own_F.of (fun _ => XS.iadd S92.here S92.hx rfl (S92.dec at_148) rfl) ?_
      show own_F p e below s Z _ _ _ _ _ (T92.setTop (mkF m 149 #[.val (.int p0), .val (.int p1), .val (.int p2), .val (.int ((p0 &&& (2147483647 : Int32)) % (8 : Int32))), .val (.ref a_METADATA), .val (.int (9 : Int32)), .val (.int p1), .unset] [(.int ((9 : Int32) + (((p2 >>> ((1 : Int32) &&& 31)) &&& (3 : Int32)) - (2 : Int32))))]))
      refine own_F.of (fun _ => XS.istore S92.here S92.hx rfl (S92.dec at_149) rfl (l' := #[.val (.int p0), .val (.int p1), .val (.int p2), .val (.int ((p0 &&& (2147483647 : Int32)) % (8 : Int32))), .val (.ref a_METADATA), .val (.int (9 : Int32)), .val (.int ((9 : Int32) + (((p2 >>> ((1 : Int32) &&& 31)) &&& (3 : Int32)) - (2 : Int32)))), .unset]) rfl) ?_
      show own_F p e below s Z _ _ _ _ _ (T92.setTop (mkF m 151 #[.val (.int p0), .val (.int p1), .val (.int p2), .val (.int ((p0 &&& (2147483647 : Int32)) % (8 : Int32))), .val (.ref a_METADATA), .val (.int (9 : Int32)), .val (.int ((9 : Int32) + (((p2 >>> ((1 : Int32) &&& 31)) &&& (3 : Int32)) - (2 : Int32)))), .unset] []))
      refine own_F.of (fun _ => XS.iload S92.here S92.hx rfl (S92.dec at_151) rfl) ?_
      show own_F p e below s Z _ _ _ _ _ (T92.setTop (mkF m 153 #[.val (.int p0), .val (.int p1), .val (.int p2), .val (.int ((p0 &&& (2147483647 : Int32)) % (8 : Int32))), .val (.ref a_METADATA), .val (.int (9 : Int32)), .val (.int ((9 : Int32) + (((p2 >>> ((1 : Int32) &&& 31)) &&& (3 : Int32)) - (2 : Int32)))), .unset] [(.int ((9 : Int32) + (((p2 >>> ((1 : Int32) &&& 31)) &&& (3 : Int32)) - (2 : Int32))))]))
      refine own_F.of (fun _ => XS.iload S92.here S92.hx rfl (S92.dec at_153) rfl) ?_
      show own_F p e below s Z _ _ _ _ _ (T92.setTop (mkF m 155 #[.val (.int p0), .val (.int p1), .val (.int p2), .val (.int ((p0 &&& (2147483647 : Int32)) % (8 : Int32))), .val (.ref a_METADATA), .val (.int (9 : Int32)), .val (.int ((9 : Int32) + (((p2 >>> ((1 : Int32) &&& 31)) &&& (3 : Int32)) - (2 : Int32)))), .unset] [(.int (9 : Int32)), (.int ((9 : Int32) + (((p2 >>> ((1 : Int32) &&& 31)) &&& (3 : Int32)) - (2 : Int32))))]))
      refine own_icmp S92 162 at_155 (by decide) (by decide) (fun (hc155_99 : ((9 : Int32) + (((p2 >>> ((1 : Int32) &&& 31)) &&& (3 : Int32)) - (2 : Int32))) < (9 : Int32)) => ?_) (fun (hc155_99 : ¬ (((9 : Int32) + (((p2 >>> ((1 : Int32) &&& 31)) &&& (3 : Int32)) - (2 : Int32))) < (9 : Int32))) => ?_)
      · show own_F p e below s Z _ _ _ _ _ (T92.setTop (mkF m 162 #[.val (.int p0), .val (.int p1), .val (.int p2), .val (.int ((p0 &&& (2147483647 : Int32)) % (8 : Int32))), .val (.ref a_METADATA), .val (.int (9 : Int32)), .val (.int ((9 : Int32) + (((p2 >>> ((1 : Int32) &&& 31)) &&& (3 : Int32)) - (2 : Int32)))), .unset] []))
        refine own_F.of (fun _ => XS.iconst S92.here S92.hx rfl (S92.dec at_162)) ?_
        show own_F p e below s Z _ _ _ _ _ (T92.setTop (mkF m 163 #[.val (.int p0), .val (.int p1), .val (.int p2), .val (.int ((p0 &&& (2147483647 : Int32)) % (8 : Int32))), .val (.ref a_METADATA), .val (.int (9 : Int32)), .val (.int ((9 : Int32) + (((p2 >>> ((1 : Int32) &&& 31)) &&& (3 : Int32)) - (2 : Int32)))), .unset] [(.int (0 : Int32))]))
        refine own_F.of (fun _ => XS.istore S92.here S92.hx rfl (S92.dec at_163) rfl (l' := #[.val (.int p0), .val (.int p1), .val (.int p2), .val (.int ((p0 &&& (2147483647 : Int32)) % (8 : Int32))), .val (.ref a_METADATA), .val (.int (9 : Int32)), .val (.int ((9 : Int32) + (((p2 >>> ((1 : Int32) &&& 31)) &&& (3 : Int32)) - (2 : Int32)))), .val (.int (0 : Int32))]) rfl) ?_
        show own_F p e below s Z _ _ _ _ _ (T92.setTop (mkF m 165 #[.val (.int p0), .val (.int p1), .val (.int p2), .val (.int ((p0 &&& (2147483647 : Int32)) % (8 : Int32))), .val (.ref a_METADATA), .val (.int (9 : Int32)), .val (.int ((9 : Int32) + (((p2 >>> ((1 : Int32) &&& 31)) &&& (3 : Int32)) - (2 : Int32)))), .val (.int (0 : Int32))] []))
        refine own_F.of (fun _ => XS.aload S92.here S92.hx rfl (S92.dec at_165) rfl rfl) ?_
        show own_F p e below s Z _ _ _ _ _ (T92.setTop (mkF m 167 #[.val (.int p0), .val (.int p1), .val (.int p2), .val (.int ((p0 &&& (2147483647 : Int32)) % (8 : Int32))), .val (.ref a_METADATA), .val (.int (9 : Int32)), .val (.int ((9 : Int32) + (((p2 >>> ((1 : Int32) &&& 31)) &&& (3 : Int32)) - (2 : Int32)))), .val (.int (0 : Int32))] [(.ref a_METADATA)]))
        refine own_F.of (fun _ => XS.iload S92.here S92.hx rfl (S92.dec at_167) rfl) ?_
        show own_F p e below s Z _ _ _ _ _ (T92.setTop (mkF m 169 #[.val (.int p0), .val (.int p1), .val (.int p2), .val (.int ((p0 &&& (2147483647 : Int32)) % (8 : Int32))), .val (.ref a_METADATA), .val (.int (9 : Int32)), .val (.int ((9 : Int32) + (((p2 >>> ((1 : Int32) &&& 31)) &&& (3 : Int32)) - (2 : Int32)))), .val (.int (0 : Int32))] [(.int ((9 : Int32) + (((p2 >>> ((1 : Int32) &&& 31)) &&& (3 : Int32)) - (2 : Int32)))), (.ref a_METADATA)]))
        refine own_callV S92 (y := (⟨"com/example/lanyard/lanyard/protocol/ApiKey", "isFlexible", "(I)Z"⟩ : MethodName)) (y' := (⟨"com/example/lanyard/lanyard/protocol/ApiKey", "isFlexible", "(I)Z"⟩ : MethodName)) (own_w hw 4 rfl) (own_w hw 5 rfl) (own_nf S92 (own_w hw 7 rfl)) (own_w hw 7 rfl) (own_w hw 6 rfl) (own_w hw 8 rfl) (own_w hw 2 rfl) (by decide) (X_METADATA.ext S92.old) (argsL := [(.int ((9 : Int32) + (((p2 >>> ((1 : Int32) &&& 31)) &&& (3 : Int32)) - (2 : Int32))))]) (rest := []) (own_flex l Z a0 hw a_METADATA ((9 : Int32) + (((p2 >>> ((1 : Int32) &&& 31)) &&& (3 : Int32)) - (2 : Int32))) (9 : Int32) h0 S92.old F_METADATA_firstFlexibleVersion) all0 (by decide +kernel : parseMethodDescriptor "(I)Z" = some ⟨[.int], some .boolean⟩) rfl rfl rfl at_169 (by decide) (Nat.le_of_ble_eq_true rfl) (by decide) (by decide) (fun T100 h100 v100 S100 K100 q100 => ?_)
        obtain ⟨rfl, rfl⟩ := q100
        show own_F p e below s Z _ _ _ _ _ (T100.setTop (mkF m 172 #[.val (.int p0), .val (.int p1), .val (.int p2), .val (.int ((p0 &&& (2147483647 : Int32)) % (8 : Int32))), .val (.ref a_METADATA), .val (.int (9 : Int32)), .val (.int ((9 : Int32) + (((p2 >>> ((1 : Int32) &&& 31)) &&& (3 : Int32)) - (2 : Int32)))), .val (.int (0 : Int32))] [(.int (own_fx ((9 : Int32) + (((p2 >>> ((1 : Int32) &&& 31)) &&& (3 : Int32)) - (2 : Int32))) (9 : Int32)))]))
        refine own_F.of (fun _ => XS.iload S100.here S100.hx rfl (S100.dec at_172) rfl) ?_
        show own_F p e below s Z _ _ _ _ _ (T100.setTop (mkF m 174 #[.val (.int p0), .val (.int p1), .val (.int p2), .val (.int ((p0 &&& (2147483647 : Int32)) % (8 : Int32))), .val (.ref a_METADATA), .val (.int (9 : Int32)), .val (.int ((9 : Int32) + (((p2 >>> ((1 : Int32) &&& 31)) &&& (3 : Int32)) - (2 : Int32)))), .val (.int (0 : Int32))] [(.int (0 : Int32)), (.int (own_fx ((9 : Int32) + (((p2 >>> ((1 : Int32) &&& 31)) &&& (3 : Int32)) - (2 : Int32))) (9 : Int32)))]))
        refine own_icmp S100 181 at_174 (by decide) (by decide) (fun (hc174_101 : ¬ ((own_fx ((9 : Int32) + (((p2 >>> ((1 : Int32) &&& 31)) &&& (3 : Int32)) - (2 : Int32))) (9 : Int32)) = (0 : Int32))) => False.elim (hc174_101 (by simp [own_fx, hc155_99]))) (fun (hc174_101 : (own_fx ((9 : Int32) + (((p2 >>> ((1 : Int32) &&& 31)) &&& (3 : Int32)) - (2 : Int32))) (9 : Int32)) = (0 : Int32)) => ?_)
        show own_F p e below s Z _ _ _ _ _ (T100.setTop (mkF m 177 #[.val (.int p0), .val (.int p1), .val (.int p2), .val (.int ((p0 &&& (2147483647 : Int32)) % (8 : Int32))), .val (.ref a_METADATA), .val (.int (9 : Int32)), .val (.int ((9 : Int32) + (((p2 >>> ((1 : Int32) &&& 31)) &&& (3 : Int32)) - (2 : Int32)))), .val (.int (0 : Int32))] []))
        refine own_F.of (fun _ => XS.iconst S100.here S100.hx rfl (S100.dec at_177)) ?_
        show own_F p e below s Z _ _ _ _ _ (T100.setTop (mkF m 178 #[.val (.int p0), .val (.int p1), .val (.int p2), .val (.int ((p0 &&& (2147483647 : Int32)) % (8 : Int32))), .val (.ref a_METADATA), .val (.int (9 : Int32)), .val (.int ((9 : Int32) + (((p2 >>> ((1 : Int32) &&& 31)) &&& (3 : Int32)) - (2 : Int32)))), .val (.int (0 : Int32))] [(.int (1 : Int32))]))
        refine own_F.of (fun _ => XS.goto S100.here S100.hx rfl (pc0 := 178) (pc' := 182) rfl (S100.dec at_178) (by decide) (by decide)) ?_
        show own_F p e below s Z _ _ _ _ _ (T100.setTop (mkF m 182 #[.val (.int p0), .val (.int p1), .val (.int p2), .val (.int ((p0 &&& (2147483647 : Int32)) % (8 : Int32))), .val (.ref a_METADATA), .val (.int (9 : Int32)), .val (.int ((9 : Int32) + (((p2 >>> ((1 : Int32) &&& 31)) &&& (3 : Int32)) - (2 : Int32)))), .val (.int (0 : Int32))] [(.int (1 : Int32))]))
        refine own_retZ S100 (by simp) at_182 (by decide) (by decide) ?_
        rfl
      · show own_F p e below s Z _ _ _ _ _ (T92.setTop (mkF m 158 #[.val (.int p0), .val (.int p1), .val (.int p2), .val (.int ((p0 &&& (2147483647 : Int32)) % (8 : Int32))), .val (.ref a_METADATA), .val (.int (9 : Int32)), .val (.int ((9 : Int32) + (((p2 >>> ((1 : Int32) &&& 31)) &&& (3 : Int32)) - (2 : Int32)))), .unset] []))
        refine own_F.of (fun _ => XS.iconst S92.here S92.hx rfl (S92.dec at_158)) ?_
        show own_F p e below s Z _ _ _ _ _ (T92.setTop (mkF m 159 #[.val (.int p0), .val (.int p1), .val (.int p2), .val (.int ((p0 &&& (2147483647 : Int32)) % (8 : Int32))), .val (.ref a_METADATA), .val (.int (9 : Int32)), .val (.int ((9 : Int32) + (((p2 >>> ((1 : Int32) &&& 31)) &&& (3 : Int32)) - (2 : Int32)))), .unset] [(.int (1 : Int32))]))
        refine own_F.of (fun _ => XS.goto S92.here S92.hx rfl (pc0 := 159) (pc' := 163) rfl (S92.dec at_159) (by decide) (by decide)) ?_
        show own_F p e below s Z _ _ _ _ _ (T92.setTop (mkF m 163 #[.val (.int p0), .val (.int p1), .val (.int p2), .val (.int ((p0 &&& (2147483647 : Int32)) % (8 : Int32))), .val (.ref a_METADATA), .val (.int (9 : Int32)), .val (.int ((9 : Int32) + (((p2 >>> ((1 : Int32) &&& 31)) &&& (3 : Int32)) - (2 : Int32)))), .unset] [(.int (1 : Int32))]))
        refine own_F.of (fun _ => XS.istore S92.here S92.hx rfl (S92.dec at_163) rfl (l' := #[.val (.int p0), .val (.int p1), .val (.int p2), .val (.int ((p0 &&& (2147483647 : Int32)) % (8 : Int32))), .val (.ref a_METADATA), .val (.int (9 : Int32)), .val (.int ((9 : Int32) + (((p2 >>> ((1 : Int32) &&& 31)) &&& (3 : Int32)) - (2 : Int32)))), .val (.int (1 : Int32))]) rfl) ?_
        show own_F p e below s Z _ _ _ _ _ (T92.setTop (mkF m 165 #[.val (.int p0), .val (.int p1), .val (.int p2), .val (.int ((p0 &&& (2147483647 : Int32)) % (8 : Int32))), .val (.ref a_METADATA), .val (.int (9 : Int32)), .val (.int ((9 : Int32) + (((p2 >>> ((1 : Int32) &&& 31)) &&& (3 : Int32)) - (2 : Int32)))), .val (.int (1 : Int32))] []))
        refine own_F.of (fun _ => XS.aload S92.here S92.hx rfl (S92.dec at_165) rfl rfl) ?_
        show own_F p e below s Z _ _ _ _ _ (T92.setTop (mkF m 167 #[.val (.int p0), .val (.int p1), .val (.int p2), .val (.int ((p0 &&& (2147483647 : Int32)) % (8 : Int32))), .val (.ref a_METADATA), .val (.int (9 : Int32)), .val (.int ((9 : Int32) + (((p2 >>> ((1 : Int32) &&& 31)) &&& (3 : Int32)) - (2 : Int32)))), .val (.int (1 : Int32))] [(.ref a_METADATA)]))
        refine own_F.of (fun _ => XS.iload S92.here S92.hx rfl (S92.dec at_167) rfl) ?_
        show own_F p e below s Z _ _ _ _ _ (T92.setTop (mkF m 169 #[.val (.int p0), .val (.int p1), .val (.int p2), .val (.int ((p0 &&& (2147483647 : Int32)) % (8 : Int32))), .val (.ref a_METADATA), .val (.int (9 : Int32)), .val (.int ((9 : Int32) + (((p2 >>> ((1 : Int32) &&& 31)) &&& (3 : Int32)) - (2 : Int32)))), .val (.int (1 : Int32))] [(.int ((9 : Int32) + (((p2 >>> ((1 : Int32) &&& 31)) &&& (3 : Int32)) - (2 : Int32)))), (.ref a_METADATA)]))
        refine own_callV S92 (y := (⟨"com/example/lanyard/lanyard/protocol/ApiKey", "isFlexible", "(I)Z"⟩ : MethodName)) (y' := (⟨"com/example/lanyard/lanyard/protocol/ApiKey", "isFlexible", "(I)Z"⟩ : MethodName)) (own_w hw 4 rfl) (own_w hw 5 rfl) (own_nf S92 (own_w hw 7 rfl)) (own_w hw 7 rfl) (own_w hw 6 rfl) (own_w hw 8 rfl) (own_w hw 2 rfl) (by decide) (X_METADATA.ext S92.old) (argsL := [(.int ((9 : Int32) + (((p2 >>> ((1 : Int32) &&& 31)) &&& (3 : Int32)) - (2 : Int32))))]) (rest := []) (own_flex l Z a0 hw a_METADATA ((9 : Int32) + (((p2 >>> ((1 : Int32) &&& 31)) &&& (3 : Int32)) - (2 : Int32))) (9 : Int32) h0 S92.old F_METADATA_firstFlexibleVersion) all0 (by decide +kernel : parseMethodDescriptor "(I)Z" = some ⟨[.int], some .boolean⟩) rfl rfl rfl at_169 (by decide) (Nat.le_of_ble_eq_true rfl) (by decide) (by decide) (fun T102 h102 v102 S102 K102 q102 => ?_)
        obtain ⟨rfl, rfl⟩ := q102
        show own_F p e below s Z _ _ _ _ _ (T102.setTop (mkF m 172 #[.val (.int p0), .val (.int p1), .val (.int p2), .val (.int ((p0 &&& (2147483647 : Int32)) % (8 : Int32))), .val (.ref a_METADATA), .val (.int (9 : Int32)), .val (.int ((9 : Int32) + (((p2 >>> ((1 : Int32) &&& 31)) &&& (3 : Int32)) - (2 : Int32)))), .val (.int (1 : Int32))] [(.int (own_fx ((9 : Int32) + (((p2 >>> ((1 : Int32) &&& 31)) &&& (3 : Int32)) - (2 : Int32))) (9 : Int32)))]))
        refine own_F.of (fun _ => XS.iload S102.here S102.hx rfl (S102.dec at_172) rfl) ?_
        show own_F p e below s Z _ _ _ _ _ (T102.setTop (mkF m 174 #[.val (.int p0), .val (.int p1), .val (.int p2), .val (.int ((p0 &&& (2147483647 : Int32)) % (8 : Int32))), .val (.ref a_METADATA), .val (.int (9 : Int32)), .val (.int ((9 : Int32) + (((p2 >>> ((1 : Int32) &&& 31)) &&& (3 : Int32)) - (2 : Int32)))), .val (.int (1 : Int32))] [(.int (1 : Int32)), (.int (own_fx ((9 : Int32) + (((p2 >>> ((1 : Int32) &&& 31)) &&& (3 : Int32)) - (2 : Int32))) (9 : Int32)))]))
        refine own_icmp S102 181 at_174 (by decide) (by decide) (fun (hc174_103 : ¬ ((own_fx ((9 : Int32) + (((p2 >>> ((1 : Int32) &&& 31)) &&& (3 : Int32)) - (2 : Int32))) (9 : Int32)) = (1 : Int32))) => False.elim (hc174_103 (by simp [own_fx, hc155_99]))) (fun (hc174_103 : (own_fx ((9 : Int32) + (((p2 >>> ((1 : Int32) &&& 31)) &&& (3 : Int32)) - (2 : Int32))) (9 : Int32)) = (1 : Int32)) => ?_)
        show own_F p e below s Z _ _ _ _ _ (T102.setTop (mkF m 177 #[.val (.int p0), .val (.int p1), .val (.int p2), .val (.int ((p0 &&& (2147483647 : Int32)) % (8 : Int32))), .val (.ref a_METADATA), .val (.int (9 : Int32)), .val (.int ((9 : Int32) + (((p2 >>> ((1 : Int32) &&& 31)) &&& (3 : Int32)) - (2 : Int32)))), .val (.int (1 : Int32))] []))
        refine own_F.of (fun _ => XS.iconst S102.here S102.hx rfl (S102.dec at_177)) ?_
        show own_F p e below s Z _ _ _ _ _ (T102.setTop (mkF m 178 #[.val (.int p0), .val (.int p1), .val (.int p2), .val (.int ((p0 &&& (2147483647 : Int32)) % (8 : Int32))), .val (.ref a_METADATA), .val (.int (9 : Int32)), .val (.int ((9 : Int32) + (((p2 >>> ((1 : Int32) &&& 31)) &&& (3 : Int32)) - (2 : Int32)))), .val (.int (1 : Int32))] [(.int (1 : Int32))]))
        refine own_F.of (fun _ => XS.goto S102.here S102.hx rfl (pc0 := 178) (pc' := 182) rfl (S102.dec at_178) (by decide) (by decide)) ?_
        show own_F p e below s Z _ _ _ _ _ (T102.setTop (mkF m 182 #[.val (.int p0), .val (.int p1), .val (.int p2), .val (.int ((p0 &&& (2147483647 : Int32)) % (8 : Int32))), .val (.ref a_METADATA), .val (.int (9 : Int32)), .val (.int ((9 : Int32) + (((p2 >>> ((1 : Int32) &&& 31)) &&& (3 : Int32)) - (2 : Int32)))), .val (.int (1 : Int32))] [(.int (1 : Int32))]))
        refine own_retZ S102 (by simp) at_182 (by decide) (by decide) ?_
        rfl
set_option maxRecDepth 65536 in
set_option maxHeartbeats 40000000 in
theorem comes_1 {Post : Tables → Env → Array Value → State → Outcome → State → Prop} (hpost : ∀ tb e args s v u, (limb_1_1.after args s (.returned v) u = true ∧ limb_1_2.after args s (.returned v) u = true ∧ True) → FrameEnd s (.returned v) u (Jvm.fieldLocs frame_1_writes args s ++ Jvm.arrayLocs frame_1_arrays args s ++ Jvm.staticLocs frame_1_statics s) 0 0 → Post tb e args s (.returned v) u) :
    ArmFor flags0 classFile x code maxLocals ret World_1 tables_1 room_1 Calls_1 rest_1 Pre_1 Post := by
  intro l hfl _ _ p e ha hc hk s m args below hf hA hF happ hP
  obtain ⟨hcalls, hrest, hpre⟩ := hP
  obtain ⟨-, -, -, hnamed, -, -, -, hat⟩ := (Spec.applies_iff hf).mp happ
  obtain ⟨hg, hn⟩ := and_e (Cond.before_iff.mp (show (Jvm.Cond.and given_1 narrow_1).before args s = true from hpre))
  obtain ⟨g1, g2⟩ := and_e hg
  obtain ⟨g3, g4⟩ := and_e g2
  obtain ⟨g5, g6⟩ := and_e g4
  obtain ⟨w0, w1, w2, rfl⟩ : ∃ w0 w1 w2 : Value, args = #[w0, w1, w2] := by
    have hs : args.size = 3 := by simpa [Cond.value, given_1] using g1
    obtain ⟨L⟩ := args
    match L, hs with
    | [w0, w1, w2], _ => exact ⟨w0, w1, w2, rfl⟩
  have hw := fun d (hd : d ∈ tables_1) => atoms_spec (ws := Jvm.Cond.code x code maxLocals ret :: tables_1) hat d (List.mem_cons_of_mem _ hd)
  have hfit : Fit s := fun {y c} hc i hi => by
    obtain ⟨ha, rfl⟩ := Array.getElem?_eq_some_iff.mp hc
    have q := List.all_eq_true.mp ((Array.all_eq_true_iff_forall_mem.mp hF) _ (Array.getElem_mem ha)) i (List.mem_range.mpr hi)
    simpa [Array.getElem?_eq_getElem hi] using q
  obtain ⟨i0, ei0⟩ := is_v g3
  obtain rfl : w0 = (.int i0) := Option.some.inj ei0
  obtain ⟨i1, ei1⟩ := is_v g5
  obtain rfl : w1 = (.int i1) := Option.some.inj ei1
  obtain ⟨i2, ei2⟩ := is_v g6
  obtain rfl : w2 = (.int i2) := Option.some.inj ei2
  obtain ⟨y0, hn⟩ := and_e hn
  obtain ⟨y1, hn⟩ := and_e hn
  obtain ⟨y2, hn⟩ := and_e hn
  obtain ⟨y3, hn⟩ := and_e hn
  obtain ⟨y4, hn⟩ := and_e hn
  obtain ⟨y5, hn⟩ := and_e hn
  obtain ⟨y6, hn⟩ := and_e hn
  obtain ⟨y7, hn⟩ := and_e hn
  obtain ⟨y8, hn⟩ := and_e hn
  obtain ⟨y9, hn⟩ := and_e hn
  obtain ⟨y10, hn⟩ := and_e hn
  obtain ⟨y11, hn⟩ := and_e hn
  obtain ⟨y12, hn⟩ := and_e hn
  obtain ⟨y13, hn⟩ := and_e hn
  obtain ⟨y14, hn⟩ := and_e hn
  have y15 := hn
  obtain ⟨a_METADATA, ev_METADATA, S_METADATA, X_METADATA⟩ := own_sta y0 (own_w hw 2 rfl) (own_w hw 3 rfl)
  obtain ⟨a_SASL_HANDSHAKE, ev_SASL_HANDSHAKE, S_SASL_HANDSHAKE, X_SASL_HANDSHAKE⟩ := own_sta y2 (own_w hw 2 rfl) (own_w hw 12 rfl)
  obtain ⟨a_CREATE_DELEGATION_TOKEN, ev_CREATE_DELEGATION_TOKEN, S_CREATE_DELEGATION_TOKEN, X_CREATE_DELEGATION_TOKEN⟩ := own_sta y4 (own_w hw 2 rfl) (own_w hw 14 rfl)
  obtain ⟨a_DESCRIBE_DELEGATION_TOKEN, ev_DESCRIBE_DELEGATION_TOKEN, S_DESCRIBE_DELEGATION_TOKEN, X_DESCRIBE_DELEGATION_TOKEN⟩ := own_sta y6 (own_w hw 2 rfl) (own_w hw 16 rfl)
  obtain ⟨a_API_VERSIONS, ev_API_VERSIONS, S_API_VERSIONS, X_API_VERSIONS⟩ := own_sta y8 (own_w hw 2 rfl) (own_w hw 18 rfl)
  obtain ⟨a_SASL_AUTHENTICATE, ev_SASL_AUTHENTICATE, S_SASL_AUTHENTICATE, X_SASL_AUTHENTICATE⟩ := own_sta y10 (own_w hw 2 rfl) (own_w hw 20 rfl)
  obtain ⟨a_RENEW_DELEGATION_TOKEN, ev_RENEW_DELEGATION_TOKEN, S_RENEW_DELEGATION_TOKEN, X_RENEW_DELEGATION_TOKEN⟩ := own_sta y12 (own_w hw 2 rfl) (own_w hw 22 rfl)
  obtain ⟨a_EXPIRE_DELEGATION_TOKEN, ev_EXPIRE_DELEGATION_TOKEN, S_EXPIRE_DELEGATION_TOKEN, X_EXPIRE_DELEGATION_TOKEN⟩ := own_sta y14 (own_w hw 2 rfl) (own_w hw 24 rfl)
  have F_METADATA_firstFlexibleVersion := own_fldI ev_METADATA y1
  have F_SASL_HANDSHAKE_firstFlexibleVersion := own_fldI ev_SASL_HANDSHAKE y3
  have F_CREATE_DELEGATION_TOKEN_firstFlexibleVersion := own_fldI ev_CREATE_DELEGATION_TOKEN y5
  have F_DESCRIBE_DELEGATION_TOKEN_firstFlexibleVersion := own_fldI ev_DESCRIBE_DELEGATION_TOKEN y7
  have F_API_VERSIONS_firstFlexibleVersion := own_fldI ev_API_VERSIONS y9
  have F_SASL_AUTHENTICATE_firstFlexibleVersion := own_fldI ev_SASL_AUTHENTICATE y11
  have F_RENEW_DELEGATION_TOKEN_firstFlexibleVersion := own_fldI ev_RENEW_DELEGATION_TOKEN y13
  have F_EXPIRE_DELEGATION_TOKEN_firstFlexibleVersion := own_fldI ev_EXPIRE_DELEGATION_TOKEN y15
  obtain ⟨n, o, h1, h2, h3, _, L, rfl, ⟨N, K, rfl⟩, hq⟩ := own_law l s _ hw i0 i1 i2 a_METADATA a_SASL_HANDSHAKE a_CREATE_DELEGATION_TOKEN a_DESCRIBE_DELEGATION_TOKEN a_API_VERSIONS a_SASL_AUTHENTICATE a_RENEW_DELEGATION_TOKEN a_EXPIRE_DELEGATION_TOKEN s.heap (own_extRefl _) S_METADATA X_METADATA F_METADATA_firstFlexibleVersion S_SASL_HANDSHAKE X_SASL_HANDSHAKE F_SASL_HANDSHAKE_firstFlexibleVersion S_CREATE_DELEGATION_TOKEN X_CREATE_DELEGATION_TOKEN F_CREATE_DELEGATION_TOKEN_firstFlexibleVersion S_DESCRIBE_DELEGATION_TOKEN X_DESCRIBE_DELEGATION_TOKEN F_DESCRIBE_DELEGATION_TOKEN_firstFlexibleVersion S_API_VERSIONS X_API_VERSIONS F_API_VERSIONS_firstFlexibleVersion S_SASL_AUTHENTICATE X_SASL_AUTHENTICATE F_SASL_AUTHENTICATE_firstFlexibleVersion S_RENEW_DELEGATION_TOKEN X_RENEW_DELEGATION_TOKEN F_RENEW_DELEGATION_TOKEN_firstFlexibleVersion S_EXPIRE_DELEGATION_TOKEN X_EXPIRE_DELEGATION_TOKEN F_EXPIRE_DELEGATION_TOKEN_firstFlexibleVersion p e ha hc hk s m _ below hf ((Spec.applies_iff_loose hf).mp happ).1 ⟨rfl, State.Warmed39.refl s, rfl⟩ trivial
  refine ⟨n, _, h1, h2, h3, hpost _ _ _ _ _ _ ⟨Cond.after_iff.mpr rfl, Cond.after_iff.mpr (eq_i res_at (Term.int_eval (1)) rfl), trivial⟩ ⟨hq.1, hq.2.1, (hq.2.2.sift fun y hy => Or.inr (N y hy)).mono (by decide) (by decide)⟩⟩
theorem main_1_1 : Claimed_1_1 := comes_1 fun _ _ _ _ _ _ h hF => ⟨h.1, hF⟩
theorem main_1_2 : Claimed_1_2 := comes_1 fun _ _ _ _ _ _ h hF => ⟨h.2.1, hF⟩
end Jvm.Pilot.@@N@@
namespace Jvm.Pilot.@@N@@
open Jvm Jvm.ClassFile Sem Op Lib Jvm.Free Jvm.Stand Jvm.Pilot.@@N@@.Jvm.D
/-! MADE BY PROGRAM (witnessworld.py) out of the Statement's table words and the real class files: 12 classes; the members and pool entries that the words name. The judged class is class 1, her method 1. -/
namespace start1
open Jvm.ClassFile
def u (s : String) : CpInfo := .utf8 (stringToUtf16 s)
/-- a pool by its gaps: so many unusable entries, then the entry; so many at the end -/
def gap : Nat → List CpInfo → List CpInfo
  | 0, r => r
  | n + 1, r => .unusable :: gap n r
def poolList (es : List (Nat × CpInfo)) (last : Nat) : List CpInfo := es.foldr (fun e r => gap e.1 (e.2 :: r)) (gap last [])
def pool (es : List (Nat × CpInfo)) (last : Nat) : Array CpInfo := ⟨poolList es last⟩
def fileOf (pool : Array CpInfo) (this : Nat) (attrs : Array Attribute := #[]) (ms : Array MethodInfo := #[]) (fl : Nat := 33) (sup : Nat := 0) (ifs : Array Nat := #[]) (fds : Array FieldInfo := #[]) : ClassFile where
  minorVersion := 0
  majorVersion := 65
  constantPool := pool
  accessFlags := fl
  thisClass := this
  superClass := sup
  interfaces := ifs
  fields := fds
  methods := ms
  attributes := attrs
def plain (name : String) (sup : Option ClassId) : Class where
  name := name
  kind := .ordinary
  loader := none
  accessFlags := 33
  super := sup
  interfaces := #[]
  cf := none
  fields := #[]
  methods := #[]
  instanceTypes := #[]
  staticTypes := #[]
  resolved := #[]
  callSites := []
  init := .initialized
  statics := none
  mirror := none

def pool0 : Array CpInfo := pool [(5, u "<init>"), (0, u "()V"), (1, .class_ 10), (1, u "java/lang/Object")] 113

def k0m0 : Method := { name := "<init>", desc := "()V", sig := { parameters := [], returnType := none }, accessFlags := 1, code := none }
/-- java/lang/Object -/
def k0 : Class := { plain "java/lang/Object" none with
  accessFlags := 33
  interfaces := #[]
  cf := some (fileOf pool0 8 #[] #[{ accessFlags := 1, nameIndex := 5, descriptorIndex := 6, attributes := #[] }] 33 0 #[] #[])
  fields := #[]
  methods := #[k0m0]
  instanceTypes := #[]
  staticTypes := #[]
  resolved := Array.replicate 124 none
  statics := none }

def pool1 : Array CpInfo := pool [(2, .class_ 4), (1, u "java/lang/Object"), (0, u "<init>"), (0, u "()V"), (0, .integer 2147483647), (0, .fieldref 9 10), (0, .class_ 11), (0, .nameAndType 12 13), (0, u "com/example/lanyard/lanyard/protocol/ApiKey"), (0, u "METADATA"), (0, u "Lcom/example/lanyard/lanyard/protocol/ApiKey;"), (0, .fieldref 9 15), (0, .nameAndType 16 13), (0, u "SASL_HANDSHAKE"), (2, .fieldref 9 20), (0, .nameAndType 21 13), (0, u "API_VERSIONS"), (0, .fieldref 9 23), (0, .nameAndType 24 13), (0, u "SASL_AUTHENTICATE"), (0, .fieldref 9 26), (0, .nameAndType 27 13), (0, u "CREATE_DELEGATION_TOKEN"), (0, .fieldref 9 29), (0, .nameAndType 30 13), (0, u "RENEW_DELEGATION_TOKEN"), (0, .fieldref 9 32), (0, .nameAndType 33 13), (0, u "EXPIRE_DELEGATION_TOKEN"), (0, .fieldref 9 35), (0, .nameAndType 36 13), (0, u "DESCRIBE_DELEGATION_TOKEN"), (0, .methodref 9 38), (0, .nameAndType 39 40), (0, u "isFlexible"), (0, u "(I)Z"), (0, .class_ 42), (0, u "com/example/lanyard/lanyard/protocol/ApiKeyIsFlexiblePinLaw"), (2, u "law"), (0, u "(III)Z")] 3

def k1m0 : Method := { name := "<init>", desc := "()V", sig := { parameters := [], returnType := none }, accessFlags := 1, code := none }
def k1c1 : Code := { maxStack := 3, maxLocals := 8, code := code, exceptionTable := #[], attributes := #[] }
def k1m1 : Method := { name := "law", desc := "(III)Z", sig := { parameters := [.int, .int, .int], returnType := some .boolean }, accessFlags := 9, code := some k1c1 }
/-- com/example/lanyard/lanyard/protocol/ApiKeyIsFlexiblePinLaw -/
def k1 : Class := { plain "com/example/lanyard/lanyard/protocol/ApiKeyIsFlexiblePinLaw" (some 0) with
  accessFlags := 49
  interfaces := #[]
  cf := some (fileOf pool1 41 #[] #[{ accessFlags := 1, nameIndex := 5, descriptorIndex := 6, attributes := #[] }, { accessFlags := 9, nameIndex := 45, descriptorIndex := 46, attributes := #[] }] 49 2 #[] #[])
  fields := #[]
  methods := #[k1m0, k1m1]
  instanceTypes := #[]
  staticTypes := #[]
  resolved := Array.replicate 50 none
  statics := none }

def pool2 : Array CpInfo := pool [(1, .class_ 2), (0, u "java/lang/constant/Constable"), (0, .class_ 4), (0, u "java/lang/Object")] 6

/-- java/lang/constant/Constable -/
def k2 : Class := { plain "java/lang/constant/Constable" (some 0) with
  accessFlags := 1537
  interfaces := #[]
  cf := some (fileOf pool2 1 #[] #[] 1537 3 #[] #[])
  fields := #[]
  methods := #[]
  instanceTypes := #[]
  staticTypes := #[]
  resolved := Array.replicate 11 none
  statics := none }

def pool3 : Array CpInfo := pool [(1, .class_ 2), (0, u "java/lang/Comparable"), (0, .class_ 4), (0, u "java/lang/Object")] 7

/-- java/lang/Comparable -/
def k3 : Class := { plain "java/lang/Comparable" (some 0) with
  accessFlags := 1537
  interfaces := #[]
  cf := some (fileOf pool3 1 #[] #[] 1537 3 #[] #[])
  fields := #[]
  methods := #[]
  instanceTypes := #[]
  staticTypes := #[]
  resolved := Array.replicate 12 none
  statics := none }

def pool4 : Array CpInfo := pool [(1, .class_ 2), (0, u "java/io/Serializable"), (0, .class_ 4), (0, u "java/lang/Object")] 2

/-- java/io/Serializable -/
def k4 : Class := { plain "java/io/Serializable" (some 0) with
  accessFlags := 1537
  interfaces := #[]
  cf := some (fileOf pool4 1 #[] #[] 1537 3 #[] #[])
  fields := #[]
  methods := #[]
  instanceTypes := #[]
  staticTypes := #[]
  resolved := Array.replicate 7 none
  statics := none }

def pool5 : Array CpInfo := pool [(2, .class_ 4), (1, u "java/lang/Enum"), (0, u "name"), (0, u "Ljava/lang/String;"), (2, u "ordinal"), (0, u "I"), (1, .class_ 14), (1, u "java/lang/Object"), (4, u "hash"), (86, .class_ 108), (1, u "java/lang/Enum$EnumDesc"), (2, .class_ 112), (0, u "java/lang/constant/Constable"), (0, .class_ 114), (0, u "java/lang/Comparable"), (0, .class_ 116), (0, u "java/io/Serializable")] 87

/-- java/lang/Enum -/
def k5 : Class := { plain "java/lang/Enum" (some 0) with
  accessFlags := 1057
  interfaces := #[2, 3, 4]
  cf := some (fileOf pool5 2 #[.nestMembers #[106]] #[] 1057 12 #[111, 113, 115] #[{ accessFlags := 18, nameIndex := 5, descriptorIndex := 6, attributes := #[] }, { accessFlags := 18, nameIndex := 9, descriptorIndex := 10, attributes := #[] }, { accessFlags := 2, nameIndex := 19, descriptorIndex := 10, attributes := #[] }])
  fields := #[{ name := "name", type := (.object "java/lang/String"), accessFlags := 18, slot := 0, constantValue := 0 }, { name := "ordinal", type := .int, accessFlags := 18, slot := 1, constantValue := 0 }, { name := "hash", type := .int, accessFlags := 2, slot := 2, constantValue := 0 }]
  methods := #[]
  instanceTypes := #[(.object "java/lang/String"), .int, .int]
  staticTypes := #[]
  resolved := Array.replicate 204 none
  statics := none }

def pool6 : Array CpInfo := pool [(1, .class_ 2), (0, u "com/example/lanyard/lanyard/protocol/ApiKey"), (2, u "METADATA"), (0, u "Lcom/example/lanyard/lanyard/protocol/ApiKey;"), (2, u "SASL_HANDSHAKE"), (2, u "API_VERSIONS"), (2, u "SASL_AUTHENTICATE"), (2, u "CREATE_DELEGATION_TOKEN"), (2, u "RENEW_DELEGATION_TOKEN"), (2, u "EXPIRE_DELEGATION_TOKEN"), (2, u "DESCRIBE_DELEGATION_TOKEN"), (2, u "$VALUES"), (0, u "[Lcom/example/lanyard/lanyard/protocol/ApiKey;"), (6, .class_ 40), (1, u "java/lang/Enum"), (8, u "id"), (0, u "I"), (0, .fieldref 1 52), (0, .nameAndType 53 50), (0, u "firstFlexibleVersion"), (2, u "isFlexible"), (0, u "(I)Z")] 35

def k6c0 : Code := { maxStack := 2, maxLocals := 2, code := prog_44_method_5_code, exceptionTable := #[], attributes := #[] }
def k6m0 : Method := { name := "isFlexible", desc := "(I)Z", sig := { parameters := [.int], returnType := some .boolean }, accessFlags := 1, code := some k6c0 }
/-- com/example/lanyard/lanyard/protocol/ApiKey -/
def k6 : Class := { plain "com/example/lanyard/lanyard/protocol/ApiKey" (some 5) with
  accessFlags := 16433
  interfaces := #[]
  cf := some (fileOf pool6 1 #[] #[{ accessFlags := 1, nameIndex := 56, descriptorIndex := 57, attributes := #[] }] 16433 38 #[] #[{ accessFlags := 16409, nameIndex := 5, descriptorIndex := 6, attributes := #[] }, { accessFlags := 16409, nameIndex := 9, descriptorIndex := 6, attributes := #[] }, { accessFlags := 16409, nameIndex := 12, descriptorIndex := 6, attributes := #[] }, { accessFlags := 16409, nameIndex := 15, descriptorIndex := 6, attributes := #[] }, { accessFlags := 16409, nameIndex := 18, descriptorIndex := 6, attributes := #[] }, { accessFlags := 16409, nameIndex := 21, descriptorIndex := 6, attributes := #[] }, { accessFlags := 16409, nameIndex := 24, descriptorIndex := 6, attributes := #[] }, { accessFlags := 16409, nameIndex := 27, descriptorIndex := 6, attributes := #[] }, { accessFlags := 18, nameIndex := 49, descriptorIndex := 50, attributes := #[] }, { accessFlags := 18, nameIndex := 53, descriptorIndex := 50, attributes := #[] }, { accessFlags := 4122, nameIndex := 30, descriptorIndex := 31, attributes := #[] }])
  fields := #[{ name := "METADATA", type := (.object "com/example/lanyard/lanyard/protocol/ApiKey"), accessFlags := 16409, slot := 0, constantValue := 0 }, { name := "SASL_HANDSHAKE", type := (.object "com/example/lanyard/lanyard/protocol/ApiKey"), accessFlags := 16409, slot := 1, constantValue := 0 }, { name := "API_VERSIONS", type := (.object "com/example/lanyard/lanyard/protocol/ApiKey"), accessFlags := 16409, slot := 2, constantValue := 0 }, { name := "SASL_AUTHENTICATE", type := (.object "com/example/lanyard/lanyard/protocol/ApiKey"), accessFlags := 16409, slot := 3, constantValue := 0 }, { name := "CREATE_DELEGATION_TOKEN", type := (.object "com/example/lanyard/lanyard/protocol/ApiKey"), accessFlags := 16409, slot := 4, constantValue := 0 }, { name := "RENEW_DELEGATION_TOKEN", type := (.object "com/example/lanyard/lanyard/protocol/ApiKey"), accessFlags := 16409, slot := 5, constantValue := 0 }, { name := "EXPIRE_DELEGATION_TOKEN", type := (.object "com/example/lanyard/lanyard/protocol/ApiKey"), accessFlags := 16409, slot := 6, constantValue := 0 }, { name := "DESCRIBE_DELEGATION_TOKEN", type := (.object "com/example/lanyard/lanyard/protocol/ApiKey"), accessFlags := 16409, slot := 7, constantValue := 0 }, { name := "id", type := .int, accessFlags := 18, slot := 3, constantValue := 0 }, { name := "firstFlexibleVersion", type := .int, accessFlags := 18, slot := 4, constantValue := 0 }, { name := "$VALUES", type := (.array (.object "com/example/lanyard/lanyard/protocol/ApiKey")), accessFlags := 4122, slot := 8, constantValue := 0 }]
  methods := #[k6m0]
  instanceTypes := #[(.object "java/lang/String"), .int, .int, .int, .int]
  staticTypes := #[(.object "com/example/lanyard/lanyard/protocol/ApiKey"), (.object "com/example/lanyard/lanyard/protocol/ApiKey"), (.object "com/example/lanyard/lanyard/protocol/ApiKey"), (.object "com/example/lanyard/lanyard/protocol/ApiKey"), (.object "com/example/lanyard/lanyard/protocol/ApiKey"), (.object "com/example/lanyard/lanyard/protocol/ApiKey"), (.object "com/example/lanyard/lanyard/protocol/ApiKey"), (.object "com/example/lanyard/lanyard/protocol/ApiKey"), (.array (.object "com/example/lanyard/lanyard/protocol/ApiKey"))]
  resolved := Array.replicate 93 none
  statics := some 0 }

def pool7 : Array CpInfo := pool [(1, u "java/lang/Cloneable"), (0, .class_ 1), (0, u "java/lang/Object"), (0, .class_ 3)] 3

/-- java/lang/Cloneable -/
def k7 : Class := { plain "java/lang/Cloneable" (some 0) with
  accessFlags := 1537
  interfaces := #[]
  cf := some (fileOf pool7 2 #[] #[] 1537 4 #[] #[])
  fields := #[]
  methods := #[]
  instanceTypes := #[]
  staticTypes := #[]
  resolved := Array.replicate 8 none
  statics := none }

/-- the primitive byte -/
def k8 : Class := { plain "byte" none with kind := .primitive 'B', accessFlags := 0x411 }
/-- [B -/
def k9 : Class := { plain "[B" (some 0) with kind := .array 8 .byte, interfaces := #[7, 4], accessFlags := 1041 }

/-- the primitive int -/
def k10 : Class := { plain "int" none with kind := .primitive 'I', accessFlags := 0x411 }
/-- [I -/
def k11 : Class := { plain "[I" (some 0) with kind := .array 10 .int, interfaces := #[7, 4], accessFlags := 1041 }

def heap : Heap := #[{ cls := 6, slots := #[.ref 1, .ref 2, .ref 5, .ref 6, .ref 3, .ref 7, .ref 8, .ref 4, .null], vm := .statics 6 },
  { cls := 6, slots := #[.null, .int 0, .int 0, .int 0, .int 9], vm := .none },
  { cls := 6, slots := #[.null, .int 0, .int 0, .int 0, .int 2147483647], vm := .none },
  { cls := 6, slots := #[.null, .int 0, .int 0, .int 0, .int 2], vm := .none },
  { cls := 6, slots := #[.null, .int 0, .int 0, .int 0, .int 2], vm := .none },
  { cls := 6, slots := #[.null, .int 0, .int 0, .int 0, .int 3], vm := .none },
  { cls := 6, slots := #[.null, .int 0, .int 0, .int 0, .int 2], vm := .none },
  { cls := 6, slots := #[.null, .int 0, .int 0, .int 0, .int 2], vm := .none },
  { cls := 6, slots := #[.null, .int 0, .int 0, .int 0, .int 2], vm := .none }]
def classes : Array Class := #[k0, k1, k2, k3, k4, k5, k6, k7, k8, k9, k10, k11]
def interned : List (Array UInt16 × Addr) := []
def slotsUsed : Nat := 49
def theMethod : MethodId := ⟨1, 1⟩
def args0 : Array Value := #[.int 5, .int 7, .int 2]
def aboutOver (below : List Frame) : State where
  vm := { classes := classes, interned := interned.toArray }
  heap := heap
  slotsUsed := slotsUsed
  threads := #[{ frames := .invoking theMethod args0 :: below }]
def below0 : List Frame := [.native { method := ⟨0, 0⟩, args := #[] }]
def about1 : State := aboutOver below0
def p0 : Program := .bare "" "" ""
def e0 : Env := launch0.env 0 0 0
theorem w_frames : about1.frames = Frame.invoking theMethod args0 :: below0 := rfl
set_option maxRecDepth 65536 in
theorem w_args : argsFit about1.vm theMethod args0 = true := by decide +kernel
set_option maxRecDepth 65536 in
theorem w_heap : heapFits about1 = true := by decide +kernel
set_option maxRecDepth 65536 in
theorem w_runnable : about1.curStatus? = some .runnable := by decide +kernel
set_option maxRecDepth 65536 in
theorem w_alone : about1.alone = true := by decide +kernel
set_option maxRecDepth 65536 in
theorem w_named : about1.methodNamed? x = some theMethod := by decide +kernel
set_option maxRecDepth 65536 in
theorem w_hears : about1.hears theMethod below0 = true := by decide +kernel
set_option maxRecDepth 65536 in
theorem w_ripe : about1.ripe theMethod args0 below0 = true := by decide +kernel
theorem w_running : about1.status = .running := rfl
set_option maxRecDepth 65536 in
theorem w_room : about1.hasRoom e0.platform room_1 = true :=
  launch0.hasRoom_least _ room_1 (by decide +kernel) (by decide +kernel) (by decide +kernel) (by decide +kernel) (by decide +kernel) (by decide +kernel)
theorem allAtoms_all (ts : List Jvm.Cond) (a : Array Jvm.Value) (st : Jvm.State) : (allAtoms ts).before a st = ts.all (fun c => c.before a st) := by
  induction ts with
  | nil => rfl
  | cons c t ih =>
    show (Jvm.Cond.and c (allAtoms t)).before a st = _
    rw [Jvm.Cond.before_and, ih, List.all_cons]
def words1 : List Jvm.Cond := Jvm.Cond.code x code maxLocals ret :: tables_1
/-- a 'code' word, met by the world's own term for the bytes: nothing is compared byte by byte -/
theorem code_word {y : MethodName} {bytes : ByteArray} {mx : Nat} {rt : Option FieldType} {a : Array Value} {s : State} {m : MethodId} {meth : Method} {c : Code} (h1 : s.methodNamed? y = some m) (h2 : s.vm.method? m = some meth) (h3 : meth.code = some c) (h4 : c.code = bytes)
    (h5 : (c.maxLocals == mx && c.exceptionTable.isEmpty && decide (c.maxStack ≤ mostOperands) && decide (meth.sig.returnType = rt) && !meth.locks && decide (parseMethodDescriptor y.desc = some meth.sig)) = true) : (Jvm.Cond.code y bytes mx rt).before a s = true := by
  simp only [Bool.and_eq_true, beq_iff_eq, Bool.not_eq_true', decide_eq_true_eq] at h5
  obtain ⟨⟨⟨⟨⟨g1, g2⟩, g3⟩, g4⟩, g5⟩, g6⟩ := h5
  simp [Cond.before, Cond.holds, Cond.value, h1, h2, h3, h4, g1, g2, g3, g4, g5, g6]
def isCode : Jvm.Cond → Bool
  | .code _ _ _ _ => true
  | _ => false
theorem all_split {L : List Jvm.Cond} {P : Jvm.Cond → Bool} (h1 : L.all (fun c => isCode c || P c) = true) (h2 : ∀ c ∈ L.filter isCode, P c = true) : L.all P = true := by
  refine List.all_eq_true.mpr fun c hc => ?_
  have h := List.all_eq_true.mp h1 c hc
  rcases Bool.eq_false_or_eq_true (isCode c) with hi | hi
  · exact h2 c (List.mem_filter.mpr ⟨hc, hi⟩)
  · simpa [hi] using h
set_option maxRecDepth 65536 in
theorem w_c0 : (Jvm.Cond.code x code maxLocals ret).before args0 about1 = true := code_word (m := ⟨1, 1⟩) (meth := k1m1) (c := k1c1) (by decide +kernel) rfl rfl rfl (by decide +kernel)
set_option maxRecDepth 65536 in
theorem w_c1 : (Jvm.Cond.code ({ cls := "com/example/lanyard/lanyard/protocol/ApiKey", name := "isFlexible", desc := "(I)Z" } : Jvm.MethodName) prog_44_method_5_code (2 : Nat) (Option.some Jvm.ClassFile.FieldType.boolean)).before args0 about1 = true := code_word (m := ⟨6, 0⟩) (meth := k6m0) (c := k6c0) (by decide +kernel) rfl rfl rfl (by decide +kernel)
def codes1 : List Jvm.Cond := [Jvm.Cond.code x code maxLocals ret, Jvm.Cond.code ({ cls := "com/example/lanyard/lanyard/protocol/ApiKey", name := "isFlexible", desc := "(I)Z" } : Jvm.MethodName) prog_44_method_5_code (2 : Nat) (Option.some Jvm.ClassFile.FieldType.boolean)]
set_option maxRecDepth 65536 in
theorem codes_eq : words1.filter isCode = codes1 := rfl
theorem w_codes : ∀ c ∈ words1.filter isCode, c.before args0 about1 = true := by
  rw [codes_eq]
  intro c hc
  simp only [codes1, List.mem_cons, List.not_mem_nil, or_false] at hc
  rcases hc with rfl | rfl
  · exact w_c0
  · exact w_c1
set_option maxRecDepth 65536 in
theorem w_t1 : (words1.take 24).all (fun c => isCode c || c.before args0 about1) = true := by decide +kernel
set_option maxRecDepth 65536 in
theorem w_t2 : (words1.drop 24).all (fun c => isCode c || c.before args0 about1) = true := by decide +kernel
theorem w_tables : (allAtoms (Jvm.Cond.code x code maxLocals ret :: tables_1)).before args0 about1 = true := by
  rw [allAtoms_all]
  show words1.all (fun c => c.before args0 about1) = true
  refine all_split ?_ w_codes
  rw [← List.take_append_drop 24 words1, List.all_append, w_t1, w_t2]
  rfl
set_option maxRecDepth 65536 in
theorem w_case : (Jvm.Cond.and given_1 narrow_1).before args0 about1 = true := by decide +kernel
theorem w_applies : (headSpec (Jvm.Cond.code x code maxLocals ret :: tables_1) room_1).applies x e0.platform about1 = true :=
  (Spec.applies_iff w_frames).mpr ⟨w_running, w_runnable, w_alone, w_named, w_hears, w_ripe, w_room, w_tables⟩
theorem atStart : AtStart classFile x code maxLocals ret World_1 tables_1 room_1 Calls_1 rest_1 Pre_1 launch0 p0 e0 about1 theMethod args0 below0 :=
  ⟨lists_1, trivial, launch0.admits_env _ _ _, launch0.least_env, fairChoices_fair.cas, fairChoices_fair.clock, w_frames, w_args, w_heap, w_applies, trivial, trivial, w_case⟩
end start1
theorem witness_1 : WitnessClaimed_1 := ⟨start1.p0, start1.e0, start1.about1, start1.theMethod, start1.args0, start1.below0, start1.atStart⟩
end Jvm.Pilot.@@N@@
