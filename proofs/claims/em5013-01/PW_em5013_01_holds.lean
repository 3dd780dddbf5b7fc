import PyProof.Rows.All
import Wide.All
import OpenK.AllK
import Wide.FinOn
import KE.KTryDeep
import KE.KItem
import KE.KIntText
import KE.KFind
import KE.KxText
import PyProof.ListRange
import PyProof.Rows.SetFrom
import PyProof.EnumMake
import PyProof.Draws
import PyProof.DictCompW
import PyProof.DictItemsLoops
import KE.KLcPair
import KE.KPairComp
import PyProof.EqKinds
import KE.KNest
import PyProof.Rows.StrWeight2
import PyProof.Rows.AttrNodeAny
import OpenK.KEqL
import KE.KSetDisp
import PyProof.Rows.StrInSeq3
import PyProof.ListStr
import PyProof.ListCopy
import PyProof.Rows.SortWalk
import PyProof.Rows.SumAny
import OpenK.KRaiseN
import PyProof.DictRoadsH
import PyProof.Rows.DictSet
import KE.KEqDict
import PyProof.DelItemList
import PyProof.RulesDel
import PyProof.Rows.FStr
import Lean
import PySem.Challenge.RW_em5013_01
set_option Elab.async false
namespace Mine
section
open PySem PySem.Spec PySem.Calls PyProof.Rows PySem.W

/-- what a value of the model shows: ints, strs without their tokens; all else as it is -/
inductive MV where
  | none | bool (b : Bool) | int (i : Int) | str (s : Str) | val (v : Value)
inductive VR : MV → Value → Prop
  | none : VR .none .none
  | bool (b) : VR (.bool b) (.bool b)
  | int (i t) : VR (.int i) (.int i t)
  | str (s t) : VR (.str s) (.str s t)
  | val (v) : VR (.val v) v
abbrev MV.ref (a : Addr) : MV := .val (.ref a)

inductive VRs : List MV → List Value → Prop
  | nil : VRs [] []
  | cons {v u vs us} : VR v u → VRs vs us → VRs (v :: vs) (u :: us)

inductive MO where
  | list (vs : List MV)
  | tuple (vs : List MV)
  | cell (v : Option MV)
  | raw (o : Obj)
  | is (p : Obj → Prop)
inductive VRo : Option MV → Option Value → Prop
  | none : VRo .none .none
  | some {v u} : VR v u → VRo (.some v) (.some u)
inductive OR : MO → Obj → Prop
  | list {vs us} (n : Nat) : VRs vs us → OR (.list vs) { cls := .type "list", data := .seq us.toArray n }
  | tuple {vs us} : VRs vs us → OR (.tuple vs) { cls := .type "tuple", data := .seq us.toArray }
  | cell {v u o} : VRo v u → o.data = .cell u → OR (.cell v) o
  | raw (o) : OR (.raw o) o
  | is {p : Obj → Prop} {o} : p o → OR (.is p) o
abbrev MO.range (a b c : Int) : MO := .is fun o => ∃ t u v, o = { cls := .type "range", data := .fields #[.int a t, .int b u, .int c v] }

theorem VRs.length {vs us} (h : VRs vs us) : vs.length = us.length := by
  induction h with
  | nil => rfl
  | cons _ _ ih => simp [ih]
theorem VRs.append {vs us ws xs} (h : VRs vs us) (k : VRs ws xs) : VRs (vs ++ ws) (us ++ xs) := by
  induction h with
  | nil => exact k
  | cons a _ ih => exact .cons a ih
theorem VRs.get {vs us} (h : VRs vs us) : ∀ {i : Nat} {v : MV}, vs[i]? = some v → ∃ u, us[i]? = some u ∧ VR v u := by
  induction h with
  | nil => intro i v e; simp at e
  | cons a _ ih =>
    intro i v e
    cases i with
    | zero => simp at e; subst e; exact ⟨_, rfl, a⟩
    | succ i => simp at e; simpa using ih e
theorem VRs.get' {vs us} (h : VRs vs us) : ∀ {i : Nat} {u : Value}, us[i]? = some u → ∃ v, vs[i]? = some v ∧ VR v u := by
  induction h with
  | nil => intro i v e; simp at e
  | cons a _ ih =>
    intro i v e
    cases i with
    | zero => simp at e; subst e; exact ⟨_, rfl, a⟩
    | succ i => simp at e; simpa using ih e

/-- the frame of a call, what stands still under it, and the names of its locals -/
structure Cx where
  prog : Program
  w : World
  A : Around
  env : Env
  g : Heap
  names : List Str
structure St where
  vars : List (Option MV)
  heap : List (Addr × MO)

abbrev keys {α : Type} (l : List (Addr × α)) : List Addr := l.map (·.1)
def VarsOk (names : List Str) (vars : List (Option MV)) (m : Str → Option Value) : Prop :=
  ∀ (i : Nat) (x : Str) (v : MV), names[i]? = some x → vars[i]? = some (some v) → ∃ u, m x = some u ∧ VR v u

/-- the frames under the frame at hand -/
def fsOf (c : Cx) : List Addr := ((c.A.frames.getD []).tail).filterMap (·.frame)
/-- what stood when the call began stands, the frames under it but for their slots -/
structure FrT (fs : List Addr) (g : Heap) (L : Addr) (h : Heap) (m : Str → Option Value) : Prop where
  ns : h.Ns L m
  keep : ∀ b o, g.get? b = some o → ∃ sl, h.get? b = some { o with slots := sl } ∧ (b ∉ fs → sl = o.slots)
  above : g.objs.size ≤ L
theorem FrT.of {fs g L h m} (F : Fr g L h m) : FrT fs g L h m := ⟨F.ns, fun b o e => ⟨o.slots, F.keep b o e, fun _ => rfl⟩, F.above⟩
theorem FrT.same {fs g L h m} (F : FrT fs g L h m) {b : Addr} {o : Obj} (e : g.get? b = some o) (hb : b ∉ fs) : h.get? b = some o := by
  obtain ⟨sl, h1, h2⟩ := F.keep b o e
  have := h2 hb
  subst this
  exact h1
theorem FrT.none_ {fs g L h m} (F : FrT fs g L h m) {b : Addr} (e : h.get? b = none) : g.get? b = none := by
  cases q : g.get? b with
  | none => rfl
  | some o => obtain ⟨_, h1, _⟩ := F.keep b o q; rw [e] at h1; cases h1
theorem FrT.step {fs g L h h' m m'} (F : FrT fs g L h m) (hn : h'.Ns L m') (hk : ∀ b o, (g.get? b).isSome = true → h.get? b = some o → h'.get? b = some o) : FrT fs g L h' m' :=
  ⟨hn, fun b o e => let ⟨sl, h1, h2⟩ := F.keep b o e; ⟨sl, hk b _ (by rw [e]; rfl) h1, h2⟩, F.above⟩
structure R (c : Cx) (X : List (Addr × Obj)) (σ : St) (h : Heap) : Prop where
  fr : ∃ m, FrT (fsOf c) c.g c.env.locals h m ∧ VarsOk c.names σ.vars m
  obj : ∀ p ∈ σ.heap, ∃ o, h.get? p.1 = some o ∧ OR p.2 o
  ext : ∀ p ∈ X, h.get? p.1 = some p.2
  nd : (keys σ.heap ++ keys X).Nodup
  off : ∀ a, a ∈ keys σ.heap ++ keys X → a ≠ c.env.locals ∧ c.g.get? a = none

theorem R.alive {c X σ h} (r : R c X σ h) {a : Addr} (ha : a ∈ keys σ.heap ++ keys X) : ∃ o, h.get? a = some o := by
  rcases List.mem_append.mp ha with ha | ha
  · obtain ⟨p, hp, rfl⟩ := List.mem_map.mp ha
    obtain ⟨o, e, _⟩ := r.obj p hp
    exact ⟨o, e⟩
  · obtain ⟨p, hp, rfl⟩ := List.mem_map.mp ha
    exact ⟨_, r.ext p hp⟩
theorem R.frameAlive {c X σ h} (r : R c X σ h) : ∃ o, h.get? c.env.locals = some o := by
  obtain ⟨m, F, _⟩ := r.fr
  obtain ⟨o, _, _, e, _⟩ := F.ns
  exact ⟨o, e⟩

/-- all that stands is as it was but at wr, which is nobody's -/
theorem R.but {c X σ h h'} (r : R c X σ h) (wr : List Addr) (hw : ∀ b ∈ wr, b ∉ keys σ.heap ++ keys X ∧ b ≠ c.env.locals ∧ c.g.get? b = none)
    (hk : ∀ b o, b ∉ wr → h.get? b = some o → h'.get? b = some o) : R c X σ h' where
  fr := by
    obtain ⟨m, F, V⟩ := r.fr
    refine ⟨m, F.step (F.ns.at' fun o e => hk _ o (fun q => (hw _ q).2.1 rfl) e) fun b o e => hk b o (fun q => by rw [(hw _ q).2.2] at e; cases e), V⟩
  obj := fun p hp => by
    obtain ⟨o, e, q⟩ := r.obj p hp
    exact ⟨o, hk _ o (fun z => (hw _ z).1 (List.mem_append_left _ (List.mem_map_of_mem hp))) e, q⟩
  ext := fun p hp => hk _ _ (fun z => (hw _ z).1 (List.mem_append_right _ (List.mem_map_of_mem hp))) (r.ext p hp)
  nd := r.nd
  off := r.off
theorem R.keeps {c X σ h h'} (r : R c X σ h) (hk : ∀ b o, h.get? b = some o → h'.get? b = some o) : R c X σ h' :=
  r.but [] (fun _ hb => nomatch hb) (fun b o _ e => hk b o e)

theorem R.fresh {c X σ h} (r : R c X σ h) {a : Addr} (ha : h.get? a = none) : a ∉ keys σ.heap ++ keys X ∧ a ≠ c.env.locals ∧ c.g.get? a = none := by
  refine ⟨fun q => ?_, fun q => ?_, ?_⟩
  · obtain ⟨o, e⟩ := r.alive q
    rw [ha] at e; cases e
  · obtain ⟨o, e⟩ := r.frameAlive
    rw [← q, ha] at e; cases e
  · obtain ⟨m, F, _⟩ := r.fr
    exact F.none_ ha

/-- something new goes onto the ledger -/
theorem R.new {c X σ h h'} (r : R c X σ h) (hk : ∀ b o, h.get? b = some o → h'.get? b = some o) {a : Addr} {o : Obj} {mo : MO} (ha : h.get? a = none) (ho : h'.get? a = some o) (hm : OR mo o) :
    R c X { σ with heap := (a, mo) :: σ.heap } h' := by
  have f := r.fresh ha
  have r' := r.keeps hk
  refine ⟨r'.fr, fun p hp => ?_, r'.ext, ?_, ?_⟩
  · rcases List.mem_cons.mp hp with rfl | hp
    · exact ⟨o, ho, hm⟩
    · exact r'.obj p hp
  · show (a :: (keys σ.heap ++ keys X)).Nodup
    exact List.nodup_cons.mpr ⟨f.1, r.nd⟩
  · intro b hb
    have hb' : b ∈ a :: (keys σ.heap ++ keys X) := hb
    rcases List.mem_cons.mp hb' with rfl | hb
    · exact f.2
    · exact r.off b hb
/-- something new stands beside (an iterator) -/
theorem R.newX {c X σ h h'} (r : R c X σ h) (hk : ∀ b o, h.get? b = some o → h'.get? b = some o) {a : Addr} {o : Obj} (ha : h.get? a = none) (ho : h'.get? a = some o) :
    R c ((a, o) :: X) σ h' := by
  have f := r.fresh ha
  have r' := r.keeps hk
  refine ⟨r'.fr, r'.obj, fun p hp => ?_, ?_, ?_⟩
  · rcases List.mem_cons.mp hp with rfl | hp
    · exact ho
    · exact r'.ext p hp
  · show (keys σ.heap ++ (a :: keys X)).Nodup
    exact (List.perm_middle.nodup_iff).mpr (List.nodup_cons.mpr ⟨f.1, r.nd⟩)
  · intro b hb
    have hb' : b ∈ keys σ.heap ++ (a :: keys X) := hb
    rcases List.mem_append.mp hb' with hb | hb
    · exact r.off b (List.mem_append_left _ hb)
    · rcases List.mem_cons.mp hb with rfl | hb
      · exact f.2
      · exact r.off b (List.mem_append_right _ hb)

/-- an object of the ledger changes -/
theorem R.upd {c X σ h h'} {pre post : List (Addr × MO)} {a : Addr} {mo mo' : MO} {o' : Obj} (r : R c X σ h) (e : σ.heap = pre ++ (a, mo) :: post) (hs : ∀ b o, b ≠ a → h.get? b = some o → h'.get? b = some o) (ho : h'.get? a = some o') (hm : OR mo' o') :
    R c X { σ with heap := pre ++ (a, mo') :: post } h' := by
  have hmem : a ∈ keys σ.heap := by rw [e]; simp [keys]
  have hoff := r.off a (List.mem_append_left _ hmem)
  have ks : keys (pre ++ (a, mo') :: post) = keys σ.heap := by rw [e]; simp [keys]
  have nd := r.nd
  have hne : ∀ p, p ∈ pre ∨ p ∈ post → p.1 ≠ a := by
    intro p hp q
    rw [e] at nd
    simp only [keys, List.map_append, List.map_cons] at nd
    have nd1 := (List.nodup_append.mp nd).1
    have := (List.nodup_append.mp nd1)
    rcases hp with hp | hp
    · exact this.2.2 p.1 (List.mem_map_of_mem hp) a (List.mem_cons_self ..) q
    · exact (List.nodup_cons.mp this.2.1).1 (q ▸ List.mem_map_of_mem hp)
  have hX : ∀ p ∈ X, p.1 ≠ a := fun p hp q => (List.nodup_append.mp nd).2.2 a hmem p.1 (List.mem_map_of_mem hp) q.symm
  refine ⟨?_, fun p hp => ?_, fun p hp => hs _ _ (hX p hp) (r.ext p hp), by show (keys (pre ++ (a, mo') :: post) ++ keys X).Nodup; rw [ks]; exact nd, ?_⟩
  · obtain ⟨m, F, V⟩ := r.fr
    exact ⟨m, F.step (F.ns.at' fun o q => hs _ o (Ne.symm hoff.1) q) fun b o q => hs b o (fun z => by rw [z, hoff.2] at q; cases q), V⟩
  · rcases List.mem_append.mp hp with hp | hp
    · obtain ⟨o, q1, q2⟩ := r.obj p (by rw [e]; exact List.mem_append_left _ hp)
      exact ⟨o, hs _ o (hne p (.inl hp)) q1, q2⟩
    · rcases List.mem_cons.mp hp with rfl | hp
      · exact ⟨o', ho, hm⟩
      · obtain ⟨o, q1, q2⟩ := r.obj p (by rw [e]; exact List.mem_append_right _ (List.mem_cons_of_mem _ hp))
        exact ⟨o, hs _ o (hne p (.inr hp)) q1, q2⟩
  · intro b hb
    have hb' : b ∈ keys (pre ++ (a, mo') :: post) ++ keys X := hb
    rw [ks] at hb'
    exact r.off b hb'
theorem R.updX {c σ h h'} {pre post : List (Addr × Obj)} {a : Addr} {o o' : Obj} (r : R c (pre ++ (a, o) :: post) σ h) (hs : ∀ b o, b ≠ a → h.get? b = some o → h'.get? b = some o) (ho : h'.get? a = some o') :
    R c (pre ++ (a, o') :: post) σ h' := by
  have ks : keys (pre ++ (a, o') :: post) = keys (pre ++ (a, o) :: post) := by simp [keys]
  have hmem : a ∈ keys (pre ++ (a, o) :: post) := by simp [keys]
  have hoff := r.off a (List.mem_append_right _ hmem)
  have nd := r.nd
  have hne : ∀ p, p ∈ pre ∨ p ∈ post → p.1 ≠ a := by
    intro p hp q
    simp only [keys, List.map_append, List.map_cons] at nd
    have nd1 := (List.nodup_append.mp nd).2.1
    have := (List.nodup_append.mp nd1)
    rcases hp with hp | hp
    · exact this.2.2 p.1 (List.mem_map_of_mem hp) a (List.mem_cons_self ..) q
    · exact (List.nodup_cons.mp this.2.1).1 (q ▸ List.mem_map_of_mem hp)
  have hH : ∀ p ∈ σ.heap, p.1 ≠ a := fun p hp q => (List.nodup_append.mp nd).2.2 p.1 (List.mem_map_of_mem hp) a hmem q
  refine ⟨?_, fun p hp => ?_, fun p hp => ?_, by show (keys σ.heap ++ keys (pre ++ (a, o') :: post)).Nodup; rw [ks]; exact nd, ?_⟩
  · obtain ⟨m, F, V⟩ := r.fr
    exact ⟨m, F.step (F.ns.at' fun o q => hs _ o (Ne.symm hoff.1) q) fun b o q => hs b o (fun z => by rw [z, hoff.2] at q; cases q), V⟩
  · obtain ⟨o, q1, q2⟩ := r.obj p hp
    exact ⟨o, hs _ o (hH p hp) q1, q2⟩
  · rcases List.mem_append.mp hp with hp | hp
    · exact hs _ _ (hne p (.inl hp)) (r.ext p (List.mem_append_left _ hp))
    · rcases List.mem_cons.mp hp with rfl | hp
      · exact ho
      · exact hs _ _ (hne p (.inr hp)) (r.ext p (List.mem_append_right _ (List.mem_cons_of_mem _ hp)))
  · intro b hb
    have hb' : b ∈ keys σ.heap ++ keys (pre ++ (a, o') :: post) := hb
    rw [ks] at hb'
    exact r.off b hb'

/-- a local is stored -/
theorem R.store {c X σ h h'} (r : R c X σ h) {i : Nat} {x : Str} {v : MV} {u : Value} (hx : c.names[i]? = some x) (hn : c.names.Nodup) (hv : VR v u)
    (hN : ∀ m, h.Ns c.env.locals m → h'.Ns c.env.locals (fun y => if y = x then some u else m y)) (hs : ∀ b o, b ≠ c.env.locals → h.get? b = some o → h'.get? b = some o) :
    R c X { σ with vars := σ.vars.set i (some v) } h' := by
  refine ⟨?_, fun p hp => ?_, fun p hp => hs _ _ (r.off _ (List.mem_append_right _ (List.mem_map_of_mem hp))).1 (r.ext p hp), r.nd, r.off⟩
  · obtain ⟨m, F, V⟩ := r.fr
    refine ⟨_, F.step (hN m F.ns) (fun b o e => hs b o (by obtain ⟨o', e'⟩ := Option.isSome_iff_exists.mp e; exact Nat.ne_of_lt (Nat.lt_of_lt_of_le (Heap.lt_size e') F.above))), fun j y v' hy hv' => ?_⟩
    by_cases hj : j = i
    · subst hj
      rw [hx] at hy; cases hy
      rw [List.getElem?_set_self'] at hv'
      cases hz : σ.vars[j]? with
      | none => rw [hz] at hv'; simp at hv'
      | some z => rw [hz] at hv'; simp at hv'; subst hv'; exact ⟨u, by simp, hv⟩
    · have hne : y ≠ x := by
        intro q
        subst q
        obtain ⟨h1, e1⟩ := List.getElem?_eq_some_iff.mp hx
        obtain ⟨h2, e2⟩ := List.getElem?_eq_some_iff.mp hy
        have pw := List.pairwise_iff_getElem.mp hn
        rcases Nat.lt_trichotomy j i with q | q | q
        · exact pw j i h2 h1 q (e2.trans e1.symm)
        · exact hj q
        · exact pw i j h1 h2 q (e1.trans e2.symm)
      rw [List.getElem?_set_ne (Ne.symm hj)] at hv'
      obtain ⟨u', e1, e2⟩ := V j y v' hy hv'
      exact ⟨u', by simp [hne, e1], e2⟩
  · obtain ⟨o, q1, q2⟩ := r.obj p hp
    exact ⟨o, hs _ o (r.off _ (List.mem_append_left _ (List.mem_map_of_mem hp))).1 q1, q2⟩

/-- less is known -/
theorem R.weak {c X σ h} (r : R c X σ h) {H : List (Addr × MO)} {V : List (Option MV)} (hH : H.Sublist σ.heap) (hV : ∀ (i : Nat) (v : MV), V[i]? = some (some v) → σ.vars[i]? = some (some v)) : R c X ⟨V, H⟩ h := by
  have hk : (keys H ++ keys X).Sublist (keys σ.heap ++ keys X) := (hH.map _).append (List.Sublist.refl _)
  refine ⟨?_, fun p hp => r.obj p (hH.subset hp), r.ext, r.nd.sublist hk, fun a ha => r.off a (hk.subset ha)⟩
  obtain ⟨m, F, W⟩ := r.fr
  exact ⟨m, F, fun i x v hx hv => W i x v hx (hV i v hv)⟩
theorem R.perm {c X σ h} (r : R c X σ h) {H : List (Addr × MO)} (hH : H.Perm σ.heap) : R c X ⟨σ.vars, H⟩ h := by
  have hk : (keys H ++ keys X).Perm (keys σ.heap ++ keys X) := (hH.map _).append (List.Perm.refl _)
  exact ⟨r.fr, fun p hp => r.obj p (hH.subset hp), r.ext, hk.nodup_iff.mpr r.nd, fun a ha => r.off a (hk.subset ha)⟩
/-- a part of the ledger is set aside -/
theorem R.aside {c X V H₁ H₂ h} (r : R c X ⟨V, H₁ ++ H₂⟩ h) : ∃ X₂, keys X₂ = keys H₂ ∧ (∀ p ∈ X₂, ∃ mo, (p.1, mo) ∈ H₂ ∧ OR mo p.2) ∧ (∀ p ∈ H₂, ∃ o, (p.1, o) ∈ X₂ ∧ OR p.2 o) ∧ R c (X₂ ++ X) ⟨V, H₁⟩ h := by
  have key : ∀ H : List (Addr × MO), (∀ p ∈ H, ∃ o, h.get? p.1 = some o ∧ OR p.2 o) → ∃ X₂ : List (Addr × Obj), keys X₂ = keys H ∧ (∀ p ∈ X₂, h.get? p.1 = some p.2) ∧ (∀ p ∈ X₂, ∃ mo, (p.1, mo) ∈ H ∧ OR mo p.2) ∧ ∀ p ∈ H, ∃ o, (p.1, o) ∈ X₂ ∧ OR p.2 o := by
    intro H
    induction H with
    | nil => intro _; exact ⟨[], rfl, fun _ hp => (nomatch hp), fun _ hp => (nomatch hp), fun _ hp => (nomatch hp)⟩
    | cons p H ih =>
      intro hH
      obtain ⟨o, e1, e2⟩ := hH p (List.mem_cons_self ..)
      obtain ⟨X₂, k1, k2, k3, k4⟩ := ih fun q hq => hH q (List.mem_cons_of_mem _ hq)
      refine ⟨(p.1, o) :: X₂, by simp [keys] at k1 ⊢; exact k1, fun q hq => ?_, fun q hq => ?_, fun q hq => ?_⟩
      · rcases List.mem_cons.mp hq with rfl | hq
        · exact e1
        · exact k2 q hq
      · rcases List.mem_cons.mp hq with rfl | hq
        · exact ⟨p.2, List.mem_cons_self .., e2⟩
        · obtain ⟨mo, a, b⟩ := k3 q hq; exact ⟨mo, List.mem_cons_of_mem _ a, b⟩
      · rcases List.mem_cons.mp hq with rfl | hq
        · exact ⟨o, List.mem_cons_self .., e2⟩
        · obtain ⟨o', a, b⟩ := k4 q hq; exact ⟨o', List.mem_cons_of_mem _ a, b⟩
  obtain ⟨X₂, k1, k2, k3, k4⟩ := key H₂ fun p hp => r.obj p (List.mem_append_right _ hp)
  have ks : keys H₁ ++ keys (X₂ ++ X) = keys (H₁ ++ H₂) ++ keys X := by
    have k1' : List.map (·.1) X₂ = List.map (·.1) H₂ := k1
    simp only [keys, List.map_append, k1', List.append_assoc]
  refine ⟨X₂, k1, k3, k4, r.fr, fun p hp => r.obj p (List.mem_append_left _ hp), fun p hp => ?_, ?_, fun a ha => r.off a ?_⟩
  · rcases List.mem_append.mp hp with hp | hp
    · exact k2 p hp
    · exact r.ext p hp
  · have := r.nd; show (keys H₁ ++ keys (X₂ ++ X)).Nodup; rw [ks]; exact this
  · have ha' : a ∈ keys H₁ ++ keys (X₂ ++ X) := ha
    rw [ks] at ha'; exact ha'
/-- and comes back -/
theorem R.back {c X X₂ V H₁ H₂ h} (r : R c (X₂ ++ X) ⟨V, H₁⟩ h) (k1 : keys X₂ = keys H₂) (k4 : ∀ p ∈ H₂, ∃ o, (p.1, o) ∈ X₂ ∧ OR p.2 o) : R c X ⟨V, H₁ ++ H₂⟩ h := by
  have k1' : List.map (·.1) X₂ = List.map (·.1) H₂ := k1
  have ks : keys H₁ ++ keys (X₂ ++ X) = keys (H₁ ++ H₂) ++ keys X := by simp only [keys, List.map_append, k1', List.append_assoc]
  refine ⟨r.fr, fun p hp => ?_, fun p hp => r.ext p (List.mem_append_right _ hp), ?_, fun a ha => r.off a ?_⟩
  · rcases List.mem_append.mp hp with hp | hp
    · exact r.obj p hp
    · obtain ⟨o, a, b⟩ := k4 p hp
      exact ⟨o, r.ext _ (List.mem_append_left _ a), b⟩
  · have := r.nd; show (keys (H₁ ++ H₂) ++ keys X).Nodup; rw [← ks]; exact this
  · have ha' : a ∈ keys (H₁ ++ H₂) ++ keys X := ha
    rw [← ks] at ha'; exact ha'
end
section
open PySem PySem.Spec PySem.Calls PyProof.Rows PySem.W
/-- the tree ends, from every state that shows σ, in a b with P b σ', shown by the tree's end; it raises nothing -/
def W {α β : Type} (rel : β → α → Prop) (c : Cx) (t : Sem α) (σ : St) (P : β → St → Prop) : Prop :=
  ∀ (X : List (Addr × Obj)) (s : Shared), R c X σ s.heap → ∀ (Q : α → Shared → Prop) (E : Value → Shared → Prop),
    (∀ b a σ' h' tk, P b σ' → rel b a → R c X σ' h' → Q a { s with heap := h', toks := tk }) → wpAny (model c.prog c.w) c.A t Q E s

inductive MF where
  | next | brk | cont | ret (v : MV)
inductive FR : MF → Flow → Prop
  | next : FR .next .next
  | brk : FR .brk .brk
  | cont : FR .cont .cont
  | ret {v u} : VR v u → FR (.ret v) (.ret u)
abbrev WE := @W Value MV VR
abbrev WL := @W (List Value) (List MV) VRs
abbrev WB := @W Bool Bool (fun b a => a = b)
abbrev WU := @W Unit Unit (fun _ _ => True)
abbrev WF := @W Flow MF FR

section
variable {α β γ δ : Type} {rel : β → α → Prop} {rel' : δ → γ → Prop} {c : Cx} {σ : St}
theorem W.bind {t : Sem α} {f : α → Sem γ} {P : δ → St → Prop} (h : W rel c t σ fun b σ' => ∀ a, rel b a → W rel' c (f a) σ' P) : W rel' c (t >>= f) σ P := by
  intro X s r Q E k
  refine wpAny_bind (h X s r _ _ fun b a σ' h' tk hp ha r' => ?_)
  exact hp a ha X _ r' _ _ fun d e σ'' h'' tk'' hp' he r'' => k d e σ'' h'' tk'' hp' he r''
theorem W.mono {t : Sem α} {P P' : β → St → Prop} (h : W rel c t σ P) (hp : ∀ b σ', P b σ' → P' b σ') : W rel c t σ P' := by
  intro X s r Q E k
  exact h X s r Q E fun b a σ' h' tk p => k b a σ' h' tk (hp b σ' p)
theorem W.pure {a : α} {b : β} {P : β → St → Prop} (h : P b σ) (hr : rel b a) : W rel c (Pure.pure a : Sem α) σ P := by
  intro X s r Q E k
  exact wpAny_pure (k b a σ s.heap s.toks h hr r)
theorem W.of_eq {t t' : Sem α} {P : β → St → Prop} (e : t = t') (h : W rel c t' σ P) : W rel c t σ P := e ▸ h
/-- the state may be shown by less -/
theorem W.weak {t : Sem α} {P : β → St → Prop} {σ' : St} (h : W rel c t σ' P) (hH : σ'.heap.Sublist σ.heap) (hV : ∀ (i : Nat) (v : MV), σ'.vars[i]? = some (some v) → σ.vars[i]? = some (some v)) : W rel c t σ P := by
  intro X s r Q E k
  exact h X s (r.weak hH hV) Q E k
theorem W.perm {t : Sem α} {P : β → St → Prop} {V : List (Option MV)} {H H' : List (Addr × MO)} (h : W rel c t ⟨V, H'⟩ P) (hH : H'.Perm H) : W rel c t ⟨V, H⟩ P := by
  intro X s r Q E k
  exact h X s (r.perm hH) Q E k
/-- a part of the ledger that the tree does not speak of -/
theorem W.frame {t : Sem α} {P : β → St → Prop} {V : List (Option MV)} {H H₂ : List (Addr × MO)} (h : W rel c t ⟨V, H⟩ fun b σ' => P b ⟨σ'.vars, σ'.heap ++ H₂⟩) : W rel c t ⟨V, H ++ H₂⟩ P := by
  intro X s r Q E k
  obtain ⟨X₂, k1, _, k4, r'⟩ := r.aside
  refine h _ s r' Q E fun b a σ' h' tk hp ha r'' => ?_
  obtain ⟨V', H'⟩ := σ'
  exact k b a ⟨V', H' ++ H₂⟩ h' tk hp ha (r''.back k1 k4)

theorem execs_nil' {P : MF → St → Prop} (h : P .next σ) : WF c (execs [] c.env) σ P := W.pure h .next
theorem execs_cons' {st : Stmt} {rest : List Stmt} {P : MF → St → Prop} (h : WF c (exec st c.env) σ fun f σ' => match f with | .next => WF c (execs rest c.env) σ' P | f => P f σ') :
    WF c (execs (st :: rest) c.env) σ P := by
  intro X s r Q E k
  refine wpAny_execs_cons (h X s r _ _ fun b a σ' h' tk hp ha r' => ?_)
  cases ha with
  | next => exact hp X _ r' _ _ fun d e σ'' h'' tk'' hp' he r'' => k d e σ'' h'' tk'' hp' he r''
  | brk => exact k _ _ _ h' tk hp .brk r'
  | cont => exact k _ _ _ h' tk hp .cont r'
  | ret hv => exact k _ _ _ h' tk hp (.ret hv) r'

theorem Return_ {e : Expr} {pos : Pos} {P : MF → St → Prop} (h : WE c (eval e c.env) σ fun v σ' => P (.ret v) σ') : WF c (exec (.Return (some e) pos) c.env) σ P := by
  intro X s r Q E k
  exact wpAny_Return_some (h X s r _ _ fun b a σ' h' tk hp ha r' => k _ _ σ' h' tk hp (.ret ha) r')
theorem If_ {test : Expr} {body orelse : List Stmt} {pos : Pos} {P : MF → St → Prop} (h : WB c (isTrue test c.env (eval test c.env)) σ fun b σ' => if b = true then WF c (execs body c.env) σ' P else WF c (execs orelse c.env) σ' P) :
    WF c (exec (.If test body orelse pos) c.env) σ P := by
  intro X s r Q E k
  refine wpAny_If (h X s r _ _ fun b a σ' h' tk hp ha r' => ?_)
  subst ha
  cases a
  · simp only [Bool.false_eq_true, if_false] at hp ⊢
    exact hp X _ r' _ _ fun d e σ'' h'' tk'' hp' he r'' => k d e σ'' h'' tk'' hp' he r''
  · simp only [if_true] at hp ⊢
    exact hp X _ r' _ _ fun d e σ'' h'' tk'' hp' he r'' => k d e σ'' h'' tk'' hp' he r''
theorem IfExp_' {test body orelse : Expr} {pos : Pos} {P : MV → St → Prop} (h : WB c (isTrue test c.env (eval test c.env)) σ fun b σ' => if b = true then WE c (eval body c.env) σ' P else WE c (eval orelse c.env) σ' P) :
    WE c (eval (.IfExp test body orelse pos) c.env) σ P := by
  intro X s r Q E k
  refine wpAny_IfExp (h X s r _ _ fun b a σ' h' tk hp ha r' => ?_)
  subst ha
  cases a
  · simp only [Bool.false_eq_true, if_false] at hp ⊢
    exact hp X _ r' _ _ fun d e σ'' h'' tk'' hp' he r'' => k d e σ'' h'' tk'' hp' he r''
  · simp only [if_true] at hp ⊢
    exact hp X _ r' _ _ fun d e σ'' h'' tk'' hp' he r'' => k d e σ'' h'' tk'' hp' he r''

/-- a value's truth -/
def WT (c : Cx) (v : MV) (σ : St) (P : Bool → St → Prop) : Prop := ∀ u, VR v u → WB c (truthy u) σ P
theorem truth_bool {b : Bool} {P : Bool → St → Prop} (h : P b σ) : WT c (.bool b) σ P := by
  intro u hu X s r Q E k
  cases hu
  exact wpAny_truthy_bool (k b b σ s.heap s.toks h rfl r)
theorem isTrue_val {e : Expr} {P : Bool → St → Prop} (h : WE c (eval e c.env) σ fun v σ' => WT c v σ' P)
    (he : ∀ whole, isTrue e c.env whole = (do let v ← whole; standAt e.pos; holding [v] (truthy v))) : WB c (isTrue e c.env (eval e c.env)) σ P := by
  intro X s r Q E k
  refine wpAny_isTrue_value (h X s r _ _ fun b a σ' h' tk hp ha r' => ?_) (he _)
  exact hp a ha X _ r' _ _ fun d e σ'' h'' tk'' hp' he r'' => k d e σ'' h'' tk'' hp' he r''
theorem isTrue_Not' {x : Expr} {pos : Pos} {P : Bool → St → Prop} (h : WB c (isTrue x c.env (eval x c.env)) σ fun b σ' => P (!b) σ') :
    WB c (isTrue (.UnaryOp .Not x pos) c.env (eval (.UnaryOp .Not x pos) c.env)) σ P := by
  intro X s r Q E k
  exact wpAny_isTrue_Not (h X s r _ _ fun b a σ' h' tk hp ha r' => by subst ha; exact k _ _ σ' h' tk hp rfl r')
theorem isTrue_Bool' {op : BoolOp} {es : List Expr} {pos : Pos} {P : Bool → St → Prop} (h : WB c (allTrue op es c.env) σ P) : WB c (isTrue (.BoolOp op es pos) c.env (eval (.BoolOp op es pos) c.env)) σ P := by
  intro X s r Q E k
  exact wpAny_isTrue_BoolOp (h X s r Q E k)
theorem all_and_nil {P : Bool → St → Prop} (h : P true σ) : WB c (allTrue .And [] c.env) σ P := by
  intro X s r Q E k; exact wpAny_allTrue_And_nil (k _ _ σ s.heap s.toks h rfl r)
theorem all_or_nil {P : Bool → St → Prop} (h : P false σ) : WB c (allTrue .Or [] c.env) σ P := by
  intro X s r Q E k; exact wpAny_allTrue_Or_nil (k _ _ σ s.heap s.toks h rfl r)
theorem all_and {x : Expr} {rest : List Expr} {P : Bool → St → Prop} (h : WB c (isTrue x c.env (eval x c.env)) σ fun b σ' => if b = true then WB c (allTrue .And rest c.env) σ' P else P false σ') : WB c (allTrue .And (x :: rest) c.env) σ P := by
  intro X s r Q E k
  refine wpAny_allTrue_And_cons (h X s r _ _ fun b a σ' h' tk hp ha r' => ?_)
  subst ha
  cases a
  · simp only [Bool.false_eq_true, if_false] at hp ⊢; exact k _ _ _ h' tk hp rfl r'
  · simp only [if_true] at hp ⊢; exact hp X _ r' _ _ fun d e σ'' h'' tk'' hp' he r'' => k d e σ'' h'' tk'' hp' he r''
theorem all_or {x : Expr} {rest : List Expr} {P : Bool → St → Prop} (h : WB c (isTrue x c.env (eval x c.env)) σ fun b σ' => if b = true then P true σ' else WB c (allTrue .Or rest c.env) σ' P) : WB c (allTrue .Or (x :: rest) c.env) σ P := by
  intro X s r Q E k
  refine wpAny_allTrue_Or_cons (h X s r _ _ fun b a σ' h' tk hp ha r' => ?_)
  subst ha
  cases a
  · simp only [Bool.false_eq_true, if_false] at hp ⊢; exact hp X _ r' _ _ fun d e σ'' h'' tk'' hp' he r'' => k d e σ'' h'' tk'' hp' he r''
  · simp only [if_true] at hp ⊢; exact k _ _ _ h' tk hp rfl r'

/-- two operands -/
def W2 (c : Cx) (f : Value → Value → Sem Value) (a b : MV) (σ : St) (P : MV → St → Prop) : Prop := ∀ u w, VR a u → VR b w → WE c (f u w) σ P
theorem BinOp_' {l r : Expr} {op : Operator} {pos : Pos} {P : MV → St → Prop} (h : WE c (eval l c.env) σ fun a σ1 => WE c (eval r c.env) σ1 fun b σ2 => W2 c (binaryOp op) a b σ2 P) :
    WE c (eval (.BinOp l op r pos) c.env) σ P := by
  intro X s rr Q E k
  refine wpAny_BinOp (h X s rr _ _ fun b a σ' h' tk hp ha r' => hp X _ r' _ _ fun d e σ'' h'' tk'' hp' he r'' => hp' a e ha he X _ r'' _ _ fun d e σ'' h'' tk'' hp' he r'' => k d e σ'' h'' tk'' hp' he r'')
theorem Compare_' {l r : Expr} {op : CmpOp} {pos : Pos} {P : MV → St → Prop} (hm : behindInMarks op r = false) (h : WE c (eval l c.env) σ fun a σ1 => WE c (eval r c.env) σ1 fun b σ2 => W2 c (compareOp op) a b σ2 P) :
    WE c (eval (.Compare l [op] [r] pos) c.env) σ P := by
  intro X s rr Q E k
  exact wpAny_Compare1 (h X s rr _ _ fun b a σ' h' tk hp ha r' => hp X _ r' _ _ fun d e σ'' h'' tk'' hp' he r'' => hp' a e ha he X _ r'' _ _ fun d e σ'' h'' tk'' hp' he r'' => k d e σ'' h'' tk'' hp' he r'') hm
theorem isTrue_Compare' {l r : Expr} {op : CmpOp} {pos : Pos} {P : Bool → St → Prop} (hm : behindInMarks op r = false) (h : WE c (eval l c.env) σ fun a σ1 => WE c (eval r c.env) σ1 fun b σ2 => W2 c (compareOp op) a b σ2 fun v σ3 => WT c v σ3 P) :
    WB c (isTrue (.Compare l [op] [r] pos) c.env (eval (.Compare l [op] [r] pos) c.env)) σ P := by
  intro X s rr Q E k
  exact wpAny_isTrue_Compare1 (h X s rr _ _ fun b a σ' h' tk hp ha r' => hp X _ r' _ _ fun d e σ'' h'' tk'' hp' he r'' => hp' a e ha he X _ r'' _ _ fun d e σ'' h'' tk'' hp' he r'' =>
    hp' e he X _ r'' _ _ fun d e σ'' h'' tk'' hp' he r'' => k d e σ'' h'' tk'' hp' he r'') hm

/-- lists of expressions -/
theorem es_nil {pos : Pos} {P : List MV → St → Prop} (h : P [] σ) : WL c (spliced (backTo pos (starEach [] c.env))) σ P := by
  intro X s r Q E k; exact wpAny_items_nil (k _ _ σ s.heap s.toks h .nil r)
theorem es_cons {pos : Pos} {e : Expr} {rest : List Expr} {P : List MV → St → Prop} (he : starEach (e :: rest) c.env = (false, eval e c.env) :: starEach rest c.env)
    (h : WE c (eval e c.env) σ fun v σ1 => WL c (spliced (backTo pos (starEach rest c.env))) σ1 fun vs σ2 => P (v :: vs) σ2) : WL c (spliced (backTo pos (starEach (e :: rest) c.env))) σ P := by
  intro X s r Q E k
  exact wpAny_items_cons (h X s r _ _ fun b a σ' h' tk hp ha r' => hp X _ r' _ _ fun d e σ'' h'' tk'' hp' he r'' => k _ _ σ'' h'' tk'' hp' (.cons ha he) r'') he
theorem size_ok {vs : List MV} {us : List Value} (h : VRs vs us) (hs : vs.length ≤ sizeLine) : us.length ≤ sizeLine := h.length ▸ hs
theorem List_' {es : List Expr} {pos : Pos} {P : MV → St → Prop} (h : WL c (spliced (backTo pos (starEach es c.env))) σ fun vs σ1 => vs.length ≤ sizeLine ∧ ∀ a, P (.ref a) { σ1 with heap := (a, .list vs) :: σ1.heap }) :
    WE c (eval (.List es pos) c.env) σ P := by
  intro X s r Q E k
  refine wpAny_List (h X s r _ _ fun b a σ' h' tk hp ha r' => ⟨size_ok ha hp.1, ?_⟩)
  exact k _ _ _ _ tk (hp.2 h'.objs.size) (.val _) (r'.new (fun b o e => Heap.get?_push_of_some _ e) (Heap.get?_none_of_le (Nat.le_refl _)) (Heap.get?_push_size _ rfl) (.list 0 ha))
theorem Tuple_' {es : List Expr} {n : Nat} {pos : Pos} {P : MV → St → Prop} (h : WL c (spliced (backTo pos (starEach es c.env))) σ fun vs σ1 => vs.length ≤ sizeLine ∧ ∀ a, P (.ref a) { σ1 with heap := (a, .tuple vs) :: σ1.heap }) :
    WE c (eval (.Tuple es n pos) c.env) σ P := by
  intro X s r Q E k
  refine wpAny_Tuple (h X s r _ _ fun b a σ' h' tk hp ha r' => ⟨size_ok ha hp.1, ?_⟩)
  exact k _ _ _ _ tk (hp.2 h'.objs.size) (.val _) (r'.new (fun b o e => Heap.get?_push_of_some _ e) (Heap.get?_none_of_le (Nat.le_refl _)) (Heap.get?_push_size _ rfl) (.tuple ha))

/-- names -/
theorem local_ (i : Nat) {x : Str} {pos : Pos} {v : MV} {P : MV → St → Prop} (hx : c.names[i]? = some x) (hv : σ.vars[i]? = some (some v)) (hk : c.env.scope.kind = .function) (hl : c.env.kindOf x = some .local)
    (hd : (x == ("__debug__" : Str)) = false) (h : P v σ) : WE c (eval (.Name x pos) c.env) σ P := by
  intro X s r Q E k
  obtain ⟨m, F, V⟩ := r.fr
  obtain ⟨u, hu, hr⟩ := V i x v hx hv
  exact wpAny_Name (wpAny_loadName_local hk hl F.ns hu (k _ _ σ s.heap s.toks h hr r)) hd
theorem R.cell {X : List (Addr × Obj)} {h : Heap} (r : R c X σ h) {a : Addr} {v : Option MV} (hm : (a, MO.cell v) ∈ σ.heap) : ∃ u, VRo v u ∧ h.IsCell a u := by
  obtain ⟨o, e, q⟩ := r.obj _ hm
  cases q with | cell hv hd => exact ⟨_, hv, o, e, hd⟩
theorem cell_ {x : Str} {pos : Pos} {a : Addr} {v : MV} {P : MV → St → Prop} (hc : c.env.cells.lookup x = some a) (hv : (a, MO.cell (some v)) ∈ σ.heap) (hk : c.env.scope.kind = .function) (hl : c.env.kindOf x = some .cell)
    (hd : (x == ("__debug__" : Str)) = false) (h : P v σ) : WE c (eval (.Name x pos) c.env) σ P := by
  intro X s r Q E k
  obtain ⟨u, hr, hcell⟩ := r.cell hv
  cases hr with
  | some hr => exact wpAny_Name (wpAny_loadName_cell hk hl hc hcell (k _ _ σ s.heap s.toks h hr r)) hd
theorem free_ {x : Str} {pos : Pos} {a : Addr} {v : MV} {P : MV → St → Prop} (hc : c.env.cells.lookup x = some a) (hv : (a, MO.cell (some v)) ∈ σ.heap) (hk : c.env.scope.kind = .function) (hl : c.env.kindOf x = some .free)
    (hd : (x == ("__debug__" : Str)) = false) (hn : (x == ("__classdict__" : Str)) = false) (h : P v σ) : WE c (eval (.Name x pos) c.env) σ P := by
  intro X s r Q E k
  obtain ⟨u, hr, hcell⟩ := r.cell hv
  cases hr with
  | some hr => exact wpAny_Name (wpAny_loadName_free hk hl hc hcell (k _ _ σ s.heap s.toks h hr r) hn) hd

/-- constants -/
theorem cint {i : Int} {n : Nat} {pos : Pos} {P : MV → St → Prop} (h : P (.int i) σ) : WE c (eval (.Constant (.int i) n pos) c.env) σ P := by
  intro X s r Q E k; exact wpAny_Constant_int (k _ _ σ s.heap _ h (.int _ _) r)
theorem cstr {x : Str} {n : Nat} {pos : Pos} {P : MV → St → Prop} (h : P (.str x) σ) : WE c (eval (.Constant (.str x) n pos) c.env) σ P := by
  intro X s r Q E k; exact wpAny_Constant_str (k _ _ σ s.heap _ h (.str _ _) r)
theorem cnone {n : Nat} {pos : Pos} {P : MV → St → Prop} (h : P .none σ) : WE c (eval (.Constant .none n pos) c.env) σ P := by
  intro X s r Q E k; exact wpAny_Constant_none (k _ _ σ s.heap s.toks h .none r)
theorem cbool {b : Bool} {n : Nat} {pos : Pos} {P : MV → St → Prop} (h : P (.bool b) σ) : WE c (eval (.Constant (.bool b) n pos) c.env) σ P := by
  intro X s r Q E k; exact wpAny_Constant_bool (k _ _ σ s.heap s.toks h (.bool _) r)

/-- stores -/
def WS (c : Cx) (x : Str) (v : MV) (σ : St) (P : St → Prop) : Prop := ∀ u, VR v u → WU c (storeName c.env x u) σ fun _ => P
theorem store_local (i : Nat) {x : Str} {v : MV} {P : St → Prop} (hx : c.names[i]? = some x) (hn : c.names.Nodup) (hl : c.env.kindOf x = some .local)
    (hp : (c.env.scope.kind == .class || (c.env.scope.kind == .module && c.env.locals != c.env.globals)) = false) (h : P { σ with vars := σ.vars.set i (some v) }) : WS c x v σ P := by
  intro u hu X s r Q E k
  obtain ⟨m, F, V⟩ := r.fr
  refine wpAny_storeName_local hl F.ns (fun h' hn' hs => ?_) hp
  refine k () () _ h' _ h trivial (r.store hx hn hu (fun m₂ hm₂ => ?_) fun b o hb e => (hs.2 b hb).trans e)
  have e : m₂ = m := by
    obtain ⟨o, es, ep, e1, e2, e3, e4⟩ := hm₂
    obtain ⟨o', es', ep', e1', e2', e3', e4'⟩ := F.ns
    rw [e1] at e1'; cases e1'
    rw [e2] at e2'; cases e2'
    funext y; rw [← e4 y, e4' y]
  subst e
  exact hn'
theorem store_cell {x : Str} {a : Addr} {v : MV} {v₀ : Option MV} {pre post : List (Addr × MO)} {P : St → Prop} (hc : c.env.cells.lookup x = some a) (hv : σ.heap = pre ++ (a, .cell v₀) :: post) (hk : c.env.scope.kind = .function) (hl : c.env.kindOf x = some .cell)
    (h : P { σ with heap := pre ++ (a, .cell (some v)) :: post }) : WS c x v σ P := by
  intro u hu X s r Q E k
  obtain ⟨u₀, _, hcell⟩ := r.cell (a := a) (v := v₀) (by rw [hv]; simp)
  refine wpAny_storeName_cell hk hl hc hcell fun h' hcell' hs => ?_
  obtain ⟨o', e1, e2⟩ := hcell'
  exact k () () _ h' s.toks h trivial (r.upd hv (fun b o hb e => (hs.2 b hb).trans e) e1 (.cell (.some hu) e2))
theorem Assign_ {x : Str} {p pos : Pos} {value : Expr} {P : MF → St → Prop} (hs : swapsWith value (some (.Name x p)) pos.line c.env = Pure.pure false) (h : WE c (eval value c.env) σ fun v σ1 => WS c x v σ1 fun σ2 => P .next σ2) :
    WF c (exec (.Assign [.Name x p] value pos) c.env) σ P := by
  intro X s r Q E k
  exact wpAny_Assign_Name (h X s r _ _ fun b a σ' h' tk hp ha r' => hp a ha X _ r' _ _ fun d e σ'' h'' tk'' hp' he r'' => k _ _ σ'' h'' tk'' hp' .next r'') hs
end
end
section
open PySem PySem.Spec PySem.Calls PyProof.Rows PySem.W
section
variable {c : Cx} {σ : St} {P : MV → St → Prop}
theorem b_add {a b : Int} (h : P (.int (a + b)) σ) : W2 c (binaryOp .Add) (.int a) (.int b) σ P := by
  intro u w hu hw X s r Q E k
  cases hu; cases hw
  exact PyProof.Rows.add_int (k _ _ σ s.heap _ h (.int _ _) r)
theorem b_sub {a b : Int} (h : P (.int (a - b)) σ) : W2 c (binaryOp .Sub) (.int a) (.int b) σ P := by
  intro u w hu hw X s r Q E k
  cases hu; cases hw
  exact PyProof.Rows.sub_int (k _ _ σ s.heap _ h (.int _ _) r)
theorem b_mod {a b : Int} (hb : b ≠ 0) (h : P (.int (a.fmod b)) σ) : W2 c (binaryOp .Mod) (.int a) (.int b) σ P := by
  intro u w hu hw X s r Q E k
  cases hu; cases hw
  exact PyProof.Rows.mod_int' hb (k _ _ σ s.heap _ h (.int _ _) r)
theorem b_fdiv {a b : Int} (hb : b ≠ 0) (hp : Builtin.divisionGoesByPylong a b = false) (h : P (.int (a.fdiv b)) σ) : W2 c (binaryOp .FloorDiv) (.int a) (.int b) σ P := by
  intro u w hu hw X s r Q E k
  cases hu; cases hw
  exact PyProof.Rows.floordiv_int hb (k _ _ σ s.heap _ h (.int _ _) r) (.inl hp)
theorem b_cat {a b : Str} (hs : a.length + b.length ≤ sizeLine) (h : P (.str (a ++ b)) σ) : W2 c (binaryOp .Add) (.str a) (.str b) σ P := by
  intro u w hu hw X s r Q E k
  cases hu; cases hw
  exact PyProof.Rows.add_str (fun t' tk => k _ _ σ s.heap tk h (.str _ _) r) hs
theorem c_eq {a b : Int} (h : P (.bool (a == b)) σ) : W2 c (compareOp .Eq) (.int a) (.int b) σ P := by
  intro u w hu hw X s r Q E k
  cases hu; cases hw
  exact PyProof.Rows.eq_int (k _ _ σ s.heap _ h (.bool _) r)
theorem c_ne {a b : Int} (h : P (.bool (a != b)) σ) : W2 c (compareOp .NotEq) (.int a) (.int b) σ P := by
  intro u w hu hw X s r Q E k
  cases hu; cases hw
  exact PyProof.Rows.ne_int (k _ _ σ s.heap _ h (.bool _) r)
theorem c_lt {a b : Int} (h : P (.bool (decide (a < b))) σ) : W2 c (compareOp .Lt) (.int a) (.int b) σ P := by
  intro u w hu hw X s r Q E k
  cases hu; cases hw
  exact PyProof.Rows.lt_int (k _ _ σ s.heap _ h (.bool _) r)
theorem c_gt {a b : Int} (h : P (.bool (decide (b < a))) σ) : W2 c (compareOp .Gt) (.int a) (.int b) σ P := by
  intro u w hu hw X s r Q E k
  cases hu; cases hw
  exact PyProof.Rows.gt_int (k _ _ σ s.heap _ h (.bool _) r)
theorem c_le {a b : Int} (h : P (.bool (decide (a ≤ b))) σ) : W2 c (compareOp .LtE) (.int a) (.int b) σ P := by
  intro u w hu hw X s r Q E k
  cases hu; cases hw
  exact PyProof.Rows.le_int (k _ _ σ s.heap _ h (.bool _) r)
theorem c_eqs {a b : Str} (h : P (.bool (a == b)) σ) : W2 c (compareOp .Eq) (.str a) (.str b) σ P := by
  intro u w hu hw X s r Q E k
  cases hu; cases hw
  exact PyProof.Rows.eq_str (k _ _ σ s.heap _ h (.bool _) r)
theorem c_nes {a b : Str} (h : P (.bool (a != b)) σ) : W2 c (compareOp .NotEq) (.str a) (.str b) σ P := by
  intro u w hu hw X s r Q E k
  cases hu; cases hw
  exact PyProof.Rows.ne_str (k _ _ σ s.heap _ h (.bool _) r)
theorem c_eq_none_str {b : Str} (h : P (.bool false) σ) : W2 c (compareOp .Eq) .none (.str b) σ P := by
  intro u w hu hw X s r Q E k
  cases hu; cases hw
  exact EqNone.eq_none_str (k _ _ σ s.heap _ h (.bool _) r)
theorem c_ne_none_str {b : Str} (h : P (.bool true) σ) : W2 c (compareOp .NotEq) .none (.str b) σ P := by
  intro u w hu hw X s r Q E k
  cases hu; cases hw
  exact EqNone.ne_none_str (k _ _ σ s.heap _ h (.bool _) r)
theorem c_is_none_none (h : P (.bool true) σ) : W2 c (compareOp .Is) .none .none σ P := by
  intro u w hu hw X s r Q E k
  cases hu; cases hw
  exact is_none (k _ _ σ s.heap _ h (.bool _) r)
theorem c_is_none_str {a : Str} (h : P (.bool false) σ) : W2 c (compareOp .Is) (.str a) .none σ P := by
  intro u w hu hw X s r Q E k
  cases hu; cases hw
  exact is_none (k _ _ σ s.heap _ h (.bool _) r)
end
end
section
open PySem PySem.Spec PySem.Calls PyProof.Rows PySem.W
theorem VRs.get? {vs us} (h : VRs vs us) (i : Nat) {v : MV} (e : vs[i]? = some v) : ∃ u, us.toArray[i]? = some u ∧ VR v u := by
  obtain ⟨u, a, b⟩ := h.get e
  exact ⟨u, by simpa using a, b⟩
theorem VRs.drop {vs us} (h : VRs vs us) : ∀ n, VRs (vs.drop n) (us.drop n) := by
  induction h with
  | nil => intro n; cases n <;> exact .nil
  | cons a r ih =>
    intro n
    cases n with
    | zero => exact .cons a r
    | succ n => exact ih n
theorem VRs.take {vs us} (h : VRs vs us) : ∀ n, VRs (vs.take n) (us.take n) := by
  induction h with
  | nil => intro n; cases n <;> exact .nil
  | cons a r ih =>
    intro n
    cases n with
    | zero => exact .nil
    | succ n => exact .cons a (ih n)
theorem VRs.reverse {vs us} (h : VRs vs us) : VRs vs.reverse us.reverse := by
  induction h with
  | nil => exact .nil
  | cons a r ih => simp only [List.reverse_cons]; exact ih.append (.cons a .nil)
theorem VRs.eraseIdx {vs us} (h : VRs vs us) : ∀ n, VRs (vs.eraseIdx n) (us.eraseIdx n) := by
  induction h with
  | nil => intro n; exact .nil
  | cons a r ih =>
    intro n
    cases n with
    | zero => exact r
    | succ n => exact .cons a (ih n)
theorem VRs.set {vs us} (h : VRs vs us) {v u} (hv : VR v u) : ∀ n, VRs (vs.set n v) (us.set n u) := by
  induction h with
  | nil => intro n; exact .nil
  | cons a r ih =>
    intro n
    cases n with
    | zero => exact .cons hv r
    | succ n => exact .cons a (ih n)

section
variable {c : Cx} {σ : St}
theorem R.list {X : List (Addr × Obj)} {h : Heap} (r : R c X σ h) {a : Addr} {vs : List MV} (hm : (a, MO.list vs) ∈ σ.heap) : ∃ us, VRs vs us ∧ h.IsList a us.toArray := by
  obtain ⟨o, e, q⟩ := r.obj _ hm
  cases q with | list n hv => exact ⟨_, hv, _, e, rfl, n, rfl⟩
theorem R.listX {X : List (Addr × Obj)} {h : Heap} (r : R c X σ h) {a : Addr} {vs : List MV} (hm : (a, MO.list vs) ∈ σ.heap) : ∃ us n, VRs vs us ∧ h.get? a = some { cls := .type "list", data := .seq us.toArray n } := by
  obtain ⟨o, e, q⟩ := r.obj _ hm
  cases q with | list n hv => exact ⟨_, n, hv, e⟩
theorem R.tup {X : List (Addr × Obj)} {h : Heap} (r : R c X σ h) {a : Addr} {vs : List MV} (hm : (a, MO.tuple vs) ∈ σ.heap) : ∃ us, VRs vs us ∧ IsTup h a us.toArray := by
  obtain ⟨o, e, q⟩ := r.obj _ hm
  cases q with | tuple hv => exact ⟨_, hv, _, e, rfl, 0, rfl⟩
theorem R.tupX {X : List (Addr × Obj)} {h : Heap} (r : R c X σ h) {a : Addr} {vs : List MV} (hm : (a, MO.tuple vs) ∈ σ.heap) : ∃ us, VRs vs us ∧ h.get? a = some { cls := .type "tuple", data := .seq us.toArray } := by
  obtain ⟨o, e, q⟩ := r.obj _ hm
  cases q with | tuple hv => exact ⟨_, hv, e⟩
end
section
variable {M : Model} {A : Around} {E : Value → Shared → Prop} {s : Shared}
theorem subTail_ {value slice : Expr} {o i : Value} {T id : String} {Q : Value → Shared → Prop} {prog : Program} {w : World} (hT : s.TypeIs o T)
    (hl : typeLookup (.type T) "__getitem__" = pure (some (.builtin id))) (h : wpAny (model prog w) A (getItem o i) Q E s)
    (hs : ∃ ops, subscripted slice false o i = operate ops (getItem o i)) : wpAny (model prog w) A (subscriptTail value slice o i) Q E s := by
  unfold subscriptTail
  obtain ⟨ops, hs⟩ := hs
  refine wpAny_bind ?_
  rw [getitemInPython_of_ne hT.not_modules]
  refine wpAny_bind (wpAny_specialOf hT hl ?_)
  have fin : wpAny (model prog w) A (subscripted slice false o i) (fun r s₃ => wpAny (model prog w) A (letTemporaryGo value o r >>= fun _ => pure r) Q E s₃) E s := by
    rw [hs]
    exact wpAny_operating (wpAny_mono h (fun r s₃ h₃ => wpAny_bind (wpAny_letTemporaryGo (wpAny_pure h₃))) fun _ _ x => x)
  first
    | exact wpAny_pure (wpAny_bind fin)
    | exact wpAny_bind (wpAny_pure (wpAny_bind fin))
    | exact wpAny_bind fin
end
/-- the item's road -/
def WSub (c : Cx) (value slice : Expr) (o i : MV) (σ : St) (P : MV → St → Prop) : Prop := W2 c (subscriptTail value slice) o i σ P
section
variable {c : Cx} {σ : St} {P : MV → St → Prop}
theorem Sub_ {value slice : Expr} {pos : Pos} (h : WE c (eval value c.env) σ fun o σ1 => WE c (eval slice c.env) σ1 fun i σ2 => W2 c (subscriptTail value slice) o i σ2 P) : WE c (eval (.Subscript value slice pos) c.env) σ P := by
  intro X s rr Q E k
  exact Subscript_ (h X s rr _ _ fun b a σ' h' tk hp ha r' => hp X _ r' _ _ fun d e σ'' h'' tk'' hp' he r'' => hp' a e ha he X _ r'' _ _ fun d e σ'' h'' tk'' hp' he r'' => k d e σ'' h'' tk'' hp' he r'')
/-- no slice: the operands' order -/
def NoSlice (slice : Expr) : Prop := ∀ o i, subscripted slice false o i = operate [o, i] (getItem o i)
theorem i_list {value slice : Expr} {a : Addr} {vs : List MV} {i : Int} {v : MV} (hm : (a, MO.list vs) ∈ σ.heap) (h0 : 0 ≤ i) (hf : i < 2 ^ 63) (hv : vs[i.toNat]? = some v) (hs : NoSlice slice) (h : P v σ) :
    W2 c (subscriptTail value slice) (.ref a) (.int i) σ P := by
  intro u w hu hw X s r Q E k
  cases hu; cases hw
  obtain ⟨us, hr, hl⟩ := r.list hm
  obtain ⟨u, e, q⟩ := hr.get? _ hv
  exact subTail_ hl.typeIs slot_list_getitem.lookup (wpAny_getItem_list hl h0 hf e (k _ _ σ s.heap s.toks h q r)) ⟨_, hs _ _⟩
theorem i_list_last {value slice : Expr} {a : Addr} {vs : List MV} {v : MV} (hm : (a, MO.list (vs ++ [v])) ∈ σ.heap) (hsz : vs.length < 2 ^ 62) (hs : NoSlice slice) (h : P v σ) :
    W2 c (subscriptTail value slice) (.ref a) (.int (-1)) σ P := by
  intro u w hu hw X s r Q E k
  cases hu; cases hw
  obtain ⟨us, hr, hl⟩ := r.list hm
  obtain ⟨u, e, q⟩ := hr.get? vs.length (v := v) (by simp)
  have hlen : us.toArray.size = vs.length + 1 := by rw [List.size_toArray, ← hr.length, List.length_append]; rfl
  refine subTail_ hl.typeIs slot_list_getitem.lookup (wpAny_getItem_list_neg hl (by decide) (by rw [hlen]; omega) (by decide) (x := u) ?_ (k _ _ σ s.heap s.toks h q r)) ⟨_, hs _ _⟩
  rw [hlen]
  have : (-1 + ((vs.length + 1 : Nat) : Int)).toNat = vs.length := by omega
  rw [this]; exact e
theorem i_tuple {value slice : Expr} {a : Addr} {vs : List MV} {i : Int} {v : MV} (hm : (a, MO.tuple vs) ∈ σ.heap) (h0 : 0 ≤ i) (hf : i < 2 ^ 63) (hv : vs[i.toNat]? = some v) (hs : NoSlice slice) (h : P v σ) :
    W2 c (subscriptTail value slice) (.ref a) (.int i) σ P := by
  intro u w hu hw X s r Q E k
  cases hu; cases hw
  obtain ⟨us, hr, hl⟩ := r.tup hm
  obtain ⟨u, e, q⟩ := hr.get? _ hv
  have hlt : i.toNat < us.toArray.size := by
    rw [Array.getElem?_eq_some_iff] at e
    exact e.1
  refine subTail_ hl.typeIs slot_tuple_getitem.lookup (getItem_tuple hl (by omega) hf (j := i.toNat) ?_ e (k _ _ σ s.heap s.toks h q r)) ⟨_, hs _ _⟩
  unfold seqIndex?
  have h1 : ¬ i < 0 := by omega
  simp only [h1, if_false]
  first
    | (rw [if_pos (by omega)]; done)
    | (simp; omega)
    | (split <;> simp_all <;> omega)
theorem i_str {value slice : Expr} {x : Str} {i : Int} {ch : Nat} (h0 : 0 ≤ i) (hf : i < 2 ^ 62) (hv : x.cps[i.toNat]? = some ch) (hs : NoSlice slice) (h : P (.str ⟨#[ch]⟩) σ) :
    W2 c (subscriptTail value slice) (.str x) (.int i) σ P := by
  intro u w hu hw X s r Q E k
  cases hu; cases hw
  have hlt : i.toNat < x.cps.size := by
    rw [Array.getElem?_eq_some_iff] at hv
    exact hv.1
  refine subTail_ (typeIs_str s x _) slot_str_getitem.lookup (PyProof.Rows.getItem_str (c := ch) ?_ ?_ (k _ _ σ s.heap _ h (.str _ _) r)) ⟨_, hs _ _⟩
  · rw [decide_eq_false (by omega), decide_eq_false (by omega)]; rfl
  · have : seqIndex? i x.length = some i.toNat := by
      unfold seqIndex?
      have h1 : ¬ i < 0 := by omega
      have h2 : x.length = x.cps.size := rfl
      simp only [h1, if_false, h2]
      first
        | (rw [if_pos (by omega)]; done)
        | (simp; omega)
        | (split <;> simp_all <;> omega)
    rw [this]; exact hv

/-- a part of a slice -/
def WPart (c : Cx) (e : Option Expr) (σ : St) (P : Option Int → St → Prop) : Prop := match e with
  | .none => P .none σ
  | .some e => WE c (eval e c.env) σ fun v σ' => ∃ i, v = .int i ∧ P (some i) σ'
theorem part_of {e : Option Expr} {Pp : Option Int → St → Prop} (h : WPart c e σ Pp) {X : List (Addr × Obj)} {s : Shared} (r : R c X σ s.heap) {Q : Value → Shared → Prop} {E : Value → Shared → Prop}
    (k : ∀ o u σ' h' tk, Pp o σ' → IsPart u o → R c X σ' h' → Q u { s with heap := h', toks := tk }) : wpAny (model c.prog c.w) c.A (evalPart e c.env) Q E s := by
  cases e with
  | none => rw [evalPart_none]; exact wpAny_pure (k _ _ σ s.heap s.toks h .none r)
  | some e =>
    rw [evalPart_some]
    refine h X s r Q E fun v u σ' h' tk hp hv r' => ?_
    obtain ⟨i, rfl, hp⟩ := hp
    cases hv
    exact k _ _ σ' h' tk hp (.int _ _) r'
def pick {α : Type} (l : List α) (lo hi : Option Int) : List α := (l.drop (kms_lo lo l.length)).take (kms_hi hi l.length - kms_lo lo l.length)
theorem VRs.pick {vs us} (h : VRs vs us) (lo hi : Option Int) : VRs (Mine.pick vs lo hi) (kms_pick us lo hi) := by
  unfold kms_pick Mine.pick
  rw [h.length]
  exact (h.drop _).take _
theorem Sub_slice {value : Expr} {lower upper : Option Expr} {p pos : Pos} (ht : ∀ o r, letTemporaryGo value o r = Pure.pure ())
    (h : WE c (eval value c.env) σ fun o σ1 => WPart c lower σ1 fun lo σ2 => WPart c upper σ2 fun hi σ3 => ∃ a vs, o = .ref a ∧ (a, MO.list vs) ∈ σ3.heap ∧ vs.length ≤ sizeLine ∧ ∀ b, P (.ref b) { σ3 with heap := (b, .list (pick vs lo hi)) :: σ3.heap }) :
    WE c (eval (.Subscript value (.Slice lower upper none p) pos) c.env) σ P := by
  intro X s r Q E k
  refine wpAny_Subscript_list_slice (h X s r _ _ fun b a σ' h' tk hp ha r' => part_of hp r' fun lo u1 σ1 h1 tk1 hp1 hu1 r1 => part_of hp1 r1 fun hi u2 σ2 h2 tk2 hp2 hu2 r2 => ?_) ht
  obtain ⟨l, vs, rfl, hm, hsz, hQ⟩ := hp2
  cases ha
  obtain ⟨us, hr, hl⟩ := r2.list hm
  refine ⟨l, us.toArray, lo, hi, rfl, hl, (by rw [List.size_toArray, ← hr.length]; exact hsz), hu1, hu2, ?_⟩
  refine k _ _ _ _ tk2 (hQ (h2.objs.size + 1)) (.val _) (r2.new (fun b o e => Heap.get?_push_of_some _ (Heap.get?_push_of_some _ e)) (Heap.get?_none_of_le (Nat.le_succ _)) (a := h2.objs.size + 1) ?_ (.list 0 (hr.pick lo hi)))
  rw [kms_pick_eq]
  have := Heap.get?_push_size (h2.push { cls := .type "slice", data := .fields #[u1, u2, .none] }) (o := { cls := .type "list", data := .seq (kms_pick us lo hi).toArray }) rfl
  rw [Heap.size_push] at this
  exact this
theorem Sub_rev {value : Expr} {p q1 q2 pos : Pos} {n : Nat} (ht : ∀ o r, letTemporaryGo value o r = Pure.pure ())
    (h : WE c (eval value c.env) σ fun o σ1 => ∃ a vs, o = .ref a ∧ (a, MO.list vs) ∈ σ1.heap ∧ vs.length ≤ sizeLine ∧ ∀ b, P (.ref b) { σ1 with heap := (b, .list vs.reverse) :: σ1.heap }) :
    WE c (eval (.Subscript value (.Slice none none (some (.UnaryOp .USub (.Constant (.int 1) n q1) q2)) p) pos) c.env) σ P := by
  intro X s r Q E k
  refine wpAny_Subscript_Slice_step (T := "list") slot_list_getitem.lookup (h X s r _ _ fun b a σ' h' tk hp ha r' => ?_) ht
  obtain ⟨l, vs, rfl, hm, hsz, hQ⟩ := hp
  cases ha
  obtain ⟨us, hr, hl⟩ := r'.list hm
  refine wpAny_Slice ?_
  rw [evalPart_none]
  refine wpAny_pure (wpAny_pure ?_)
  rw [evalPart_some]
  refine wpAny_UnaryOp (wpAny_Constant_int (PySem.P.neg_int ⟨(hl.push _).typeIs, wpAny_getItem_list_slice (hl.push _) (Heap.IsSliceOf.new ..) .none .none (.int _ _) (by decide) ?_ (by rw [List.size_toArray, ← hr.length]; exact hsz)⟩))
  refine k _ _ _ _ _ (hQ (h'.objs.size + 1)) ?_ (r'.new (fun b o e => Heap.get?_push_of_some _ (Heap.get?_push_of_some _ e)) (Heap.get?_none_of_le (Nat.le_succ _)) (a := h'.objs.size + 1) ?_ (.list 0 hr.reverse))
  · rw [Heap.size_push]; exact .val _
  · rw [krv_pick]
    have := Heap.get?_push_size (h'.push { cls := .type "slice", data := .fields #[.none, .none, .int (-1) (tk + 1)] }) (o := { cls := .type "list", data := .seq us.reverse.toArray }) rfl
    rw [Heap.size_push] at this
    simpa using this
end
end
section
open PySem PySem.Spec PySem.Calls PyProof.Rows PySem.W
/-- a state is shown by less -/
inductive VLe : List (Option MV) → List (Option MV) → Prop
  | nil {V} : VLe [] V
  | skip {a V W} : VLe V W → VLe (none :: V) (a :: W)
  | keep {a V W} : VLe V W → VLe (some a :: V) (some a :: W)
theorem VLe.refl : ∀ V, VLe V V
  | [] => .nil
  | none :: V => .skip (VLe.refl V)
  | some _ :: V => .keep (VLe.refl V)
theorem VLe.get {V W} (h : VLe V W) : ∀ (i : Nat) (v : MV), V[i]? = some (some v) → W[i]? = some (some v) := by
  induction h with
  | nil => intro i v e; simp at e
  | skip _ ih =>
    intro i v e
    cases i with
    | zero => simp at e
    | succ i => simpa using ih i v (by simpa using e)
  | keep _ ih =>
    intro i v e
    cases i with
    | zero => simpa using e
    | succ i => simpa using ih i v (by simpa using e)
structure Le (σ' σ : St) : Prop where
  heap : σ'.heap.Sublist σ.heap
  vars : VLe σ'.vars σ.vars
theorem Le.refl (σ : St) : Le σ σ := ⟨List.Sublist.refl _, VLe.refl _⟩
theorem R.le {c X σ σ' h} (r : R c X σ h) (l : Le σ' σ) : R c X σ' h := by
  obtain ⟨V, H⟩ := σ'
  exact r.weak l.heap l.vars.get

/-- an iterator I that hands out items, while Cond stands -/
structure Nx (c : Cx) (I : Addr) (items : List MV) (Cond : St → Prop) (Io : Nat → Obj → Prop) : Prop where
  item : ∀ {i : Nat} {v : MV} {X : List (Addr × Obj)} {σ : St} {o : Obj} {s : Shared} {Q : Option Value → Shared → Prop} {E : Value → Shared → Prop}, items[i]? = some v → Io i o → Cond σ → R c ((I, o) :: X) σ s.heap →
    (∀ u o' h' tk, VR v u → Io (i + 1) o' → R c ((I, o') :: X) σ h' → Q (some u) { s with heap := h', toks := tk }) → wpAny (model c.prog c.w) c.A (pyNext (.ref I)) Q E s
  done : ∀ {X : List (Addr × Obj)} {σ : St} {o : Obj} {s : Shared} {Q : Option Value → Shared → Prop} {E : Value → Shared → Prop}, Io items.length o → Cond σ → R c ((I, o) :: X) σ s.heap →
    (∀ h' tk, R c X σ h' → Q none { s with heap := h', toks := tk }) → wpAny (model c.prog c.w) c.A (pyNext (.ref I)) Q E s
  self : ∀ {i : Nat} {X : List (Addr × Obj)} {σ : St} {o : Obj} {s : Shared} {Q : Value → Shared → Prop} {E : Value → Shared → Prop}, Io i o → Cond σ → R c ((I, o) :: X) σ s.heap → Q (.ref I) s → wpAny (model c.prog c.w) c.A (pyIter (.ref I)) Q E s
structure Itb (c : Cx) (v : MV) (σ : St) (items : List MV) (Cond : St → Prop) : Prop where
  cond : Cond σ
  go : ∀ {u : Value} {X : List (Addr × Obj)} {s : Shared} {Q : Value → Shared → Prop} {E : Value → Shared → Prop}, VR v u → R c X σ s.heap →
    (∀ I o h' tk Io, (∀ c' : Cx, c'.prog = c.prog → c'.w = c.w → c'.A = c.A → Nx c' I items Cond Io) → Io 0 o → R c ((I, o) :: X) σ h' → (∀ b ob, s.heap.get? b = some ob → h'.get? b = some ob) → s.heap.get? I = none → Q (.ref I) { s with heap := h', toks := tk }) → wpAny (model c.prog c.w) c.A (pyIter u) Q E s

theorem R.x {c X σ h} (r : R c X σ h) {a : Addr} {o : Obj} (hm : (a, o) ∈ X) : h.get? a = some o := r.ext _ hm
theorem R.dropX {c X σ h} {p : Addr × Obj} (r : R c (p :: X) σ h) : R c X σ h := by
  have hk : (keys σ.heap ++ keys X).Sublist (keys σ.heap ++ keys (p :: X)) := (List.Sublist.refl _).append (.cons _ (List.Sublist.refl _))
  exact ⟨r.fr, r.obj, fun q hq => r.ext q (List.mem_cons_of_mem _ hq), r.nd.sublist hk, fun a ha => r.off a (hk.subset ha)⟩
/-- the foremost of those beside is not kept any more, and all else stands -/
theorem R.endX {c X σ h h'} {a : Addr} {o : Obj} (r : R c ((a, o) :: X) σ h) (hs : ∀ b ob, b ≠ a → h.get? b = some ob → h'.get? b = some ob) : R c X σ h' := by
  refine r.dropX.but [a] (fun b hb => ?_) (fun b ob hb e => hs b ob (fun q => hb (q ▸ List.mem_singleton_self _)) e)
  cases List.mem_singleton.mp hb
  have hoff := r.off a (by simp [keys])
  refine ⟨fun q => ?_, hoff⟩
  have nd := r.nd
  have : (keys σ.heap ++ a :: keys X).Nodup := nd
  rw [List.perm_middle.nodup_iff] at this
  exact (List.nodup_cons.mp this).1 q

section
variable {c : Cx} {σ : St}
theorem nx_list {l I : Addr} {vs : List MV} (hh : c.A.handled = none) : Nx c I vs (fun σ' => (l, MO.list vs) ∈ σ'.heap) (fun i o => o.cls = .type "list_iterator" ∧ o.data = .fields #[.ref l, .int i 0]) := by
  refine ⟨?_, ?_, ?_⟩
  · intro i v X σ o s Q E hv ho hm r k
    obtain ⟨us, hr, hl⟩ := r.list hm
    obtain ⟨u, e, q⟩ := hr.get? _ hv
    refine wpAny_pyNext_list_item ⟨o, r.x (List.mem_cons_self ..), ho⟩ hl e fun h' hit' hs' => ?_
    obtain ⟨o', e', ho'⟩ := hit'
    exact k u o' h' s.toks q ho' (R.updX (pre := []) r (fun b ob hb eb => hs'.extBut b ob hb eb) e')
  · intro X σ o s Q E ho hm r k
    obtain ⟨us, hr, hl⟩ := r.list hm
    refine wpAny_pyNext_list_end hh ⟨o, r.x (List.mem_cons_self ..), ho⟩ hl (by simp [hr.length]) fun h' he => ?_
    exact k h' s.toks (r.endX he)
  · intro i X σ o s Q E ho _ r k
    exact wpAny_pyIter_listiter (l := l) ⟨o, r.x (List.mem_cons_self ..), ho⟩ k
theorem itb_list {l : Addr} {vs : List MV} (hh : c.A.handled = none) (hm : (l, MO.list vs) ∈ σ.heap) : Itb c (.ref l) σ vs (fun σ' => (l, MO.list vs) ∈ σ'.heap) where
  cond := hm
  go := by
    intro u X s Q E hu r k
    cases hu
    obtain ⟨us, hr, hl⟩ := r.list hm
    exact wpAny_pyIter_list hl (k _ _ _ _ _ (fun c' _ _ e3 => nx_list (e3 ▸ hh)) ⟨rfl, rfl⟩ (r.newX (fun b o e => Heap.get?_push_of_some _ e) (Heap.get?_none_of_le (Nat.le_refl _)) (Heap.get?_push_size _ rfl)) (fun b o e => Heap.get?_push_of_some _ e) (Heap.get?_none_of_le (Nat.le_refl _)))
theorem nx_tuple {l I : Addr} {vs : List MV} (hh : c.A.handled = none) : Nx c I vs (fun σ' => (l, MO.tuple vs) ∈ σ'.heap) (fun i o => o.cls = .type "tuple_iterator" ∧ o.data = .fields #[.ref l, .int i 0]) := by
  refine ⟨?_, ?_, ?_⟩
  · intro i v X σ o s Q E hv ho hm r k
    obtain ⟨us, hr, hl⟩ := r.tup hm
    obtain ⟨u, e, q⟩ := hr.get? _ hv
    refine wpAny_pyNext_tuple_item ⟨o, r.x (List.mem_cons_self ..), ho⟩ hl e fun h' hit' hs' => ?_
    obtain ⟨o', e', ho'⟩ := hit'
    exact k u o' h' s.toks q ho' (R.updX (pre := []) r (fun b ob hb eb => hs'.extBut b ob hb eb) e')
  · intro X σ o s Q E ho hm r k
    obtain ⟨us, hr, hl⟩ := r.tup hm
    refine wpAny_pyNext_tuple_end hh ⟨o, r.x (List.mem_cons_self ..), ho⟩ hl (by simp [hr.length]) fun h' he => ?_
    exact k h' s.toks (r.endX he)
  · intro i X σ o s Q E ho _ r k
    exact wpAny_pyIter_tupleiter (t := l) ⟨o, r.x (List.mem_cons_self ..), ho⟩ k
theorem itb_tuple {l : Addr} {vs : List MV} (hh : c.A.handled = none) (hm : (l, MO.tuple vs) ∈ σ.heap) : Itb c (.ref l) σ vs (fun σ' => (l, MO.tuple vs) ∈ σ'.heap) where
  cond := hm
  go := by
    intro u X s Q E hu r k
    cases hu
    obtain ⟨us, hr, hl⟩ := r.tup hm
    exact wpAny_pyIter_tuple hl (k _ _ _ _ _ (fun c' _ _ e3 => nx_tuple (e3 ▸ hh)) ⟨rfl, rfl⟩ (r.newX (fun b o e => Heap.get?_push_of_some _ e) (Heap.get?_none_of_le (Nat.le_refl _)) (Heap.get?_push_size _ rfl)) (fun b o e => Heap.get?_push_of_some _ e) (Heap.get?_none_of_le (Nat.le_refl _)))
/-- the ints of a range -/
def rints (a st : Int) (n : Nat) : List MV := (List.range n).map fun (i : Nat) => .int (a + i * st)
theorem nx_range {I : Addr} {lo st : Int} {n : Nat} (hh : c.A.handled = none) : Nx c I (rints lo st n) (fun _ => True) (fun i o => o = { cls := .type "range_iterator", data := .fields #[rawInt (lo + (i : Nat) * st), rawInt ((n : Int) - (i : Nat)), rawInt st] }) := by
  refine ⟨?_, ?_, ?_⟩
  · intro i v X σ o s Q E hv ho _ r k
    subst ho
    have hlt : i < n := by
      have := (List.getElem?_eq_some_iff.mp hv).1
      simpa [rints] using this
    have hv' : v = .int (lo + i * st) := by
      simp only [rints, List.getElem?_map, List.getElem?_range hlt, Option.map_some, Option.some.injEq] at hv
      exact hv.symm
    subst hv'
    refine wpAny_pyNext_range_item (r.x (List.mem_cons_self ..)) (by omega) fun h' hit' hs' => ?_
    have e1 : lo + ((i + 1 : Nat) : Int) * st = lo + (i : Int) * st + st := by push_cast; rw [Int.add_mul, Int.one_mul, Int.add_assoc]
    have e2 : (n : Int) - ((i + 1 : Nat) : Int) = (n : Int) - (i : Int) - 1 := by push_cast; omega
    exact k _ _ h' _ (.int _ _) (by rw [e1, e2]) (R.updX (pre := []) r (fun b ob hb eb => hs'.extBut b ob hb eb) hit')
  · intro X σ o s Q E ho _ r k
    subst ho
    refine wpAny_pyNext_range_end hh (r.x (List.mem_cons_self ..)) (by simp [rints]) fun h' he => ?_
    exact k h' s.toks (r.endX he)
  · intro i X σ o s Q E ho _ r k
    subst ho
    exact wpAny_pyIter_rangeiter (r.x (List.mem_cons_self ..)) k
theorem itb_range {a : Addr} {lo hi st : Int} {n : Nat} (hh : c.A.handled = none) (hm : (a, MO.range lo hi st) ∈ σ.heap) (hsm : Builtin.Range.small lo hi st = true) (hn : Builtin.Range.rangeSize lo hi st = n) : Itb c (.ref a) σ (rints lo st n) (fun _ => True) where
  cond := trivial
  go := by
    intro u X s Q E hu r k
    cases hu
    obtain ⟨o, e, q⟩ := r.obj _ hm
    cases q with
    | is q =>
    obtain ⟨t, u, v, rfl⟩ := q
    refine wpAny_pyIter_range (r := a) e hsm (k _ _ _ _ _ (fun c' _ _ e3 => nx_range (e3 ▸ hh)) ?_ (r.newX (fun b o e => Heap.get?_push_of_some _ e) (Heap.get?_none_of_le (Nat.le_refl _)) (Heap.get?_push_size _ rfl)) (fun b o e => Heap.get?_push_of_some _ e) (Heap.get?_none_of_le (Nat.le_refl _)))
    rw [hn]; simp
end
end
section
open PySem PySem.Spec PySem.Calls PyProof.Rows PySem.W
section
variable {c : Cx} {σ : St}
/-- a target takes a value -/
def WA (c : Cx) (target : Expr) (v : MV) (σ : St) (P : St → Prop) : Prop := ∀ u, VR v u → WU c (assign target c.env u) σ fun _ => P
theorem assign_name {x : Str} {pos : Pos} {v : MV} {P : St → Prop} (h : WS c x v σ P) : WA c (.Name x pos) v σ P := by
  intro u hu X s r Q E k
  exact wpAny_assign_Name (h u hu X s r Q E k)

/-- what a turn of a loop's body leaves -/
def Turn (J : St → Prop) (P : MF → St → Prop) (f : MF) (σ : St) : Prop := match f with
  | .next => ∃ σ', Le σ' σ ∧ J σ'
  | .cont => ∃ σ', Le σ' σ ∧ J σ'
  | .brk => P .next σ
  | .ret v => P (.ret v) σ
theorem For_ {target iter : Expr} {body orelse : List Stmt} {pos : Pos} {P : MF → St → Prop} (ht : ∀ it v, letOwnedTupleGo target it v = Pure.pure ()) (hs : ∀ x, foldedSetIterable iter c.env x = Pure.pure x)
    (h : WE c (eval iter c.env) σ fun v σ1 => ∃ items Cond, Itb c v σ1 items Cond ∧ ∃ J : Nat → St → Prop, J 0 σ1 ∧ (∀ i σ', J i σ' → Cond σ') ∧
      (∀ i x σ', items[i]? = some x → J i σ' → WA c target x σ' fun σ2 => WF c (execs body c.env) σ2 (Turn (J (i + 1)) P)) ∧
      ∀ σ', J items.length σ' → WF c (execs orelse c.env) σ' P) :
    WF c (exec (.For target iter body orelse pos) c.env) σ P := by
  intro X s r Q E k
  refine wpAny_For (h X s r _ _ fun b a σ' h' tk hp ha r' => ?_) hs
  obtain ⟨items, Cond, I, J, h0, hC, hstep, hend⟩ := hp
  refine I.go ha r' fun It o h1 tk1 Io N' ho r1 _ _ => ?_
  have N := N' c rfl rfl rfl
  refine codeAny_forLoop (fun n s' => ∃ i σ1 o1 h2 tk2, n = items.length + 1 - i ∧ i ≤ items.length ∧ J i σ1 ∧ Io i o1 ∧ R c ((It, o1) :: X) σ1 h2 ∧ s' = { s with heap := h2, toks := tk2 })
    ?_ (items.length + 1) ⟨0, σ', o, h1, tk1, rfl, Nat.zero_le _, h0, ho, r1, rfl⟩ (fun v => ht _ v)
  rintro n s' ⟨i, σ1, o1, h2, tk2, rfl, hi, hJ, ho1, r2, rfl⟩
  by_cases hlt : i < items.length
  · obtain ⟨x, hx⟩ : ∃ x, items[i]? = some x := ⟨_, List.getElem?_eq_getElem hlt⟩
    refine N.item hx ho1 (hC _ _ hJ) r2 fun u o2 h3 tk3 hu ho2 r3 => ?_
    refine hstep i x σ1 hx hJ u hu _ _ r3 _ _ fun _ _ σ2 h4 tk4 hW _ r4 => ?_
    refine hW _ _ r4 _ _ fun f a σ3 h5 tk5 hT hf r5 => ?_
    cases hf with
    | next =>
      obtain ⟨σ4, hle, hJ'⟩ := hT
      exact ⟨items.length + 1 - (i + 1), by omega, i + 1, σ4, o2, h5, tk5, rfl, hlt, hJ', ho2, r5.le hle, rfl⟩
    | cont =>
      obtain ⟨σ4, hle, hJ'⟩ := hT
      exact ⟨items.length + 1 - (i + 1), by omega, i + 1, σ4, o2, h5, tk5, rfl, hlt, hJ', ho2, r5.le hle, rfl⟩
    | brk => exact k _ _ _ h5 tk5 hT .next r5.dropX
    | ret hv => exact k _ _ _ h5 tk5 hT (.ret hv) r5.dropX
  · have hin : i = items.length := by omega
    subst hin
    refine N.done ho1 (hC _ _ hJ) r2 fun h3 tk3 r3 => ?_
    exact hend σ1 hJ X _ r3 _ _ fun d e σ'' h'' tk'' hp' he r'' => k d e σ'' h'' tk'' hp' he r''
end

/-- all that stands but what the ledger names -/
def under (h : Heap) (σ : St) (X : List (Addr × Obj)) : Heap := hideAll h (keys σ.heap ++ keys X)
theorem under_size (h : Heap) (σ : St) (X) : (under h σ X).objs.size = h.objs.size := hideAll_size _ _
theorem of_under {h : Heap} {σ : St} {X} {b o} (e : (under h σ X).get? b = some o) : h.get? b = some o := of_hideAll _ e

/-- what stood under c stands in g, the frames under it but for their slots -/
def Keeps (c : Cx) (g : Heap) : Prop := ∀ b o, c.g.get? b = some o → ∃ sl, g.get? b = some { o with slots := sl } ∧ (b ∉ fsOf c → sl = o.slots)
structure On (c c' : Cx) (V : List (Option MV)) : Prop where
  keep : Keeps c c'.g
  above : c.g.objs.size ≤ c.env.locals
  ns : ∃ m, c'.g.Ns c.env.locals m ∧ VarsOk c.names V m
theorem R.on {c X σ h} (r : R c X σ h) {c' : Cx} (hg : c'.g = under h σ X) : On c c' σ.vars := by
  obtain ⟨m, F, V⟩ := r.fr
  refine ⟨fun b o e => ?_, F.above, m, ?_, V⟩
  · rw [hg]
    obtain ⟨sl, h1, h2⟩ := F.keep b o e
    exact ⟨sl, hideAll_get _ h1 (fun q => by have := (r.off b q).2; rw [e] at this; cases this), h2⟩
  · rw [hg]; exact F.ns.at' fun o e => hideAll_get _ e fun q => (r.off _ q).1 rfl
theorem R.into {c X σ h h'} (r : R c X σ h) {c' : Cx} (hg : c'.g = under h σ X) {m : Str → Option Value} {V : List (Option MV)} (hL : h.objs.size ≤ c'.env.locals) (hn : h'.Ns c'.env.locals m) (hV : VarsOk c'.names V m)
    (hk : ∀ b o, h.get? b = some o → h'.get? b = some o) : R c' X ⟨V, σ.heap⟩ h' := by
  refine ⟨⟨m, ⟨hn, fun b o e => ⟨o.slots, hk b o (of_under (hg ▸ e)), fun _ => rfl⟩, by rw [hg, under_size]; exact hL⟩, hV⟩, fun p hp => ?_, fun p hp => hk _ _ (r.ext p hp), r.nd, fun a ha => ⟨?_, ?_⟩⟩
  · obtain ⟨o, e, q⟩ := r.obj p hp
    exact ⟨o, hk _ _ e, q⟩
  · obtain ⟨o, e⟩ := r.alive ha
    exact Nat.ne_of_lt (Nat.lt_of_lt_of_le (Heap.lt_size e) hL)
  · rw [hg]; exact hideAll_none _ ha
theorem R.out {c c' X V V' H h} (r : R c' X ⟨V', H⟩ h) (o : On c c' V) (hfs : ∀ b, b ∈ fsOf c' → b ∈ fsOf c ∨ b = c.env.locals) : R c X ⟨V, H⟩ h := by
  obtain ⟨m', F', _⟩ := r.fr
  obtain ⟨m, hn, hV⟩ := o.ns
  refine ⟨⟨m, ⟨?_, fun b ob e => ?_, o.above⟩, hV⟩, r.obj, r.ext, r.nd, fun a ha => ?_⟩
  · obtain ⟨ob, es, ep, e1, e2, e3⟩ := hn
    obtain ⟨sl, h1, _⟩ := F'.keep _ _ e1
    exact ⟨_, es, ep, h1, e2, e3⟩
  · obtain ⟨sl, h1, h2⟩ := o.keep _ _ e
    obtain ⟨sl', h3, h4⟩ := F'.keep _ _ h1
    refine ⟨sl', h3, fun hb => ?_⟩
    have h5 := h4 fun q => (hfs b q).elim hb fun z => by
      rw [z] at e
      exact absurd (Nat.lt_of_lt_of_le (Heap.lt_size e) o.above) (Nat.lt_irrefl _)
    rw [h5]; exact h2 hb
  have := (r.off a ha).2
  refine ⟨fun q => ?_, ?_⟩
  · obtain ⟨ob, _, _, e, _⟩ := hn
    rw [← q, this] at e; cases e
  · cases e : c.g.get? a with
    | none => rfl
    | some ob => obtain ⟨_, h1, _⟩ := o.keep _ _ e; rw [h1] at this; cases this
end
section
open PySem PySem.Spec PySem.Calls PyProof.Rows PySem.W
def resOf : MF → MV | .ret v => v | _ => .none
inductive LR : List (Addr × MO) → List (Addr × Obj) → Prop
  | nil : LR [] []
  | cons {a mo o l l'} : OR mo o → LR l l' → LR ((a, mo) :: l) ((a, o) :: l')
theorem LR.keys {H X} (h : LR H X) : keys X = keys H := by
  induction h with
  | nil => rfl
  | cons _ _ ih => simp only [Mine.keys, List.map_cons] at ih ⊢; rw [ih]
theorem LR.get {H X} (h : LR H X) : ∀ p ∈ H, ∃ o, (p.1, o) ∈ X ∧ OR p.2 o := by
  induction h with
  | nil => intro p hp; cases hp
  | cons a _ ih =>
    intro p hp
    rcases List.mem_cons.mp hp with rfl | hp
    · exact ⟨_, List.mem_cons_self .., a⟩
    · obtain ⟨o, h1, h2⟩ := ih p hp
      exact ⟨o, List.mem_cons_of_mem _ h1, h2⟩
theorem LR.append {H X H' X'} (h : LR H X) (h' : LR H' X') : LR (H ++ H') (X ++ X') := by
  induction h with
  | nil => exact h'
  | cons a _ ih => exact .cons a ih
/-- what stood when the call began, the frames under it as they are now -/
def tg (c : Cx) (h : Heap) : Heap := ktsHeap h ((fsOf c).filter fun b => (c.g.get? b).isSome) c.g
theorem R.turn {c X σ h} (r : R c X σ h) : KtsTurn ((fsOf c).filter fun b => (c.g.get? b).isSome) c.g (tg c h) ∧ ∀ b o, (tg c h).get? b = some o → h.get? b = some o := by
  obtain ⟨m, F, _⟩ := r.fr
  refine kts_turn_at (fun b hb => ?_) (fun b o e hb => F.same e fun q => hb ?_) (fun b o e _ => ?_)
  · exact Option.isSome_iff_exists.mp (List.mem_filter.mp hb).2
  · exact List.mem_filter.mpr ⟨q, by rw [e]; rfl⟩
  · obtain ⟨sl, h1, _⟩ := F.keep b o e
    exact ⟨sl, h1⟩
theorem R.lr {c X σ h} (r : R c X σ h) : ∃ X₂, LR σ.heap X₂ ∧ ∃ m, Fr (tg c h) c.env.locals h m ∧ VarsOk c.names σ.vars m ∧ News (tg c h) c.env.locals h (X₂ ++ X) := by
  have key : ∀ H : List (Addr × MO), (∀ p ∈ H, ∃ o, h.get? p.1 = some o ∧ OR p.2 o) → ∃ X₂, LR H X₂ ∧ ∀ p ∈ X₂, h.get? p.1 = some p.2 := by
    intro H
    induction H with
    | nil => intro _; exact ⟨[], .nil, fun _ hp => nomatch hp⟩
    | cons p H ih =>
      intro hH
      obtain ⟨o, e1, e2⟩ := hH p (List.mem_cons_self ..)
      obtain ⟨X₂, k1, k2⟩ := ih fun q hq => hH q (List.mem_cons_of_mem _ hq)
      refine ⟨(p.1, o) :: X₂, .cons e2 k1, fun q hq => ?_⟩
      rcases List.mem_cons.mp hq with rfl | hq
      · exact e1
      · exact k2 q hq
  obtain ⟨X₂, k1, k2⟩ := key σ.heap r.obj
  obtain ⟨T, S⟩ := r.turn
  obtain ⟨m, F, V⟩ := r.fr
  refine ⟨X₂, k1, m, ⟨F.ns, S, by rw [T.size]; exact F.above⟩, V, fun p hp => ?_⟩
  have hk : p.1 ∈ Mine.keys σ.heap ++ Mine.keys X := by
    rw [← k1.keys, ← List.map_append]
    exact List.mem_map_of_mem hp
  refine ⟨?_, (r.off _ hk).1, T.none_ _ (r.off _ hk).2⟩
  rcases List.mem_append.mp hp with hp | hp
  · exact k2 p hp
  · exact r.ext p hp
theorem R.relr {c X₀ σ₀ h₀ X V H h X₂ m} (r₀ : R c X₀ σ₀ h₀) (l : LR H X₂) (F : Fr (tg c h₀) c.env.locals h m) (hV : VarsOk c.names V m) (N : News (tg c h₀) c.env.locals h (X₂ ++ X)) (nd : (Mine.keys H ++ Mine.keys X).Nodup) : R c X ⟨V, H⟩ h := by
  obtain ⟨T, _⟩ := r₀.turn
  obtain ⟨_, F₀, _⟩ := r₀.fr
  refine ⟨⟨m, ⟨F.ns, fun b o e => ?_, F₀.above⟩, hV⟩, fun p hp => ?_, fun p hp => (N p (List.mem_append_right _ hp)).1, nd, fun a ha => ?_⟩
  · by_cases hb : b ∈ fsOf c
    · obtain ⟨sl, h1⟩ := T.up e
      exact ⟨sl, F.keep _ _ h1, fun q => absurd hb q⟩
    · exact ⟨o.slots, F.keep _ _ (T.other b o e fun q => hb (List.mem_filter.mp q).1), fun _ => rfl⟩
  · obtain ⟨o, h1, h2⟩ := l.get p hp
    exact ⟨o, (N _ (List.mem_append_left _ h1)).1, h2⟩
  · have ha' : a ∈ Mine.keys (X₂ ++ X) := by
      have : Mine.keys (X₂ ++ X) = Mine.keys H ++ Mine.keys X := by rw [← l.keys]; simp [Mine.keys]
      rw [this]; exact ha
    obtain ⟨p, hp, rfl⟩ := List.mem_map.mp ha'
    refine ⟨(N p hp).2.1, ?_⟩
    cases q : c.g.get? p.1 with
    | none => rfl
    | some o => obtain ⟨_, h1⟩ := T.up q; rw [(N p hp).2.2] at h1; cases h1
theorem R.of_lr {c X V H h X₂ m} (l : LR H X₂) (F : Fr c.g c.env.locals h m) (hV : VarsOk c.names V m) (N : News c.g c.env.locals h (X₂ ++ X)) (nd : (Mine.keys H ++ Mine.keys X).Nodup) : R c X ⟨V, H⟩ h := by
  refine ⟨⟨m, .of F, hV⟩, fun p hp => ?_, fun p hp => (N p (List.mem_append_right _ hp)).1, nd, fun a ha => ?_⟩
  · obtain ⟨o, h1, h2⟩ := l.get p hp
    exact ⟨o, (N _ (List.mem_append_left _ h1)).1, h2⟩
  · have ha' : a ∈ Mine.keys (X₂ ++ X) := by
      have : Mine.keys (X₂ ++ X) = Mine.keys H ++ Mine.keys X := by rw [← l.keys]; simp [Mine.keys]
      rw [this]; exact ha
    obtain ⟨p, hp, rfl⟩ := List.mem_map.mp ha'
    exact (N p hp).2
/-- new things go onto the ledger -/
theorem R.more {c X V H h} {cells : List (Addr × Obj)} {C : List (Addr × MO)} (r : R c X ⟨V, H⟩ h) (l : LR C cells) (hc : ∀ p ∈ cells, h.get? p.1 = some p.2 ∧ p.1 ≠ c.env.locals ∧ c.g.get? p.1 = none ∧ p.1 ∉ Mine.keys H ++ Mine.keys X) (nd : (Mine.keys C).Nodup) : R c X ⟨V, C ++ H⟩ h := by
  have kc : Mine.keys cells = Mine.keys C := l.keys
  have hC : ∀ a ∈ Mine.keys C, ∃ p ∈ cells, p.1 = a := fun a ha => by
    rw [← kc] at ha
    obtain ⟨p, hp, e⟩ := List.mem_map.mp ha
    exact ⟨p, hp, e⟩
  have ks : Mine.keys (C ++ H) ++ Mine.keys X = Mine.keys C ++ (Mine.keys H ++ Mine.keys X) := by simp [Mine.keys, List.append_assoc]
  refine ⟨r.fr, fun p hp => ?_, r.ext, ?_, fun a ha => ?_⟩
  · rcases List.mem_append.mp hp with hp | hp
    · obtain ⟨o, h1, h2⟩ := l.get p hp
      exact ⟨o, (hc _ h1).1, h2⟩
    · exact r.obj p hp
  · show (Mine.keys (C ++ H) ++ Mine.keys X).Nodup
    rw [ks]
    refine List.nodup_append.mpr ⟨nd, r.nd, fun a ha b hb q => ?_⟩
    subst q
    obtain ⟨p, hp, rfl⟩ := hC a ha
    exact (hc p hp).2.2.2 hb
  · have ha' : a ∈ Mine.keys (C ++ H) ++ Mine.keys X := ha
    rw [ks] at ha'
    rcases List.mem_append.mp ha' with ha | ha
    · obtain ⟨p, hp, rfl⟩ := hC a ha
      exact ⟨(hc p hp).2.1, (hc p hp).2.2.1⟩
    · exact r.off a ha

/-- a frame from which a function may be called, n deep, over base -/
structure Ok (base : Heap) (c : Cx) (n : Nat) : Prop where
  below : ∃ A₀ outer, Below A₀ base outer c.g ∧ c.A.frames = some (c.env :: outer)
  frame : c.env.frame = some c.env.locals
  kind : c.env.scope.kind = .function
  nolim : base.NoLimit
  depth : c.A.depth + n < recursionLimit
  hand : c.A.handled = none
  units : c.A.units + 3 * n + 60 < cLine
theorem Ok.base {base c n} (ok : Ok base c n) : ∀ b o, base.get? b = some o → c.g.get? b = some o := by
  obtain ⟨_, _, B, _⟩ := ok.below
  exact B.stays
theorem Ok.fs {base c n} (ok : Ok base c n) : ∃ outer, c.A.frames = some (c.env :: outer) ∧ fsOf c = outer.filterMap (·.frame) := by
  obtain ⟨_, outer, _, e⟩ := ok.below
  exact ⟨outer, e, by unfold fsOf; rw [e]; rfl⟩
theorem Ok.off {base c n} (ok : Ok base c n) : ∀ b ∈ fsOf c, base.get? b = none := by
  obtain ⟨_, outer, B, e⟩ := ok.below
  intro b hb
  have : fsOf c = outer.filterMap (·.frame) := by unfold fsOf; rw [e]; rfl
  rw [this] at hb
  exact (B.frames.mem hb).1
/-- the stack, seen from what stands while a call is made -/
theorem R.stack {base c n X σ h} (r : R c X σ h) (ok : Ok base c n) : ∃ outer, c.A.frames = some (c.env :: outer) ∧ Below c.A base (c.env :: outer) (under h σ X) ∧ h.FunFrames base (c.env :: outer) := by
  obtain ⟨A₀, outer, B, hA⟩ := ok.below
  obtain ⟨m, F, _⟩ := r.fr
  have hfs : fsOf c = outer.filterMap (·.frame) := by unfold fsOf; rw [hA]; rfl
  have hb : ∀ b o, base.get? b = some o → h.get? b = some o := fun b o e => F.same (B.stays b o e) fun q => by
    have := ok.off b q; rw [e] at this; cases this
  have hnew : base.get? c.env.locals = none := by
    cases hq : base.get? c.env.locals with
    | none => rfl
    | some o => exact absurd (Nat.lt_of_lt_of_le (Heap.lt_size (B.stays _ o hq)) F.above) (Nat.lt_irrefl _)
  have hF : h.FunFrames base (c.env :: outer) := .cons (by rw [ok.kind]; decide) ok.frame F.ns hnew (B.frames.of_keeps fun b o e _ => by
    obtain ⟨sl, h1, _⟩ := F.keep b o e
    exact ⟨_, h1, rfl⟩)
  refine ⟨outer, hA, ⟨hA, fun b o e => hideAll_get _ (hb b o e) fun q => ?_, funFrames_hideAll hF fun env' he b hq hf' => ?_⟩, hF⟩
  · have := (r.off b q).2
    rw [B.stays b o e] at this; cases this
  · cases he with
    | head => exact (r.off b hq).1 ((Option.some.inj (ok.frame.symm.trans hf')).symm)
    | tail _ he =>
      obtain ⟨L₁, o₁, hf₁, ho₁⟩ := funFrames_in B.frames env' he
      rw [hf₁] at hf'
      have := (r.off b hq).2
      rw [← (Option.some.inj hf' : L₁ = b), ho₁] at this; cases this
theorem Ok.less {base c n m} (ok : Ok base c n) (h : m ≤ n) : Ok base c m := ⟨ok.below, ok.frame, ok.kind, ok.nolim, by have := ok.depth; omega, ok.hand, by have := ok.units; omega⟩

/-- a call -/
def WC (c : Cx) (f : Value) (vs : List MV) (σ : St) (P : MV → St → Prop) : Prop := ∀ us, VRs vs us → WE c (call f us) σ P

abbrev cxOf (c : Cx) (env : Env) (g : Heap) (names : List Str) : Cx := ⟨c.prog, c.w, c.A.deeper env, env, g, names⟩

section
variable {base : Heap} {c : Cx} {σ : St} {n : Nat} {f : Addr} {fo : Obj} {name qual : Str} {params : Arguments} {body : List Stmt} {scope : Scope} {cl : List (Str × Addr)} {dV kV doc pm cdv ct : Value} {an : Option Addr}
  {vs : List MV} {P : MV → St → Prop}

theorem under_none {h : Heap} {σ : St} {X : List (Addr × Obj)} {a : Addr} (e : h.get? a = none) : (under h σ X).get? a = none := by
  cases q : (under h σ X).get? a with
  | none => rfl
  | some o => have := of_under q; rw [e] at this; cases this
theorem callee_fs {c : Cx} {env' : Env} {g : Heap} {names : List Str} {outer : List Env} (hA : c.A.frames = some (c.env :: outer)) (hf : c.env.frame = some c.env.locals) {b : Addr} (hb : b ∈ fsOf (cxOf c env' g names)) : b ∈ fsOf c ∨ b = c.env.locals := by
  have e1 : fsOf (cxOf c env' g names) = (c.env :: outer).filterMap (·.frame) := by
    unfold fsOf
    rw [show (cxOf c env' g names).A.frames = some (env' :: c.env :: outer) from Around.frames_deeper hA]; rfl
  have e2 : fsOf c = outer.filterMap (·.frame) := by unfold fsOf; rw [hA]; rfl
  rw [e1, List.filterMap_cons, hf] at hb
  rw [e2]
  rcases List.mem_cons.mp hb with q | q
  · exact .inr q
  · exact .inl q
theorem Call_plain (names : List Str) (V : List (Option MV)) (binds : List Value → List (Str × Value)) (ok : Ok base c (n + 1)) (ho : ∀ X h, R c X σ h → h.get? f = some fo) (hd : fo.data = .func (fnX name qual params body scope cl dV kV doc pm an cdv ct))
    (hcd : ∀ X h, R c X σ h → h.CodeRec cdv qual)
    (hbind : ∀ us, VRs vs us → bindArgs (fnX name qual params body scope cl dV kV doc pm an cdv ct) ⟨us, []⟩ = Pure.pure (binds us))
    (hloc : ∀ us, VRs vs us → ∀ y ∈ binds us, scope.names.lookup y.1 = some .local)
    (hV : ∀ us, VRs vs us → VarsOk names V fun y => (binds us).reverse.lookup y)
    (hcell : ∀ x ∈ scope.names, x.2 ≠ .cell) (hco : scope.isCoroutine = false) (hgen : scope.isGenerator = false) (hk : scope.kind = .function)
    (h : ∀ g L, Ok base (cxOf c (envX qual scope L f cdv cl) g names) n → (∀ a ∈ keys σ.heap, a ≠ L) → Keeps c g →
      WF (cxOf c (envX qual scope L f cdv cl) g names) (execs body (envX qual scope L f cdv cl)) ⟨V, σ.heap⟩ fun fl σ' => P (resOf fl) ⟨σ.vars, σ'.heap⟩) : WC c (.ref f) vs σ P := by
  intro us hu X s r Q E k
  obtain ⟨outer, hA, B', _⟩ := r.stack ok
  have hdep := ok.depth
  have hlim : base.NoLimit := ok.nolim
  obtain ⟨m, F, hVv⟩ := r.fr
  have hlim' : s.heap.NoLimit := hlim.keeps fun b o e => F.same (ok.base _ _ e) fun q => by
    have := ok.off b q; rw [e] at this; cases this
  refine wpAny_call (codeAny_call_def (fd := fnX name qual params body scope cl dV kV doc pm an cdv ct) (body := body) (binds := binds us) (by omega) (ho _ _ r) hd hlim' (hcd _ _ r) rfl (BindsTo.of_eq (hbind us hu)) hcell (hloc us hu) (fun h₁ hns hk₁ => ?_) hco hgen hk)
  have ok' : Ok base (cxOf c (envX qual scope s.heap.objs.size f cdv cl) (under s.heap σ X) names) n := ⟨⟨_, _, B', by show (c.A.deeper _).frames = _; exact Around.frames_deeper hA⟩, rfl, hk, ok.nolim, by show c.A.depth + 1 + n < _; omega, ok.hand, by have := ok.units; show c.A.units + 3 + 3 * n + 60 < _; omega⟩
  have r' : R (cxOf c (envX qual scope s.heap.objs.size f cdv cl) (under s.heap σ X) names) X ⟨V, σ.heap⟩ h₁ := r.into rfl (Nat.le_refl _) hns (hV us hu) hk₁
  have hon : On c (cxOf c (envX qual scope s.heap.objs.size f cdv cl) (under s.heap σ X) names) σ.vars := r.on rfl
  have hne : ∀ a ∈ keys σ.heap, a ≠ s.heap.objs.size := fun a ha => by
    obtain ⟨o, e⟩ := r.alive (List.mem_append_left _ ha)
    exact Nat.ne_of_lt (Heap.lt_size e)
  refine h _ _ ok' hne hon.keep X { s with heap := h₁, toks := s.toks + (binds us).length } r' _ _ fun b a σ' h' tk hp hb r'' => ?_
  have rc : R c X ⟨σ.vars, σ'.heap⟩ h' := R.out (V' := σ'.vars) r'' hon fun b hb => callee_fs hA ok.frame hb
  cases hb with
  | next => exact k _ _ _ h' tk hp .none rc
  | brk => exact k _ _ _ h' tk hp .none rc
  | cont => exact k _ _ _ h' tk hp .none rc
  | ret hv => exact k _ _ _ h' tk hp hv rc

theorem Call_cells (names : List Str) (V : List (Option MV)) (C : Addr → List (Addr × MO)) (binds : List Value → List (Str × Value)) (ok : Ok base c (n + 1)) (ho : ∀ X h, R c X σ h → h.get? f = some fo) (hd : fo.data = .func (fnX name qual params body scope [] dV kV doc pm an cdv ct))
    (hcd : ∀ X h, R c X σ h → h.CodeRec cdv qual)
    (hbind : ∀ us, VRs vs us → bindArgs (fnX name qual params body scope [] dV kV doc pm an cdv ct) ⟨us, []⟩ = Pure.pure (binds us))
    (hkind : ∀ us, VRs vs us → ∀ n, ∀ x ∈ binds us, scope.names.lookup x.1 = some .local ∨ (scope.names.lookup x.1 = some .cell ∧ ((cellsFrom n scope.names []).lookup x.1).isSome = true))
    (hnd : ((cellsFrom 0 scope.names []).map (·.1)).Nodup)
    (hV : ∀ us, VRs vs us → ∀ L, VarsOk names V (bindL (envOfC qual scope L f cdv).kindOf (binds us) fun _ => none))
    (hC : ∀ us, VRs vs us → ∀ L cells, CellsAre (bindC (envOfC qual scope L f cdv).kindOf (binds us) fun _ => none) (cellsFrom (L + 1) scope.names []) cells → LR (C L) cells)
    (hCn : ∀ L, (keys (C L)).Nodup ∧ ∀ a ∈ keys (C L), L < a)
    (hco : scope.isCoroutine = false) (hgen : scope.isGenerator = false) (hk : scope.kind = .function)
    (h : ∀ g L, Ok base (cxOf c (envOfC qual scope L f cdv) g names) n → (∀ a ∈ keys σ.heap, a < L) → Keeps c g →
      WF (cxOf c (envOfC qual scope L f cdv) g names) (execs body (envOfC qual scope L f cdv)) ⟨V, C L ++ σ.heap⟩ fun fl σ' => P (resOf fl) ⟨σ.vars, σ'.heap⟩) : WC c (.ref f) vs σ P := by
  intro us hu X s r Q E k
  obtain ⟨outer, hA, B', _⟩ := r.stack ok
  have hdep := ok.depth
  have hlim : base.NoLimit := ok.nolim
  obtain ⟨m, F, hVv⟩ := r.fr
  have hlim' : s.heap.NoLimit := hlim.keeps fun b o e => F.same (ok.base _ _ e) fun q => by
    have := ok.off b q; rw [e] at this; cases this
  refine wpAny_call (codeAny_call_function (fd := fnX name qual params body scope [] dV kV doc pm an cdv ct) (by omega) (ho _ _ r) hd hco hgen rfl (hcd _ _ r) (BindsTo.of_eq (hbind us hu) _ _ _ _ ?_))
  refine wpAny_newFunctionEnv_cells hk (hkind us hu _) fun env' he s' x => ?_
  subst he
  refine ⟨hlim'.keeps x.toInCall.keep, codeAny_func ?_⟩
  obtain ⟨h₁, tk, rfl, _⟩ := x.done
  have hk₁ := x.toInCall.keep
  obtain ⟨cells, NC, Y⟩ := Cl.news (h₀ := s.heap) (Nat.le_refl _) fun n c hm => ⟨x.cell n c (lookup_of_mem_nodup (cellsFrom_names scope.names 0 (s.heap.objs.size + 1) [] [] rfl ▸ hnd) hm), x.above n c hm⟩
  have ok' : Ok base (cxOf c (envOfC qual scope s.heap.objs.size f cdv) (under s.heap σ X) names) n := ⟨⟨_, _, B', by show (c.A.deeper _).frames = _; exact Around.frames_deeper hA⟩, rfl, hk, ok.nolim, by show c.A.depth + 1 + n < _; omega, ok.hand, by have := ok.units; show c.A.units + 3 + 3 * n + 60 < _; omega⟩
  have lc := hC us hu s.heap.objs.size cells Y
  have hlt : ∀ a ∈ keys σ.heap ++ keys X, a < s.heap.objs.size := fun a ha => by
    obtain ⟨o, e⟩ := r.alive ha
    exact Heap.lt_size e
  have r0 : R (cxOf c (envOfC qual scope s.heap.objs.size f cdv) (under s.heap σ X) names) X ⟨V, σ.heap⟩ h₁ := r.into rfl (Nat.le_refl _) x.toInCall.ns (hV us hu _) hk₁
  have r' : R (cxOf c (envOfC qual scope s.heap.objs.size f cdv) (under s.heap σ X) names) X ⟨V, C s.heap.objs.size ++ σ.heap⟩ h₁ := r0.more lc (fun p hp => ⟨(NC p hp).1, (NC p hp).2.1, under_none (NC p hp).2.2, fun q => nomatch (NC p hp).2.2.symm.trans (r.alive q).choose_spec⟩) (hCn _).1
  have hon : On c (cxOf c (envOfC qual scope s.heap.objs.size f cdv) (under s.heap σ X) names) σ.vars := r.on rfl
  refine wpAny_mono (h _ _ ok' (fun a ha => hlt a (List.mem_append_left _ ha)) hon.keep X { s with heap := h₁, toks := tk } r' _ _ fun b a σ' h' tk hp hb r'' => ?_) (fun _ _ y => y) fun _ _ y => y
  have rc : R c X ⟨σ.vars, σ'.heap⟩ h' := R.out (V' := σ'.vars) r'' hon fun b hb => callee_fs hA ok.frame hb
  cases hb with
  | next => exact k _ _ _ h' tk hp .none rc
  | brk => exact k _ _ _ h' tk hp .none rc
  | cont => exact k _ _ _ h' tk hp .none rc
  | ret hv => exact k _ _ _ h' tk hp hv rc
end
end
section
open PySem PySem.Spec PySem.Calls PyProof.Rows PySem.W
theorem VRs.one {a us} (h : VRs [a] us) : ∃ u, us = [u] ∧ VR a u := by
  cases h with | cons h1 h2 => cases h2; exact ⟨_, rfl, h1⟩
theorem VRs.two {a b us} (h : VRs [a, b] us) : ∃ u w, us = [u, w] ∧ VR a u ∧ VR b w := by
  cases h with | cons h1 h2 => obtain ⟨w, rfl, h3⟩ := h2.one; exact ⟨_, _, rfl, h1, h3⟩
theorem VRs.three {a b d us} (h : VRs [a, b, d] us) : ∃ u w x, us = [u, w, x] ∧ VR a u ∧ VR b w ∧ VR d x := by
  cases h with | cons h1 h2 => obtain ⟨w, x, rfl, h3, h4⟩ := h2.two; exact ⟨_, _, _, rfl, h1, h3, h4⟩
/-- what base's names mean -/
def GN (base : Heap) (x : Str) (v : Value) : Prop := ∃ mg, base.Ns mainGlobals mg ∧ (mg x = some v ∨ (mg x = none ∧ ∃ mb, base.Ns builtinsNs mb ∧ mb x = some v))
/-- a frame that stands over base -/
structure Based (base : Heap) (c : Cx) : Prop where
  keep : ∀ b o, base.get? b = some o → c.g.get? b = some o
  globals : c.env.globals = mainGlobals
  builtins : c.env.builtins = builtinsNs
  kind : c.env.scope.kind = .function
  off : ∀ b ∈ fsOf c, base.get? b = none
theorem R.base {base c X σ h} (r : R c X σ h) (B : Based base c) : ∀ b o, base.get? b = some o → h.get? b = some o := by
  obtain ⟨m, F, _⟩ := r.fr
  exact fun b o e => F.same (B.keep b o e) fun q => by have := B.off b q; rw [e] at this; cases this
section
variable {base : Heap} {c : Cx} {σ : St} {P : MV → St → Prop}
theorem gname_ {x : Str} {v : Value} {pos : Pos} (B : Based base c) (G : GN base x v) (hk : c.env.kindOf x = some .globalImplicit) (hd : (x == ("__debug__" : Str)) = false) (h : P (.val v) σ) : WE c (eval (.Name x pos) c.env) σ P := by
  intro X s r Q E k
  obtain ⟨mg, h1, h2⟩ := G
  have hq := k _ _ σ s.heap s.toks h (.val v) r
  rcases h2 with h2 | ⟨h2, mb, h3, h4⟩
  · exact Name_function_global B.kind hk (loadGlobal_global (B.globals ▸ h1.keeps (r.base B)) h2 hq) hd
  · exact Name_function_global B.kind hk (loadGlobal_builtin (B.globals ▸ h1.keeps (r.base B)) h2 (B.builtins ▸ h3.keeps (r.base B)) h4 hq) hd

/-- a call's arguments and the call -/
def WCW (c : Cx) (pos : Pos) (f : MV) (es : List Expr) (σ : St) (P : MV → St → Prop) : Prop := ∀ u, VR f u → WE c (callWith pos u [] (backTo pos (starEach es c.env)) []) σ P
theorem Call_ {x : Str} {p pos : Pos} {es : List Expr} (h : WE c (eval (.Name x p) c.env) σ fun f σ1 => WCW c pos f es σ1 P) : WE c (eval (.Call (.Name x p) es [] pos) c.env) σ P := by
  intro X s rr Q E k
  exact wpAny_Call_NameR (h X s rr _ _ fun b a σ' h' tk hp ha r' => hp a ha X _ r' _ _ fun d e σ'' h'' tk'' hp' he r'' => k d e σ'' h'' tk'' hp' he r'')
theorem cw_b {id : String} {e : Expr} {es : List Expr} {pos : Pos} (he : starEach (e :: es) c.env = (false, eval e c.env) :: starEach es c.env) (hp : (backTo pos (starEach es c.env)).any (·.1) = false)
    (h : WL c (spliced (backTo pos (starEach (e :: es) c.env))) σ fun vs σ1 => WC c (.builtin id) vs σ1 P) : WCW c pos (.val (.builtin id)) (e :: es) σ P := by
  intro u hu X s r Q E k
  cases hu
  exact callWith_builtin1 (h X s r _ _ fun b a σ' h' tk hp ha r' => hp a ha X _ r' _ _ fun d e σ'' h'' tk'' hp' he r'' => k d e σ'' h'' tk'' hp' he r'') he hp
theorem cw_t {T : String} {e : Expr} {es : List Expr} {pos : Pos} (he : starEach (e :: es) c.env = (false, eval e c.env) :: starEach es c.env) (hp : (backTo pos (starEach es c.env)).any (·.1) = false)
    (h : WL c (spliced (backTo pos (starEach (e :: es) c.env))) σ fun vs σ1 => WC c (.type T) vs σ1 P) : WCW c pos (.val (.type T)) (e :: es) σ P := by
  intro u hu X s r Q E k
  cases hu
  exact callWith_type1 (h X s r _ _ fun b a σ' h' tk hp ha r' => hp a ha X _ r' _ _ fun d e σ'' h'' tk'' hp' he r'' => k d e σ'' h'' tk'' hp' he r'') he hp
theorem cw_f {a : Addr} {o : Obj} {fd : FuncData} {e : Expr} {es : List Expr} {pos : Pos} (hd : o.data = .func fd) (he : starEach (e :: es) c.env = (false, eval e c.env) :: starEach es c.env)
    (h : WL c (spliced (backTo pos (starEach (e :: es) c.env))) σ fun vs σ1 => (∀ X h, R c X σ1 h → h.get? a = some o) ∧ WC c (.ref a) vs σ1 P) : WCW c pos (.val (.ref a)) (e :: es) σ P := by
  intro u hu X s r Q E k
  cases hu
  exact callWith_def (o := o) hd (h X s r _ _ fun b a σ' h' tk hp ha r' => ⟨hp.1 _ _ r', hp.2 a ha X _ r' _ _ fun d e σ'' h'' tk'' hp' he r'' => k d e σ'' h'' tk'' hp' he r''⟩) he

/-- a value's built-in type -/
def TY (c : Cx) (v : MV) (T : String) (σ : St) : Prop := ∀ X (s : Shared) u, VR v u → R c X σ s.heap → s.TypeIs u T ∧ ∀ a, u = .ref a → ∃ ob, s.heap.get? a = some ob ∧ ob.dict = none
theorem ty_str {x : Str} : TY c (.str x) "str" σ := by
  intro X s u hu r
  cases hu
  exact ⟨typeIs_str s _ _, fun a e => nomatch e⟩
theorem ty_list {a : Addr} {vs : List MV} (hm : (a, MO.list vs) ∈ σ.heap) : TY c (.ref a) "list" σ := by
  intro X s u hu r
  cases hu
  obtain ⟨us, n, _, e⟩ := r.listX hm
  exact ⟨⟨_, e, rfl⟩, fun b q => by cases q; exact ⟨_, e, rfl⟩⟩
theorem Meth_ {o : Expr} {name : Str} {apos pos : Pos} {e : Expr} {es : List Expr} {T id : String} (pa : PlainAttrs T) (slot : Slot T name id) (hty : typeOf (.builtin id) = Pure.pure (.type "method_descriptor"))
    (hbase : attributeBase o name c.env (eval o c.env) = eval o c.env)
    (hfew : ((backTo pos (starEach (e :: es) c.env)).all (fun x => !x.1) && (backToKw pos (keywordEach [] c.env)).all (fun x => x.1.isSome) && decide ((e :: es).length + ([] : List Keyword).length + (if ([] : List Keyword).isEmpty then 0 else 1) < 30)) = true)
    (hline : (apos.endLine == pos.line) = true) (he : starEach (e :: es) c.env = (false, eval e c.env) :: starEach es c.env) (hp : (backTo pos (starEach es c.env)).any (·.1) = false)
    (h : WE c (eval o c.env) σ fun v σ1 => TY c v T σ1 ∧ WL c (spliced (backTo pos (starEach (e :: es) c.env))) σ1 fun vs σ2 => WC c (.builtin id) (v :: vs) σ2 P) :
    WE c (eval (.Call (.Attribute o name apos) (e :: es) [] pos) c.env) σ P := by
  intro X s rr Q E k
  refine wpAny_Call_method hbase hfew hline pa slot hty (h X s rr _ _ fun b a σ' h' tk hp' ha r' => ?_)
  have ht := hp'.1 X { s with heap := h', toks := tk } a ha r'
  refine ⟨ht.1, ht.2, ?_⟩
  exact callWith_method1 (hp'.2 X _ r' _ _ fun vs us σ2 h2 tk2 hW hus r2 => hW (a :: us) (.cons ha hus) X _ r2 _ _ fun d e σ'' h'' tk'' hp' he r'' => k d e σ'' h'' tk'' hp' he r'') he hp
theorem Meth0_ {o : Expr} {name : Str} {apos pos : Pos} {T id : String} (pa : PlainAttrs T) (slot : Slot T name id) (hty : typeOf (.builtin id) = Pure.pure (.type "method_descriptor"))
    (hbase : attributeBase o name c.env (eval o c.env) = eval o c.env) (hline : (apos.endLine == pos.line) = true)
    (h : WE c (eval o c.env) σ fun v σ1 => TY c v T σ1 ∧ WC c (.builtin id) [v] σ1 P) :
    WE c (eval (.Call (.Attribute o name apos) [] [] pos) c.env) σ P := by
  intro X s rr Q E k
  refine wpAny_Call_method hbase rfl hline pa slot hty (h X s rr _ _ fun b a σ' h' tk hp' ha r' => ?_)
  have ht := hp'.1 X { s with heap := h', toks := tk } a ha r'
  refine ⟨ht.1, ht.2, ?_⟩
  exact callWith_method0 (hp'.2 [a] (.cons ha .nil) X _ r' _ _ fun d e σ'' h'' tk'' hp' he r'' => k d e σ'' h'' tk'' hp' he r'')

/-- len -/
theorem len_l {a : Addr} {vs : List MV} (hm : (a, MO.list vs) ∈ σ.heap) (hz : vs.length ≤ sizeLine) (h : P (.int vs.length) σ) : WC c (.builtin "len") [.ref a] σ P := by
  intro us hu X s r Q E k
  obtain ⟨_, rfl, h1⟩ := hu.one; cases h1
  obtain ⟨us, hr, hl⟩ := r.list hm
  have e : us.toArray.size = vs.length := by simp [hr.length]
  refine call_len_list hl (by rw [e]; exact Int.lt_of_le_of_lt (Int.ofNat_le.mpr hz) (by decide)) ?_
  rw [e]
  exact k _ _ σ s.heap _ h (.int _ _) r
theorem len_t {a : Addr} {vs : List MV} (hm : (a, MO.tuple vs) ∈ σ.heap) (hz : vs.length ≤ sizeLine) (h : P (.int vs.length) σ) : WC c (.builtin "len") [.ref a] σ P := by
  intro us hu X s r Q E k
  obtain ⟨_, rfl, h1⟩ := hu.one; cases h1
  obtain ⟨us, hr, hl⟩ := r.tup hm
  have e : us.toArray.size = vs.length := by simp [hr.length]
  refine len_tuple hl (by rw [e]; exact Int.lt_of_le_of_lt (Int.ofNat_le.mpr hz) (by decide)) ?_
  rw [e]
  exact k _ _ σ s.heap _ h (.int _ _) r
theorem len_s {x : Str} (hz : x.length ≤ sizeLine) (h : P (.int x.length) σ) : WC c (.builtin "len") [.str x] σ P := by
  intro us hu X s r Q E k
  obtain ⟨_, rfl, h1⟩ := hu.one; cases h1
  refine PySem.P.len_str (fun q => absurd (Int.lt_of_le_of_lt (Int.ofNat_le.mpr hz) (by decide : ((sizeLine : Nat) : Int) < 2 ^ 63)) (by simpa using q)) ?_
  exact k _ _ σ s.heap _ h (.int _ _) r
/-- range -/
theorem range1 {n : Int} (h : ∀ a, P (.ref a) { σ with heap := (a, .range 0 n 1) :: σ.heap }) : WC c (.type "range") [.int n] σ P := by
  intro us hu X s r Q E k
  obtain ⟨_, rfl, h1⟩ := hu.one; cases h1
  exact call_range_1 (k _ _ _ _ _ (h s.heap.objs.size) (.val _) (r.new (fun b o e => Heap.get?_push_of_some _ e) (Heap.get?_none_of_le (Nat.le_refl _)) (Heap.get?_push_size _ rfl) (.is ⟨_, _, _, rfl⟩)))
theorem range3 {a b st : Int} (hst : st ≠ 0) (hp : Builtin.divisionGoesByPylong (b - a) st = false) (h : ∀ l, P (.ref l) { σ with heap := (l, .range a b st) :: σ.heap }) : WC c (.type "range") [.int a, .int b, .int st] σ P := by
  intro us hu X s r Q E k
  obtain ⟨_, _, _, rfl, h1, h2, h3⟩ := hu.three; cases h1; cases h2; cases h3
  exact call_range_3 hst (k _ _ _ _ _ (h s.heap.objs.size) (.val _) (r.new (fun b o e => Heap.get?_push_of_some _ e) (Heap.get?_none_of_le (Nat.le_refl _)) (Heap.get?_push_size _ rfl) (.is ⟨_, _, _, rfl⟩))) (.inl hp)
/-- list.append -/
theorem append_ {a : Addr} {vs : List MV} {v : MV} {pre post : List (Addr × MO)} (hm : σ.heap = pre ++ (a, .list vs) :: post) (hz : vs.length ≤ sizeLine) (h : P .none { σ with heap := pre ++ (a, .list (vs ++ [v])) :: post }) :
    WC c (.builtin "list.append") [.ref a, v] σ P := by
  intro us hu X s r Q E k
  obtain ⟨_, _, rfl, h2, h1⟩ := hu.two; cases h2
  obtain ⟨us, n, hr, hl⟩ := r.listX (a := a) (vs := vs) (by rw [hm]; simp)
  refine append_at hl (fun h' hs ho => ?_) (by simpa [hr.length] using hz)
  refine k _ _ _ h' s.toks h .none (r.upd hm (fun b o hb e => (hs.2 b hb).trans e) ho ?_)
  have := OR.list (n + 1) (hr.append (.cons h1 .nil))
  simpa using this
/-- tuple of a list -/
theorem tuple_l {a : Addr} {vs : List MV} (hm : (a, MO.list vs) ∈ σ.heap) (hz : vs.length ≤ sizeLine) (h : ∀ t, P (.ref t) { σ with heap := (t, .tuple vs) :: σ.heap }) : WC c (.type "tuple") [.ref a] σ P := by
  intro us hu X s r Q E k
  obtain ⟨_, rfl, h1⟩ := hu.one; cases h1
  obtain ⟨us, hr, hl⟩ := r.list hm
  refine call_tuple_list hl (fun h' hk => ?_) (by simpa [hr.length] using hz)
  exact k _ _ _ _ _ (h _) (.val _) ((r.keeps hk).new (fun b o e => Heap.get?_push_of_some _ e) (Heap.get?_none_of_le (Nat.le_refl _)) (Heap.get?_push_size _ rfl) (.tuple hr))
end
end
section
open PySem PySem.Spec PySem.Calls PyProof.Rows PySem.W
/-- the frame of a comprehension in c -/
abbrev cxC (c : Cx) (scope : Scope) (cl : List (Str × Addr)) (C : Addr) (g : Heap) (x : Str) : Cx := ⟨c.prog, c.w, c.A, compEnvC scope cl C c.env, g, [x]⟩
def testsOf (ifs : List Expr) (env : Env) : Sem Bool := forIn ifs true fun c r => if r = true then do let ok ← isTrue c env (eval c env); Pure.pure (ForInStep.yield ok) else Pure.pure (ForInStep.yield r)
/-- a comprehension's items: J i acc H is so when i items have been seen, acc made, H stands -/
structure Comp (c : Cx) (scope : Scope) (cl : List (Str × Addr)) (x : Str) (ifs : List Expr) (elt : Expr) (items : List MV) (Cond : St → Prop) (H₀ : List (Addr × MO)) (J : Nat → List MV → List (Addr × MO) → Prop) : Prop where
  size : items.length ≤ sizeLine
  start : J 0 [] H₀
  cond : ∀ i acc H V, J i acc H → Cond ⟨V, H⟩
  turn : ∀ i y acc H C g, items[i]? = some y → J i acc H → Keeps c g →
    WB (cxC c scope cl C g x) (testsOf ifs (compEnvC scope cl C c.env)) ⟨[some y], H⟩ fun ok σ2 =>
      if ok = true then WE (cxC c scope cl C g x) (eval elt (compEnvC scope cl C c.env)) σ2 fun v σ3 => ∃ H', H'.Sublist σ3.heap ∧ J (i + 1) (acc ++ [v]) H'
      else ∃ H', H'.Sublist σ2.heap ∧ J (i + 1) acc H'
structure CompOk (c : Cx) (scope : Scope) (cl : List (Str × Addr)) (x : Str) (iter : Expr) : Prop where
  clos : closureFor scope c.env = Pure.pure cl
  cell : ∀ y ∈ scope.names, y.2 ≠ .cell
  kind : scope.kind = .function
  names : ∀ y ∈ scope.names, y.2 = .local → scope.names.lookup y.1 = some .local
  x : scope.names.lookup x = some .local
  set : ∀ v, foldedSetIterable iter c.env v = Pure.pure v

theorem R.take {c X V H h} {a : Addr} {o : Obj} {mo : MO} (r : R c ((a, o) :: X) ⟨V, H⟩ h) (hm : OR mo o) : R c X ⟨V, (a, mo) :: H⟩ h := by
  have ks : keys ((a, mo) :: H) ++ keys X = a :: (keys H ++ keys X) := rfl
  have kp : (keys H ++ keys ((a, o) :: X)).Perm (a :: (keys H ++ keys X)) := List.perm_middle
  refine ⟨r.fr, fun p hp => ?_, fun p hp => r.ext p (List.mem_cons_of_mem _ hp), ?_, fun b hb => r.off b (kp.mem_iff.mpr (ks ▸ hb))⟩
  · rcases List.mem_cons.mp hp with rfl | hp
    · exact ⟨o, r.ext _ (List.mem_cons_self ..), hm⟩
    · exact r.obj p hp
  · rw [ks]; exact kp.nodup_iff.mp r.nd
theorem R.addX {c X σ h} {a : Addr} {o : Obj} (r : R c X σ h) (e : h.get? a = some o) (hk : a ∉ keys σ.heap ++ keys X) (hl : a ≠ c.env.locals) (hg : c.g.get? a = none) : R c ((a, o) :: X) σ h := by
  have kp : (keys σ.heap ++ keys ((a, o) :: X)).Perm (a :: (keys σ.heap ++ keys X)) := List.perm_middle
  refine ⟨r.fr, r.obj, fun p hp => ?_, kp.nodup_iff.mpr (List.nodup_cons.mpr ⟨hk, r.nd⟩), fun b hb => ?_⟩
  · rcases List.mem_cons.mp hp with rfl | hp
    · exact e
    · exact r.ext p hp
  · rcases List.mem_cons.mp (kp.mem_iff.mp hb) with rfl | hb
    · exact ⟨hl, hg⟩
    · exact r.off b hb
section
variable {c : Cx} {σ : St} {scope : Scope} {cl : List (Str × Addr)} {x : Str} {iter elt : Expr} {ifs : List Expr} {px pos : Pos}
/-- the loop of a list comprehension, from its iterator on -/
theorem comp_block {items : List MV} {Cond : St → Prop} {J : Nat → List MV → List (Addr × MO) → Prop} {X : List (Addr × Obj)} {s : Shared} {I : Addr} {o : Obj} {Io : Nat → Obj → Prop} {RR : Value → Addr → Result → Shared → Prop} {E₁ E₂ : Value → Shared → Prop}
    (ok : CompOk c scope cl x iter) (K : Comp c scope cl x ifs elt items Cond σ.heap J) (hN : ∀ c' : Cx, c'.prog = c.prog → c'.w = c.w → c'.A = c.A → Nx c' I items Cond Io) (ho : Io 0 o) (r : R c ((I, o) :: X) σ s.heap)
    (hRR : ∀ D C oC m acc H h' tk, J items.length acc H → h'.get? C = some oC → h'.Ns C m → R c ((C, oC) :: X) ⟨σ.vars, (D, .list acc) :: H⟩ h' → RR (.ref D) C (.ok .next) { s with heap := h', toks := tk }) :
    wpAny (model c.prog c.w) c.A (newList []) (fun acc s₃ => wpAny (model c.prog c.w) c.A (newFunctionEnv scope c.env.globals cl [] c.env.qual none .none (some c.env)) (fun cenv s₄ =>
      codeAny (model c.prog c.w) c.A (.compStart (.ListComp elt [⟨.Name x px, iter, ifs, 0⟩] scope pos) 0 (.ref I) acc { cenv with scope := relabel scope c.env }) (RR acc cenv.locals) s₄) E₁ s₃) E₂ s := by
  refine wpAny_newObj_type (wpAny_newFunctionEnv ok.cell (by intro y hy; simp at hy) (fun h₁ hns₁ hsb₁ => ?_) ok.kind)
  dsimp only at hns₁ hsb₁ ⊢
  generalize hH2 : s.heap.push { cls := .type "list", dict := none, data := .seq ([] : List Value).toArray } = H2 at hns₁ hsb₁ ⊢
  have r2 : R c ((I, o) :: (s.heap.objs.size, { cls := .type "list", data := .seq ([] : List Value).toArray }) :: X) σ H2 := by
    subst hH2
    have r1 := r.newX (a := s.heap.objs.size) (o := { cls := .type "list", data := .seq ([] : List Value).toArray }) (h' := s.heap.push { cls := .type "list", data := .seq ([] : List Value).toArray }) (fun b o e => Heap.get?_push_of_some _ e) (Heap.get?_none_of_le (Nat.le_refl _)) (Heap.get?_push_size _ rfl)
    refine ⟨r1.fr, r1.obj, fun p hp => r1.ext p ((List.Perm.swap ..).mem_iff.mp hp), ?_, fun b hb => r1.off b ?_⟩
    · exact (((List.Perm.swap ..).map _).append_left _).nodup_iff.mpr r1.nd
    · exact (((List.Perm.swap ..).map _).append_left _).mem_iff.mp hb
  have hk₁ : ∀ b ob, H2.get? b = some ob → h₁.get? b = some ob := fun b ob e => hsb₁.extBut b ob (Nat.ne_of_lt (Heap.lt_size e)) (Heap.get?_push_of_some _ e)
  let X₂ := (I, o) :: (s.heap.objs.size, ({ cls := .type "list", data := .seq ([] : List Value).toArray } : Obj)) :: X
  let c' : Cx := cxC c scope cl H2.objs.size (under H2 σ X₂) x
  have hon : On c c' σ.vars := r2.on rfl
  have r3 : R c' X₂ ⟨[none], σ.heap⟩ h₁ := r2.into (c' := c') rfl (Nat.le_refl _) hns₁ (fun i y v h1 h2 => by cases i <;> simp at h2) hk₁
  have hxl : c'.env.kindOf x = some .local := lookup_relabel_local ok.x
  have hkc : (c'.env.scope.kind == .class || (c'.env.scope.kind == .module && c'.env.locals != c'.env.globals)) = false := by simp [c', compEnvC, relabel, ok.kind]
  have N : Nx c' I items Cond Io := hN c' rfl rfl rfl
  have loop : ∀ s₃ : Shared, s₃.heap = h₁ → s₃ = { s with heap := h₁, toks := s₃.toks } →
      codeAny (model c.prog c.w) c.A (.compLoop (.ListComp elt [⟨.Name x px, iter, ifs, 0⟩] scope pos) 0 (.ref I) (.ref s.heap.objs.size) (compEnvC scope cl H2.objs.size c.env))
        (RR (.ref s.heap.objs.size) H2.objs.size) s₃ := by
    intro s₃ e₃ e₄
    refine codeAny_compLoop_tests (fun n s' => ∃ i acc H us nn o1 h2 tk2, n = items.length + 1 - i ∧ i ≤ items.length ∧ J i acc H ∧ acc.length ≤ i ∧ VRs acc us ∧ Io i o1 ∧
      R c' ((I, o1) :: (s.heap.objs.size, { cls := .type "list", data := .seq us.toArray nn }) :: X) ⟨[none], H⟩ h2 ∧ s' = { s with heap := h2, toks := tk2 }) ?_ (items.length + 1)
      ⟨0, [], σ.heap, [], 0, o, h₁, s₃.toks, rfl, Nat.zero_le _, K.start, Nat.le_refl _, .nil, ho, r3, e₄⟩
    rintro n s' ⟨i, acc, H, us, nn, o1, h2, tk2, rfl, hi, hJ, hacc, hus, ho1, r4, rfl⟩
    by_cases hlt : i < items.length
    · obtain ⟨y, hy⟩ : ∃ y, items[i]? = some y := ⟨_, List.getElem?_eq_getElem hlt⟩
      refine N.item hy ho1 (K.cond _ _ _ _ hJ) r4 fun u o2 h3 tk3 hu ho2 r5 => ?_
      refine wpAny_assign_Name (store_local (c := c') (σ := ⟨[none], H⟩) (x := x) (v := y) (P := fun σ => σ = ⟨[some y], H⟩) 0 rfl (by simp [c']) hxl hkc rfl u hu _ _ r5 _ _ fun _ _ σ4 h4 tk4 e4 _ r6 => ?_)
      subst e4
      refine K.turn i y acc H H2.objs.size (under H2 σ X₂) hy hJ hon.keep _ _ r6 _ _ fun b okk σ5 h5 tk5 hW hb r7 => ?_
      subst hb
      cases okk with
      | false =>
        simp only [Bool.false_eq_true, if_false] at hW ⊢
        obtain ⟨H', hsub, hJ'⟩ := hW
        exact ⟨items.length + 1 - (i + 1), by omega, i + 1, acc, H', us, nn, o2, h5, tk5, rfl, hlt, hJ', by omega, hus, ho2, r7.weak hsub (fun j v e => by cases j <;> simp at e), rfl⟩
      | true =>
        simp only [if_true] at hW ⊢
        refine hW _ _ r7 _ _ fun v a σ6 h6 tk6 hp hv r8 => ?_
        obtain ⟨H', hsub, hJ'⟩ := hp
        have hD := r8.ext (s.heap.objs.size, { cls := .type "list", data := .seq us.toArray nn }) (by simp)
        refine append_at hD (fun h7 hs7 ho7 => ?_) (by have := K.size; rw [List.size_toArray, ← hus.length]; omega)
        have r9 := R.updX (pre := [(I, o2)]) r8 (fun b ob hb e => (hs7.2 b hb).trans e) ho7
        have r10 := r9.weak hsub (V := [none]) (fun j v e => by cases j <;> simp at e)
        refine ⟨items.length + 1 - (i + 1), by omega, i + 1, acc ++ [v], H', us ++ [a], nn + 1, o2, h7, tk6, rfl, hlt, hJ', by simp; omega, hus.append (.cons hv .nil), ho2, ?_, rfl⟩
        simpa using r10
    · have hin : i = items.length := by omega
      subst hin
      refine N.done ho1 (K.cond _ _ _ _ hJ) r4 fun h3 tk3 r5 => ?_
      obtain ⟨m, F, _⟩ := r5.fr
      obtain ⟨oC, es, ep, hoC, hns⟩ := id F.ns
      have r6 := (r5.out hon fun _ q => .inl q).take (mo := .list acc) (.list nn hus)
      refine hRR _ _ oC m acc H h3 tk3 hJ hoC F.ns (r6.addX hoC (fun q => ?_) (fun q => ?_) ?_)
      · have q' : H2.objs.size ∈ keys H ++ keys ((s.heap.objs.size, ({ cls := .type "list", data := .seq us.toArray nn } : Obj)) :: X) := List.perm_middle.mem_iff.mpr q
        exact (r5.off _ q').1 rfl
      · obtain ⟨mm, hmm, _⟩ := hon.ns
        have := hmm.lt
        rw [under_size] at this
        rw [← q] at this
        exact Nat.lt_irrefl _ this
      · cases e : c.g.get? H2.objs.size with
        | none => rfl
        | some ob =>
          obtain ⟨_, e1, _⟩ := hon.keep _ _ e
          have := Heap.lt_size e1
          rw [under_size] at this
          exact absurd this (Nat.lt_irrefl _)
  exact codeAny_compStart_list (loop _ rfl rfl) (N.self ho (K.cond _ _ _ [none] K.start) (s := { s with heap := h₁, toks := _ }) r3 (loop _ rfl rfl))

theorem ListComp_ {P : MV → St → Prop} (ok : CompOk c scope cl x iter)
    (h : WE c (eval iter c.env) σ fun v σ1 => ∃ items Cond J, Itb c v σ1 items Cond ∧ Comp c scope cl x ifs elt items Cond σ1.heap J ∧ ∀ acc H D, J items.length acc H → P (.ref D) ⟨σ1.vars, (D, .list acc) :: H⟩) :
    WE c (eval (.ListComp elt [⟨.Name x px, iter, ifs, 0⟩] scope pos) c.env) σ P := by
  intro X s r Q E k
  rw [eval_ListComp]
  refine wpAny_comprehension_free (use := none) rfl ok.set ok.clos ok.kind ok.names (h X s r _ _ fun b a σ1 h1 tk1 hp ha r1 => ?_)
  obtain ⟨items, Cond, J, I, K, hP⟩ := hp
  refine I.go ha r1 fun It o h2 tk2 Io N ho r2 _ _ => ?_
  refine comp_block (RR := fun acc C => compPost (model c.prog c.w) c.A E none Q acc C) ok K N ho r2 fun D C oC m acc H h3 tk3 hJ hC hn r3 => ?_
  exact ⟨m, hn, fun h' hs => k _ _ _ h' tk3 (hP acc H D hJ) (.val _) (r3.endX fun b ob hb e => (hs.2 b hb).trans e)⟩

theorem AssignComp_ {y : Str} {py spos : Pos} {P : MF → St → Prop} (ok : CompOk c scope cl x iter)
    (hsw : swapsWith (.ListComp elt [⟨.Name x px, iter, ifs, 0⟩] scope pos) (some (.Name y py)) spos.line c.env = Pure.pure true)
    (h : WE c (eval iter c.env) σ fun v σ1 => ∃ items Cond J, Itb c v σ1 items Cond ∧ Comp c scope cl x ifs elt items Cond σ1.heap J ∧ ∀ acc H D, J items.length acc H → WA c (.Name y py) (.ref D) ⟨σ1.vars, (D, .list acc) :: H⟩ fun σ2 => P .next σ2) :
    WF c (exec (.Assign [.Name y py] (.ListComp elt [⟨.Name x px, iter, ifs, 0⟩] scope pos) spos) c.env) σ P := by
  intro X s r Q E k
  rw [exec_Assign_Name_used _ _ _ _ hsw]
  refine wpAny_bind (wpAny_standAt (wpAny_bind ?_))
  show wpAny _ c.A (do let _ ← comprehension (.ListComp elt [⟨.Name x px, iter, ifs, 0⟩] scope pos) scope c.env _ (newList []) false (eval iter c.env) (some (assign (.Name y py) c.env))) _ _ s
  refine wpAny_bind (wpAny_mono (wpAny_comprehension_free (use := some (assign (.Name y py) c.env)) (Q := fun _ s' => Q .next s') rfl ok.set ok.clos ok.kind ok.names (h X s r _ E fun b a σ1 h1 tk1 hp ha r1 => ?_)) (fun _ s' hq => wpAny_pure (wpAny_pure hq)) fun _ _ e => e)
  obtain ⟨items, Cond, J, I, K, hP⟩ := hp
  refine I.go ha r1 fun It o h2 tk2 Io N ho r2 _ _ => ?_
  refine comp_block (RR := fun acc C => compPost (model c.prog c.w) c.A E (some (assign (.Name y py) c.env)) (fun _ s' => Q .next s') acc C) ok K N ho r2 fun D C oC m acc H h3 tk3 hJ hC hn r3 => ?_
  show wpAny _ c.A (assign (.Name y py) c.env (.ref D)) _ _ _
  refine hP acc H D hJ _ (.val _) _ _ r3 _ _ fun _ _ σ4 h4 tk4 hp4 _ r4 => ?_
  have hC4 := r4.ext _ (List.mem_cons_self ..)
  obtain ⟨oC', es, ep, e1, e2⟩ := hn
  rw [hC] at e1
  cases e1
  exact ⟨m, ⟨oC, es, ep, hC4, e2⟩, fun h' hs => k _ _ σ4 h' tk4 hp4 .next (r4.endX fun b ob hb e => (hs.2 b hb).trans e)⟩
end
section
variable {c : Cx} {σ : St} {P : Bool → St → Prop}
theorem tests_nil (h : P true σ) : WB c (testsOf [] c.env) σ P := by
  unfold testsOf
  rw [List.forIn_nil]
  exact W.pure h rfl
theorem tests_one {t : Expr} (h : WB c (isTrue t c.env (eval t c.env)) σ P) : WB c (testsOf [t] c.env) σ P := by
  unfold testsOf
  intro X s r Q E k
  rw [List.forIn_cons]
  refine wpAny_bind ?_
  simp only [if_true]
  refine wpAny_bind (h X s r _ _ fun b a σ' h' tk hp hb r' => ?_)
  refine wpAny_pure ?_
  show wpAny _ _ (forIn [] _ _) _ _ _
  rw [List.forIn_nil]
  exact wpAny_pure (k b a σ' h' tk hp hb r')
end
end
section
open PySem PySem.Spec PySem.Calls PyProof.Rows PySem.W
set_option maxRecDepth 100000
section
variable {prog : Program} {w : World} {A : Around} {E : Value → Shared → Prop} {s : Shared}
theorem collect_range {Q : List Value → Shared → Prop} {r : Addr} {a b c : Int} {t u v : Tok} {n : Nat} (hh : A.handled = none) (hr : IsRange s.heap r a b c t u v) (hsm : Builtin.Range.small a b c = true)
    (hn : Builtin.Range.rangeSize a b c = n) (hlen : n ≤ 2 ^ 24)
    (h : ∀ h' tk (acc : Array Value), (∀ b o, s.heap.get? b = some o → h'.get? b = some o) → ItemsOf (fun i v => ∃ t, v = .int (a + i * c) t) acc n → Q acc.toList { s with heap := h', toks := tk }) :
    wpAny (model prog w) A (collect (.ref r)) Q E s := by
  unfold collect
  refine wpAny_bind (wpAny_runValue (codeAny_builtin F.entry_proto_collect ?_))
  rw [Around.under_plainId F.plain_proto_collect _]
  show wpAny _ A.in1 (newList [] >>= fun l => again (.builtin "list.__iadd__" ⟨[l, .ref r], []⟩)) _ _ s
  refine wpAny_bind (wpAny_newObj_type ?_)
  refine wpAny_pure ⟨plainId_quiet F.plain_list_iadd _, codeAny_builtin F.entry_list_iadd ?_⟩
  rw [Around.under_plainId F.plain_list_iadd _]
  show wpAny _ A.in1 (Builtin.List.listExtendWith (.ref s.heap.objs.size) (.ref r) (.ref s.heap.objs.size)) _ _ _
  have hS : (s.heap.push { cls := .type "list", data := .seq ([] : List Value).toArray }).get? s.heap.objs.size = some { cls := .type "list", data := .seq #[] } := Heap.get?_push_size _ rfl
  have fin' : ∀ h' tk (acc : Array Value) c', (∀ b o, b ≠ s.heap.objs.size → (s.heap.push { cls := .type "list", data := .seq ([] : List Value).toArray }).get? b = some o → h'.get? b = some o) →
      h'.get? s.heap.objs.size = some { cls := .type "list", dict := none, data := .seq acc c', slots := #[] } → ItemsOf (fun i v => ∃ t, v = .int (a + i * c) t) acc n →
      wpAny (model prog w) A (do
        match (← load s.heap.objs.size).data with
        | .seq xs _ => Pure.pure xs.toList
        | _ => unsupported "internal:collect") Q E { s with heap := h', toks := tk } := fun h' tk acc c' hk hS' hacc => by
    refine wpAny_bind (wpAny_load hS' ?_)
    exact wpAny_pure (h h' tk acc (fun b o e => hk b o (Nat.ne_of_lt (Heap.lt_size e)) (Heap.get?_push_of_some _ e)) hacc)
  refine wpAny_mono (wpAny_extend_range (R := fun r s' => r = .ok (.ret (.ref s.heap.objs.size)) ∧ ∃ h' tk acc c', s' = { s with heap := h', toks := tk } ∧ (∀ b o, b ≠ s.heap.objs.size → (s.heap.push { cls := .type "list", data := .seq ([] : List Value).toArray }).get? b = some o → h'.get? b = some o) ∧
      h'.get? s.heap.objs.size = some { cls := .type "list", dict := none, data := .seq acc c', slots := #[] } ∧ ItemsOf (fun i v => ∃ t, v = .int (a + i * c) t) acc n)
    (s := { s with heap := s.heap.push { cls := .type "list", data := .seq ([] : List Value).toArray } }) hh (Heap.get?_push_of_some _ hr) hsm hn hlen s.heap.objs.size (.ref s.heap.objs.size) 0 hS fun h' tk acc c' hk hS' hacc => ⟨rfl, h', tk, acc, c', rfl, hk, hS', hacc⟩) (fun fin s' hf => ?_) (fun e s' hf => ?_)
  · cases fin with
    | done f =>
      obtain ⟨e, h', tk, acc, c', rfl, h1, h2, h3⟩ := hf
      cases e
      exact fin' h' tk acc c' h1 h2 h3
    | again c' => exact ⟨hf.1, codeAny_mono hf.2 fun r s'' hr => by
        obtain ⟨rfl, h', tk, acc, c', rfl, h1, h2, h3⟩ := hr
        exact fin' h' tk acc c' h1 h2 h3⟩
  · exact absurd hf.1 (by simp)

theorem meets_tuple_range (r : Addr) (a b c : Int) (t u v : Tok) (n : Nat) (hsm : Builtin.Range.small a b c = true) (hn : Builtin.Range.rangeSize a b c = n) (hlen : n ≤ 2 ^ 24) :
    Meets (Builtin.«tuple.__new__» ⟨[.type "tuple", .ref r], []⟩)
      (fun A R s => A.handled = none ∧ IsRange s.heap r a b c t u v ∧ ∀ (h' : Heap) (tk : Nat) (acc : Array Value), (∀ b o, s.heap.get? b = some o → h'.get? b = some o) → ItemsOf (fun i v => ∃ t, v = .int (a + i * c) t) acc n →
        R (.ok (.ret (.ref h'.objs.size))) { s with heap := h'.push { cls := .type "tuple", data := .seq acc }, toks := tk }) :=
  .of_wp fun prog w A R s h => by
    obtain ⟨hp, g, d, tk, os⟩ := s; obtain ⟨hh, hr, h⟩ := h
    have hsub := sub_tuple_self
    have hinit := init_tuple_lookup
    have hmh := madeHere_tuple
    have hT : Shared.TypeIs ⟨hp, g, d, tk, os⟩ (.ref r) "range" := ⟨_, hr, rfl⟩
    wp_walk using AutoSeq1.wpAny_loadPart' hr, wpAny_typeOf hT, collect_range (prog := prog) (w := w) (A := A.in1) hh hr hsm hn hlen
    intro h' tk' acc hk hacc
    show wpAny _ _ (Builtin.Tuple.tupleExact acc.toList.toArray >>= fun v => ret v) _ _ _
    unfold Builtin.Tuple.tupleExact
    refine wpAny_bind (wpAny_newObj_type ?_ (by show acc.toList.toArray.size ≤ sizeLine; simp only [Array.toArray_toList]; rw [hacc.1]; simpa [sizeLine] using hlen))
    refine wpAny_pure ⟨_, rfl, ?_⟩
    have e : acc.toList.toArray = acc := by simp
    rw [e]
    exact h h' tk' acc hk hacc
theorem call_tuple_range {Q : Value → Shared → Prop} {r : Addr} {a b c : Int} {t u v : Tok} {n : Nat} (hh : A.handled = none) (hr : IsRange s.heap r a b c t u v) (hsm : Builtin.Range.small a b c = true)
    (hn : Builtin.Range.rangeSize a b c = n) (hlen : n ≤ 2 ^ 24)
    (h : ∀ (h' : Heap) (tk : Nat) (acc : Array Value), (∀ b o, s.heap.get? b = some o → h'.get? b = some o) → ItemsOf (fun i v => ∃ t, v = .int (a + i * c) t) acc n →
      Q (.ref h'.objs.size) { s with heap := h'.push { cls := .type "tuple", data := .seq acc }, toks := tk }) :
    wpAny (model prog w) A (call (.type "tuple") [.ref r]) Q E s :=
  callType_new F.called_tuple (by decide) (F.typeCall_tuple_1 _) (F.newCall_tuple_1 _) (fun obj => F.args_object_init_2 obj _) F.entry_tuple_new
    (meets_tuple_range r a b c t u v n hsm hn hlen) ⟨hh, hr, fun h' tk acc hk hacc => ⟨⟨_, Heap.get?_push_size _ rfl, rfl⟩, h h' tk acc hk hacc⟩⟩
end
end
section
open PySem PySem.Spec PySem.Calls PyProof.Rows PySem.W
section
variable {prog : Program} {w : World} {A : Around} {E : Value → Shared → Prop} {s : Shared}
set_option maxRecDepth 100000 in
set_option maxHeartbeats 3200000 in
/-- a set of a tuple of ints -/
theorem call_set_tuple {l : Addr} {items : Array Value} {ns : List Int} {Q : Value → Shared → Prop}
    (hh : A.handled = none) (hl : s.heap.get? l = some { cls := .type "tuple", data := .seq items }) (hi : IntsAre items.toList ns) (hb : items.size + 1 < scanBound)
    (h : ∀ (h' : Heap) (tk : Nat), h'.SetOf (intKind prog w) s.heap.objs.size (fun k' => (firstMet (fun i => ns.getD i 0) items.size).any (· == k')) (firstMet (fun i => ns.getD i 0) items.size).length →
      (∀ b o, b < s.heap.objs.size → s.heap.get? b = some o → h'.get? b = some o) → Q (.ref s.heap.objs.size) { s with heap := h', toks := tk }) :
    wpAny (model prog w) A (call (.type "set") [.ref l]) Q E s := by
  obtain ⟨c, tl, hmro⟩ := F.called_set.mro
  have hmade := F.called_set.made
  have hsub := F.called_set.sub
  refine wpAny_call (codeAny_of_tree ?_)
  show wpAny _ _ (callAny (.type "set") _) _ _ _
  refine wpAny_pure ⟨Code.quiet_builtin _ (by decide +kernel), codeAny_builtin F.entry_type_call ?_⟩
  rw [Around.under_plain (weight_type_call_type "set" [.ref l] []) rfl]
  have h1 := F.called_set.notType
  have h2 := F.called_set.canCreate
  have hct := F.typeCall_set_1 (.ref l)
  repeat (any_goals (first | assumption | wp_step))
  refine codeAny_mono (code_set_new_1 (.ref l) (E := E) (Q₁ := fun obj s₁ => ∃ led : Bool, obj = .ref s.heap.objs.size ∧ s₁ = { s with heap := s.heap.push { cls := .type "set", dict := none, data := .set #[] 0 (.fresh 0 0 led) } }) fun led => ⟨led, rfl, rfl⟩) fun r s₁ hr => ?_
  cases r with
  | error e => exact hr
  | ok fl =>
    cases fl with
    | ret obj =>
      obtain ⟨led, rfl, rfl⟩ := hr
      have hS : (s.heap.push { cls := .type "set", dict := none, data := .set #[] 0 (.fresh 0 0 led) }).get? s.heap.objs.size = some { cls := .type "set", dict := none, data := .set #[] 0 (.fresh 0 0 led) } := Heap.get?_push_size _ rfl
      have hT : Shared.TypeIs { s with heap := s.heap.push { cls := .type "set", dict := none, data := .set #[] 0 (.fresh 0 0 led) } } (.ref s.heap.objs.size) "set" := ⟨_, hS, rfl⟩
      have hli := F.called_set.init.lookup
      have hbi := F.called_set.init.bind (.ref s.heap.objs.size)
      repeat (any_goals (first | assumption | wp_step))
      refine codeAny_mono (codeAny_call_builtin (R := wants (fun r s₂ => r = .none ∧ ∃ h' tk, s₂ = { s with heap := h', toks := tk } ∧
          h'.SetOf (intKind prog w) s.heap.objs.size (fun k' => (firstMet (fun i => ns.getD i 0) items.size).any (· == k')) (firstMet (fun i => ns.getD i 0) items.size).length ∧
          (∀ b o, b < s.heap.objs.size → s.heap.get? b = some o → h'.get? b = some o)) E) F.called_set.init.plain F.entry_set_init (check_set_init_1 hT ?_)) fun r₂ s₂ hr₂ => ?_
      · have hol' : (s.heap.push { cls := .type "set", dict := none, data := .set #[] 0 (.fresh 0 0 led) }).get? l = some { cls := .type "tuple", data := .seq items } := Heap.get?_push_of_some _ hl
        have hsls := F.sub_tuple_set
        have hslf := F.sub_tuple_frozenset
        have hne : (Value.type "tuple" == Value.type "dict") = false := by decide
        have hl1 : (s.heap.push { cls := .type "set", dict := none, data := .set #[] 0 (.fresh 0 0 led) }).IsTuple l items := ⟨_, hol', rfl, _, rfl⟩
        unfold Builtin.«set.__init__» noKeywords Builtin.Frozenset.updateFrom
        generalize hPI : pyIter = PI
        wp_walk
        subst hPI
        refine wpAny_pyIter_tuple hl1 ?_
        refine wpAny_bind (wpAny_runValue ?_)
        have hlS : l < s.heap.objs.size := Heap.lt_size hl
        have hh3 : A.in1.in1.in1.handled = none := by simp [hh]
        have hneI : l ≠ (s.heap.push { cls := .type "set", dict := none, data := .set #[] 0 (.fresh 0 0 led) }).objs.size := by
          rw [Heap.size_push]; exact Nat.ne_of_lt (Nat.lt_succ_of_lt hlS)
        have hSf : s.heap.objs.size ∉ [(s.heap.push { cls := .type "set", dict := none, data := .set #[] 0 (.fresh 0 0 led) }).objs.size, l] := by
          rw [Heap.size_push]; simp only [List.mem_cons, List.not_mem_nil, or_false, not_or]
          exact ⟨Nat.ne_of_lt (Nat.lt_succ_self _), Nat.ne_of_gt hlS⟩
        have hval : ∀ (i : Nat) (v : Value), items[i]? = some v → ∃ t, v = .int ((fun i => ns.getD i 0) i) t := fun i v hv =>
          IntsAre.int_at hi i v (by rw [Array.getElem?_toList]; exact hv)
        refine codeAny_set_update_loopS ((Walks.tuple hh3 _ l hneI items).toS) s.heap.objs.size
          hSf (fun i => ns.getD i 0) hval hb (items.size - 0) 0 _ (by omega) (Nat.zero_le _)
          ⟨⟨_, Heap.get?_push_size _ rfl, rfl, rfl⟩, (hl1.push _)⟩ ?hS0 ?hR
        case hS0 =>
          have hget : ((s.heap.push { cls := .type "set", dict := none, data := .set #[] 0 (.fresh 0 0 led) }).push { cls := .type "tuple_iterator", data := .fields #[.ref l, .int 0 0] }).get? s.heap.objs.size
              = some { cls := .type "set", dict := none, data := .set #[] 0 (.fresh 0 0 led) } := Heap.get?_push_of_some _ hS
          exact SetOf_congr ((setObjOf_fresh (knd := intKind prog w) led).setOf hget (by unfold scanBound; omega)) (fun _ => rfl) rfl
        case hR =>
          intro s' hm hS'
          obtain ⟨h', g', d', tk', os'⟩ := s'
          have eg : g' = s.gens := hm.gens
          have ed : d' = s.drawn := hm.drawn
          have eo : os' = s.os := hm.os
          subst eg; subst ed; subst eo
          show wpAny _ _ _ _ _ _
          refine wpAny_pure ?_
          show wpAny _ _ (ret Value.none) _ _ _
          refine wpAny_pure ⟨rfl, h', tk', rfl, hS', fun b o hb e => ?_⟩
          have hb1 : b ≠ s.heap.objs.size := Nat.ne_of_lt hb
          have hb2 : b ≠ (s.heap.push { cls := .type "set", dict := none, data := .set #[] 0 (.fresh 0 0 led) }).objs.size := by
            rw [Heap.size_push]; exact Nat.ne_of_lt (Nat.lt_succ_of_lt hb)
          exact hm.heap b o (by simp only [List.mem_cons, List.not_mem_nil, or_false, not_or]; exact ⟨hb1, hb2⟩) (Heap.get?_push_of_some _ (Heap.get?_push_of_some _ e))
      · cases r₂ with
        | error e => exact hr₂
        | ok fl₂ =>
          cases fl₂ with
          | ret r =>
            obtain ⟨rfl, h', tk, rfl, hS', hk'⟩ := hr₂
            repeat (any_goals (first | assumption | wp_step))
            exact h _ _ hS' hk'
          | _ => exact hr₂.elim
    | _ => exact hr.elim
end
end
section
open PySem PySem.Spec PySem.Calls PyProof.Rows PySem.W
abbrev IL (ns : List Int) : List MV := ns.map .int
theorem VRs.ints : ∀ {ns us}, VRs (IL ns) us → IntsAre us ns
  | [], _, h => by cases h; exact .nil
  | n :: ns, _, h => by cases h with | cons h1 h2 => cases h1; exact .cons _ _ h2.ints
theorem VRs.ofInts : ∀ {us ns}, IntsAre us ns → VRs (IL ns) us
  | _, _, .nil => .nil
  | _, _, .cons _ _ h => .cons (.int _ _) (VRs.ofInts h)
section
variable {c : Cx} {σ : St}
theorem Expr_' {e : Expr} {pos : Pos} {P : MF → St → Prop} (hi : interactive c.env = false) (hs : swapsWith e none pos.line c.env = Pure.pure false) (h : WE c (eval e c.env) σ fun _ σ1 => P .next σ1) : WF c (exec (.Expr e pos) c.env) σ P := by
  intro X s r Q E k
  exact wpAny_Expr_any (h X s r _ _ fun b a σ' h' tk hp ha r' => k _ _ σ' h' tk hp .next r') hi hs

/-- stores one after the other -/
def WAs (c : Cx) : List Expr → List MV → St → (St → Prop) → Prop
  | [], [], σ, P => P σ
  | t :: ts, v :: vs, σ, P => WA c t v σ fun σ' => WAs c ts vs σ' P
  | _, _, _, _ => False
theorem WAs.run : ∀ {ts : List Expr} {vs : List MV} {us : List Value} {σ : St} {P : St → Prop}, WAs c ts vs σ P → VRs vs us → ∀ (fs : List (Value → Sem Unit)), fs = ts.map (fun t => assign t c.env) → WU c (assignInOrder fs us) σ fun _ => P
  | [], [], _, σ, P, h, hu, fs, e => by
    cases hu; subst e
    intro X s r Q E k
    exact wpAny_pure (k () _ σ s.heap s.toks h trivial r)
  | t :: ts, v :: vs, _, σ, P, h, hu, fs, e => by
    cases hu with | cons h1 h2 =>
    subst e
    intro X s r Q E k
    show wpAny _ _ (do holding _ (assign t c.env _); assignInOrder _ _) _ _ s
    refine wpAny_bind (wpAny_holding (h _ h1 X s r _ _ fun _ _ σ' h' tk hp _ r' => ?_))
    exact WAs.run hp h2 _ rfl X _ r' _ _ fun d e σ'' h'' tk'' hp' he r'' => k d e σ'' h'' tk'' hp' he r''
  | [], _ :: _, _, _, _, h, _, _, _ => h.elim
  | _ :: _, [], _, _, _, h, _, _, _ => h.elim
theorem assign_tuple {elts : List Expr} {k : Nat} {pos : Pos} {a : Addr} {vs : List MV} {P : St → Prop} (hh : c.A.handled = none) (hm : (a, MO.tuple vs) ∈ σ.heap) (hE : assignEach elts c.env = elts.map fun t => (false, assign t c.env)) (hn : elts.length = vs.length)
    (h : WAs c elts vs σ P) : WA c (.Tuple elts k pos) (.ref a) σ P := by
  intro u hu X s r Q E kk
  cases hu
  obtain ⟨us, hr, ht⟩ := r.tup hm
  refine assign_Tuple_tuple hh ht (by rw [hE, List.length_map, hn, hr.length, List.size_toArray]) ?_ fun h' he => ?_
  · rw [hE]
    clear h hE hn
    rw [List.findIdx?_eq_none_iff]
    intro x hx
    obtain ⟨y, _, rfl⟩ := List.mem_map.mp hx
    rfl
  · have r' : R c X σ h' := r.but [s.heap.objs.size] (fun b hb => by cases List.mem_singleton.mp hb; exact r.fresh (Heap.get?_none_of_le (Nat.le_refl _))) (fun b o hb e => he b o (fun q => hb (q ▸ List.mem_singleton_self _)) e)
    exact h.run hr _ (by rw [hE, List.map_map]; rfl) X { s with heap := h' } r' Q E kk
theorem AssignTuple_ {elts : List Expr} {k : Nat} {tpos pos : Pos} {value : Expr} {P : MF → St → Prop} (hs : swapsWithSole [.Tuple elts k tpos] value pos.line c.env = Pure.pure false) (hw : swappedStores [.Tuple elts k tpos] value c.env = Pure.pure none)
    (h : WE c (eval value c.env) σ fun v σ1 => WA c (.Tuple elts k tpos) v σ1 fun σ2 => P .next σ2) : WF c (exec (.Assign [.Tuple elts k tpos] value pos) c.env) σ P := by
  intro X s r Q E kk
  exact Assign_Tuple (h X s r _ _ fun b a σ' h' tk hp ha r' => hp a ha X _ r' _ _ fun d e σ'' h'' tk'' hp' he r'' => kk _ _ σ'' h'' tk'' hp' .next r'') hs hw
/-- stores of names, one after the other -/
def WSs (c : Cx) : List Str → List MV → St → (St → Prop) → Prop
  | [], [], σ, P => P σ
  | x :: xs, v :: vs, σ, P => WS c x v σ fun σ' => WSs c xs vs σ' P
  | _, _, _, _ => False
theorem WSs.run : ∀ {xs : List Str} {vs : List MV} {us : List Value} {σ : St} {P : St → Prop}, WSs c xs vs σ P → VRs vs us → WU c (assignInOrder (xs.map fun n => bindName c.env n) us) σ fun _ => P
  | [], [], _, σ, P, h, hu => by
    cases hu
    intro X s r Q E k
    exact wpAny_pure (k () _ σ s.heap s.toks h trivial r)
  | x :: xs, v :: vs, _, σ, P, h, hu => by
    cases hu with | cons h1 h2 =>
    intro X s r Q E k
    show wpAny _ _ (do holding _ (bindName c.env x _); assignInOrder _ _) _ _ s
    refine wpAny_bind (wpAny_holding (wpAny_bindName (h _ h1 X s r _ _ fun _ _ σ' h' tk hp _ r' => ?_)))
    exact WSs.run hp h2 X _ r' _ _ fun d e σ'' h'' tk'' hp' he r'' => k d e σ'' h'' tk'' hp' he r''
  | [], _ :: _, _, _, _, h, _ => h.elim
  | _ :: _, [], _, _, _, h, _ => h.elim
theorem AssignSwap_ {elts : List Expr} {k : Nat} {tpos pos : Pos} {value : Expr} {P : MF → St → Prop} (names : List Str) (hh : c.A.handled = none) (hs : swapsWithSole [.Tuple elts k tpos] value pos.line c.env = Pure.pure false) (hw : swappedStores [.Tuple elts k tpos] value c.env = Pure.pure (some names))
    (h : WE c (eval value c.env) σ fun v σ1 => ∃ a vs, v = .ref a ∧ (a, MO.tuple vs) ∈ σ1.heap ∧ names.length = vs.length ∧ WSs c names.reverse vs.reverse σ1 fun σ2 => P .next σ2) : WF c (exec (.Assign [.Tuple elts k tpos] value pos) c.env) σ P := by
  intro X s r Q E kk
  refine Assign_Tuple_swapped (h X s r _ _ fun b a σ' h' tk hp ha r' => ?_) hs hw
  obtain ⟨t, vs, rfl, hm, hn, hW⟩ := hp
  cases ha
  obtain ⟨us, hr, ht⟩ := r'.tup hm
  have hn' : names.length = us.toArray.size := by rw [hn, hr.length, List.size_toArray]
  rw [hn']
  refine unpackItems_tuple hh ht fun h1 he => ?_
  have r1 : R c X σ' h1 := r'.but [h'.objs.size] (fun b hb => by cases List.mem_singleton.mp hb; exact r'.fresh (Heap.get?_none_of_le (Nat.le_refl _))) (fun b o hb e => he b o (fun q => hb (q ▸ List.mem_singleton_self _)) e)
  exact hW.run (us := us.toArray.toList.reverse) hr.reverse X { s with heap := h1, toks := tk } r1 _ _ fun d e σ'' h'' tk'' hp' he r'' => kk _ _ σ'' h'' tk'' hp' .next r''

/-- a BoolOp's value -/
def WBO (c : Cx) (pos : Pos) (op : BoolOp) (ts : List (Sem Value)) (σ : St) (P : MV → St → Prop) : Prop := WE c (boolOp pos op ts) σ P
theorem BoolOp_' {op : BoolOp} {es : List Expr} {pos : Pos} {P : MV → St → Prop} (h : WBO c pos op (evalEach es c.env) σ P) : WE c (eval (.BoolOp op es pos) c.env) σ P := by
  rw [show eval (.BoolOp op es pos) c.env = boolOp pos op (evalEach es c.env) from rfl]
  exact h
theorem bo_one {op : BoolOp} {e : Expr} {pos : Pos} {P : MV → St → Prop} (h : WE c (eval e c.env) σ P) : WBO c pos op (evalEach [e] c.env) σ P := h
theorem bo_and {e e' : Expr} {es : List Expr} {pos : Pos} {P : MV → St → Prop} (h : WE c (eval e c.env) σ fun v σ1 => WT c v σ1 fun b σ2 => if b = true then WBO c pos .And (evalEach (e' :: es) c.env) σ2 P else P v σ2) : WBO c pos .And (evalEach (e :: e' :: es) c.env) σ P := by
  intro X s r Q E k
  show wpAny _ _ (boolOp pos .And (eval e c.env :: eval e' c.env :: evalEach es c.env)) _ _ s
  unfold boolOp
  refine wpAny_bind (h X s r _ _ fun v a σ' h' tk hp ha r' => wpAny_bind (wpAny_standAt (wpAny_bind (wpAny_holding (hp a ha X _ r' _ _ fun b bb σ2 h2 tk2 hp2 hb r2 => ?_)))))
  subst hb
  cases bb with
  | true =>
    simp only [if_true] at hp2
    exact hp2 X _ r2 _ _ fun d e σ'' h'' tk'' hp' he r'' => k d e σ'' h'' tk'' hp' he r''
  | false =>
    simp only [Bool.false_eq_true, if_false] at hp2
    exact wpAny_pure (k _ _ _ h2 tk2 hp2 ha r2)

/-- a list's truth -/
theorem truth_list {a : Addr} {vs : List MV} {P : Bool → St → Prop} (hm : (a, MO.list vs) ∈ σ.heap) (hz : vs.length ≤ sizeLine) (h : P (!vs.isEmpty) σ) : WT c (.ref a) σ P := by
  intro u hu X s r Q E k
  cases hu
  obtain ⟨us, hr, hl⟩ := r.list hm
  have e : us.toArray.size = vs.length := by simp [hr.length]
  refine wpAny_truthy_list hl (by rw [e]; exact Int.lt_of_le_of_lt (Int.ofNat_le.mpr hz) (by decide)) ?_
  have e2 : us.toArray.isEmpty = vs.isEmpty := by
    cases hr <;> simp
  rw [e2]
  exact k _ _ σ s.heap _ h rfl r
end
section
variable {c : Cx} {σ : St} {P : MV → St → Prop}
/-- lists put one behind the other -/
theorem b_lists {a b : Addr} {vs ws : List MV} (hm : (a, MO.list vs) ∈ σ.heap) (hm' : (b, MO.list ws) ∈ σ.heap) (hz : vs.length + ws.length ≤ sizeLine) (h : ∀ l, P (.ref l) { σ with heap := (l, .list (vs ++ ws)) :: σ.heap }) : W2 c (binaryOp .Add) (.ref a) (.ref b) σ P := by
  intro u w hu hw X s r Q E k
  cases hu; cases hw
  obtain ⟨us, hr, hl⟩ := r.list hm
  obtain ⟨ws', hr', hl'⟩ := r.list hm'
  obtain ⟨X₂, l, m, F, V, N⟩ := r.lr
  refine add_lists F N hl hl' (fun h' F' N' => ?_) (by rw [← hr.length, ← hr'.length]; exact hz)
  have f := r.fresh (a := s.heap.objs.size) (Heap.get?_none_of_le (Nat.le_refl _))
  have r' : R c X { σ with heap := (s.heap.objs.size, .list (vs ++ ws)) :: σ.heap } h' :=
    r.relr (X₂ := (s.heap.objs.size, _) :: X₂) (.cons (.list 0 (hr.append hr')) l) F' V N' (List.nodup_cons.mpr ⟨f.1, r.nd⟩)
  exact k _ _ _ h' s.toks (h s.heap.objs.size) (.val _) r'
/-- an int among ints -/
theorem c_in_list {a : Addr} {ns : List Int} {k : Int} (hm : (a, MO.list (IL ns)) ∈ σ.heap) (h : P (.bool (ns.any (· == k))) σ) : W2 c (compareOp .In) (.int k) (.ref a) σ P := by
  intro u w hu hw X s r Q E kk
  cases hu; cases hw
  obtain ⟨us, hr, hl⟩ := r.list hm
  exact in_list_ints hl hr.ints (kk _ _ σ s.heap s.toks h (.bool _) r)
theorem c_notin_list {a : Addr} {ns : List Int} {k : Int} (hm : (a, MO.list (IL ns)) ∈ σ.heap) (h : P (.bool (!ns.any (· == k))) σ) : W2 c (compareOp .NotIn) (.int k) (.ref a) σ P := by
  intro u w hu hw X s r Q E kk
  cases hu; cases hw
  obtain ⟨us, hr, hl⟩ := r.list hm
  exact notin_list_ints hl hr.ints (kk _ _ σ s.heap s.toks h (.bool _) r)
/-- the least of ints -/
theorem min_l {a : Addr} {ns : List Int} (hh : c.A.handled = none) (hm : (a, MO.list (IL ns)) ∈ σ.heap) (hn : 0 < ns.length) (h : ∀ M, M ∈ ns → (∀ b, b ∈ ns → M ≤ b) → P (.int M) σ) : WC c (.builtin "min") [.ref a] σ P := by
  intro us hu X s r Q E k
  obtain ⟨_, rfl, h1⟩ := hu.one; cases h1
  obtain ⟨us, hr, hl⟩ := r.list hm
  obtain ⟨X₂, l, m, F, V, N⟩ := r.lr
  refine min_list_N hh F N hl hr.ints hn fun h' M t tk F' N' h1 h2 => ?_
  exact k _ _ σ h' tk (h M h1 h2) (.int _ _) (r.relr l F' V N' r.nd)
/-- the first place of an int -/
theorem index_l {a : Addr} {ns : List Int} {k : Int} {j : Nat} (hm : (a, MO.list (IL ns)) ∈ σ.heap) (hj : ns[j]? = some k) (hf : ∀ i, i < j → ns[i]? ≠ some k) (hz : ns.length ≤ sizeLine) (h : P (.int j) σ) : WC c (.builtin "list.index") [.ref a, .int k] σ P := by
  intro us hu X s r Q E kk
  obtain ⟨_, _, rfl, h1, h2⟩ := hu.two; cases h1; cases h2
  obtain ⟨us, n, hr, hl⟩ := r.listX hm
  have hlen : us.length = ns.length := by rw [← hr.length]; simp
  have hjl : j < ns.length := (List.getElem?_eq_some_iff.mp hj).1
  rw [sizeLine] at hz
  have at_ : ∀ i (hi : i < us.length), ∃ (m : Int) (t : Tok), us[i] = .int m t ∧ ns[i]? = some m := fun i hi => by
    obtain ⟨v, e1, e2⟩ := hr.get' (List.getElem?_eq_getElem hi)
    simp only [IL, List.getElem?_map, Option.map_eq_some_iff] at e1
    obtain ⟨m, e3, rfl⟩ := e1
    generalize us[i] = u at e2
    cases e2
    exact ⟨m, _, rfl, e3⟩
  refine call_meets PySem.F.slot_list_index ⟨_, hl, rfl⟩ PySem.F.entry_list_index (PySem.F.args_list_index_2 _ _)
    (MeetsSeq.list_index a us.toArray n (.int k _) (isInt k) (fun y hy => ?_) j (by simpa [hlen] using hjl) (by omega) ?_ ?_) ⟨hl, kk _ _ σ s.heap _ h (.int _ _) r⟩
  · obtain ⟨i, hi, e⟩ := List.getElem_of_mem (Array.mem_toList_iff.mpr hy)
    have hi' : i < us.length := by simpa using hi
    obtain ⟨m, t, e1, _⟩ := at_ i hi'
    have e' : y = .int m t := by rw [← e]; simpa using e1
    subst e'
    exact MeetsSeq.EqGives.int m k t _
  · obtain ⟨m, t, e1, e2⟩ := at_ j (by omega)
    rw [hj] at e2; cases e2
    show isInt k us[j] = true
    rw [e1]; simp [isInt]
  · intro i hi hlt
    obtain ⟨m, t, e1, e2⟩ := at_ i (by simpa using hi)
    show isInt k us[i] = false
    rw [e1]
    have := hf i hlt
    rw [e2] at this
    simp only [isInt]
    simpa using this
/-- an int's text -/
theorem str_i {n : Int} (hn : n.natAbs.log2 < 1920) (h : P (.str (toString n)) σ) : WC c (.type "str") [.int n] σ P := by
  intro us hu X s r Q E k
  obtain ⟨_, rfl, h1⟩ := hu.one; cases h1
  exact PySem.P.str_of_int hn (k _ _ σ s.heap _ h (.str _ _) r)
/-- tuple(range) -/
theorem tuple_r {a : Addr} {lo hi st : Int} {n : Nat} (hh : c.A.handled = none) (hm : (a, MO.range lo hi st) ∈ σ.heap) (hsm : Builtin.Range.small lo hi st = true) (hn : Builtin.Range.rangeSize lo hi st = n) (hz : n ≤ 2 ^ 24)
    (h : ∀ t, P (.ref t) { σ with heap := (t, .tuple (rints lo st n)) :: σ.heap }) : WC c (.type "tuple") [.ref a] σ P := by
  intro us hu X s r Q E k
  obtain ⟨_, rfl, h1⟩ := hu.one; cases h1
  obtain ⟨o, e, q⟩ := r.obj _ hm
  cases q with
  | is q =>
  obtain ⟨t, u, v, rfl⟩ := q
  refine call_tuple_range hh (r := a) e hsm hn hz fun h' tk acc hk hacc => ?_
  have hv : VRs (rints lo st n) acc.toList := by
    obtain ⟨hs, hi⟩ := hacc
    clear k h
    have key : ∀ (l : List Value) (i m : Nat), l.length = m → (∀ (j : Nat) v, l[j]? = some v → ∃ t, v = .int (lo + ((i + j : Nat) : Int) * st) t) → VRs ((List.range m).map fun (j : Nat) => .int (lo + ((i + j : Nat) : Int) * st)) l := by
      intro l
      induction l with
      | nil => intro i m e _; subst e; exact .nil
      | cons v l ih =>
        intro i m e hv
        subst e
        rw [List.length_cons, List.range_succ_eq_map, List.map_cons, List.map_map]
        obtain ⟨t, ht⟩ := hv 0 v rfl
        subst ht
        refine .cons (.int _ _) ?_
        have := ih (i + 1) l.length rfl (fun j v hj => by
          obtain ⟨t, ht⟩ := hv (j + 1) v (by simpa using hj)
          exact ⟨t, by rw [ht]; congr 3; omega⟩)
        have e : (fun (j : Nat) => MV.int (lo + ((i + 1 + j : Nat) : Int) * st)) = ((fun (j : Nat) => MV.int (lo + ((i + j : Nat) : Int) * st)) ∘ Nat.succ) := by
          funext j; simp only [Function.comp]; congr 3; omega
        rw [← e]; exact this
    have := key acc.toList 0 n (by simpa using hs) (fun j v hj => by
      obtain ⟨t, ht⟩ := hi j v (by rw [← Array.getElem?_toList]; exact hj)
      exact ⟨t, by rw [ht]; simp⟩)
    simpa [rints] using this
  exact k _ _ _ _ tk (h _) (.val _) ((r.keeps hk).new (fun b o e => Heap.get?_push_of_some _ e) (Heap.get?_none_of_le (Nat.le_refl _)) (Heap.get?_push_size _ rfl) (by simpa using OR.tuple hv))
end
end
section
open PySem PySem.Spec PySem.Calls PyProof.Rows PySem.W
theorem R.swap2 {c X σ h h'} {e it : Addr} {oe oi oe' oi' : Obj} (r : R c ((e, oe) :: (it, oi) :: X) σ h) (hk : ∀ b o, b ∉ [e, it] → h.get? b = some o → h'.get? b = some o) (he : h'.get? e = some oe') (hi : h'.get? it = some oi') :
    R c ((e, oe') :: (it, oi') :: X) σ h' := by
  have ks : keys ((e, oe) :: (it, oi) :: X) = e :: it :: keys X := rfl
  have nd : (keys σ.heap ++ e :: it :: keys X).Nodup := r.nd
  have nH : ∀ a ∈ keys σ.heap, a ∉ [e, it] := fun a ha q => by
    have := (List.nodup_append.mp nd).2.2 a ha a
    rcases List.mem_cons.mp q with rfl | q
    · exact this (by simp) rfl
    · rw [List.mem_singleton.mp q] at this
      exact this (by simp) rfl
  have nX : ∀ a ∈ keys X, a ∉ [e, it] := fun a ha q => by
    have n2 := (List.nodup_append.mp nd).2.1
    have n3 := List.nodup_cons.mp n2
    have n4 := List.nodup_cons.mp n3.2
    rcases List.mem_cons.mp q with rfl | q
    · exact n3.1 (List.mem_cons_of_mem _ ha)
    · rw [List.mem_singleton.mp q] at ha; exact n4.1 ha
  have oL : ∀ b ∈ [e, it], b ≠ c.env.locals ∧ c.g.get? b = none := fun b hb => r.off b (by
    rw [ks]; rcases List.mem_cons.mp hb with rfl | hb
    · simp
    · rw [List.mem_singleton.mp hb]; simp)
  refine ⟨?_, fun p hp => ?_, fun p hp => ?_, r.nd, r.off⟩
  · obtain ⟨m, F, V⟩ := r.fr
    exact ⟨m, F.step (F.ns.at' fun o q => hk _ o (fun z => (oL _ z).1 rfl) q) fun b o q => hk b o (fun z => by rw [(oL _ z).2] at q; cases q), V⟩
  · obtain ⟨o, q1, q2⟩ := r.obj p hp
    exact ⟨o, hk _ _ (nH _ (List.mem_map_of_mem hp)) q1, q2⟩
  · rcases List.mem_cons.mp hp with rfl | hp
    · exact he
    rcases List.mem_cons.mp hp with rfl | hp
    · exact hi
    · exact hk _ _ (nX _ (List.mem_map_of_mem hp)) (r.ext p (by simp [hp]))

abbrev enumO (it : Addr) : MO := .is fun o => o = { cls := .type "enumerate", dict := none, data := .fields #[.none, .bool false, .ref it, rawInt 0, .none, .none], slots := #[] }
abbrev strO (x : Str) : MO := .is fun o => ∃ t, o.cls = .type (strIterType x) ∧ o.data = .fields #[.str x t, .int 0 0]
theorem Draws.str {prog : Program} {w : World} {A : Around} (hh : A.handled = none) (it : Addr) (x : Str) (t : Tok) :
    Draws prog w A it [it] x.cps.size (fun i v => ∃ c u, x.cps[i]? = some c ∧ v = .str ⟨#[c]⟩ u) (fun i h => h.IsStrIter it (strIterType x) x t i) := by
  unfold strIterType
  split
  · exact Draws.strAscii hh it x t
  · exact Draws.strWide hh it x t
section
variable {c : Cx} {σ : St}
theorem enum_s {x : Str} {P : MV → St → Prop} (h : ∀ e it, P (.ref e) { σ with heap := (e, enumO it) :: (it, strO x) :: σ.heap }) : WC c (.type "enumerate") [.str x] σ P := by
  intro us hu X s r Q E k
  obtain ⟨_, rfl, h1⟩ := hu.one; cases h1
  refine call_enumerate_str fun h' he hit hsz hk => ?_
  obtain ⟨oi, hi, hc, hd⟩ := hit
  have r1 := r.new (a := s.heap.objs.size) (mo := strO x) hk (Heap.get?_none_of_le (Nat.le_refl _)) hi (.is ⟨_, hc, hd⟩)
  have f1 := r.fresh (a := s.heap.objs.size) (Heap.get?_none_of_le (Nat.le_refl _))
  have f2 := r.fresh (a := s.heap.objs.size + 1) (Heap.get?_none_of_le (Nat.le_succ _))
  refine k _ _ ⟨σ.vars, (s.heap.objs.size + 1, enumO s.heap.objs.size) :: (s.heap.objs.size, strO x) :: σ.heap⟩ h' s.toks (h _ _) (.val _) ⟨r1.fr, fun p hp => ?_, r1.ext, ?_, fun a ha => ?_⟩
  · rcases List.mem_cons.mp hp with rfl | hp
    · exact ⟨_, he, .is rfl⟩
    · exact r1.obj p hp
  · refine List.nodup_cons.mpr ⟨fun q => ?_, r1.nd⟩
    rcases List.mem_cons.mp q with q | q
    · exact Nat.succ_ne_self _ q
    · exact f2.1 q
  · rcases List.mem_cons.mp ha with rfl | ha
    · exact f2.2
    · exact r1.off a ha

theorem ForEnum_ {iter : Expr} {xi xc : Str} {pk pv pt pos : Pos} {x1 : Nat} {body orelse : List Stmt} {P : MF → St → Prop} (hh : c.A.handled = none) (hs : ∀ x, foldedSetIterable iter c.env x = Pure.pure x)
    (h : WE c (eval iter c.env) σ fun v σ1 => ∃ e it x H, v = .ref e ∧ σ1.heap = (e, enumO it) :: (it, strO x) :: H ∧ ∃ J : Nat → St → Prop, J 0 ⟨σ1.vars, H⟩ ∧
      (∀ i ch σ', x.cps[i]? = some ch → J i σ' → WS c xi (.int i) σ' fun σ2 => WS c xc (.str ⟨#[ch]⟩) σ2 fun σ3 => WF c (execs body c.env) σ3 (Turn (J (i + 1)) P)) ∧
      ∀ σ', J x.cps.size σ' → WF c (execs orelse c.env) σ' P) :
    WF c (exec (.For (.Tuple [.Name xi pk, .Name xc pv] x1 pt) iter body orelse pos) c.env) σ P := by
  intro X s r Q E k
  refine wpAny_For (h X s r _ _ fun b a σ1 h1 tk1 hp ha r1 => ?_) hs
  obtain ⟨e, it, x, H, rfl, hH, J, h0, hstep, hend⟩ := hp
  cases ha
  obtain ⟨V1, H1⟩ := σ1
  subst hH
  obtain ⟨oe, e1, q1⟩ := r1.obj (e, enumO it) (by simp)
  obtain ⟨oi, e2, q2⟩ := r1.obj (it, strO x) (by simp)
  cases q1 with | is q1 =>
  cases q2 with | is q2 =>
  obtain ⟨t, hc, hd⟩ := q2
  refine wpAny_pyIter_enum (it := it) (i := 0) (old := .none) (e1.trans (congrArg some q1)) ?_
  have hei : e ≠ it := fun q => by
    have := r1.nd
    simp only [keys, List.map_cons, List.cons_append] at this
    exact (List.nodup_cons.mp this).1 (by simp [q])
  have r2 : R c ((e, oe) :: (it, oi) :: X) ⟨V1, H⟩ h1 := by
    have ks : (keys H ++ keys ((e, oe) :: (it, oi) :: X)).Perm (keys ((e, enumO it) :: (it, strO x) :: H) ++ keys X) := by
      show (keys H ++ e :: it :: keys X).Perm (e :: it :: (keys H ++ keys X))
      exact List.perm_middle.trans (List.Perm.cons _ List.perm_middle)
    refine ⟨r1.fr, fun p hp => r1.obj p (by simp [hp]), fun p hp => ?_, ks.nodup_iff.mpr r1.nd, fun a ha => r1.off a (ks.mem_iff.mp ha)⟩
    rcases List.mem_cons.mp hp with rfl | hp
    · exact e1
    rcases List.mem_cons.mp hp with rfl | hp
    · exact e2
    · exact r1.ext p hp
  have D : Draws c.prog c.w c.A.in1 it [it] x.cps.size (fun i v => ∃ c u, x.cps[i]? = some c ∧ v = .str ⟨#[c]⟩ u) (fun i h => h.IsStrIter it (strIterType x) x t i) := Mine.Draws.str (by exact hh) it x t
  have W := WalksT.enumerateD D e hei (fun q => hei (List.mem_singleton.mp q)) (List.mem_singleton_self _)
  refine codeAny_forLoop_any (fun n s' => ∃ i σ1 oe oi h2 tk2, n = x.cps.size + 1 - i ∧ i ≤ x.cps.size ∧ J i σ1 ∧ ((∃ old, IsEnum h2 e it i old) ∧ h2.IsStrIter it (strIterType x) x t i) ∧ R c ((e, oe) :: (it, oi) :: X) σ1 h2 ∧ s' = { s with heap := h2, toks := tk2 })
    ?_ (x.cps.size + 1) ⟨0, ⟨V1, H⟩, oe, oi, h1, tk1, rfl, Nat.zero_le _, h0, ⟨⟨.none, e1.trans (congrArg some q1)⟩, ⟨oi, e2, hc, hd⟩⟩, r2, rfl⟩
  rintro n s' ⟨i, σ1, oe1, oi1, h2, tk2, rfl, hi, hJ, hst, r3, rfl⟩
  by_cases hlt : i < x.cps.size
  · refine W.item i _ _ _ hlt hst fun T vals h3 tk3 hPt hTs hT hMid hk3 => ?_
    obtain ⟨ti, v1, ⟨ch, u, hch, rfl⟩, rfl⟩ := hPt
    obtain ⟨⟨xx, ho3⟩, ⟨oi3, hoi3, _⟩, _⟩ := id hMid
    have r4 := r3.swap2 hk3 ho3 hoi3
    refine W.go _ x1 pt i T _ _ _ hMid fun h4 hst4 hk4 => ?_
    obtain ⟨⟨old4, ho4⟩, ⟨oi4, hoi4, _⟩⟩ := id hst4
    have r5 := r4.swap2 hk4 ho4 hoi4
    have ht4 : h4.IsTuple T #[.int i ti, .str ⟨#[ch]⟩ u] := hT.at fun o q => hk4 T o (W.apart i T h3 hMid) q
    refine wpAny_assign_Tuple hh ht4 rfl rfl fun h5 hx5 => ?_
    have r6 : R c ((e, _) :: (it, oi4) :: X) σ1 h5 := r5.but [h4.objs.size] (fun b hb => by cases List.mem_singleton.mp hb; exact r5.fresh (Heap.get?_none_of_le (Nat.le_refl _))) (fun b o hb q => hx5 b o (fun z => hb (z ▸ List.mem_singleton_self _)) q)
    show wpAny _ c.A (do holding [_] (assign (.Name xi pk) c.env _); do holding [] (assign (.Name xc pv) c.env _); Pure.pure ()) _ _ _
    refine wpAny_bind (wpAny_holding (wpAny_assign_Name (hstep i ch σ1 hch hJ _ (.int _ _) _ _ r6 _ _ fun _ _ σ2 h6 tk6 hS2 _ r7 => ?_)))
    refine wpAny_bind (wpAny_holding (wpAny_assign_Name (hS2 _ (.str _ _) _ _ r7 _ _ fun _ _ σ3 h7 tk7 hS3 _ r8 => wpAny_pure ?_)))
    refine hS3 _ _ r8 _ _ fun f a σ4 h8 tk8 hT hf r9 => ?_
    have he9 := r9.ext _ (List.mem_cons_self ..)
    have hi9 := r9.ext (it, oi4) (by simp)
    have hst9 : (∃ old, IsEnum h8 e it ((i : Int) + 1) old) ∧ h8.IsStrIter it (strIterType x) x t (i + 1) := by
      refine ⟨⟨old4, ?_⟩, ?_⟩
      · have : h4.get? e = h8.get? e := by rw [he9]; exact ho4
        show h8.get? e = _
        rw [← this]; simpa using ho4
      · obtain ⟨_, o5, c5, d5⟩ := hst4.2
        rw [hoi4] at o5; cases o5
        exact ⟨oi4, hi9, c5, d5⟩
    cases hf with
    | next =>
      obtain ⟨σ5, hle, hJ'⟩ := hT
      exact ⟨x.cps.size + 1 - (i + 1), by omega, i + 1, σ5, _, oi4, h8, tk8, rfl, hlt, hJ', (by simpa using hst9), r9.le hle, rfl⟩
    | cont =>
      obtain ⟨σ5, hle, hJ'⟩ := hT
      exact ⟨x.cps.size + 1 - (i + 1), by omega, i + 1, σ5, _, oi4, h8, tk8, rfl, hlt, hJ', (by simpa using hst9), r9.le hle, rfl⟩
    | brk => exact k _ _ _ h8 tk8 hT .next r9.dropX.dropX
    | ret hv => exact k _ _ _ h8 tk8 hT (.ret hv) r9.dropX.dropX
  · have hin : i = x.cps.size := by omega
    subst hin
    refine W.done _ _ _ hst fun h3 tk3 hk3 => ?_
    have r4 : R c X σ1 h3 := by
      refine r3.dropX.dropX.but [e, it] (fun b hb => ?_) hk3
      have nd : (keys σ1.heap ++ e :: it :: keys X).Nodup := r3.nd
      have nd2 : (e :: it :: (keys σ1.heap ++ keys X)).Nodup := (List.perm_middle.trans (List.Perm.cons _ List.perm_middle)).nodup_iff.mp nd
      have hoff := r3.off b (by
        show b ∈ keys σ1.heap ++ e :: it :: keys X
        rcases List.mem_cons.mp hb with rfl | hb
        · simp
        · rw [List.mem_singleton.mp hb]; simp)
      refine ⟨fun q => ?_, hoff⟩
      rcases List.mem_cons.mp hb with rfl | hb
      · exact (List.nodup_cons.mp nd2).1 (List.mem_cons_of_mem _ q)
      · rw [List.mem_singleton.mp hb] at q
        exact (List.nodup_cons.mp (List.nodup_cons.mp nd2).2).1 q
    exact hend σ1 hJ X _ r4 _ _ fun d e' σ'' h'' tk'' hp' he r'' => k d e' σ'' h'' tk'' hp' he r''
end
end
section
open PySem PySem.Spec PySem.Calls PyProof.Rows PySem.W
inductive KV : List (Str × MV) → List (Str × Value) → Prop
  | nil : KV [] []
  | cons {k v u r r'} : VR v u → KV r r' → KV ((k, v) :: r) ((k, u) :: r')
theorem KV.length {a b} (h : KV a b) : a.length = b.length := by
  induction h with
  | nil => rfl
  | cons _ _ ih => simp [ih]
theorem KV.keys {a b} (h : KV a b) : a.map (·.1) = b.map (·.1) := by
  induction h with
  | nil => rfl
  | cons _ _ ih => simp [ih]
theorem KV.vals {a b} (h : KV a b) : VRs (a.map (·.2)) (b.map (·.2)) := by
  induction h with
  | nil => exact .nil
  | cons a _ ih => exact .cons a ih
theorem KV.snoc {a b k v u} (h : KV a b) (hv : VR v u) : KV (a ++ [(k, v)]) (b ++ [(k, u)]) := by
  induction h with
  | nil => exact .cons hv .nil
  | cons a _ ih => exact .cons a ih
abbrev MO.dct (prog : Program) (w : World) (kvs : List (Str × MV)) : MO := .is fun o => ∃ kus, KV kvs kus ∧ o.IsDictOf (strKind prog w) kus
theorem R.dct {c X σ h} (r : R c X σ h) {d : Addr} {kvs : List (Str × MV)} (hm : (d, MO.dct c.prog c.w kvs) ∈ σ.heap) : ∃ kus, KV kvs kus ∧ h.DictOf (strKind c.prog c.w) d kus := by
  obtain ⟨o, e, q⟩ := r.obj _ hm
  cases q with
  | is q =>
  obtain ⟨kus, h1, h2⟩ := q
  exact ⟨kus, h1, Heap.dictOf_iff.mpr ⟨o, e, h2⟩⟩

section
variable {c : Cx} {σ : St} {scope : Scope} {cl : List (Str × Addr)} {x : Str} {iter kx vx : Expr} {ifs : List Expr} {px pos : Pos}
/-- a dict comprehension's items, each under a new key -/
structure CompD (c : Cx) (scope : Scope) (cl : List (Str × Addr)) (x : Str) (kx vx : Expr) (items : List MV) (Cond : St → Prop) (H₀ : List (Addr × MO)) (J : Nat → List (Str × MV) → List (Addr × MO) → Prop) : Prop where
  size : items.length ≤ sizeLine
  start : J 0 [] H₀
  cond : ∀ i acc H V, J i acc H → Cond ⟨V, H⟩
  turn : ∀ i y acc H C g, items[i]? = some y → J i acc H → Keeps c g →
    WE (cxC c scope cl C g x) (eval kx (compEnvC scope cl C c.env)) ⟨[some y], H⟩ fun kv σ2 =>
      WE (cxC c scope cl C g x) (eval vx (compEnvC scope cl C c.env)) σ2 fun v σ3 => ∃ k H', kv = .str k ∧ k ∉ acc.map (·.1) ∧ H'.Sublist σ3.heap ∧ J (i + 1) (acc ++ [(k, v)]) H'

theorem compD_block {items : List MV} {Cond : St → Prop} {J : Nat → List (Str × MV) → List (Addr × MO) → Prop} {X : List (Addr × Obj)} {s : Shared} {I : Addr} {o : Obj} {Io : Nat → Obj → Prop} {RR : Value → Addr → Result → Shared → Prop} {E₁ E₂ : Value → Shared → Prop}
    (ok : CompOk c scope cl x iter) (K : CompD c scope cl x kx vx items Cond σ.heap J) (hN : ∀ c' : Cx, c'.prog = c.prog → c'.w = c.w → c'.A = c.A → Nx c' I items Cond Io) (ho : Io 0 o) (r : R c ((I, o) :: X) σ s.heap)
    (hRR : ∀ D C oC m acc H h' tk, J items.length acc H → h'.get? C = some oC → h'.Ns C m → R c ((C, oC) :: X) ⟨σ.vars, (D, .dct c.prog c.w acc) :: H⟩ h' → RR (.ref D) C (.ok .next) { s with heap := h', toks := tk }) :
    wpAny (model c.prog c.w) c.A newDict (fun acc s₃ => wpAny (model c.prog c.w) c.A (newFunctionEnv scope c.env.globals cl [] c.env.qual none .none (some c.env)) (fun cenv s₄ =>
      codeAny (model c.prog c.w) c.A (.compStart (.DictComp kx vx [⟨.Name x px, iter, [], 0⟩] scope pos) 0 (.ref I) acc { cenv with scope := relabel scope c.env }) (RR acc cenv.locals) s₄) E₁ s₃) E₂ s := by
  refine wpAny_newObj_type (wpAny_newFunctionEnv ok.cell (by intro y hy; simp at hy) (fun h₁ hns₁ hsb₁ => ?_) ok.kind)
  dsimp only at hns₁ hsb₁ ⊢
  have hnew : (s.heap.push { cls := .type "dict", dict := none, data := .dict #[] }).DictOf (strKind c.prog c.w) s.heap.objs.size [] := Heap.DictOf.new s.heap
  generalize hH2 : s.heap.push { cls := .type "dict", dict := none, data := .dict #[] } = H2 at hns₁ hsb₁ hnew ⊢
  obtain ⟨oD, hoD, hD⟩ := Heap.dictOf_iff.mp hnew
  have hk0 : ∀ b ob, s.heap.get? b = some ob → H2.get? b = some ob := fun b ob e => by subst hH2; exact Heap.get?_push_of_some _ e
  have r2 : R c ((I, o) :: (s.heap.objs.size, oD) :: X) σ H2 := by
    have r1 := r.newX (a := s.heap.objs.size) (o := oD) (h' := H2) hk0 (Heap.get?_none_of_le (Nat.le_refl _)) hoD
    refine ⟨r1.fr, r1.obj, fun p hp => r1.ext p ((List.Perm.swap ..).mem_iff.mp hp), ?_, fun b hb => r1.off b ?_⟩
    · exact (((List.Perm.swap ..).map _).append_left _).nodup_iff.mpr r1.nd
    · exact (((List.Perm.swap ..).map _).append_left _).mem_iff.mp hb
  have hk₁ : ∀ b ob, H2.get? b = some ob → h₁.get? b = some ob := fun b ob e => hsb₁.extBut b ob (Nat.ne_of_lt (Heap.lt_size e)) (Heap.get?_push_of_some _ e)
  let X₂ := (I, o) :: (s.heap.objs.size, oD) :: X
  let c' : Cx := cxC c scope cl H2.objs.size (under H2 σ X₂) x
  have hon : On c c' σ.vars := r2.on rfl
  have r3 : R c' X₂ ⟨[none], σ.heap⟩ h₁ := r2.into (c' := c') rfl (Nat.le_refl _) hns₁ (fun i y v h1 h2 => by cases i <;> simp at h2) hk₁
  have hxl : c'.env.kindOf x = some .local := lookup_relabel_local ok.x
  have hkc : (c'.env.scope.kind == .class || (c'.env.scope.kind == .module && c'.env.locals != c'.env.globals)) = false := by simp [c', compEnvC, relabel, ok.kind]
  have N : Nx c' I items Cond Io := hN c' rfl rfl rfl
  have loop : ∀ s₃ : Shared, s₃.heap = h₁ → s₃ = { s with heap := h₁, toks := s₃.toks } →
      codeAny (model c.prog c.w) c.A (.compLoop (.DictComp kx vx [⟨.Name x px, iter, [], 0⟩] scope pos) 0 (.ref I) (.ref s.heap.objs.size) (compEnvC scope cl H2.objs.size c.env))
        (RR (.ref s.heap.objs.size) H2.objs.size) s₃ := by
    intro s₃ e₃ e₄
    refine codeAny_compLoop_testsD (fun n s' => ∃ i acc H kus oD o1 h2 tk2, n = items.length + 1 - i ∧ i ≤ items.length ∧ J i acc H ∧ acc.length ≤ i ∧ KV acc kus ∧ Obj.IsDictOf (strKind c.prog c.w) oD kus ∧ Io i o1 ∧
      R c' ((I, o1) :: (s.heap.objs.size, oD) :: X) ⟨[none], H⟩ h2 ∧ s' = { s with heap := h2, toks := tk2 }) ?_ (items.length + 1)
      ⟨0, [], σ.heap, [], oD, o, h₁, s₃.toks, rfl, Nat.zero_le _, K.start, Nat.le_refl _, .nil, hD, ho, r3, e₄⟩
    rintro n s' ⟨i, acc, H, kus, oD1, o1, h2, tk2, rfl, hi, hJ, hacc, hkus, hD1, ho1, r4, rfl⟩
    by_cases hlt : i < items.length
    · obtain ⟨y, hy⟩ : ∃ y, items[i]? = some y := ⟨_, List.getElem?_eq_getElem hlt⟩
      refine N.item hy ho1 (K.cond _ _ _ _ hJ) r4 fun u o2 h3 tk3 hu ho2 r5 => ?_
      refine wpAny_assign_Name (store_local (c := c') (σ := ⟨[none], H⟩) (x := x) (v := y) (P := fun σ => σ = ⟨[some y], H⟩) 0 rfl (by simp [c']) hxl hkc rfl u hu _ _ r5 _ _ fun _ _ σ4 h4 tk4 e4 _ r6 => ?_)
      subst e4
      refine wpAny_mono (wpAny_tests_nil (Q := fun ok s₃ => ok = true ∧ s₃ = { s with heap := h4, toks := tk4 }) ⟨rfl, rfl⟩) (fun okk s₃ h₃ => ?_) fun _ _ h' => h'
      obtain ⟨rfl, rfl⟩ := h₃
      simp only [if_true]
      refine K.turn i y acc H H2.objs.size (under H2 σ X₂) hy hJ hon.keep _ _ r6 _ _ fun kv ku σ5 h5 tk5 hW hku r7 => ?_
      refine hW _ _ r7 _ _ fun v a σ6 h6 tk6 hp hv r8 => ?_
      obtain ⟨k, H', rfl, hk, hsub, hJ'⟩ := hp
      cases hku with
      | str _ t =>
      have hDo := r8.ext (s.heap.objs.size, oD1) (by simp)
      have hle : kus.length ≤ sizeLine := by have := K.size; rw [← hkus.length]; omega
      refine wpAny_dictSet_pairs (hsz := hle) (strKind_is _ _ k t) (Heap.dictOf_iff.mpr ⟨oD1, hDo, hD1⟩) fun h7 hD7 hs7 => ?_
      obtain ⟨oD2, ho7, hD2⟩ := Heap.dictOf_iff.mp hD7
      have r9 := R.updX (pre := [(I, o2)]) r8 (fun b ob hb e => (hs7.2 b hb).trans e) ho7
      have r10 := r9.weak hsub (V := [none]) (fun j v e => by cases j <;> simp at e)
      have hst : stored kus k a = kus ++ [(k, a)] := by
        unfold stored
        have hnot : kus.any (fun kv => decide (kv.1 = k)) = false := by
          rw [List.any_eq_false]
          intro p hp q
          apply hk
          rw [hkus.keys]
          exact List.mem_map.mpr ⟨p, hp, by simpa using q⟩
        rw [hnot]; rfl
      rw [hst] at hD2
      exact ⟨items.length + 1 - (i + 1), by omega, i + 1, acc ++ [(k, v)], H', kus ++ [(k, a)], oD2, o2, h7, _, rfl, hlt, hJ', by simp; omega, hkus.snoc hv, hD2, ho2, r10, rfl⟩
    · have hin : i = items.length := by omega
      subst hin
      refine N.done ho1 (K.cond _ _ _ _ hJ) r4 fun h3 tk3 r5 => ?_
      obtain ⟨m, F, _⟩ := r5.fr
      obtain ⟨oC, es, ep, hoC, hns⟩ := id F.ns
      have r6 := (r5.out hon fun _ q => .inl q).take (mo := .dct c.prog c.w acc) (.is ⟨kus, hkus, hD1⟩)
      refine hRR _ _ oC m acc H h3 tk3 hJ hoC F.ns (r6.addX hoC (fun q => ?_) (fun q => ?_) ?_)
      · have q' : H2.objs.size ∈ Mine.keys H ++ Mine.keys ((s.heap.objs.size, oD1) :: X) := List.perm_middle.mem_iff.mpr q
        exact (r5.off _ q').1 rfl
      · obtain ⟨mm, hmm, _⟩ := hon.ns
        have := hmm.lt
        rw [under_size] at this
        rw [← q] at this
        exact Nat.lt_irrefl _ this
      · cases e : c.g.get? H2.objs.size with
        | none => rfl
        | some ob =>
          obtain ⟨_, e1, _⟩ := hon.keep _ _ e
          have := Heap.lt_size e1
          rw [under_size] at this
          exact absurd this (Nat.lt_irrefl _)
  exact codeAny_compStart_dict (loop _ rfl rfl) (N.self ho (K.cond _ _ _ [none] K.start) (s := { s with heap := h₁, toks := _ }) r3 (loop _ rfl rfl))

theorem DictComp_ {P : MV → St → Prop} (ok : CompOk c scope cl x iter)
    (h : WE c (eval iter c.env) σ fun v σ1 => ∃ items Cond J, Itb c v σ1 items Cond ∧ CompD c scope cl x kx vx items Cond σ1.heap J ∧ ∀ acc H D, J items.length acc H → P (.ref D) ⟨σ1.vars, (D, .dct c.prog c.w acc) :: H⟩) :
    WE c (eval (.DictComp kx vx [⟨.Name x px, iter, [], 0⟩] scope pos) c.env) σ P := by
  intro X s r Q E k
  rw [arm_eval_DictComp]
  refine wpAny_comprehension_free (use := none) rfl ok.set ok.clos ok.kind ok.names (h X s r _ _ fun b a σ1 h1 tk1 hp ha r1 => ?_)
  obtain ⟨items, Cond, J, I, K, hP⟩ := hp
  refine I.go ha r1 fun It o h2 tk2 Io N ho r2 _ _ => ?_
  refine compD_block (RR := fun acc C => compPost (model c.prog c.w) c.A E none Q acc C) ok K N ho r2 fun D C oC m acc H h3 tk3 hJ hC hn r3 => ?_
  exact ⟨m, hn, fun h' hs => k _ _ _ h' tk3 (hP acc H D hJ) (.val _) (r3.endX fun b ob hb e => (hs.2 b hb).trans e)⟩
end
end
section
open PySem PySem.Spec PySem.Calls PyProof.Rows PySem.W
abbrev itemsO (d : Addr) : MO := .is fun o => o.cls = .type "dict_items" ∧ o.data = .fields #[.ref d]
section
variable {c : Cx} {σ : St}
theorem ty_dict {a : Addr} {kvs : List (Str × MV)} (hm : (a, MO.dct c.prog c.w kvs) ∈ σ.heap) : TY c (.ref a) "dict" σ := by
  intro X s u hu r
  cases hu
  obtain ⟨o, e, q⟩ := r.obj _ hm
  cases q with
  | is q =>
  obtain ⟨kus, h1, es, ep, hE, r2⟩ := q
  exact ⟨⟨o, e, hE.1⟩, fun b q => by cases q; exact ⟨o, e, hE.2.1⟩⟩
theorem items_d {a : Addr} {kvs : List (Str × MV)} {P : MV → St → Prop} (hsm : ∃ o, c.g.get? sysModules = some o) (hm : (a, MO.dct c.prog c.w kvs) ∈ σ.heap) (h : ∀ v, P (.ref v) { σ with heap := (v, itemsO a) :: σ.heap }) :
    WC c (.builtin "dict.items") [.ref a] σ P := by
  intro us hu X s r Q E k
  obtain ⟨_, rfl, h1⟩ := hu.one; cases h1
  obtain ⟨kus, hk, hd⟩ := r.dct hm
  have hne : (a == sysModules) = false := by
    obtain ⟨o, ho⟩ := hsm
    have := (r.off a (List.mem_append_left _ (List.mem_map_of_mem hm))).2
    cases q : a == sysModules with
    | false => rfl
    | true => rw [eq_of_beq q, ho] at this; cases this
  exact call_meetsIn PySem.F.slot_dict_items hd.typeIs PySem.F.entry_dict_items (PySem.F.args_dict_items_1 _) (meets_dict_items (strKind c.prog c.w) a hne)
    ⟨⟨kus, hd⟩, k _ _ _ _ _ (h s.heap.objs.size) (.val _) (r.new (fun b o e => Heap.get?_push_of_some _ e) (Heap.get?_none_of_le (Nat.le_refl _)) (Heap.get?_push_size _ rfl) (.is ⟨rfl, rfl⟩))⟩
end
section
variable {prog : Program} {w : World} {A : Around}
theorem items_block {scope : Scope} {cl : List (Str × Addr)} {xk xv : Str} {iter : Expr} {pk pv pe pt pos : Pos} {x1 : Nat} {env : Env} {s : Shared} {it d : Addr} {ep : Nat} {kus : List (Str × Value)} {RR : Value → Addr → Result → Shared → Prop} {E₁ E₂ : Value → Shared → Prop}
    (hh : A.handled = none) (hcell : ∀ y ∈ scope.names, y.2 ≠ .cell) (hkind : scope.kind = .function) (hk : scope.names.lookup xk = some .local) (hx : scope.names.lookup xv = some .local) (hne : xv ≠ xk) (hdb : (xv == ("__debug__" : Str)) = false)
    (hit : IsItemIter s.heap it d 0 kus.length ep .none .none) (hm : s.heap.DictAt (strKind prog w) d kus ep) (hdi : d ≠ it) (hsz : kus.length ≤ sizeLine)
    (hRR : ∀ D C m h' tk nn, s.heap.get? D = none → s.heap.get? C = none → D ≠ C → h'.Ns C m → h'.get? D = some { cls := .type "list", data := .seq (kus.map (·.2)).toArray nn } → (∀ b o, b ≠ it → s.heap.get? b = some o → h'.get? b = some o) →
      RR (.ref D) C (.ok .next) { s with heap := h', toks := tk }) :
    wpAny (model prog w) A (newList []) (fun acc s₃ => wpAny (model prog w) A (newFunctionEnv scope env.globals cl [] env.qual none .none (some env)) (fun cenv s₄ =>
      codeAny (model prog w) A (.compStart (.ListComp (.Name xv pe) [⟨.Tuple [.Name xk pk, .Name xv pv] x1 pt, iter, [], 0⟩] scope pos) 0 (.ref it) acc { cenv with scope := relabel scope env }) (RR acc cenv.locals) s₄) E₁ s₃) E₂ s := by
  refine wpAny_newObj_type (wpAny_newFunctionEnv hcell (by intro y hy; simp at hy) (fun h₁ hns₁ hsb₁ => ?_) hkind)
  dsimp only at hns₁ hsb₁ ⊢
  generalize hH2 : s.heap.push { cls := .type "list", dict := none, data := .seq ([] : List Value).toArray } = H2 at hns₁ hsb₁ ⊢
  have hC : H2.objs.size = s.heap.objs.size + 1 := by rw [← hH2, Heap.size_push]
  have hD0 : H2.get? s.heap.objs.size = some { cls := .type "list", data := .seq ([] : List Value).toArray } := by rw [← hH2]; exact Heap.get?_push_size _ rfl
  have hk0 : ∀ b o, s.heap.get? b = some o → H2.get? b = some o := fun b o e => by rw [← hH2]; exact Heap.get?_push_of_some _ e
  have hk₁ : ∀ b ob, H2.get? b = some ob → h₁.get? b = some ob := fun b ob e => hsb₁.extBut b ob (Nat.ne_of_lt (Heap.lt_size e)) (Heap.get?_push_of_some _ e)
  have hDC : s.heap.objs.size ≠ H2.objs.size := by rw [hC]; exact Nat.ne_of_lt (Nat.lt_succ_self _)
  have hDn : s.heap.get? s.heap.objs.size = none := Heap.get?_none_of_le (Nat.le_refl _)
  have hCn : s.heap.get? H2.objs.size = none := Heap.get?_none_of_le (by rw [hC]; exact Nat.le_succ _)
  have hiD : it ≠ s.heap.objs.size := fun q => by have e : s.heap.get? it = none := q ▸ hDn; have z := e.symm.trans hit; cases z
  have hiC : it ≠ H2.objs.size := fun q => by have e : s.heap.get? it = none := q ▸ hCn; have z := e.symm.trans hit; cases z
  have hkl : (compEnvC scope cl H2.objs.size env).kindOf xk = some .local := lookup_relabel_local hk
  have hxl : (compEnvC scope cl H2.objs.size env).kindOf xv = some .local := lookup_relabel_local hx
  have hp : ((compEnvC scope cl H2.objs.size env).scope.kind == .class || ((compEnvC scope cl H2.objs.size env).scope.kind == .module && (compEnvC scope cl H2.objs.size env).locals != (compEnvC scope cl H2.objs.size env).globals)) = false := by simp [compEnvC, relabel, hkind]
  obtain ⟨od, es, hod, hdr⟩ := id hm
  have dictAt : ∀ h' : Heap, (∀ b o, b ≠ it → s.heap.get? b = some o → h'.get? b = some o) → h'.DictAt (strKind prog w) d kus ep := fun h' hk => ⟨od, es, hk _ _ hdi hod, hdr⟩
  have loop : ∀ s₃ : Shared, s₃.heap = h₁ → s₃ = { s with heap := h₁, toks := s₃.toks } →
      codeAny (model prog w) A (.compLoop (.ListComp (.Name xv pe) [⟨.Tuple [.Name xk pk, .Name xv pv] x1 pt, iter, [], 0⟩] scope pos) 0 (.ref it) (.ref s.heap.objs.size) (compEnvC scope cl H2.objs.size env))
        (RR (.ref s.heap.objs.size) H2.objs.size) s₃ := by
    intro s₃ e₃ e₄
    refine LCp.codeAny_compLoop_pair (fun n s' => ∃ i ok ov m nn h2 tk2, n = kus.length + 1 - i ∧ i ≤ kus.length ∧ IsItemIter h2 it d i kus.length ep ok ov ∧ h2.Ns H2.objs.size m ∧
      h2.get? s.heap.objs.size = some { cls := .type "list", data := .seq ((kus.take i).map (·.2)).toArray nn } ∧ (∀ b o, b ≠ it → s.heap.get? b = some o → h2.get? b = some o) ∧ s' = { s with heap := h2, toks := tk2 }) ?_ (kus.length + 1)
      ⟨0, .none, .none, _, 0, h₁, s₃.toks, rfl, Nat.zero_le _, hk₁ _ _ (hk0 _ _ hit), hns₁, hk₁ _ _ hD0, fun b o _ e => hk₁ _ _ (hk0 _ _ e), e₄⟩
    rintro n s' ⟨i, ok, ov, m, nn, h2, tk2, rfl, hi, hit2, hn2, hD2, hk2, rfl⟩
    by_cases hlt : i < kus.length
    · have hkv : kus[i]? = some (kus[i].1, kus[i].2) := List.getElem?_eq_getElem hlt
      refine wpAny_pyNext_items_item (knd := strKind prog w) hit2 (dictAt h2 hk2) hkv fun key h3 hkey hit3 hT3 hsz3 hk3 => ?_
      have hTi : h2.objs.size ≠ it := fun q => by have z := Heap.lt_size hit2; rw [← q] at z; exact absurd z (Nat.lt_irrefl _)
      refine wpAny_letOwnedTupleGo_items hit3 fun h4 hit4 hs4 => ?_
      have ht4 : h4.IsTuple h2.objs.size #[key, kus[i].2] := ⟨_, (hs4.2 _ hTi).trans hT3, rfl, _, rfl⟩
      refine wpAny_assign_Tuple hh ht4 rfl rfl fun h5 hx5 => ?_
      replace hx5 : Heap.ExtBut h4.objs.size h4 h5 := hx5
      have up5 : ∀ b o, h4.get? b = some o → h5.get? b = some o := fun b o x => hx5 b o (Nat.ne_of_lt (Heap.lt_size x)) x
      have up3 : ∀ b o, b ≠ it → h2.get? b = some o → h5.get? b = some o := fun b o hb e => up5 _ _ ((hs4.2 _ hb).trans (hk3 b o hb e))
      have hn5 : h5.Ns H2.objs.size m := hn2.at' fun o e => up3 _ o (Ne.symm hiC) e
      show wpAny _ A (do holding [kus[i].2] (assign (.Name xk pk) (compEnvC scope cl H2.objs.size env) key); do holding [] (assign (.Name xv pv) (compEnvC scope cl H2.objs.size env) kus[i].2); Pure.pure ()) _ _ _
      refine wpAny_bind (wpAny_holding (wpAny_assign_Name (wpAny_storeName_local hkl hn5 (fun h6 hn6 hs6 => ?_) hp)))
      refine wpAny_bind (wpAny_holding (wpAny_assign_Name (wpAny_storeName_local hxl hn6 (fun h7 hn7 hs7 => wpAny_pure ?_) hp)))
      refine wpAny_Name (wpAny_loadName_local (by simp [compEnvC, relabel, hkind]) hxl hn7 (v := kus[i].2) (by simp) ?_) hdb
      replace hs6 : Heap.SameBut H2.objs.size h5 h6 := hs6
      replace hs7 : Heap.SameBut H2.objs.size h6 h7 := hs7
      have up7 : ∀ b o, b ≠ H2.objs.size → h5.get? b = some o → h7.get? b = some o := fun b o hb e => (hs7.2 b hb).trans ((hs6.2 b hb).trans e)
      refine append_at (up7 _ _ hDC (up3 _ _ (Ne.symm hiD) hD2)) (fun h8 hs8 ho8 => ?_) (by simp; omega)
      refine ⟨kus.length + 1 - (i + 1), by omega, i + 1, key, kus[i].2, _, nn + 1, h8, _, rfl, hlt, ?_, hn7.sameBut hs8 (Ne.symm hDC), ?_, fun b o hb e => ?_, rfl⟩
      · exact (hs8.2 _ hiD).trans (up7 _ _ hiC (up5 _ _ hit4))
      · rw [ho8]
        congr 3
        rw [List.take_succ, hkv]
        simp
      · have hbD : b ≠ s.heap.objs.size := fun q => by rw [q, hDn] at e; cases e
        have hbC : b ≠ H2.objs.size := fun q => by rw [q, hCn] at e; cases e
        exact (hs8.2 _ hbD).trans (up7 _ _ hbC (up3 _ _ hb (hk2 b o hb e)))
    · have hin : i = kus.length := by omega
      subst hin
      refine wpAny_pyNext_items_end (knd := strKind prog w) hh hit2 (dictAt h2 hk2) (by simp) fun h3 he => ?_
      refine hRR _ _ m h3 tk2 nn hDn hCn hDC (hn2.at' fun o e => he _ o (Ne.symm hiC) e) ?_ fun b o hb e => he b o hb (hk2 b o hb e)
      have := he _ _ (Ne.symm hiD) hD2
      rw [List.take_length] at this
      exact this
  exact codeAny_compStart_list (loop _ rfl rfl) (by
    exact kcp_self (hk₁ _ _ (hk0 _ _ hit)) (loop _ rfl rfl))
end
section
variable {c : Cx} {σ : St}
theorem AssignItems_ {scope : Scope} {cl : List (Str × Addr)} {xk xv y : Str} {iter : Expr} {pk pv pe pt pos py spos : Pos} {x1 : Nat} {P : MF → St → Prop}
    (hh : c.A.handled = none) (hcell : ∀ y ∈ scope.names, y.2 ≠ .cell) (hkind : scope.kind = .function) (hnames : ∀ y ∈ scope.names, y.2 = .local → scope.names.lookup y.1 = some .local) (hk : scope.names.lookup xk = some .local) (hx : scope.names.lookup xv = some .local) (hne : xv ≠ xk) (hdb : (xv == ("__debug__" : Str)) = false)
    (hclos : closureFor scope c.env = Pure.pure cl) (hs : ∀ v, foldedSetIterable iter c.env v = Pure.pure v)
    (hsw : swapsWith (.ListComp (.Name xv pe) [⟨.Tuple [.Name xk pk, .Name xv pv] x1 pt, iter, [], 0⟩] scope pos) (some (.Name y py)) spos.line c.env = Pure.pure true)
    (h : WE c (eval iter c.env) σ fun v σ1 => ∃ i d kvs, v = .ref i ∧ (i, itemsO d) ∈ σ1.heap ∧ (d, MO.dct c.prog c.w kvs) ∈ σ1.heap ∧ kvs.length ≤ sizeLine ∧ ∀ D, WA c (.Name y py) (.ref D) ⟨σ1.vars, (D, .list (kvs.map (·.2))) :: σ1.heap⟩ fun σ2 => P .next σ2) :
    WF c (exec (.Assign [.Name y py] (.ListComp (.Name xv pe) [⟨.Tuple [.Name xk pk, .Name xv pv] x1 pt, iter, [], 0⟩] scope pos) spos) c.env) σ P := by
  intro X s r Q E k
  rw [exec_Assign_Name_used _ _ _ _ hsw]
  refine wpAny_bind (wpAny_standAt (wpAny_bind ?_))
  show wpAny _ c.A (do let _ ← comprehension (.ListComp (.Name xv pe) [⟨.Tuple [.Name xk pk, .Name xv pv] x1 pt, iter, [], 0⟩] scope pos) scope c.env _ (newList []) false (eval iter c.env) (some (assign (.Name y py) c.env))) _ _ s
  refine wpAny_bind (wpAny_mono (wpAny_comprehension_free (use := some (assign (.Name y py) c.env)) (Q := fun _ s' => Q .next s') rfl hs hclos hkind hnames (h X s r _ E fun b a σ1 h1 tk1 hp ha r1 => ?_)) (fun _ s' hq => wpAny_pure (wpAny_pure hq)) fun _ _ e => e)
  obtain ⟨vi, d, kvs, rfl, hmi, hmd, hz, hP⟩ := hp
  cases ha
  obtain ⟨oi, ei, qi⟩ := r1.obj _ hmi
  cases qi with | is qi =>
  obtain ⟨od, ed, qd⟩ := r1.obj _ hmd
  cases qd with | is qd =>
  obtain ⟨kus, hkv, es, ep, hdr⟩ := qd
  have hat : h1.DictAt (strKind c.prog c.w) d kus ep := ⟨od, es, ed, hdr⟩
  refine wpAny_pyIter_items (knd := strKind c.prog c.w) (kvs := kus) (ep := ep) (v := vi) (d := d) ⟨oi, ei, qi⟩ hat ?_
  have hitn : h1.get? h1.objs.size = none := Heap.get?_none_of_le (Nat.le_refl _)
  have hdi : d ≠ h1.objs.size := fun q => by rw [q, hitn] at ed; cases ed
  have kpush : ∀ ob b o, h1.get? b = some o → (h1.push ob).get? b = some o := fun ob b o e => Heap.get?_push_of_some _ e
  refine items_block (RR := fun acc C => compPost (model c.prog c.w) c.A E (some (assign (.Name y py) c.env)) (fun _ s' => Q .next s') acc C) hh hcell hkind hk hx hne hdb
    (s := { s with heap := h1.push _, toks := tk1 }) (it := h1.objs.size) (d := d) (ep := ep) (kus := kus) (Heap.get?_push_size _ rfl) ⟨od, es, kpush _ _ _ ed, hdr⟩ hdi (by rw [← hkv.length]; exact hz) fun D C m h3 tk3 nn hD hC hDC hn hl hk3 => ?_
  show wpAny _ c.A (assign (.Name y py) c.env (.ref D)) _ _ _
  have up : ∀ b o, h1.get? b = some o → h3.get? b = some o := fun b o e => hk3 b o (fun q => by rw [q, hitn] at e; cases e) (kpush _ _ _ e)
  have hD1 : h1.get? D = none := by
    cases q : h1.get? D with
    | none => rfl
    | some o => rw [kpush _ _ _ q] at hD; cases hD
  have hC1 : h1.get? C = none := by
    cases q : h1.get? C with
    | none => rfl
    | some o => rw [kpush _ _ _ q] at hC; cases hC
  obtain ⟨oC, esC, epC, eC, rC⟩ := id hn
  have r2 := (r1.newX up hC1 eC)
  have r3 : R c ((C, oC) :: X) ⟨σ1.vars, (D, .list (kvs.map (·.2))) :: σ1.heap⟩ h3 := by
    have fD := r1.fresh hD1
    refine ⟨r2.fr, fun p hp => ?_, r2.ext, ?_, fun a ha => ?_⟩
    · rcases List.mem_cons.mp hp with rfl | hp
      · exact ⟨_, hl, .list nn hkv.vals⟩
      · exact r2.obj p hp
    · refine List.nodup_cons.mpr ⟨fun q => ?_, r2.nd⟩
      have q' : D ∈ C :: (keys σ1.heap ++ keys X) := List.perm_middle.mem_iff.mp q
      rcases List.mem_cons.mp q' with q' | q'
      · exact hDC q'
      · exact fD.1 q'
    · have ha' : a ∈ D :: (keys σ1.heap ++ keys ((C, oC) :: X)) := ha
      rcases List.mem_cons.mp ha' with rfl | ha'
      · exact fD.2
      · exact r2.off a ha'
  refine hP D _ (.val _) _ _ r3 _ _ fun _ _ σ4 h4 tk4 hp4 _ r4 => ?_
  have hC4 := r4.ext _ (List.mem_cons_self ..)
  exact ⟨m, ⟨oC, esC, epC, hC4, rC⟩, fun h' hs => k _ _ σ4 h' tk4 hp4 .next (r4.endX fun b ob hb e => (hs.2 b hb).trans e)⟩
end
end
section
open PySem PySem.Spec PySem.Calls PyProof.Rows PySem.W
abbrev SL (xs : List Str) : List MV := xs.map .str
theorem VRs.strs : ∀ {xs us}, VRs (SL xs) us → StrsAre us xs
  | [], _, h => by cases h; exact .nil
  | x :: xs, _, h => by cases h with | cons h1 h2 => cases h1; exact .cons _ _ h2.strs
section
variable {c : Cx} {σ : St} {P : MV → St → Prop}
theorem join_l {x : Str} {a : Addr} {ys : List Str} (hm : (a, MO.list (SL ys)) ∈ σ.heap) (hx : x.length ≤ 16) (hw : (ys.map (·.length)).sum + ys.length ≤ 1048576) (h : P (.str (Txt.join x ys)) σ) : WC c (.builtin "str.join") [.str x, .ref a] σ P := by
  intro us hu X s r Q E k
  obtain ⟨_, _, rfl, h1, h2⟩ := hu.two; cases h1; cases h2
  obtain ⟨us, hr, hl⟩ := r.list hm
  exact join_listW hl (by simpa using hr.strs) hx hw fun t' tk => k _ _ σ s.heap tk h (.str _ _) r
theorem isdigit_ {x : Str} (h : P (.bool (Txt.isdigit x)) σ) : WC c (.builtin "str.isdigit") [.str x] σ P := by
  intro us hu X s r Q E k
  obtain ⟨_, rfl, h1⟩ := hu.one; cases h1
  exact SC.isdigit (k _ _ σ s.heap s.toks h (.bool _) r)
theorem int_s {x : Str} {n : Int} (hn : PySem.intText? x = some n) (hx : x.length ≤ 640) (h : P (.int n) σ) : WC c (.type "int") [.str x] σ P := by
  intro us hu X s r Q E k
  obtain ⟨_, rfl, h1⟩ := hu.one; cases h1
  exact KIN.call_text hn hx (k _ _ σ s.heap _ h (.int _ _) r)
theorem isinst_int_int {n : Int} (h : P (.bool true) σ) : WC c (.builtin "isinstance") [.int n, .val (.type "int")] σ P := by
  intro us hu X s r Q E k
  obtain ⟨_, _, rfl, h1, h2⟩ := hu.two; cases h1; cases h2
  exact IsiPair.int_int (k _ _ σ s.heap s.toks h (.bool _) r)
theorem isinst_str_int {x : Str} (h : P (.bool false) σ) : WC c (.builtin "isinstance") [.str x, .val (.type "int")] σ P := by
  intro us hu X s r Q E k
  obtain ⟨_, _, rfl, h1, h2⟩ := hu.two; cases h1; cases h2
  exact IsiPair.str_int (k _ _ σ s.heap _ h (.bool _) r)
/-- a set of a tuple of ints -/
abbrev setO (prog : Program) (w : World) (S : Int → Bool) (n : Nat) : MO := .is fun o => o.SetObjOf (intKind prog w) S n
theorem set_t {a : Addr} {ns : List Int} (hh : c.A.handled = none) (hm : (a, MO.tuple (IL ns)) ∈ σ.heap) (hz : ns.length + 1 < scanBound)
    (h : ∀ d, P (.ref d) { σ with heap := (d, setO c.prog c.w (fun k' => (firstMet (fun i => ns.getD i 0) ns.length).any (· == k')) (firstMet (fun i => ns.getD i 0) ns.length).length) :: σ.heap }) : WC c (.type "set") [.ref a] σ P := by
  intro us hu X s r Q E k
  obtain ⟨_, rfl, h1⟩ := hu.one; cases h1
  obtain ⟨us, hr, hl⟩ := r.tupX hm
  have hlen : us.toArray.size = ns.length := by rw [List.size_toArray, ← hr.length]; simp
  refine call_set_tuple hh hl (by simpa using hr.ints) (by rw [hlen]; exact hz) fun h' tk hS hk => ?_
  rw [hlen] at hS
  obtain ⟨o, ho, hso⟩ := hS.objOf
  exact k _ _ _ _ tk (h s.heap.objs.size) (.val _) (r.new (fun b o e => hk b o (Heap.lt_size e) e) (Heap.get?_none_of_le (Nat.le_refl _)) ho (.is hso))
theorem len_set {a : Addr} {S : Int → Bool} {n : Nat} (hm : (a, setO c.prog c.w S n) ∈ σ.heap) (hz : (n : Int) < 2 ^ 63) (h : P (.int n) σ) : WC c (.builtin "len") [.ref a] σ P := by
  intro us hu X s r Q E k
  obtain ⟨_, rfl, h1⟩ := hu.one; cases h1
  obtain ⟨o, ho, q⟩ := r.obj _ hm
  cases q with | is q =>
  exact len_sl1 (own := []) (rest := []) (h₀ := c.g) (L := c.env.locals) (fun p hp => by cases List.mem_singleton.mp hp; exact ⟨ho, r.off _ (List.mem_append_left _ (List.mem_map_of_mem hm))⟩) q hz (k _ _ σ s.heap _ h (.int _ _) r)
/-- tuples of ints, like or not -/
theorem range_all_eq (as bs : List Int) : ((List.range (min as.length bs.length)).all (fun j => as.getD j 0 == bs.getD j 0) && as.length == bs.length) = (as == bs) := by
  rw [Bool.eq_iff_iff]
  simp only [Bool.and_eq_true, List.all_eq_true, List.mem_range, beq_iff_eq]
  constructor
  · rintro ⟨h1, h2⟩
    refine List.ext_getElem h2 fun i hi hi' => ?_
    have := h1 i (by omega)
    simpa [List.getD_eq_getElem?_getD, List.getElem?_eq_getElem hi, List.getElem?_eq_getElem hi'] using this
  · rintro rfl
    exact ⟨fun _ _ => rfl, rfl⟩
theorem c_eq_tup {a b : Addr} {as bs : List Int} (hu : c.A.units < cLine) (hm : (a, MO.tuple (IL as)) ∈ σ.heap) (hm' : (b, MO.tuple (IL bs)) ∈ σ.heap) (h : P (.bool (as == bs)) σ) : W2 c (compareOp .Eq) (.ref a) (.ref b) σ P := by
  intro u w hu' hw X s r Q E k
  cases hu'; cases hw
  obtain ⟨us, hr, hl⟩ := r.tup hm
  obtain ⟨ws, hr', hl'⟩ := r.tup hm'
  have l1 : us.toArray.size = as.length := by rw [List.size_toArray, ← hr.length]; simp
  have l2 : ws.toArray.size = bs.length := by rw [List.size_toArray, ← hr'.length]; simp
  have at_ : ∀ (ns : List Int) (us : List Value), VRs (IL ns) us → ∀ i (hi : i < us.length), ∃ t, us[i] = .int (ns.getD i 0) t := by
    intro ns us hr i hi
    obtain ⟨v, e1, e2⟩ := hr.get' (List.getElem?_eq_getElem hi)
    simp only [IL, List.getElem?_map, Option.map_eq_some_iff] at e1
    obtain ⟨m, e3, rfl⟩ := e1
    generalize us[i] = u at e2
    cases e2
    exact ⟨_, by rw [List.getD_eq_getElem?_getD, e3]; rfl⟩
  refine SeqAt.eq_tupleAt (e := fun j => as.getD j 0 == bs.getD j 0) hl hl' hu (fun j h1 h2 => ?_) ?_
  · obtain ⟨t, e1⟩ := at_ as us hr j (by simpa using h1)
    obtain ⟨t', e2⟩ := at_ bs ws hr' j (by simpa using h2)
    have e1' : us.toArray[j] = .int (as.getD j 0) t := by simpa using e1
    have e2' : ws.toArray[j] = .int (bs.getD j 0) t' := by simpa using e2
    rw [e1', e2']
    exact SeqAt.EqAt.int_int _ _ _ _
  · rw [l1, l2, range_all_eq]
    exact k _ _ σ s.heap s.toks h (.bool _) r
/-- a str among ints -/
theorem c_in_si {a : Addr} {ns : List Int} {x : Str} (hm : (a, MO.list (IL ns)) ∈ σ.heap) (h : P (.bool false) σ) : W2 c (compareOp .In) (.str x) (.ref a) σ P := by
  intro u w hu hw X s r Q E k
  cases hu; cases hw
  obtain ⟨us, hr, hl⟩ := r.list hm
  have hv : ∀ y ∈ us, ∃ n t, y = .int n t := fun y hy => by
    obtain ⟨i, hi, rfl⟩ := List.getElem_of_mem hy
    obtain ⟨v, e1, e2⟩ := hr.get' (List.getElem?_eq_getElem hi)
    simp only [IL, List.getElem?_map, Option.map_eq_some_iff] at e1
    obtain ⟨m, e3, rfl⟩ := e1
    generalize us[i] = u at e2
    cases e2
    exact ⟨_, _, rfl⟩
  refine SeqAt.in_listAt (fun _ => false) hl (fun y hy => ?_) ?_
  · obtain ⟨n, t, rfl⟩ := hv y (by simpa using hy)
    exact SeqAt.EqAt.int_str _ _ _ _
  · have : us.toArray.any (fun _ => false) = false := by simp
    rw [this]
    exact k _ _ σ s.heap s.toks h (.bool _) r
/-- an item of a tuple that stands always -/
theorem i_tuple_base {base : Heap} {value slice : Expr} {a : Addr} {us : List Value} {i : Int} {u : Value} {v : MV} (B : Based base c) (hb : base.get? a = some { cls := .type "tuple", data := .seq us.toArray }) (h0 : 0 ≤ i) (hf : i < 2 ^ 63) (hu : us[i.toNat]? = some u) (hv : VR v u) (hs : NoSlice slice) (h : P v σ) :
    W2 c (subscriptTail value slice) (.ref a) (.int i) σ P := by
  intro u' w hu' hw X s r Q E k
  cases hu'; cases hw
  have ht : IsTup s.heap a us.toArray := ⟨_, r.base B _ _ hb, rfl, 0, rfl⟩
  have hlt : i.toNat < us.toArray.size := by
    rw [List.getElem?_eq_some_iff] at hu
    simpa using hu.1
  refine subTail_ ht.typeIs slot_tuple_getitem.lookup (getItem_tuple ht (by omega) hf (j := i.toNat) ?_ (by simpa using hu) (k _ _ σ s.heap s.toks h hv r)) ⟨_, hs _ _⟩
  unfold seqIndex?
  have h1 : ¬ i < 0 := by omega
  simp only [h1, if_false]
  first
    | (rw [if_pos (by omega)]; done)
    | (simp; omega)
    | (split <;> simp_all <;> omega)
/-- -1 -/
theorem usub_ {n : Nat} {i : Int} {p pos : Pos} (h : P (.int (-i)) σ) : WE c (eval (.UnaryOp .USub (.Constant (.int i) n p) pos) c.env) σ P := by
  intro X s r Q E k
  exact wpAny_UnaryOp (wpAny_Constant_int (PySem.P.neg_int (k _ _ σ s.heap _ h (.int _ _) r)))
theorem Attr_ {value : Expr} {attr : Str} {pos : Pos} (he : eval (.Attribute value attr pos) c.env = (do
      let o ← eval value c.env
      standAt pos.atName
      let r ← holding [o] (getAttr o attr true)
      letTemporaryGo value o r
      Pure.pure r)) (ht : ∀ o r, letTemporaryGo value o r = Pure.pure ())
    (h : WE c (eval value c.env) σ fun v σ1 => ∀ u, VR v u → WE c (getAttr u attr true) σ1 P) : WE c (eval (.Attribute value attr pos) c.env) σ P := by
  intro X s r Q E k
  rw [he]
  refine wpAny_bind (h X s r _ _ fun b a σ' h' tk hp ha r' => wpAny_bind (wpAny_standAt (wpAny_bind (wpAny_holding (hp a ha X _ r' _ _ fun d e σ'' h'' tk'' hp' he' r'' => ?_)))))
  exact wpAny_bind (wpAny_of_eq (ht _ _) (wpAny_pure (k d e σ'' h'' tk'' hp' he' r'')))
end
section
variable {c : Cx} {σ : St}
/-- the last item of a list is set -/
theorem setLast_ {a : Addr} {vs : List MV} {v₀ v : MV} {pre post : List (Addr × MO)} {P : St → Prop} (hm : σ.heap = pre ++ (a, .list (vs ++ [v₀])) :: post) (hz : vs.length + 1 ≤ sizeLine) (h : P { σ with heap := pre ++ (a, .list (vs ++ [v])) :: post }) :
    ∀ u w x, VR (.ref a) u → VR (.int (-1)) w → VR v x → WU c (setItem u w x) σ fun _ => P := by
  intro u w x hu hw hx X s r Q E k
  cases hu; cases hw
  obtain ⟨us, n, hr, hl⟩ := r.listX (a := a) (vs := vs ++ [v₀]) (by rw [hm]; simp)
  have hlen : us.length = vs.length + 1 := by rw [← hr.length]; simp
  have hsz : us.toArray.size = vs.length + 1 := by simpa using hlen
  have hlim : (vs.length + 1 : Nat) ≤ 16777216 := by simpa [sizeLine] using hz
  refine ki_setBack (n := n) hl (by decide) (by rw [hsz]; omega) (by decide) ?_
  have e1 : (-1 + (us.toArray.size : Int)).toNat = vs.length := by rw [hsz]; omega
  rw [e1]
  have hvs : VRs (vs ++ [v]) (us.set vs.length x) := by
    have := hr.set hx vs.length
    simpa using this
  refine k () () _ _ s.toks h trivial (r.upd hm (fun b o hb e => (Heap.get?_update_other _ _ (Ne.symm hb)).trans e) (o' := { cls := .type "list", data := .seq (us.set vs.length x).toArray n }) ?_ (.list n hvs))
  rw [Heap.get?_update_self _ hl rfl]
  congr 1
  simp [Obj.mapSeq]
theorem AugSub_ {o i value : Expr} {tpos pos : Pos} {op : Operator} {P : MF → St → Prop} (hi : ∀ ov iv new, augStore i ov iv new = (do holding [new, ov, iv] (setItem ov iv new); release [new, ov, iv] []; Pure.pure .next))
    (h : WE c (eval o c.env) σ fun ov σ1 => WE c (eval i c.env) σ1 fun iv σ2 => W2 c getItem ov iv σ2 fun old σ3 => WE c (eval value c.env) σ3 fun v σ4 => W2 c (inplaceOp op) old v σ4 fun new σ5 => ∀ u w x, VR ov u → VR iv w → VR new x → WU c (setItem u w x) σ5 fun _ σ6 => P .next σ6) :
    WF c (exec (.AugAssign (.Subscript o i tpos) op value pos) c.env) σ P := by
  intro X s r Q E k
  exact wpAny_AugAssign_SubscriptAny (h X s r _ _ fun ov a σ1 h1 tk1 hp1 ha r1 => hp1 X _ r1 _ _ fun iv b σ2 h2 tk2 hp2 hb r2 => hp2 a b ha hb X _ r2 _ _ fun old d σ3 h3 tk3 hp3 hd r3 => hp3 X _ r3 _ _ fun v e σ4 h4 tk4 hp4 he r4 =>
    hp4 d e hd he X _ r4 _ _ fun new f σ5 h5 tk5 hp5 hf r5 => hp5 a b f ha hb hf X _ r5 _ _ fun _ _ σ6 h6 tk6 hp6 _ r6 => k _ _ σ6 h6 tk6 hp6 .next r6) hi
theorem g_list_last {a : Addr} {vs : List MV} {v : MV} {P : MV → St → Prop} (hm : (a, MO.list (vs ++ [v])) ∈ σ.heap) (hsz : vs.length < 2 ^ 62) (h : P v σ) : W2 c getItem (.ref a) (.int (-1)) σ P := by
  intro u w hu hw X s r Q E k
  cases hu; cases hw
  obtain ⟨us, hr, hl⟩ := r.list hm
  obtain ⟨u, e, q⟩ := hr.get? vs.length (v := v) (by simp)
  have hlen : us.toArray.size = vs.length + 1 := by rw [List.size_toArray, ← hr.length, List.length_append]; rfl
  refine wpAny_getItem_list_neg hl (by decide) (by rw [hlen]; omega) (by decide) (x := u) ?_ (k _ _ σ s.heap s.toks h q r)
  rw [hlen]
  have : (-1 + ((vs.length + 1 : Nat) : Int)).toNat = vs.length := by omega
  rw [this]; exact e
theorem ib_cat {a b : Str} {P : MV → St → Prop} (hs : a.length + b.length ≤ sizeLine) (h : P (.str (a ++ b)) σ) : W2 c (inplaceOp .Add) (.str a) (.str b) σ P := by
  intro u w hu hw X s r Q E k
  cases hu; cases hw
  exact PyProof.Rows.iadd_str (fun t' tk => k _ _ σ s.heap tk h (.str _ _) r) hs
/-- a Try whose body raises nothing -/
theorem Try_ {body orelse : List Stmt} {h₀ : ExceptHandler} {hs : List ExceptHandler} {pos : Pos} {P : MF → St → Prop} (h : WF c (execs body c.env) σ fun f σ' => match f with | .next => WF c (execs orelse c.env) σ' P | f => P f σ') : WF c (exec (.Try body (h₀ :: hs) orelse [] pos) c.env) σ P := by
  intro X s r Q E k
  refine wpAny_Try_except (h X s r _ _ fun f a σ' h' tk hp hf r' => ?_)
  cases hf with
  | next => exact hp X _ r' _ _ fun d e σ'' h'' tk'' hp' he r'' => k d e σ'' h'' tk'' hp' he r''
  | brk => exact k _ _ _ h' tk hp .brk r'
  | cont => exact k _ _ _ h' tk hp .cont r'
  | ret hv => exact k _ _ _ h' tk hp (.ret hv) r'
/-- a store to an item -/
theorem AssignSub_ {o i value : Expr} {tpos pos : Pos} {P : MF → St → Prop} (hs : swapsWithSole [.Subscript o i tpos] value pos.line c.env = Pure.pure false) (hw : swappedStores [.Subscript o i tpos] value c.env = Pure.pure none)
    (hr : ∀ v, assign (.Subscript o i tpos) c.env v = (do
      let ov ← holding [v] (eval o c.env)
      let iv ← holding [v, ov] (eval i c.env)
      standAt tpos
      holding [v, ov, iv] (setItem ov iv v)
      release [v, ov, iv] []))
    (h : WE c (eval value c.env) σ fun v σ1 => WE c (eval o c.env) σ1 fun ov σ2 => WE c (eval i c.env) σ2 fun iv σ3 => ∀ u w x, VR ov u → VR iv w → VR v x → WU c (setItem u w x) σ3 fun _ σ4 => P .next σ4) :
    WF c (exec (.Assign [.Subscript o i tpos] value pos) c.env) σ P := by
  intro X s r Q E k
  refine wpAny_Assign_stores (h X s r _ _ fun v a σ1 h1 tk1 hp1 ha r1 => ?_) hs hw
  show wpAny _ _ (assign (.Subscript o i tpos) c.env a) _ _ _
  rw [hr]
  refine wpAny_bind (wpAny_holding (hp1 X _ r1 _ _ fun ov b σ2 h2 tk2 hp2 hb r2 => wpAny_bind (wpAny_holding (hp2 X _ r2 _ _ fun iv d σ3 h3 tk3 hp3 hd r3 => ?_))))
  refine wpAny_bind (wpAny_standAt (wpAny_bind (wpAny_holding (hp3 b d a hb hd ha X _ r3 _ _ fun _ _ σ4 h4 tk4 hp4 _ r4 => ?_))))
  exact wpAny_release (k _ _ σ4 h4 tk4 hp4 .next r4)
end
end
section
open PySem PySem.Spec PySem.Calls PyProof.Rows PySem.W
abbrev codeO (qual : Str) : MO := .is fun o => ∃ vs t, o.data = .fields vs ∧ vs[1]? = some (.str qual t)
/-- the code table of a function that makes one function, before and after the first making -/
abbrev tabFull (P : Addr) (pos : Pos) (qual : Str) (c' : Addr) : List (Addr × MO) := [(c', codeO qual), (P, .raw (tabObj #[rawInt pos.line, rawInt pos.col, .ref c']))]
inductive Tab (P : Addr) (pos : Pos) (qual : Str) : List (Addr × MO) → Prop
  | new : Tab P pos qual [(P, .raw (tabObj #[]))]
  | full (c' : Addr) : Tab P pos qual (tabFull P pos qual c')
theorem updF_of {P : Addr} {o : Obj} : ∀ (pre post : List (Addr × Obj)), (∀ p ∈ pre, p.1 ≠ P) → (∀ p ∈ post, p.1 ≠ P) → UpdF P o (pre ++ (P, o) :: post) fun o' => pre ++ (P, o') :: post
  | [], _, _, h => .head h
  | p :: pre, post, h1, h2 => .tail (h1 p (List.mem_cons_self ..)) (updF_of pre post (fun q hq => h1 q (List.mem_cons_of_mem _ hq)) h2)
theorem LR.split : ∀ {H₁ H₂ : List (Addr × MO)} {X}, LR (H₁ ++ H₂) X → ∃ X₁ X₂, X = X₁ ++ X₂ ∧ LR H₁ X₁ ∧ LR H₂ X₂
  | [], _, X, h => ⟨[], X, rfl, .nil, h⟩
  | _ :: _, _, _, .cons a r =>
    let ⟨X₁, X₂, e, h1, h2⟩ := LR.split r
    ⟨_ :: X₁, X₂, by rw [e]; rfl, .cons a h1, h2⟩
theorem R.baseT {base c X σ h} (r : R c X σ h) (B : Based base c) : ∀ b o, base.get? b = some o → (tg c h).get? b = some o := fun b o e => r.turn.1.other b o (B.keep b o e) fun q => by
  have := B.off b (List.mem_filter.mp q).1
  rw [e] at this; cases this
theorem codeAmong_one {pos : Pos} {c' : Addr} : codeAmong pos [rawInt pos.line, rawInt pos.col, .ref c'] = some (.ref c') := by
  have := codeAmong_snoc (pos := pos) (c := .ref c') [] trivial rfl
  simpa using this
theorem R.raw {c X σ h} (r : R c X σ h) {a : Addr} {o : Obj} (hm : (a, MO.raw o) ∈ σ.heap) : h.get? a = some o := by
  obtain ⟨o', e, q⟩ := r.obj _ hm
  cases q
  exact e
theorem R.code {c X σ h} (r : R c X σ h) {a : Addr} {q : Str} (hm : (a, codeO q) ∈ σ.heap) : h.CodeRec (.ref a) q := by
  obtain ⟨o, e, z⟩ := r.obj _ hm
  cases z with
  | is z =>
  obtain ⟨vs, t, h1, h2⟩ := z
  exact ⟨a, o, vs, t, rfl, e, h1, h2⟩
section
variable {c : Cx} {V : List (Option MV)} {H H₂ : List (Addr × MO)} {cn : Str} {cs : Scope} {L a cd tab : Addr} {cl clos : List (Str × Addr)} {p : Program} {loose : List Str} {mean : ExcName → Option Value} {mg mb : Str → Option Value}
  {name : Str} {params : Arguments} {body : List Stmt} {scope : Scope} {pos : Pos} {P : MF → St → Prop}
theorem Nest_ {base : Heap} (B : Based base c) (henv : c.env = envX cn cs L a (.ref cd) cl) (T : Top p loose mean mg mb base) (C : CodeHd base cd tab) (ht : Tab tab pos (qualnameIn c.env name name) H₂) (hcl : closureFor scope c.env = Pure.pure clos)
    (hd0 : params.defaults = []) (hk0 : params.kw_defaults = []) (ha : annTrees params none c.env = [])
    (h : ∀ f c' doc ctv, WS c name (.ref f) ⟨V, (f, .raw (fnMade name (qualnameIn c.env name name) params body scope clos doc ((mg "__name__").getD .none) c' ctv)) :: H ++ tabFull tab pos (qualnameIn c.env name name) c'⟩ fun σ' => P .next σ') :
    WF c (exec (.FunctionDef name params body [] none [] scope none name pos) c.env) ⟨V, H ++ H₂⟩ P := by
  intro X s r Q E k
  refine nestDef_K hd0 hk0 ha ?_
  obtain ⟨X₀, l, m, F, hV, N⟩ := r.lr
  have T := T.keeps (r.baseT B)
  have C := C.keeps (r.baseT B)
  obtain ⟨X₁, X₂, rfl, l1, l2⟩ := l.split
  have hL : c.env.locals = L := by rw [henv]
  have kX1 : Mine.keys X₁ = Mine.keys H := l1.keys
  rw [henv] at hcl
  cases ht with
  | new =>
    cases l2 with | cons q l2 =>
    cases l2
    cases q
    have nd := r.nd
    have nd' : (Mine.keys H ++ tab :: Mine.keys X).Nodup := by simpa [Mine.keys, List.append_assoc] using nd
    have n1 : ∀ p ∈ X₁, p.1 ≠ tab := fun p hp q => by
      have hp' : p.1 ∈ Mine.keys H := kX1 ▸ List.mem_map_of_mem hp
      exact (List.nodup_append.mp nd').2.2 _ hp' tab (List.mem_cons_self ..) q
    have n2 : ∀ p ∈ X, p.1 ≠ tab := fun p hp q => (List.nodup_cons.mp (List.nodup_append.mp nd').2.1).1 (q ▸ List.mem_map_of_mem hp)
    have N' : News (tg c s.heap) L s.heap (X₁ ++ (tab, tabObj #[]) :: X) := by rw [← hL]; simpa using N
    have hk : ∀ (Q' : Value → Shared → Prop), wpAny (model c.prog c.w) c.A (makeFunction name (qualnameIn c.env name name) params (.stmts body) scope (envX cn cs L a (.ref cd) cl) [] [] [] pos pos.line) Q' E s →
      wpAny (model c.prog c.w) c.A (makeFunction name (qualnameIn c.env name name) params (.stmts body) scope c.env [] [] [] pos pos.line) Q' E s := fun Q' h => by rw [← henv] at h; exact h
    refine hk _ (nest_K (hL ▸ F) N' T C rfl (updF_of X₁ X n1 n2) (by trivial) rfl hcl fun f c' oc vs t ctv doc h' tk F' N'' hd hv hlt hcf => ?_)
    have e0 : (#[] ++ #[rawInt pos.line, rawInt pos.col, Value.ref c'] : Array Value) = #[rawInt pos.line, rawInt pos.col, Value.ref c'] := by simp
    rw [e0] at N''
    have lr : LR ((f, .raw (fnMade name (qualnameIn c.env name name) params body scope clos doc ((mg "__name__").getD .none) c' ctv)) :: H ++ tabFull tab pos (qualnameIn c.env name name) c')
        ((f, fnMade name (qualnameIn c.env name name) params body scope clos doc ((mg "__name__").getD .none) c' ctv) :: X₁ ++ [(c', oc), (tab, tabObj #[rawInt pos.line, rawInt pos.col, .ref c'])]) :=
      .cons (.raw _) (l1.append (.cons (.is ⟨vs, t, hd, hv⟩) (.cons (.raw _) .nil)))
    have ltc : ∀ b ∈ Mine.keys H ++ tab :: Mine.keys X, b < c' := fun b hb => by
      have e : Mine.keys H ++ tab :: Mine.keys X = Mine.keys (X₁ ++ (tab, tabObj #[]) :: X) := by simp [Mine.keys] at kX1 ⊢; exact kX1.symm
      rw [e] at hb
      obtain ⟨p, hp, rfl⟩ := List.mem_map.mp hb
      exact hlt p hp
    have rr : R c X ⟨V, (f, .raw (fnMade name (qualnameIn c.env name name) params body scope clos doc ((mg "__name__").getD .none) c' ctv)) :: H ++ tabFull tab pos (qualnameIn c.env name name) c'⟩ h' := by
      refine r.relr lr (hL ▸ F') hV (fun p hp => ?_) ?_
      · rw [hL]
        apply N''
        simp only [List.cons_append, List.mem_cons, List.mem_append, List.append_assoc, List.nil_append] at hp ⊢
        rcases hp with h | h | h | h | h
        · exact .inl h
        · exact .inr (.inr (.inl h))
        · exact .inr (.inl h)
        · exact .inr (.inr (.inr (.inl h)))
        · exact .inr (.inr (.inr (.inr h)))
      · have e : Mine.keys ((f, MO.raw (fnMade name (qualnameIn c.env name name) params body scope clos doc ((mg "__name__").getD .none) c' ctv)) :: H ++ tabFull tab pos (qualnameIn c.env name name) c') ++ Mine.keys X = f :: (Mine.keys H ++ c' :: tab :: Mine.keys X) := by simp [Mine.keys]
        rw [e]
        have pm : (f :: (Mine.keys H ++ c' :: tab :: Mine.keys X)).Perm (f :: c' :: (Mine.keys H ++ tab :: Mine.keys X)) := List.Perm.cons _ List.perm_middle
        refine pm.nodup_iff.mpr (List.nodup_cons.mpr ⟨fun q => ?_, List.nodup_cons.mpr ⟨fun q => Nat.lt_irrefl _ (ltc _ q), nd'⟩⟩)
        rcases List.mem_cons.mp q with q | q
        · rw [q] at hcf; exact Nat.lt_irrefl _ hcf
        · exact Nat.lt_irrefl _ (Nat.lt_trans hcf (ltc _ q))
    exact h f c' doc ctv _ (.val _) X { s with heap := h', toks := tk } rr _ _ fun _ _ σ' h2 tk2 hp _ r2 => k _ _ σ' h2 tk2 hp .next r2
  | full c' =>
    have N' : News (tg c s.heap) L s.heap ((X₁ ++ X₂) ++ X) := by rw [← hL]; exact N
    have hk : ∀ (Q' : Value → Shared → Prop), wpAny (model c.prog c.w) c.A (makeFunction name (qualnameIn c.env name name) params (.stmts body) scope (envX cn cs L a (.ref cd) cl) [] [] [] pos pos.line) Q' E s →
      wpAny (model c.prog c.w) c.A (makeFunction name (qualnameIn c.env name name) params (.stmts body) scope c.env [] [] [] pos pos.line) Q' E s := fun Q' h => by rw [← henv] at h; exact h
    have hmem : (tab, tabObj #[rawInt pos.line, rawInt pos.col, .ref c']) ∈ (X₁ ++ X₂) ++ X := by
      cases l2 with | cons q l2 =>
      cases l2 with | cons q2 l2 =>
      cases q2
      simp
    refine hk _ (nestHit_K (hL ▸ F) N' T C rfl hmem (by exact trivial) codeAmong_one hcl fun f ctv doc h' tk F' N'' hlt => ?_)
    have rr : R c X ⟨V, (f, .raw (fnMade name (qualnameIn c.env name name) params body scope clos doc ((mg "__name__").getD .none) c' ctv)) :: H ++ tabFull tab pos (qualnameIn c.env name name) c'⟩ h' := by
      refine r.relr (X₂ := (f, _) :: (X₁ ++ X₂)) (.cons (.raw _) (l1.append l2)) (hL ▸ F') hV (by rw [hL]; exact N'') ?_
      show (f :: (Mine.keys (H ++ tabFull tab pos (qualnameIn c.env name name) c') ++ Mine.keys X)).Nodup
      refine List.nodup_cons.mpr ⟨fun q => ?_, r.nd⟩
      have e : Mine.keys (H ++ tabFull tab pos (qualnameIn c.env name name) c') ++ Mine.keys X = Mine.keys ((X₁ ++ X₂) ++ X) := by
        have := (l1.append l2).keys
        simp only [Mine.keys, List.map_append] at this ⊢
        rw [← this]
      rw [e] at q
      obtain ⟨p, hp, e2⟩ := List.mem_map.mp q
      have := hlt p hp
      rw [e2] at this
      exact Nat.lt_irrefl _ this
    exact h f c' doc ctv _ (.val _) X { s with heap := h', toks := tk } rr _ _ fun _ _ σ' h2 tk2 hp _ r2 => k _ _ σ' h2 tk2 hp .next r2
end
end
section
open PySem PySem.Spec PySem.Calls PyProof.Rows PySem.W
/-- a name's value; a name's new value; a ledger's new object: each found by its constructors -/
inductive LookV : List Str → List (Option MV) → Str → MV → Prop
  | here {x ns v vs} : LookV (x :: ns) (some v :: vs) x v
  | there {y ns a vs x v} : LookV ns vs x v → LookV (y :: ns) (a :: vs) x v
inductive SetV : List Str → List (Option MV) → Str → MV → List (Option MV) → Prop
  | here {x ns a vs v} : SetV (x :: ns) (a :: vs) x v (some v :: vs)
  | there {y ns a vs x v vs'} : SetV ns vs x v vs' → SetV (y :: ns) (a :: vs) x v (a :: vs')
inductive UpdH (a : Addr) (mo mo' : MO) : List (Addr × MO) → List (Addr × MO) → Prop
  | here {l} : UpdH a mo mo' ((a, mo) :: l) ((a, mo') :: l)
  | there {p l l'} : UpdH a mo mo' l l' → UpdH a mo mo' (p :: l) (p :: l')
theorem LookV.ix {ns vs x v} (h : LookV ns vs x v) : ∃ i : Nat, ns[i]? = some x ∧ vs[i]? = some (some v) := by
  induction h with
  | here => exact ⟨0, rfl, rfl⟩
  | there _ ih => obtain ⟨i, a, b⟩ := ih; exact ⟨i + 1, a, b⟩
theorem SetV.ix {ns vs x v vs'} (h : SetV ns vs x v vs') : ∃ i : Nat, ns[i]? = some x ∧ vs' = vs.set i (some v) := by
  induction h with
  | here => exact ⟨0, rfl, rfl⟩
  | there _ ih => obtain ⟨i, a, rfl⟩ := ih; exact ⟨i + 1, a, rfl⟩
theorem UpdH.app {a : Addr} {mo mo' : MO} {l l' : List (Addr × MO)} (h : UpdH a mo mo' l l') : ∀ M : List (Addr × MO), UpdH a mo mo' (M ++ l) (M ++ l')
  | [] => h
  | _ :: M => .there (h.app M)
theorem UpdH.split {a mo mo' l l'} (h : UpdH a mo mo' l l') : ∃ pre post, l = pre ++ (a, mo) :: post ∧ l' = pre ++ (a, mo') :: post := by
  induction h with
  | here => exact ⟨[], _, rfl, rfl⟩
  | there _ ih => obtain ⟨pre, post, rfl, rfl⟩ := ih; exact ⟨_ :: pre, post, rfl, rfl⟩
section
variable {c : Cx} {V V' : List (Option MV)} {H H' : List (Addr × MO)}
theorem n_local {x : Str} {pos : Pos} {v : MV} {P : MV → St → Prop} (hv : LookV c.names V x v) (hk : c.env.scope.kind = .function) (hl : c.env.kindOf x = some .local) (hd : (x == ("__debug__" : Str)) = false) (h : P v ⟨V, H⟩) : WE c (eval (.Name x pos) c.env) ⟨V, H⟩ P := by
  obtain ⟨i, a, b⟩ := hv.ix
  exact local_ i a b hk hl hd h
theorem s_local {x : Str} {v : MV} {P : St → Prop} (hv : SetV c.names V x v V') (hn : c.names.Nodup) (hl : c.env.kindOf x = some .local)
    (hp : (c.env.scope.kind == .class || (c.env.scope.kind == .module && c.env.locals != c.env.globals)) = false) (h : P ⟨V', H⟩) : WS c x v ⟨V, H⟩ P := by
  obtain ⟨i, a, rfl⟩ := hv.ix
  exact store_local i a hn hl hp h
theorem s_cell {x : Str} {a : Addr} {v : MV} {v₀ : Option MV} {P : St → Prop} (hc : c.env.cells.lookup x = some a) (hv : UpdH a (.cell v₀) (.cell (some v)) H H') (hk : c.env.scope.kind = .function) (hl : c.env.kindOf x = some .cell) (h : P ⟨V, H'⟩) : WS c x v ⟨V, H⟩ P := by
  obtain ⟨pre, post, rfl, rfl⟩ := hv.split
  exact store_cell (pre := pre) (post := post) hc rfl hk hl h
theorem a_name {x : Str} {pos : Pos} {v : MV} {P : St → Prop} (h : WS c x v ⟨V, H⟩ P) : WA c (.Name x pos) v ⟨V, H⟩ P := assign_name h
theorem append' {a : Addr} {vs : List MV} {v : MV} {P : MV → St → Prop} (hm : UpdH a (.list vs) (.list (vs ++ [v])) H H') (hz : vs.length ≤ sizeLine) (h : P .none ⟨V, H'⟩) : WC c (.builtin "list.append") [.ref a, v] ⟨V, H⟩ P := by
  obtain ⟨pre, post, rfl, rfl⟩ := hm.split
  exact append_ (pre := pre) (post := post) rfl hz h
theorem setLast' {a : Addr} {vs : List MV} {v₀ v : MV} {P : St → Prop} (hm : UpdH a (.list (vs ++ [v₀])) (.list (vs ++ [v])) H H') (hz : vs.length + 1 ≤ sizeLine) (h : P ⟨V, H'⟩) : ∀ u w x, VR (.ref a) u → VR (.int (-1)) w → VR v x → WU c (setItem u w x) ⟨V, H⟩ fun _ => P := by
  obtain ⟨pre, post, rfl, rfl⟩ := hm.split
  exact setLast_ (pre := pre) (post := post) rfl hz h
end
theorem sub_refl {α} (l : List α) : l.Sublist l := List.Sublist.refl l
theorem le_of {V V' : List (Option MV)} {H H' : List (Addr × MO)} (hV : VLe V' V) (hH : H'.Sublist H) : Le ⟨V', H'⟩ ⟨V, H⟩ := ⟨hH, hV⟩
end
section
open PySem PySem.Spec PySem.Calls PyProof.Rows PySem.W
theorem rints_get {n i : Nat} {y : MV} (h : (rints 0 1 n)[i]? = some y) : i < n ∧ y = .int i := by
  have hlt : i < n := by
    have := (List.getElem?_eq_some_iff.mp h).1
    simpa [rints] using this
  refine ⟨hlt, ?_⟩
  simp only [rints, List.getElem?_map, List.getElem?_range hlt, Option.map_some, Option.some.injEq] at h
  rw [← h]; simp
theorem rints_len (a st : Int) (n : Nat) : (rints a st n).length = n := by simp [rints]
theorem rsize1 (n : Nat) : Builtin.Range.rangeSize 0 (n : Int) 1 = n := by
  rw [rangeSize_one]; split <;> omega
theorem itb_range1 {c : Cx} {σ : St} {a : Addr} {n : Nat} (hh : c.A.handled = none) (hn : n ≤ 1048576) (hm : (a, MO.range 0 (n : Int) 1) ∈ σ.heap) : Itb c (.ref a) σ (rints 0 1 n) (fun _ => True) :=
  itb_range hh hm (small_one (by decide) (by decide) (by omega) (by omega)) (rsize1 n)
theorem tuple_r1 {c : Cx} {σ : St} {a : Addr} {n : Nat} {P : MV → St → Prop} (hh : c.A.handled = none) (hn : n ≤ 1048576) (hm : (a, MO.range 0 (n : Int) 1) ∈ σ.heap) (h : ∀ t, P (.ref t) { σ with heap := (t, .tuple (rints 0 1 n)) :: σ.heap }) : WC c (.type "tuple") [.ref a] σ P :=
  tuple_r hh hm (small_one (by decide) (by decide) (by omega) (by omega)) (rsize1 n) (by omega) h
theorem len_tI {c : Cx} {σ : St} {a : Addr} {ns : List Int} {P : MV → St → Prop} (hm : (a, MO.tuple (IL ns)) ∈ σ.heap) (hz : ns.length ≤ sizeLine) (h : P (.int ns.length) σ) : WC c (.builtin "len") [.ref a] σ P :=
  len_t hm (by simpa using hz) (by simpa using h)
theorem len_lI {c : Cx} {σ : St} {a : Addr} {ns : List Int} {P : MV → St → Prop} (hm : (a, MO.list (IL ns)) ∈ σ.heap) (hz : ns.length ≤ sizeLine) (h : P (.int ns.length) σ) : WC c (.builtin "len") [.ref a] σ P :=
  len_l hm (by simpa using hz) (by simpa using h)
theorem i_tupleI {c : Cx} {σ : St} {value slice : Expr} {a : Addr} {ns : List Int} {i v : Int} {P : MV → St → Prop} (hm : (a, MO.tuple (IL ns)) ∈ σ.heap) (h0 : 0 ≤ i) (hf : i < 2 ^ 63) (hv : ns[i.toNat]? = some v) (hs : NoSlice slice) (h : P (.int v) σ) :
    W2 c (subscriptTail value slice) (.ref a) (.int i) σ P := i_tuple hm h0 hf (by simp [IL, hv]) hs h
theorem i_listI {c : Cx} {σ : St} {value slice : Expr} {a : Addr} {ns : List Int} {i v : Int} {P : MV → St → Prop} (hm : (a, MO.list (IL ns)) ∈ σ.heap) (h0 : 0 ≤ i) (hf : i < 2 ^ 63) (hv : ns[i.toNat]? = some v) (hs : NoSlice slice) (h : P (.int v) σ) :
    W2 c (subscriptTail value slice) (.ref a) (.int i) σ P := i_list hm h0 hf (by simp [IL, hv]) hs h
/-- a comprehension's frame stands over what the frame stands over -/
theorem Based.comp {base : Heap} {c : Cx} (B : Based base c) {scope : Scope} {cl : List (Str × Addr)} {C : Addr} {g : Heap} {x : Str} (hk : scope.kind = .function) (hg : Keeps c g) : Based base (cxC c scope cl C g x) :=
  ⟨fun b o e => by
    obtain ⟨sl, h1, h2⟩ := hg b o (B.keep b o e)
    have := h2 fun q => by have := B.off b q; rw [e] at this; cases this
    subst this
    exact h1, B.globals, B.builtins, hk, B.off⟩
theorem str_i' {c : Cx} {σ : St} {n : Int} {P : MV → St → Prop} (h0 : 0 ≤ n) (h1 : n < 1000000) (h : P (.str (toString n)) σ) : WC c (.type "str") [.int n] σ P := by
  refine str_i ?_ h
  have h2 : n.natAbs < 2 ^ 1920 := by
    have : n.natAbs < 1000000 := by omega
    exact Nat.lt_of_lt_of_le this (Nat.le_trans (by decide : 1000000 ≤ 2 ^ 20) (Nat.pow_le_pow_right (by decide) (by omega)))
  by_cases hz : n.natAbs = 0
  · rw [hz]; decide
  · exact (Nat.log2_lt hz).mpr h2
theorem W.less {α β : Type} {rel : β → α → Prop} {c : Cx} {t : Sem α} {σ : St} {P : β → St → Prop} (h : W rel c t σ fun b σ' => ∃ σ'', Le σ'' σ' ∧ P b σ'') : W rel c t σ P := by
  intro X s r Q E k
  refine h X s r Q E fun b a σ' h' tk hp ha r' => ?_
  obtain ⟨σ'', hl, hp⟩ := hp
  exact k b a σ'' h' tk hp ha (r'.le hl)
theorem WC.less {c : Cx} {f : Value} {vs : List MV} {σ : St} {P : MV → St → Prop} (h : WC c f vs σ fun v σ' => ∃ σ'', Le σ'' σ' ∧ P v σ'') : WC c f vs σ P := fun us hu => W.less (h us hu)
/-- what an attribute of an object that stands always is -/
def AttrV (prog : Program) (w : World) (base : Heap) (o : Addr) (attr : Str) (v : Addr) : Prop := ∀ (A : Around) (E : Value → Shared → Prop) (s : Shared) (Q : Value → Shared → Prop), (∀ b ob, base.get? b = some ob → s.heap.get? b = some ob) → (∀ tk, Q (.ref v) { s with toks := tk }) → wpAny (model prog w) A (getAttr (.ref o) attr true) Q E s
/-- whether two objects that stand always are alike -/
def EqV (prog : Program) (w : World) (base : Heap) (a b : Addr) (r : Bool) : Prop := ∀ (A : Around) (E : Value → Shared → Prop) (s : Shared) (Q : Value → Shared → Prop), A.units < cLine → (∀ b ob, base.get? b = some ob → s.heap.get? b = some ob) → (∀ tk, Q (.bool r) { s with toks := tk }) → wpAny (model prog w) A (compareOp .Eq (.ref a) (.ref b)) Q E s
theorem attr_ {base : Heap} {c : Cx} {V : List (Option MV)} {H : List (Addr × MO)} {x : Str} {p pos : Pos} {attr : Str} {o v : Addr} {P : MV → St → Prop} (B : Based base c) (G : GN base x (.ref o)) (hk : c.env.kindOf x = some .globalImplicit) (hd : (x == ("__debug__" : Str)) = false) (hA : AttrV c.prog c.w base o attr v) (h : P (.ref v) ⟨V, H⟩) :
    WE c (eval (.Attribute (.Name x p) attr pos) c.env) ⟨V, H⟩ P := by
  refine Attr_ rfl (fun _ _ => rfl) (gname_ B G hk hd fun u hu X s r Q E k => ?_)
  cases hu
  exact hA _ _ _ _ (r.base B) fun tk => k _ _ _ s.heap tk h (.val _) r
theorem c_eqv {base : Heap} {c : Cx} {V : List (Option MV)} {H : List (Addr × MO)} {a b : Addr} {q : Bool} {P : MV → St → Prop} (B : Based base c) (hu : c.A.units < cLine) (hE : EqV c.prog c.w base a b q) (h : P (.bool q) ⟨V, H⟩) : W2 c (compareOp .Eq) (.ref a) (.ref b) ⟨V, H⟩ P := by
  intro u w hu' hw X s r Q E k
  cases hu'; cases hw
  exact hE _ _ _ _ hu (r.base B) fun tk => k _ _ _ s.heap tk h (.bool _) r
theorem ite_p {b : Bool} {P Q : Prop} (hb : b = true) (h : P) : if b = true then P else Q := by rw [if_pos hb]; exact h
theorem ite_n {b : Bool} {P Q : Prop} (hb : b = false) (h : Q) : if b = true then P else Q := by rw [if_neg (by rw [hb]; decide)]; exact h
theorem was_cons {c : Cx} {t : Expr} {ts : List Expr} {v : MV} {vs : List MV} {σ : St} {P : St → Prop} (h : WA c t v σ fun σ' => WAs c ts vs σ' P) : WAs c (t :: ts) (v :: vs) σ P := h
theorem was_nil {c : Cx} {σ : St} {P : St → Prop} (h : P σ) : WAs c [] [] σ P := h
theorem wss_cons {c : Cx} {x : Str} {xs : List Str} {v : MV} {vs : List MV} {σ : St} {P : St → Prop} (h : WS c x v σ fun σ' => WSs c xs vs σ' P) : WSs c (x :: xs) (v :: vs) σ P := h
theorem wss_nil {c : Cx} {σ : St} {P : St → Prop} (h : P σ) : WSs c [] [] σ P := h
abbrev NL (l : List Nat) : List MV := IL (l.map Int.ofNat)
theorem any_nat (l : List Nat) (k : Nat) : (l.map Int.ofNat).any (· == (k : Int)) = l.contains k := by
  induction l with
  | nil => rfl
  | cons a l ih =>
    rw [List.map_cons, List.any_cons, ih, List.contains_cons]
    congr 1
    rw [Bool.eq_iff_iff, beq_iff_eq, beq_iff_eq]
    constructor
    · intro h; exact (Int.ofNat_inj.mp h).symm
    · intro h; subst h; rfl
theorem NL_len (l : List Nat) : (NL l).length = l.length := by simp [IL]
section
variable {c : Cx} {σ : St} {P : MV → St → Prop}
theorem getD_of {l : List Nat} {k : Nat} (h : k < l.length) : l[k]? = some (l.getD k 0) := by rw [List.getD_eq_getElem?_getD, List.getElem?_eq_getElem h]; rfl
theorem len_tN {a : Addr} {ns : List Nat} (hm : (a, MO.tuple (NL ns)) ∈ σ.heap) (hz : ns.length ≤ 1000000) (h : P (.int ns.length) σ) : WC c (.builtin "len") [.ref a] σ P :=
  len_t hm (by rw [NL_len]; simp only [sizeLine]; omega) (by rw [NL_len]; exact h)
theorem len_lN {a : Addr} {ns : List Nat} (hm : (a, MO.list (NL ns)) ∈ σ.heap) (hz : ns.length ≤ 1000000) (h : P (.int ns.length) σ) : WC c (.builtin "len") [.ref a] σ P :=
  len_l hm (by rw [NL_len]; simp only [sizeLine]; omega) (by rw [NL_len]; exact h)
theorem i_tupleN {value slice : Expr} {a : Addr} {ns : List Nat} {k : Nat} (hm : (a, MO.tuple (NL ns)) ∈ σ.heap) (hk : k < ns.length) (hz : ns.length ≤ 1000000) (hs : NoSlice slice) (h : P (.int (ns.getD k 0 : Nat)) σ) : W2 c (subscriptTail value slice) (.ref a) (.int k) σ P :=
  i_tuple hm (by omega) (by omega) (by rw [Int.toNat_natCast]; simp only [IL, List.getElem?_map, getD_of hk, Option.map_some]; rfl) hs h
theorem i_listN {value slice : Expr} {a : Addr} {ns : List Nat} {k : Nat} (hm : (a, MO.list (NL ns)) ∈ σ.heap) (hk : k < ns.length) (hz : ns.length ≤ 1000000) (hs : NoSlice slice) (h : P (.int (ns.getD k 0 : Nat)) σ) : W2 c (subscriptTail value slice) (.ref a) (.int k) σ P :=
  i_list hm (by omega) (by omega) (by rw [Int.toNat_natCast]; simp only [IL, List.getElem?_map, getD_of hk, Option.map_some]; rfl) hs h
theorem c_in_listN {a : Addr} {ns : List Nat} {k : Nat} (hm : (a, MO.list (NL ns)) ∈ σ.heap) (h : P (.bool (ns.contains k)) σ) : W2 c (compareOp .In) (.int k) (.ref a) σ P := c_in_list hm (by rw [any_nat]; exact h)
theorem c_notin_listN {a : Addr} {ns : List Nat} {k : Nat} (hm : (a, MO.list (NL ns)) ∈ σ.heap) (h : P (.bool (!ns.contains k)) σ) : W2 c (compareOp .NotIn) (.int k) (.ref a) σ P := c_notin_list hm (by rw [any_nat]; exact h)
theorem c_notin_tupleN {a : Addr} {ns : List Nat} {k : Nat} (hm : (a, MO.tuple (NL ns)) ∈ σ.heap) (h : P (.bool (!ns.contains k)) σ) : W2 c (compareOp .NotIn) (.int k) (.ref a) σ P := by
  intro u w hu hw X s r Q E kk
  cases hu; cases hw
  obtain ⟨us, hr, hl⟩ := r.tup hm
  have hi := hr.ints
  refine SeqAt.notIn_tupleAt (isInt k) hl (fun y hy => ?_) ?_
  · obtain ⟨i, hi2, rfl⟩ := List.getElem_of_mem (Array.mem_toList_iff.mpr hy)
    obtain ⟨v, e1, e2⟩ := hr.get' (i := i) (u := us[i]'(by simpa using hi2)) (List.getElem?_eq_getElem (by simpa using hi2))
    simp only [NL, IL, List.getElem?_map, Option.map_eq_some_iff] at e1
    obtain ⟨m, e3, rfl⟩ := e1
    have e4 : us.toArray.toList[i] = us[i]'(by simpa using hi2) := by simp
    rw [e4]
    generalize us[i]'(by simpa using hi2) = u at e2
    cases e2
    exact SeqAt.EqAt.int_int _ _ _ _
  · rw [← Array.any_toList, show us.toArray.toList = us from rfl, any_isInt k hi, any_nat]
    exact kk _ _ σ s.heap s.toks h (.bool _) r
theorem c_eqN {a b : Nat} (h : P (.bool (a == b)) σ) : W2 c (compareOp .Eq) (.int a) (.int b) σ P := c_eq (by
  have : ((a : Int) == (b : Int)) = (a == b) := by
    rw [Bool.eq_iff_iff, beq_iff_eq, beq_iff_eq]
    exact ⟨fun h => Int.ofNat_inj.mp h, fun h => by rw [h]⟩
  rw [this]; exact h)
end
theorem nodup4 (L : Nat) : ([L + 1 + 1 + 1 + 1, L + 1 + 1 + 1, L + 1 + 1, L + 1] : List Nat).Nodup := by
  simp only [List.nodup_cons, List.mem_cons, List.not_mem_nil, or_false, not_or, List.nodup_nil, and_true, not_false_eq_true]
  omega
theorem wpart_none {c : Cx} {σ : St} {P : Option Int → St → Prop} (h : P none σ) : WPart c none σ P := h
theorem wpart_some {c : Cx} {σ : St} {e : Expr} {P : Option Int → St → Prop} (h : WE c (eval e c.env) σ fun v σ' => ∃ i, v = .int i ∧ P (some i) σ') : WPart c (some e) σ P := h
/-- a list's foremost part, ahead of F -/
inductive Suf {α : Type} (F : List α) : List α → List α → Prop
  | nil : Suf F [] F
  | cons {p M l} : Suf F M l → Suf F (p :: M) (p :: l)
  | last {M} : Suf F M (M ++ F)
  | app {N M l} : Suf F M l → Suf F (N ++ M) (N ++ l)
theorem Suf.eq {α : Type} {F M l : List α} (h : Suf F M l) : l = M ++ F := by
  induction h with
  | nil => rfl
  | cons _ ih => rw [ih]; rfl
  | last => rfl
  | app _ ih => rw [ih, List.append_assoc]
theorem suf_use {V : List (Option MV)} {F M l : List (Addr × MO)} {f : MF} {P : MF → St → Prop} (h : Suf F M l) (hP : P f ⟨V, M ++ F⟩) : P f ⟨V, l⟩ := h.eq ▸ hP
theorem b_modN {c : Cx} {σ : St} {a b : Nat} {P : MV → St → Prop} (hb : b ≠ 0) (h : P (.int ((a % b : Nat) : Int)) σ) : W2 c (binaryOp .Mod) (.int (a : Int)) (.int (b : Int)) σ P := by
  refine b_mod (by omega) ?_
  rw [show Int.fmod (a : Int) (b : Int) = ((a % b : Nat) : Int) from by rw [Int.fmod_eq_emod_of_nonneg _ (by omega)]; rfl]
  exact h
theorem ite_t {P Q : Prop} (h : P) : if true = true then P else Q := by rw [if_pos rfl]; exact h
theorem ite_f {P Q : Prop} (h : Q) : if false = true then P else Q := by rw [if_neg (by decide)]; exact h
/-- two ways to a value, both leaving the state as it was -/
theorem ite_we {c : Cx} {b : Bool} {t1 t2 : Sem Value} {σ : St} {P : MV → St → Prop} (Pm : MV → Prop) (h1 : b = true → WE c t1 σ fun v σ' => Pm v ∧ σ' = σ) (h2 : b = false → WE c t2 σ fun v σ' => Pm v ∧ σ' = σ) (h : ∀ v, Pm v → P v σ) : if b = true then WE c t1 σ P else WE c t2 σ P := by
  cases b with
  | true => exact ite_t ((h1 rfl).mono fun v σ' ⟨a, e⟩ => e ▸ h v a)
  | false => exact ite_f ((h2 rfl).mono fun v σ' ⟨a, e⟩ => e ▸ h v a)
theorem num_len {n : Int} (h0 : 0 ≤ n) (h1 : n < 1000000) : (toString n : Str).length ≤ 10 := PySem.W.KT.len_num h0 (by omega)
section
variable {c : Cx} {σ : St} {scope : Scope} {cl : List (Str × Addr)} {x : Str} {iter elt : Expr} {ifs : List Expr} {px pos : Pos}
/-- each item gives one value and leaves nothing behind -/
structure PureC (c : Cx) (scope : Scope) (cl : List (Str × Addr)) (x : Str) (elt : Expr) (items : List MV) (Cond : St → Prop) (H₀ : List (Addr × MO)) (out : List MV) : Prop where
  size : items.length ≤ sizeLine
  len : out.length = items.length
  cond : ∀ V, Cond ⟨V, H₀⟩
  turn : ∀ (i : Nat) (y : MV) C g, items[i]? = some y → Keeps c g → WE (cxC c scope cl C g x) (eval elt (compEnvC scope cl C c.env)) ⟨[some y], H₀⟩ fun v σ3 => out[i]? = some v ∧ H₀.Sublist σ3.heap
theorem PureC.comp {items : List MV} {Cond : St → Prop} {H₀ : List (Addr × MO)} {out : List MV} (K : PureC c scope cl x elt items Cond H₀ out) : Comp c scope cl x [] elt items Cond H₀ fun i acc H => H = H₀ ∧ acc = out.take i where
  size := K.size
  start := ⟨rfl, rfl⟩
  cond := by rintro i acc H V ⟨rfl, _⟩; exact K.cond V
  turn := by
    rintro i y acc H C g hy ⟨rfl, rfl⟩ hg
    refine tests_nil (c := cxC c scope cl C g x) ?_
    simp only [if_true]
    refine (K.turn i y C g hy hg).mono ?_
    rintro v σ3 ⟨ho, hs⟩
    exact ⟨H, hs, rfl, by rw [List.take_add_one, ho]; rfl⟩
theorem ListPure_ {P : MV → St → Prop} (ok : CompOk c scope cl x iter)
    (h : WE c (eval iter c.env) σ fun v σ1 => ∃ items Cond out, Itb c v σ1 items Cond ∧ PureC c scope cl x elt items Cond σ1.heap out ∧ ∀ D, P (.ref D) ⟨σ1.vars, (D, .list out) :: σ1.heap⟩) :
    WE c (eval (.ListComp elt [⟨.Name x px, iter, [], 0⟩] scope pos) c.env) σ P := by
  refine ListComp_ ok (h.mono ?_)
  rintro v σ1 ⟨items, Cond, out, I, K, hP⟩
  refine ⟨items, Cond, _, I, K.comp, ?_⟩
  rintro acc H D ⟨rfl, rfl⟩
  rw [← K.len, List.take_length]
  exact hP D
theorem AssignPure_ {y : Str} {py spos : Pos} {P : MF → St → Prop} (ok : CompOk c scope cl x iter)
    (hsw : swapsWith (.ListComp elt [⟨.Name x px, iter, [], 0⟩] scope pos) (some (.Name y py)) spos.line c.env = Pure.pure true)
    (h : WE c (eval iter c.env) σ fun v σ1 => ∃ items Cond out, Itb c v σ1 items Cond ∧ PureC c scope cl x elt items Cond σ1.heap out ∧ ∀ D, WA c (.Name y py) (.ref D) ⟨σ1.vars, (D, .list out) :: σ1.heap⟩ fun σ2 => P .next σ2) :
    WF c (exec (.Assign [.Name y py] (.ListComp elt [⟨.Name x px, iter, [], 0⟩] scope pos) spos) c.env) σ P := by
  refine AssignComp_ ok hsw (h.mono ?_)
  rintro v σ1 ⟨items, Cond, out, I, K, hP⟩
  refine ⟨items, Cond, _, I, K.comp, ?_⟩
  rintro acc H D ⟨rfl, rfl⟩
  rw [← K.len, List.take_length]
  exact hP D
/-- the items that pass a test, as they are -/
structure FiltC (c : Cx) (scope : Scope) (cl : List (Str × Addr)) (x : Str) (test : Expr) (items : List MV) (Cond : St → Prop) (H₀ : List (Addr × MO)) (p : MV → Bool) : Prop where
  size : items.length ≤ sizeLine
  cond : ∀ V, Cond ⟨V, H₀⟩
  loc : scope.kind = .function ∧ scope.names.lookup x = some .local ∧ (x == ("__debug__" : Str)) = false
  turn : ∀ (i : Nat) (y : MV) C g, items[i]? = some y → Keeps c g → WB (cxC c scope cl C g x) (isTrue test (compEnvC scope cl C c.env) (eval test (compEnvC scope cl C c.env))) ⟨[some y], H₀⟩ fun b σ3 => b = p y ∧ H₀.Sublist σ3.heap ∧ VLe [some y] σ3.vars
theorem FiltC.comp {test : Expr} {pe : Pos} {items : List MV} {Cond : St → Prop} {H₀ : List (Addr × MO)} {p : MV → Bool} (K : FiltC c scope cl x test items Cond H₀ p) : Comp c scope cl x [test] (.Name x pe) items Cond H₀ fun i acc H => H = H₀ ∧ acc = (items.take i).filter p where
  size := K.size
  start := ⟨rfl, rfl⟩
  cond := by rintro i acc H V ⟨rfl, _⟩; exact K.cond V
  turn := by
    rintro i y acc H C g hy ⟨rfl, rfl⟩ hg
    refine tests_one (c := cxC c scope cl C g x) ((K.turn i y C g hy hg).mono ?_)
    rintro b σ3 ⟨rfl, hs, hv⟩
    have e : (items.take (i + 1)).filter p = (items.take i).filter p ++ (if p y then [y] else []) := by
      rw [List.take_add_one, hy, List.filter_append]
      cases hp : p y <;> simp [hp]
    cases hp : p y with
    | true =>
      simp only [if_true]
      obtain ⟨V3, H3⟩ := σ3
      have hl : LookV (cxC c scope cl C g x).names V3 x y := by
        cases hv with | keep h => exact .here
      refine n_local hl (by simpa [compEnvC, relabel] using K.loc.1) (lookup_relabel_local K.loc.2.1) K.loc.2.2 ⟨H, hs, rfl, ?_⟩
      rw [e, hp]; rfl
    | false =>
      simp only [Bool.false_eq_true, if_false]
      refine ⟨H, hs, rfl, ?_⟩
      rw [e, hp]; simp
theorem ListFilt_ {test : Expr} {pe : Pos} {P : MV → St → Prop} (ok : CompOk c scope cl x iter)
    (h : WE c (eval iter c.env) σ fun v σ1 => ∃ items Cond p, Itb c v σ1 items Cond ∧ FiltC c scope cl x test items Cond σ1.heap p ∧ ∀ D, P (.ref D) ⟨σ1.vars, (D, .list (items.filter p)) :: σ1.heap⟩) :
    WE c (eval (.ListComp (.Name x pe) [⟨.Name x px, iter, [test], 0⟩] scope pos) c.env) σ P := by
  refine ListComp_ ok (h.mono ?_)
  rintro v σ1 ⟨items, Cond, p, I, K, hP⟩
  refine ⟨items, Cond, _, I, K.comp, ?_⟩
  rintro acc H D ⟨rfl, rfl⟩
  rw [List.take_length]
  exact hP D
theorem AssignFilt_ {test : Expr} {pe : Pos} {y : Str} {py spos : Pos} {P : MF → St → Prop} (ok : CompOk c scope cl x iter)
    (hsw : swapsWith (.ListComp (.Name x pe) [⟨.Name x px, iter, [test], 0⟩] scope pos) (some (.Name y py)) spos.line c.env = Pure.pure true)
    (h : WE c (eval iter c.env) σ fun v σ1 => ∃ items Cond p, Itb c v σ1 items Cond ∧ FiltC c scope cl x test items Cond σ1.heap p ∧ ∀ D, WA c (.Name y py) (.ref D) ⟨σ1.vars, (D, .list (items.filter p)) :: σ1.heap⟩ fun σ2 => P .next σ2) :
    WF c (exec (.Assign [.Name y py] (.ListComp (.Name x pe) [⟨.Name x px, iter, [test], 0⟩] scope pos) spos) c.env) σ P := by
  refine AssignComp_ ok hsw (h.mono ?_)
  rintro v σ1 ⟨items, Cond, p, I, K, hP⟩
  refine ⟨items, Cond, _, I, K.comp, ?_⟩
  rintro acc H D ⟨rfl, rfl⟩
  rw [List.take_length]
  exact hP D
/-- each item gives one value and leaves something in front -/
theorem ListGrow_ {P : MV → St → Prop} (ok : CompOk c scope cl x iter)
    (h : WE c (eval iter c.env) σ fun v σ1 => ∃ items Cond, ∃ J : Nat → List MV → List (Addr × MO) → Prop, Itb c v σ1 items Cond ∧ items.length ≤ sizeLine ∧ J 0 [] [] ∧ (∀ V M, Cond ⟨V, M ++ σ1.heap⟩) ∧
      (∀ (i : Nat) (y : MV) acc M C g, items[i]? = some y → J i acc M → Keeps c g → WE (cxC c scope cl C g x) (eval elt (compEnvC scope cl C c.env)) ⟨[some y], M ++ σ1.heap⟩ fun v σ3 => ∃ M', (M' ++ σ1.heap).Sublist σ3.heap ∧ J (i + 1) (acc ++ [v]) M') ∧
      ∀ acc M D, J items.length acc M → P (.ref D) ⟨σ1.vars, (D, .list acc) :: (M ++ σ1.heap)⟩) :
    WE c (eval (.ListComp elt [⟨.Name x px, iter, [], 0⟩] scope pos) c.env) σ P := by
  refine ListComp_ ok (h.mono ?_)
  rintro v σ1 ⟨items, Cond, J, I, hz, h0, hC, ht, hP⟩
  refine ⟨items, Cond, fun i acc H => ∃ M, H = M ++ σ1.heap ∧ J i acc M, I, ⟨hz, ⟨[], rfl, h0⟩, ?_, ?_⟩, ?_⟩
  · rintro i acc H V ⟨M, rfl, _⟩; exact hC V M
  · rintro i y acc H C g hy ⟨M, rfl, hJ⟩ hg
    refine tests_nil (c := cxC c scope cl C g x) ?_
    simp only [if_true]
    refine (ht i y acc M C g hy hJ hg).mono ?_
    rintro v σ3 ⟨M', hs, hJ'⟩
    exact ⟨_, hs, M', rfl, hJ'⟩
  · rintro acc H D ⟨M, rfl, hJ⟩
    exact hP acc M D hJ
end
end
open PySem PySem.Spec PySem.Calls PyProof.Rows PySem.W
-- membership, look-ups, updates
local macro_rules | `(tactic| walk_at "mm") => `(tactic| (try dsimp only) <;> repeat (first | (with_reducible exact List.mem_cons_self) | (with_reducible assumption) | (with_reducible exact List.mem_append_left _ (by with_reducible assumption)) | (with_reducible refine List.mem_cons_of_mem _ ?_) | (with_reducible refine List.mem_append_right _ ?_)))
local macro_rules | `(tactic| walk_at "ml") => `(tactic| (try dsimp only) <;> repeat (first | (with_reducible exact LookV.here) | (with_reducible apply LookV.there)))
local macro_rules | `(tactic| walk_at "ms") => `(tactic| (try dsimp only) <;> repeat (first | (with_reducible exact SetV.here) | (with_reducible apply SetV.there)))
local macro_rules | `(tactic| walk_at "mu") => `(tactic| (try dsimp only) <;> repeat (first | (with_reducible exact UpdH.here) | (with_reducible apply UpdH.there) | (with_reducible apply UpdH.app)))
local macro_rules | `(tactic| walk_at "mh") => `(tactic| (repeat (first | (with_reducible exact sub_refl _) | (with_reducible refine List.Sublist.cons_cons _ ?_) | (with_reducible refine List.Sublist.cons _ ?_))))
local macro_rules | `(tactic| walk_at "msuf") => `(tactic| repeat (first | (with_reducible exact Suf.nil) | (with_reducible exact Suf.last) | (with_reducible apply Suf.cons) | (with_reducible apply Suf.app)))
-- less of a state
local macro_rules | `(tactic| walk_at "mle") => `(tactic| (refine le_of ?mv ?mh; (case mv => (repeat (first | (with_reducible exact VLe.nil) | (with_reducible refine VLe.keep ?_) | (with_reducible refine VLe.skip ?_)))); (case mh => (repeat (first | (with_reducible exact sub_refl _) | (with_reducible refine List.Sublist.cons_cons _ ?_) | (with_reducible refine List.Sublist.cons _ ?_))))))
local macro_rules | `(tactic| walk_at "msz") => `(tactic| first | (with_reducible assumption) | (simp only [sizeLine, IL, SL, List.length_append, List.length_cons, List.length_nil, List.length_map, List.length_take, List.length_range]; omega) | (simp only [sizeLine] at *; simp only [IL, SL, List.length_append, List.length_cons, List.length_nil, List.length_map, List.length_take, List.length_range]; omega))
-- one step
local macro_rules | `(tactic| walk_at "m1") => `(tactic| first
  | (with_reducible refine execs_cons' ?_)
  | (with_reducible refine execs_nil' ?_)
  | ((with_reducible refine' ite_t ?_))
  | ((with_reducible refine' ite_f ?_))
  | ((with_reducible refine' Return_ ?_))
  | ((with_reducible refine' If_ ?_))
  | ((with_reducible refine' IfExp_' ?_))
  | ((with_reducible refine' Expr_' ?a ?b ?_); (case a => rfl); (case b => rfl))
  | ((with_reducible refine' isTrue_Not' ?_))
  | ((with_reducible refine' isTrue_Bool' ?_))
  | ((with_reducible refine' isTrue_Compare' ?a ?_); (case a => rfl))
  | ((with_reducible refine' all_and ?_))
  | ((with_reducible refine' all_and_nil ?_))
  | ((with_reducible refine' all_or ?_))
  | ((with_reducible refine' all_or_nil ?_))
  | ((with_reducible refine' cint ?_))
  | ((with_reducible refine' cstr ?_))
  | ((with_reducible refine' cnone ?_))
  | ((with_reducible refine' cbool ?_))
  | ((with_reducible refine' n_local ?a ?b ?d ?e ?_); (case a => walk_at "ml"); (case b => rfl); (case d => rfl); (case e => decide))
  | ((with_reducible refine' cell_ ?a ?v ?b ?d ?e ?_); (case a => rfl); (case v => walk_at "mm"); (case b => rfl); (case d => rfl); (case e => decide))
  | ((with_reducible refine' free_ ?a ?v ?b ?d ?e ?f ?_); (case a => rfl); (case v => walk_at "mm"); (case b => rfl); (case d => rfl); (case e => decide); (case f => decide))
  | ((with_reducible refine' gname_ ?a ?v ?b ?d ?_); (case a => first | with_reducible assumption | exact Based.comp (by with_reducible assumption) rfl (by with_reducible assumption)); (case v => with_reducible assumption); (case b => rfl); (case d => decide))
  | ((with_reducible refine' BinOp_' ?_))
  | ((with_reducible refine' Compare_' ?a ?_); (case a => rfl))
  | ((with_reducible refine' List_' ?_))
  | ((with_reducible refine' Tuple_' ?_))
  | ((with_reducible refine' es_cons ?a ?_); (case a => rfl))
  | ((with_reducible refine' es_nil ?_))
  | ((with_reducible refine' Assign_ ?a ?_); (case a => rfl))
  | ((with_reducible refine' a_name ?_))
  | ((with_reducible refine' s_local ?a ?b ?d ?e ?_); (case a => walk_at "ms"); (case b => ((try dsimp only); decide)); (case d => rfl); (case e => rfl))
  | ((with_reducible refine' s_cell ?a ?b ?d ?e ?_); (case a => rfl); (case b => walk_at "mu"); (case d => rfl); (case e => rfl))
  | ((with_reducible refine' b_add ?_))
  | ((with_reducible refine' b_sub ?_))
  | ((with_reducible refine' i_tupleN ?a ?b ?d ?f ?_); (case a => walk_at "mm"; done); (case b => first | assumption | omega); (case d => first | assumption | omega); (case f => exact fun _ _ => rfl))
  | ((with_reducible refine' i_listN ?a ?b ?d ?f ?_); (case a => walk_at "mm"; done); (case b => first | assumption | omega); (case d => first | assumption | omega); (case f => exact fun _ _ => rfl))
  | ((with_reducible refine' i_tupleI ?a ?b ?d ?e ?f ?_); (case a => walk_at "mm"; done); (case b => first | assumption | omega); (case d => first | decide | omega); (case e => first | rfl | assumption); (case f => exact fun _ _ => rfl))
  | ((with_reducible refine' i_listI ?a ?b ?d ?e ?f ?_); (case a => walk_at "mm"; done); (case b => first | assumption | omega); (case d => first | decide | omega); (case e => first | rfl | assumption); (case f => exact fun _ _ => rfl))
  | ((with_reducible refine' c_eqN ?_))
  | ((with_reducible refine' c_eq ?_))
  | ((with_reducible refine' c_ne ?_))
  | ((with_reducible refine' c_lt ?_))
  | ((with_reducible refine' c_gt ?_))
  | ((with_reducible refine' c_le ?_))
  | ((with_reducible refine' c_eqs ?_))
  | ((with_reducible refine' c_nes ?_))
  | ((with_reducible refine' c_eq_none_str ?_))
  | ((with_reducible refine' c_is_none_none ?_))
  | ((with_reducible refine' c_is_none_str ?_))
  | ((with_reducible refine' c_in_listN ?a ?_); (case a => walk_at "mm"; done))
  | ((with_reducible refine' c_notin_listN ?a ?_); (case a => walk_at "mm"; done))
  | ((with_reducible refine' c_notin_tupleN ?a ?_); (case a => walk_at "mm"; done))
  | ((with_reducible refine' c_in_list ?a ?_); (case a => walk_at "mm"; done))
  | ((with_reducible refine' c_notin_list ?a ?_); (case a => walk_at "mm"; done))
  | ((with_reducible refine' range1 ?_); intro _; (try dsimp only))
  | ((with_reducible refine' len_tN ?a ?b ?_); (case a => walk_at "mm"; done); (case b => first | assumption | omega))
  | ((with_reducible refine' len_lN ?a ?b ?_); (case a => walk_at "mm"; done); (case b => first | assumption | omega))
  | ((with_reducible refine' len_tI ?a ?b ?_); (case a => walk_at "mm"; done); (case b => walk_at "msz"))
  | ((with_reducible refine' len_lI ?a ?b ?_); (case a => walk_at "mm"; done); (case b => walk_at "msz"))
  | ((with_reducible refine' len_l ?a ?b ?_); (case a => walk_at "mm"; done); (case b => walk_at "msz"))
  | ((with_reducible refine' attr_ ?a ?v ?b ?d ?e ?_); (case a => with_reducible assumption); (case v => with_reducible assumption); (case b => rfl); (case d => decide); (case e => with_reducible assumption))
  | ((with_reducible refine' c_eqv ?a ?v ?b ?_); (case a => with_reducible assumption); (case v => with_reducible assumption); (case b => with_reducible assumption))
  | ((with_reducible show _ ≤ sizeLine ∧ ∀ _, _); refine And.intro ?a (fun _ => ?_); (case a => first | decide | walk_at "msz"); (try dsimp only))
  | ((with_reducible refine' len_s ?a ?_); (case a => first | (with_reducible assumption) | decide))
  | ((with_reducible refine' AugSub_ ?a ?_); (case a => intros; rfl))
  | ((with_reducible refine' AssignSub_ ?a ?b ?d ?_); (case a => rfl); (case b => rfl); (case d => intro _; rfl))
  | ((with_reducible refine' Try_ ?_))
  | ((with_reducible refine' was_cons ?_))
  | ((with_reducible refine' was_nil ?_))
  | ((with_reducible refine' wss_cons ?_))
  | ((with_reducible refine' wss_nil ?_))
  | ((with_reducible refine' AssignTuple_ ?a ?b ?_); (case a => rfl); (case b => rfl))
  | ((with_reducible refine' assign_tuple ?a ?b ?d ?e ?_); (case a => first | exact Ok.hand (by with_reducible assumption) | with_reducible assumption); (case b => walk_at "mm"; done); (case d => rfl); (case e => rfl))
  | ((with_reducible refine' isinst_int_int ?_))
  | ((with_reducible refine' isinst_str_int ?_))
  | ((with_reducible refine' append' ?a ?b ?_); (case a => walk_at "mu"; done); (case b => walk_at "msz"))
  | ((with_reducible refine' isdigit_ ?_))
  | ((with_reducible refine' usub_ ?_))
  | ((with_reducible refine' truth_list ?a ?b ?_); (case a => walk_at "mm"; done); (case b => walk_at "msz"))
  | ((with_reducible refine' Call_ ?_))
  | ((with_reducible refine' Meth_ PySem.F.plainAttrs_str PySem.F.slot_str_join PySem.F.type_str_join ?a ?b ?d ?e ?f ?_); (case a => rfl); (case b => rfl); (case d => rfl); (case e => rfl); (case f => rfl))
  | ((with_reducible refine' Meth_ PySem.F.plainAttrs_list PySem.F.slot_list_append PySem.F.type_list_append ?a ?b ?d ?e ?f ?_); (case a => rfl); (case b => rfl); (case d => rfl); (case e => rfl); (case f => rfl))
  | ((with_reducible refine' Meth_ PySem.F.plainAttrs_list PySem.F.slot_list_index PySem.F.type_list_index ?a ?b ?d ?e ?f ?_); (case a => rfl); (case b => rfl); (case d => rfl); (case e => rfl); (case f => rfl))
  | ((with_reducible refine' Meth0_ PySem.F.plainAttrs_str PySem.F.slot_str_isdigit PySem.F.type_str_isdigit ?a ?d ?_); (case a => rfl); (case d => rfl))
  | ((with_reducible refine' Meth0_ PySem.F.plainAttrs_dict PySem.F.slot_dict_items PySem.F.type_dict_items ?a ?d ?_); (case a => rfl); (case d => rfl))
  | ((with_reducible refine' And.intro (ty_str) ?_))
  | ((with_reducible refine' And.intro (ty_list ?a) ?_); (case a => walk_at "mm"; done))
  | ((with_reducible refine' And.intro (ty_dict ?a) ?_); (case a => walk_at "mm"; done))
  | ((with_reducible refine' cw_b ?a ?b ?_); (case a => rfl); (case b => rfl))
  | ((with_reducible refine' cw_t ?a ?b ?_); (case a => rfl); (case b => rfl))
  | ((with_reducible refine' Sub_rev ?a ?_); (case a => exact fun _ _ => rfl))
  | ((with_reducible refine' Sub_slice ?a ?_); (case a => exact fun _ _ => rfl))
  | ((with_reducible refine' wpart_none ?_))
  | ((with_reducible refine' wpart_some ?_))
  | ((with_reducible refine' Sub_ ?_))
  | ((with_reducible refine' truth_bool ?_))
  | ((with_reducible refine' isTrue_val ?_ ?b); (case b => intro _; rfl))
  | ((with_reducible refine' ite_p ?a ?_); (case a => first | with_reducible assumption | decide))
  | ((with_reducible refine' ite_n ?a ?_); (case a => first | with_reducible assumption | decide)))
local macro_rules | `(tactic| walk_at "m2") => `(tactic| repeat walk_at "m1")

section
open PySem PySem.Spec PySem.Calls PyProof.Rows PySem.W
theorem reads_strs {h : Heap} : ∀ {vs : List Value} {ss : List Str}, StrsAre vs ss → ReadsAll h vs (ss.map PyData.str) []
  | _, _, .nil => .nil
  | _, _, .cons k t r => by
    have := ReadsAll.cons (Reads.str (h := h) k t) (reads_strs (h := h) r)
    simpa using this
theorem reads_strL {h : Heap} {a : Addr} {vs : List Value} {ss : List Str} (hl : h.IsList a vs.toArray) (hi : StrsAre vs ss) : Reads h (.ref a) (.list (ss.map PyData.str)) [a] := by
  obtain ⟨o, ho, hc, n, hd⟩ := hl
  exact Reads.list ho hc hd (by simpa using reads_strs hi)
theorem canLay_strs : ∀ ss : List Str, (∀ x ∈ ss, PyData.strOk x = true) → PyData.canLayAll0 (ss.map PyData.str) = true
  | [], _ => by simp [PyData.canLayAll0]
  | n :: r, h => by simp [PyData.canLayAll0, PyData.canLay0, h n (by simp), canLay_strs r fun x hx => h x (List.mem_cons_of_mem _ hx)]
theorem depth_strs : ∀ ss : List Str, PyData.depthAll (ss.map PyData.str) ≤ 1
  | [] => by simp [PyData.depthAll]
  | n :: r => by
    have := depth_strs r
    simp only [List.map_cons, PyData.depthAll, PyData.depth]
    omega
theorem shaped_strs {ss : List Str} (h : ∀ x ∈ ss, PyData.strOk x = true) : SeqAt.shaped (.list (ss.map PyData.str)) = true := by
  have h1 := depth_strs ss
  have h2 : PyData.depth (.list (ss.map PyData.str)) ≤ 64 := by simp only [PyData.depth]; omega
  show (PyData.canLay0 (.list (ss.map PyData.str)) && decide (PyData.depth (.list (ss.map PyData.str)) ≤ 64)) = true
  rw [Bool.and_eq_true]
  exact ⟨by simp only [PyData.canLay0]; exact canLay_strs ss h, decide_eq_true h2⟩
theorem noMix_strs : ∀ ss ts : List Str, SeqAt.noMixAll (ss.map PyData.str) (ts.map PyData.str) = true
  | [], [] => by simp [SeqAt.noMixAll]
  | [], _ :: _ => by simp [SeqAt.noMixAll]
  | _ :: _, [] => by simp [SeqAt.noMixAll]
  | _ :: r, _ :: q => by simp [SeqAt.noMixAll, SeqAt.noMix, noMix_strs r q]
theorem same_strs : ∀ ss ts : List Str, PySem.Spec.sameAll (ss.map PyData.str) (ts.map PyData.str) = decide (ss = ts)
  | [], [] => by simp [PySem.Spec.sameAll]
  | [], _ :: _ => by simp [PySem.Spec.sameAll]
  | _ :: _, [] => by simp [PySem.Spec.sameAll]
  | n :: r, k :: q => by
    simp only [List.map_cons, PySem.Spec.sameAll, PySem.Spec.same, same_strs r q]
    by_cases h : n = k <;> simp [h]
section
variable {c : Cx} {σ : St} {P : MV → St → Prop}
theorem c_ne_SL {a b : Addr} {ss ts : List Str} (h1 : ∀ x ∈ ss, PyData.strOk x = true) (h2 : ∀ x ∈ ts, PyData.strOk x = true) (hu : c.A.units + 64 < cLine) (hm : (a, MO.list (SL ss)) ∈ σ.heap) (hm' : (b, MO.list (SL ts)) ∈ σ.heap) (h : P (.bool (!decide (ss = ts))) σ) : W2 c (compareOp .NotEq) (.ref a) (.ref b) σ P := by
  intro u w hu' hw X s r Q E k
  cases hu'; cases hw
  obtain ⟨us, hr, hl⟩ := r.list hm
  obtain ⟨ws, hr', hl'⟩ := r.list hm'
  exact ne_dataH_same (reads_strL hl hr.strs) (reads_strL hl' hr'.strs) (shaped_strs h1) (shaped_strs h2) hu (by simp only [SeqAt.noMix]; exact noMix_strs ss ts)
    (by simp only [PySem.Spec.same]; rw [same_strs]; exact k _ _ σ s.heap s.toks h (.bool _) r)
theorem c_eq_IL {a b : Addr} {ss ts : List Int} (hu : c.A.units + 64 < cLine) (hm : (a, MO.list (IL ss)) ∈ σ.heap) (hm' : (b, MO.list (IL ts)) ∈ σ.heap) (h : P (.bool (decide (ss = ts))) σ) : W2 c (compareOp .Eq) (.ref a) (.ref b) σ P := by
  intro u w hu' hw X s r Q E k
  cases hu'; cases hw
  obtain ⟨us, hr, hl⟩ := r.list hm
  obtain ⟨ws, hr', hl'⟩ := r.list hm'
  exact eq_intsK hl hr.ints hl' hr'.ints hu (k _ _ σ s.heap s.toks h (.bool _) r)
theorem c_in_SL {a : Addr} {ss : List Str} {x : Str} (hm : (a, MO.list (SL ss)) ∈ σ.heap) (h : P (.bool (ss.any (· == x))) σ) : W2 c (compareOp .In) (.str x) (.ref a) σ P := by
  intro u w hu hw X s r Q E kk
  cases hu; cases hw
  obtain ⟨us, hr, hl⟩ := r.list hm
  exact in_list_strs hl hr.strs (kk _ _ σ s.heap s.toks h (.bool _) r)
theorem c_notin_s {x y : Str} (h : P (.bool (!(!(Builtin.Str.occurrences x y 0 x.length 1).isEmpty))) σ) : W2 c (compareOp .NotIn) (.str y) (.str x) σ P := by
  intro u w hu hw X s r Q E kk
  cases hu; cases hw
  exact notIn_str (kk _ _ σ s.heap s.toks h (.bool _) r)
theorem isalnum_ {x : Str} (h : P (.bool (Txt.isalnum x)) σ) : WC c (.builtin "str.isalnum") [.str x] σ P := by
  intro us hu X s r Q E k
  obtain ⟨_, rfl, h1⟩ := hu.one; cases h1
  exact SC.isalnum (k _ _ σ s.heap s.toks h (.bool _) r)
/-- a text's signs, each a text -/
abbrev signs (x : Str) : List Str := x.cps.toList.map fun ch => ⟨#[ch]⟩
theorem list_s {x : Str} (hh : c.A.handled = none) (hz : x.cps.size ≤ sizeLine) (h : ∀ l, P (.ref l) { σ with heap := (l, .list (SL (signs x))) :: σ.heap }) : WC c (.type "list") [.str x] σ P := by
  intro us hu X s r Q E k
  obtain ⟨_, rfl, h1⟩ := hu.one; cases h1
  refine call_list_str hh x _ (fun h' tk acc c' hk ho hi => ?_) hz
  have hv : VRs (SL (signs x)) acc.toList := by
    obtain ⟨e1, e2⟩ := hi
    have key : ∀ (cs : List Nat) (vs : List Value), vs.length = cs.length → (∀ (j : Nat) v, vs[j]? = some v → ∃ ch u, cs[j]? = some ch ∧ v = .str ⟨#[ch]⟩ u) → VRs (SL (cs.map fun ch => (⟨#[ch]⟩ : Str))) vs := by
      intro cs
      induction cs with
      | nil => intro vs e _; cases vs with | nil => exact .nil | cons _ _ => simp at e
      | cons ch cs ih =>
        intro vs e hv
        cases vs with
        | nil => simp at e
        | cons v vs =>
          obtain ⟨ch', u, q1, q2⟩ := hv 0 v rfl
          simp at q1; subst q1; subst q2
          exact .cons (.str _ _) (ih vs (by simpa using e) fun j v hj => by simpa using hv (j + 1) v (by simpa using hj))
    refine key x.cps.toList acc.toList (by simpa using e1) fun j v hj => ?_
    obtain ⟨ch, u, q1, q2⟩ := e2 j v (by rw [← Array.getElem?_toList]; exact hj)
    exact ⟨ch, u, by rw [Array.getElem?_toList]; exact q1, q2⟩
  exact k _ _ _ h' tk (h _) (.val _) (r.new hk (Heap.get?_none_of_le (Nat.le_refl _)) ho (by simpa using OR.list c' hv))
theorem list_t {a : Addr} {vs : List MV} (hm : (a, MO.tuple vs) ∈ σ.heap) (hz : vs.length ≤ sizeLine) (h : ∀ l, P (.ref l) { σ with heap := (l, .list vs) :: σ.heap }) : WC c (.type "list") [.ref a] σ P := by
  intro us hu X s r Q E k
  obtain ⟨_, rfl, h1⟩ := hu.one; cases h1
  obtain ⟨us, hr, e⟩ := r.tupX hm
  refine call_list_seq a (.inr rfl) e rfl rfl (fun h' c' hk ho => ?_) (by simpa [hr.length] using hz)
  exact k _ _ _ h' s.toks (h _) (.val _) (r.new hk (Heap.get?_none_of_le (Nat.le_refl _)) ho (.list c' hr))
/-- list.pop at a place -/
theorem pop_ {a : Addr} {vs : List MV} {i : Int} {v : MV} {pre post : List (Addr × MO)} (hm : σ.heap = pre ++ (a, .list vs) :: post) (h0 : 0 ≤ i) (hv : vs[i.toNat]? = some v) (hz : vs.length ≤ sizeLine) (h : P v { σ with heap := pre ++ (a, .list (vs.eraseIdx i.toNat)) :: post }) :
    WC c (.builtin "list.pop") [.ref a, .int i] σ P := by
  intro us hu X s r Q E k
  obtain ⟨_, _, rfl, h2, h1⟩ := hu.two; cases h2; cases h1
  obtain ⟨us, n, hr, hl⟩ := r.listX (a := a) (vs := vs) (by rw [hm]; simp)
  obtain ⟨u, e, q⟩ := hr.get hv
  have hlen : us.toArray.size = vs.length := by rw [List.size_toArray, ← hr.length]
  have hlt : i.toNat < vs.length := (List.getElem?_eq_some_iff.mp hv).1
  have hz' : vs.length ≤ 16777216 := by simpa [sizeLine] using hz
  have hk : seqIndex? i us.toArray.size = some i.toNat := by
    rw [hlen]
    unfold seqIndex?
    have h1 : ¬ i < 0 := by omega
    simp only [h1, if_false]
    first
      | (rw [if_pos (by omega)]; done)
      | (simp; omega)
      | (split <;> simp_all <;> omega)
  refine call_meets PySem.F.slot_list_pop ⟨_, hl, rfl⟩ PySem.F.entry_list_pop (PySem.F.args_list_pop_2 _ _) (MeetsSeq.list_pop_at a us.toArray n i _ i.toNat u ?_ hk (by simpa using e) (by rw [hlen]; exact hz)) ⟨hl, ?_⟩
  · unfold Builtin.List.listFitsIndex
    simp only [Bool.and_eq_true, decide_eq_true_eq]
    omega
  refine k _ _ _ _ s.toks h q (r.upd hm (fun b o hb e => (Heap.get?_update_other _ _ (Ne.symm hb)).trans e) (o' := { cls := .type "list", data := .seq (us.eraseIdx i.toNat).toArray (n + 1) }) ?_ (.list (n + 1) (hr.eraseIdx _)))
  rw [Heap.get?_update_self _ hl rfl]
  congr 1
  have hne : ¬ (us.eraseIdx i.toNat).length = us.length := by
    have hu2 : us.length = vs.length := by rw [← hr.length]
    rw [List.length_eraseIdx]
    split <;> omega
  simp [Obj.mapSeq, hne]
end
end
section
open PySem PySem.Spec PySem.Calls PyProof.Rows PySem.W
/-- a dict's pairs, one stored -/
def storedK (kvs : List (Str × MV)) (k : Str) (v : MV) : List (Str × MV) :=
  if kvs.any (fun kv => kv.1 = k) then kvs.map (fun kv => if kv.1 = k then (kv.1, v) else kv) else kvs ++ [(k, v)]
theorem KV.any {a b} (h : KV a b) (k : Str) : a.any (fun kv => kv.1 = k) = b.any (fun kv => kv.1 = k) := by
  induction h with
  | nil => rfl
  | cons _ _ ih => simp [ih]
theorem KV.put {a b} (h : KV a b) (k : Str) {v u} (hv : VR v u) : KV (a.map (fun kv => if kv.1 = k then (kv.1, v) else kv)) (b.map (fun kv => if kv.1 = k then (kv.1, u) else kv)) := by
  induction h with
  | nil => exact .nil
  | @cons k' _ _ _ _ h1 _ ih =>
    simp only [List.map_cons]
    split
    · exact .cons hv ih
    · exact .cons h1 ih
theorem KV.stored {a b} (h : KV a b) (k : Str) {v u} (hv : VR v u) : KV (storedK a k v) (PySem.stored b k u) := by
  unfold storedK PySem.stored
  rw [h.any k]
  split
  · exact h.put k hv
  · exact h.snoc hv
theorem storedK_len (kvs : List (Str × MV)) (k : Str) (v : MV) : (storedK kvs k v).length ≤ kvs.length + 1 := by
  unfold storedK
  split <;> simp
theorem KV.at {a b} (h : KV a b) {k : Str} {v : MV} : ∀ {i : Nat}, a[i]? = some (k, v) → ∃ u, b[i]? = some (k, u) ∧ VR v u := by
  induction h with
  | nil => intro i e; simp at e
  | cons h1 _ ih =>
    intro i e
    cases i with
    | zero => simp at e; obtain ⟨rfl, rfl⟩ := e; exact ⟨_, rfl, h1⟩
    | succ i => simp at e; simpa using ih e
def lookK (kvs : List (Str × MV)) (k : Str) : Option MV := (kvs.find? fun kv => kv.1 = k).map (·.2)
theorem KV.look {a b} (h : KV a b) {k : Str} {v : MV} (e : lookK a k = some v) : ∃ u, valueAt b k = some u ∧ VR v u := by
  induction h with
  | nil => simp [lookK] at e
  | @cons k' _ _ _ _ h1 _ ih =>
    unfold lookK valueAt at *
    simp only [List.find?_cons] at e ⊢
    by_cases q : k' = k
    · simp [q] at e ⊢; subst e; exact h1
    · simp only [q, decide_false] at e ⊢; exact ih e
section
variable {c : Cx} {σ : St} {P : MV → St → Prop}
theorem i_dct {value slice : Expr} {d : Addr} {kvs : List (Str × MV)} {k : Str} {v : MV} (hm : (d, MO.dct c.prog c.w kvs) ∈ σ.heap) (hv : lookK kvs k = some v) (hs : NoSlice slice) (h : P v σ) : W2 c (subscriptTail value slice) (.ref d) (.str k) σ P := by
  intro u w hu hw X s r Q E kk
  cases hu; cases hw
  obtain ⟨kus, hk, hd⟩ := r.dct hm
  obtain ⟨u, e, q⟩ := hk.look hv
  exact subTail_ hd.typeIs slot_dict_getitem.lookup (wpAny_getItem_of (strKind_is c.prog c.w k _) hd.mapOf e (kk _ _ σ s.heap _ h q r)) ⟨_, hs _ _⟩
theorem sorted_il {a : Addr} {ns : List Int} (hm : (a, MO.list (IL ns)) ∈ σ.heap) (hz : ns.length < 64) (h : ∀ l ns', ns'.Perm ns → ns'.Pairwise (· ≤ ·) → P (.ref l) { σ with heap := (l, .list (IL ns')) :: σ.heap }) : WC c (.builtin "sorted") [.ref a] σ P := by
  intro us hu X s r Q E k
  obtain ⟨_, rfl, h1⟩ := hu.one; cases h1
  obtain ⟨us, hr, hl⟩ := r.list hm
  obtain ⟨X₂, l, m, F, V, N⟩ := r.lr
  have hlen : us.length = ns.length := by rw [← hr.length]; simp
  refine sorted_N F N hl hr.ints (by omega) fun h' vs' ns' e F' N' hI hp hs => ?_
  have f := r.fresh (a := s.heap.objs.size + 1) (Heap.get?_none_of_le (Nat.le_succ _))
  have r' : R c X { σ with heap := (s.heap.objs.size + 1, .list (IL ns')) :: σ.heap } h' :=
    r.relr (X₂ := (s.heap.objs.size + 1, _) :: X₂) (.cons (.list e (VRs.ofInts hI)) l) F' V N' (List.nodup_cons.mpr ⟨f.1, r.nd⟩)
  exact k _ _ _ h' s.toks (h _ ns' hp hs) (.val _) r'
theorem sum_il {a : Addr} {ns : List Int} (hh : c.A.handled = none) (hm : (a, MO.list (IL ns)) ∈ σ.heap) (h : P (.int ns.sum) σ) : WC c (.builtin "sum") [.ref a] σ P := by
  intro us hu X s r Q E k
  obtain ⟨_, rfl, h1⟩ := hu.one; cases h1
  obtain ⟨us, hr, hl⟩ := r.list hm
  obtain ⟨xs, hx⟩ := hr.ints.allInts.items
  rw [hx] at hl
  refine sum_intListG hh hl fun h' tk t' hk => ?_
  have e : preSum (numAt xs) xs.size = ns.sum := by
    rw [preSum_eq, List.take_of_length_le (by simp), ← nums_intItems, ← hx, show us.toArray.toList = us from rfl, hr.ints.numsOf]
  rw [e]
  exact k _ _ σ h' tk h (.int _ _) (r.keeps hk)
end
section
variable {c : Cx} {σ : St} {scope : Scope} {cl : List (Str × Addr)} {x : Str} {iter kx vx : Expr} {ifs : List Expr} {px pos : Pos}
/-- a dict comprehension's items, a key may come again -/
structure CompS (c : Cx) (scope : Scope) (cl : List (Str × Addr)) (x : Str) (kx vx : Expr) (items : List MV) (Cond : St → Prop) (H₀ : List (Addr × MO)) (J : Nat → List (Str × MV) → List (Addr × MO) → Prop) : Prop where
  size : items.length ≤ sizeLine
  start : J 0 [] H₀
  cond : ∀ i acc H V, J i acc H → Cond ⟨V, H⟩
  turn : ∀ i y acc H C g, items[i]? = some y → J i acc H → Keeps c g →
    WE (cxC c scope cl C g x) (eval kx (compEnvC scope cl C c.env)) ⟨[some y], H⟩ fun kv σ2 =>
      WE (cxC c scope cl C g x) (eval vx (compEnvC scope cl C c.env)) σ2 fun v σ3 => ∃ k H', kv = .str k ∧ H'.Sublist σ3.heap ∧ J (i + 1) (storedK acc k v) H'

theorem compS_block {items : List MV} {Cond : St → Prop} {J : Nat → List (Str × MV) → List (Addr × MO) → Prop} {X : List (Addr × Obj)} {s : Shared} {I : Addr} {o : Obj} {Io : Nat → Obj → Prop} {RR : Value → Addr → Result → Shared → Prop} {E₁ E₂ : Value → Shared → Prop}
    (ok : CompOk c scope cl x iter) (K : CompS c scope cl x kx vx items Cond σ.heap J) (hN : ∀ c' : Cx, c'.prog = c.prog → c'.w = c.w → c'.A = c.A → Nx c' I items Cond Io) (ho : Io 0 o) (r : R c ((I, o) :: X) σ s.heap)
    (hRR : ∀ D C oC m acc H h' tk, J items.length acc H → h'.get? C = some oC → h'.Ns C m → R c ((C, oC) :: X) ⟨σ.vars, (D, .dct c.prog c.w acc) :: H⟩ h' → RR (.ref D) C (.ok .next) { s with heap := h', toks := tk }) :
    wpAny (model c.prog c.w) c.A newDict (fun acc s₃ => wpAny (model c.prog c.w) c.A (newFunctionEnv scope c.env.globals cl [] c.env.qual none .none (some c.env)) (fun cenv s₄ =>
      codeAny (model c.prog c.w) c.A (.compStart (.DictComp kx vx [⟨.Name x px, iter, [], 0⟩] scope pos) 0 (.ref I) acc { cenv with scope := relabel scope c.env }) (RR acc cenv.locals) s₄) E₁ s₃) E₂ s := by
  refine wpAny_newObj_type (wpAny_newFunctionEnv ok.cell (by intro y hy; simp at hy) (fun h₁ hns₁ hsb₁ => ?_) ok.kind)
  dsimp only at hns₁ hsb₁ ⊢
  have hnew : (s.heap.push { cls := .type "dict", dict := none, data := .dict #[] }).DictOf (strKind c.prog c.w) s.heap.objs.size [] := Heap.DictOf.new s.heap
  generalize hH2 : s.heap.push { cls := .type "dict", dict := none, data := .dict #[] } = H2 at hns₁ hsb₁ hnew ⊢
  obtain ⟨oD, hoD, hD⟩ := Heap.dictOf_iff.mp hnew
  have hk0 : ∀ b ob, s.heap.get? b = some ob → H2.get? b = some ob := fun b ob e => by subst hH2; exact Heap.get?_push_of_some _ e
  have r2 : R c ((I, o) :: (s.heap.objs.size, oD) :: X) σ H2 := by
    have r1 := r.newX (a := s.heap.objs.size) (o := oD) (h' := H2) hk0 (Heap.get?_none_of_le (Nat.le_refl _)) hoD
    refine ⟨r1.fr, r1.obj, fun p hp => r1.ext p ((List.Perm.swap ..).mem_iff.mp hp), ?_, fun b hb => r1.off b ?_⟩
    · exact (((List.Perm.swap ..).map _).append_left _).nodup_iff.mpr r1.nd
    · exact (((List.Perm.swap ..).map _).append_left _).mem_iff.mp hb
  have hk₁ : ∀ b ob, H2.get? b = some ob → h₁.get? b = some ob := fun b ob e => hsb₁.extBut b ob (Nat.ne_of_lt (Heap.lt_size e)) (Heap.get?_push_of_some _ e)
  let X₂ := (I, o) :: (s.heap.objs.size, oD) :: X
  let c' : Cx := cxC c scope cl H2.objs.size (under H2 σ X₂) x
  have hon : On c c' σ.vars := r2.on rfl
  have r3 : R c' X₂ ⟨[none], σ.heap⟩ h₁ := r2.into (c' := c') rfl (Nat.le_refl _) hns₁ (fun i y v h1 h2 => by cases i <;> simp at h2) hk₁
  have hxl : c'.env.kindOf x = some .local := lookup_relabel_local ok.x
  have hkc : (c'.env.scope.kind == .class || (c'.env.scope.kind == .module && c'.env.locals != c'.env.globals)) = false := by simp [c', compEnvC, relabel, ok.kind]
  have N : Nx c' I items Cond Io := hN c' rfl rfl rfl
  have loop : ∀ s₃ : Shared, s₃.heap = h₁ → s₃ = { s with heap := h₁, toks := s₃.toks } →
      codeAny (model c.prog c.w) c.A (.compLoop (.DictComp kx vx [⟨.Name x px, iter, [], 0⟩] scope pos) 0 (.ref I) (.ref s.heap.objs.size) (compEnvC scope cl H2.objs.size c.env))
        (RR (.ref s.heap.objs.size) H2.objs.size) s₃ := by
    intro s₃ e₃ e₄
    refine codeAny_compLoop_testsD (fun n s' => ∃ i acc H kus oD o1 h2 tk2, n = items.length + 1 - i ∧ i ≤ items.length ∧ J i acc H ∧ acc.length ≤ i ∧ KV acc kus ∧ Obj.IsDictOf (strKind c.prog c.w) oD kus ∧ Io i o1 ∧
      R c' ((I, o1) :: (s.heap.objs.size, oD) :: X) ⟨[none], H⟩ h2 ∧ s' = { s with heap := h2, toks := tk2 }) ?_ (items.length + 1)
      ⟨0, [], σ.heap, [], oD, o, h₁, s₃.toks, rfl, Nat.zero_le _, K.start, Nat.le_refl _, .nil, hD, ho, r3, e₄⟩
    rintro n s' ⟨i, acc, H, kus, oD1, o1, h2, tk2, rfl, hi, hJ, hacc, hkus, hD1, ho1, r4, rfl⟩
    by_cases hlt : i < items.length
    · obtain ⟨y, hy⟩ : ∃ y, items[i]? = some y := ⟨_, List.getElem?_eq_getElem hlt⟩
      refine N.item hy ho1 (K.cond _ _ _ _ hJ) r4 fun u o2 h3 tk3 hu ho2 r5 => ?_
      refine wpAny_assign_Name (store_local (c := c') (σ := ⟨[none], H⟩) (x := x) (v := y) (P := fun σ => σ = ⟨[some y], H⟩) 0 rfl (by simp [c']) hxl hkc rfl u hu _ _ r5 _ _ fun _ _ σ4 h4 tk4 e4 _ r6 => ?_)
      subst e4
      refine wpAny_mono (wpAny_tests_nil (Q := fun ok s₃ => ok = true ∧ s₃ = { s with heap := h4, toks := tk4 }) ⟨rfl, rfl⟩) (fun okk s₃ h₃ => ?_) fun _ _ h' => h'
      obtain ⟨rfl, rfl⟩ := h₃
      simp only [if_true]
      refine K.turn i y acc H H2.objs.size (under H2 σ X₂) hy hJ hon.keep _ _ r6 _ _ fun kv ku σ5 h5 tk5 hW hku r7 => ?_
      refine hW _ _ r7 _ _ fun v a σ6 h6 tk6 hp hv r8 => ?_
      obtain ⟨k, H', rfl, hsub, hJ'⟩ := hp
      cases hku with
      | str _ t =>
      have hDo := r8.ext (s.heap.objs.size, oD1) (by simp)
      have hle : kus.length ≤ sizeLine := by have := K.size; rw [← hkus.length]; omega
      refine wpAny_dictSet_pairs (hsz := hle) (strKind_is _ _ k t) (Heap.dictOf_iff.mpr ⟨oD1, hDo, hD1⟩) fun h7 hD7 hs7 => ?_
      obtain ⟨oD2, ho7, hD2⟩ := Heap.dictOf_iff.mp hD7
      have r9 := R.updX (pre := [(I, o2)]) r8 (fun b ob hb e => (hs7.2 b hb).trans e) ho7
      have r10 := r9.weak hsub (V := [none]) (fun j v e => by cases j <;> simp at e)
      exact ⟨items.length + 1 - (i + 1), by omega, i + 1, storedK acc k v, H', PySem.stored kus k a, oD2, o2, h7, _, rfl, hlt, hJ', by have := storedK_len acc k v; omega, hkus.stored k hv, hD2, ho2, r10, rfl⟩
    · have hin : i = items.length := by omega
      subst hin
      refine N.done ho1 (K.cond _ _ _ _ hJ) r4 fun h3 tk3 r5 => ?_
      obtain ⟨m, F, _⟩ := r5.fr
      obtain ⟨oC, es, ep, hoC, hns⟩ := id F.ns
      have r6 := (r5.out hon fun _ q => .inl q).take (mo := .dct c.prog c.w acc) (.is ⟨kus, hkus, hD1⟩)
      refine hRR _ _ oC m acc H h3 tk3 hJ hoC F.ns (r6.addX hoC (fun q => ?_) (fun q => ?_) ?_)
      · have q' : H2.objs.size ∈ Mine.keys H ++ Mine.keys ((s.heap.objs.size, oD1) :: X) := List.perm_middle.mem_iff.mpr q
        exact (r5.off _ q').1 rfl
      · obtain ⟨mm, hmm, _⟩ := hon.ns
        have := hmm.lt
        rw [under_size] at this
        rw [← q] at this
        exact Nat.lt_irrefl _ this
      · cases e : c.g.get? H2.objs.size with
        | none => rfl
        | some ob =>
          obtain ⟨_, e1, _⟩ := hon.keep _ _ e
          have := Heap.lt_size e1
          rw [under_size] at this
          exact absurd this (Nat.lt_irrefl _)
  exact codeAny_compStart_dict (loop _ rfl rfl) (N.self ho (K.cond _ _ _ [none] K.start) (s := { s with heap := h₁, toks := _ }) r3 (loop _ rfl rfl))

theorem DictCompS_ {P : MV → St → Prop} (ok : CompOk c scope cl x iter)
    (h : WE c (eval iter c.env) σ fun v σ1 => ∃ items Cond J, Itb c v σ1 items Cond ∧ CompS c scope cl x kx vx items Cond σ1.heap J ∧ ∀ acc H D, J items.length acc H → P (.ref D) ⟨σ1.vars, (D, .dct c.prog c.w acc) :: H⟩) :
    WE c (eval (.DictComp kx vx [⟨.Name x px, iter, [], 0⟩] scope pos) c.env) σ P := by
  intro X s r Q E k
  rw [arm_eval_DictComp]
  refine wpAny_comprehension_free (use := none) rfl ok.set ok.clos ok.kind ok.names (h X s r _ _ fun b a σ1 h1 tk1 hp ha r1 => ?_)
  obtain ⟨items, Cond, J, I, K, hP⟩ := hp
  refine I.go ha r1 fun It o h2 tk2 Io N ho r2 _ _ => ?_
  refine compS_block (RR := fun acc C => compPost (model c.prog c.w) c.A E none Q acc C) ok K N ho r2 fun D C oC m acc H h3 tk3 hJ hC hn r3 => ?_
  exact ⟨m, hn, fun h' hs => k _ _ _ h' tk3 (hP acc H D hJ) (.val _) (r3.endX fun b ob hb e => (hs.2 b hb).trans e)⟩
end
end
section
open PySem PySem.Spec PySem.Calls PyProof.Rows PySem.W
/-- list.index that finds nothing -/
theorem raiseL_ {α : Type} {M : Model} {A : Around} {E : Value → Shared → Prop} {s : Shared} {cls : String} {msg : Str} {Q : α → Shared → Prop} (hp : PlainExc cls) (hh : A.handled = none) (hm : msg.length ≤ sizeLine)
    (h : ∀ h' tk e, Heap.NewExc s.heap h' e cls → E (.ref e) { s with heap := h', toks := tk }) : wpAny M A (Builtin.List.listRaiseStr cls msg : Sem α) Q E s := by
  unfold Builtin.List.listRaiseStr
  refine wpAny_bind (wpAny_mkStr (wpAny_bind ?_) hm)
  unfold newExc newTuple
  refine wpAny_bind (wpAny_newObj_type ?_)
  refine wpAny_bind (m := firstArgMember _ _) (wpAny_of_eq (a := Value.none) (by simp only [firstArgMember, hp.first]; rfl) ?_)
  rw [hp.own]
  refine wpAny_newObj_type ?_
  unfold raiseNew
  refine wpAny_bind (wpAny_handled ?_)
  rw [hh]
  first
    | refine wpAny_throw ?_
    | refine wpAny_bind (wpAny_pure (wpAny_throw ?_))
  exact h _ _ _ ⟨fun b o hb => Heap.get?_push_of_some _ (Heap.get?_push_of_some _ hb), Heap.get?_none_of_le (by simp), _, .ref s.heap.objs.size, Heap.get?_push_size _ rfl, rfl, by simp⟩
theorem index_loop_none (l : Addr) (items : Array Value) (n : Nat) (x : Str) (t : Tok) (e : Value → Bool) (he : ∀ y, y ∈ items → MeetsSeq.EqGives y (.str x t) (e y)) (hno : ∀ m (hm : m < items.size), e items[m] = false) (hx : (reprText x).length ≤ 1000) (upto : Int) (hup : (items.size : Int) ≤ upto) (k : Nat) :
    ∀ i : Nat, items.size - i = k → Meets (Builtin.«list.index.loop» ⟨[.ref l, .str x t, rawInt i, rawInt upto], []⟩)
      (fun A R s => s.heap.get? l = some { cls := .type "list", dict := none, data := .seq items n, slots := #[] } ∧ raisesNew "ValueError" A R s) := by
  induction k with
  | zero =>
    intro i hk prog w A R s h
    obtain ⟨hp, g, d, tk, os⟩ := s; obtain ⟨hl, h⟩ := h
    wp_walk using wpAny_loadPart' hl
    have hi : (if (i : Int) < upto then items[((i : Nat) : Int).toNat]? else none) = none := by
      have : items[((i : Nat) : Int).toNat]? = none := by simp; omega
      rw [this]; simp
    rw [hi]
    have hz : (reprText x).length ≤ sizeLine := by simp only [sizeLine]; omega
    dsimp only
    refine wpAny_bind (wpAny_rule (wpAny_bind (wpAny_pyRepr_str ?_ hz)))
    obtain ⟨hh, hE⟩ := h
    have hin : A.in1.handled = none := hh
    have h15 : (Str.ofString " is not in list").length = 15 := by decide +kernel
    have hm : (reprText x ++ Str.ofString " is not in list").length ≤ sizeLine := by
      rw [Str.length_append, h15]; simp only [sizeLine]; omega
    refine raiseL_ ?q1 ?q2 ?q3 ?q4
    case q1 => exact plainExc_ValueError
    case q2 => exact hin
    case q3 => exact hm
    case q4 => exact fun h' tk e hx => hE h' tk e hx
  | succ k ih =>
    intro i hk prog w A R s h
    obtain ⟨hp, g, d, tk, os⟩ := s; obtain ⟨hl, h⟩ := h
    have hlt : i < items.size := by omega
    have hst : (i : Int) < upto := by omega
    wp_walk using wpAny_loadPart' hl
    have hi : (if (i : Int) < upto then items[((i : Nat) : Int).toNat]? else none) = some items[i] := by simp [hst, hlt]
    have hc : ((i : Int) + 1) = ((i + 1 : Nat) : Int) := by push_cast; rfl
    rw [hi]
    refine wpAny_bind (he _ (Array.getElem_mem hlt) prog w _ _ _ _ ?_)
    rw [hno i hlt]
    wp_walk
    rw [hc]
    exact ⟨plainId_quiet MeetsSeq.plain_index_loop _, codeAny_builtin MeetsSeq.entry_index_loop (by
      rw [Around.under_plainId MeetsSeq.plain_index_loop _]
      exact ih (i + 1) (by omega) prog w A R _ ⟨hl, h⟩)⟩
theorem list_index_none (l : Addr) (items : Array Value) (n : Nat) (x : Str) (t : Tok) (e : Value → Bool) (he : ∀ y, y ∈ items → MeetsSeq.EqGives y (.str x t) (e y)) (hno : ∀ m (hm : m < items.size), e items[m] = false) (hx : (reprText x).length ≤ 1000) (hz : items.size ≤ sizeLine) :
    Meets (Builtin.«list.index» ⟨[.ref l, .str x t], []⟩)
      (fun A R s => s.heap.get? l = some { cls := .type "list", dict := none, data := .seq items n, slots := #[] } ∧ raisesNew "ValueError" A R s) := by
  intro prog w A R s h
  obtain ⟨hp, g, d, tk, os⟩ := s; obtain ⟨hl, h⟩ := h
  wp_walk using wpAny_loadPart' hl
  have a1 : ((fun i : Int => if i < 0 then max 0 (i + (items.size : Int)) else i) ((none : Option Int).getD 0)) = ((0 : Nat) : Int) := by simp
  have a2 : ((fun i : Int => if i < 0 then max 0 (i + (items.size : Int)) else i) ((none : Option Int).getD (2 ^ 63 - 1))) = 2 ^ 63 - 1 := by simp
  have hz' : items.size ≤ 16777216 := by simpa [sizeLine] using hz
  rw [a1, a2]
  exact ⟨plainId_quiet MeetsSeq.plain_index_loop _, codeAny_builtin MeetsSeq.entry_index_loop (by
    rw [Around.under_plainId MeetsSeq.plain_index_loop _]
    exact index_loop_none l items n x t e he hno hx (2 ^ 63 - 1) (by omega) _ 0 rfl prog w A R _ ⟨hl, h⟩)⟩
end
section
open PySem PySem.Spec PySem.Calls PyProof.Rows PySem.W
/-- the tree raises a built-in exception -/
def WX {α : Type} (c : Cx) (t : Sem α) (σ : St) (cls : String) (P : St → Prop) : Prop :=
  ∀ (X : List (Addr × Obj)) (s : Shared), R c X σ s.heap → ∀ (Q : α → Shared → Prop) (E : Value → Shared → Prop),
    (∀ h e σ' h' tk, P σ' → R c X σ' h → Heap.NewExc h h' e cls → E (.ref e) { s with heap := h', toks := tk }) → wpAny (model c.prog c.w) c.A t Q E s
def WCX (c : Cx) (f : Value) (vs : List MV) (σ : St) (cls : String) (P : St → Prop) : Prop := ∀ us, VRs vs us → WX c (call f us) σ cls P
theorem index_out {c : Cx} {σ : St} {a : Addr} {ss : List Str} {x : Str} {P : St → Prop} (hh : c.A.handled = none) (hm : (a, MO.list (SL ss)) ∈ σ.heap) (hz : ss.length ≤ sizeLine) (hx : (reprText x).length ≤ 1000) (hno : ∀ y ∈ ss, y ≠ x) (h : P σ) : WCX c (.builtin "list.index") [.ref a, .str x] σ "ValueError" P := by
  intro us hu X s r Q E k
  obtain ⟨_, _, rfl, h1, h2⟩ := hu.two; cases h1; cases h2
  obtain ⟨us, n, hr, hl⟩ := r.listX hm
  have hlen : us.toArray.size = ss.length := by rw [List.size_toArray, ← hr.length]; simp
  have at_ : ∀ y ∈ us, ∃ (m : Str) (t : Tok), y = .str m t ∧ m ∈ ss := fun y hy => by
    obtain ⟨i, hi, rfl⟩ := List.getElem_of_mem hy
    obtain ⟨v, e1, e2⟩ := hr.get' (List.getElem?_eq_getElem hi)
    simp only [SL, List.getElem?_map, Option.map_eq_some_iff] at e1
    obtain ⟨m, e3, rfl⟩ := e1
    generalize us[i] = u at e2
    cases e2
    exact ⟨m, _, rfl, List.mem_of_getElem? e3⟩
  refine call_meets PySem.F.slot_list_index ⟨_, hl, rfl⟩ PySem.F.entry_list_index (PySem.F.args_list_index_2 _ _)
    (list_index_none a us.toArray n x _ (fun y => match y with | .str m _ => m.cps.toList == x.cps.toList | _ => false) (fun y hy => ?_) (fun m hm => ?_) hx (by rw [hlen]; exact hz)) ⟨hl, hh, fun h' tk e hxx => k s.heap e σ h' tk h r hxx⟩
  · obtain ⟨m, t, rfl, _⟩ := at_ y (by simpa using hy)
    exact SeqRoads2.EqGives.str m x t _
  · obtain ⟨y, t, e1, e2⟩ := at_ us.toArray[m] (by simp)
    rw [e1]
    have : (y.cps.toList == x.cps.toList) = (y == x) := SeqAt.str_beq y x
    show (y.cps.toList == x.cps.toList) = false
    rw [this]
    exact beq_eq_false_iff_ne.mpr (hno y e2)
/-- the first place of a str -/
theorem index_s {c : Cx} {σ : St} {P : MV → St → Prop} {a : Addr} {ss : List Str} {x : Str} {j : Nat} (hm : (a, MO.list (SL ss)) ∈ σ.heap) (hj : ss[j]? = some x) (hf : ∀ i, i < j → ss[i]? ≠ some x) (hz : ss.length ≤ sizeLine) (h : P (.int j) σ) : WC c (.builtin "list.index") [.ref a, .str x] σ P := by
  intro us hu X s r Q E kk
  obtain ⟨_, _, rfl, h1, h2⟩ := hu.two; cases h1; cases h2
  obtain ⟨us, n, hr, hl⟩ := r.listX hm
  have hlen : us.length = ss.length := by rw [← hr.length]; simp
  have hjl : j < ss.length := (List.getElem?_eq_some_iff.mp hj).1
  rw [sizeLine] at hz
  have at_ : ∀ i (hi : i < us.length), ∃ (m : Str) (t : Tok), us[i] = .str m t ∧ ss[i]? = some m := fun i hi => by
    obtain ⟨v, e1, e2⟩ := hr.get' (List.getElem?_eq_getElem hi)
    simp only [SL, List.getElem?_map, Option.map_eq_some_iff] at e1
    obtain ⟨m, e3, rfl⟩ := e1
    generalize us[i] = u at e2
    cases e2
    exact ⟨m, _, rfl, e3⟩
  refine call_meets PySem.F.slot_list_index ⟨_, hl, rfl⟩ PySem.F.entry_list_index (PySem.F.args_list_index_2 _ _)
    (MeetsSeq.list_index a us.toArray n (.str x _) (fun y => match y with | .str m _ => m.cps.toList == x.cps.toList | _ => false) (fun y hy => ?_) j (by simpa [hlen] using hjl) (by omega) ?_ ?_) ⟨hl, kk _ _ σ s.heap _ h (.int _ _) r⟩
  · obtain ⟨i, hi, e⟩ := List.getElem_of_mem (Array.mem_toList_iff.mpr hy)
    have hi' : i < us.length := by simpa using hi
    obtain ⟨m, t, e1, _⟩ := at_ i hi'
    have e' : y = .str m t := by rw [← e]; simpa using e1
    subst e'
    exact SeqRoads2.EqGives.str m x t _
  · obtain ⟨m, t, e1, e2⟩ := at_ j (by omega)
    rw [hj] at e2; cases e2
    have e1' : us.toArray[j]'(by simpa [hlen] using hjl) = .str x t := by simpa using e1
    rw [e1']
    simp
  · intro i hi hlt
    obtain ⟨m, t, e1, e2⟩ := at_ i (by simpa using hi)
    have e1' : us.toArray[i] = .str m t := by simpa using e1
    rw [e1']
    have := hf i hlt
    rw [e2] at this
    show (m.cps.toList == x.cps.toList) = false
    rw [SeqAt.str_beq m x]
    exact beq_eq_false_iff_ne.mpr fun q => this (by rw [q])
theorem MethX_ {c : Cx} {σ : St} {cls : String} {P : St → Prop} {o : Expr} {name : Str} {apos pos : Pos} {e : Expr} {es : List Expr} {T id : String} (pa : PlainAttrs T) (slot : Slot T name id) (hty : typeOf (.builtin id) = Pure.pure (.type "method_descriptor"))
    (hbase : attributeBase o name c.env (eval o c.env) = eval o c.env)
    (hfew : ((backTo pos (starEach (e :: es) c.env)).all (fun x => !x.1) && (backToKw pos (keywordEach [] c.env)).all (fun x => x.1.isSome) && decide ((e :: es).length + ([] : List Keyword).length + (if ([] : List Keyword).isEmpty then 0 else 1) < 30)) = true)
    (hline : (apos.endLine == pos.line) = true) (he : starEach (e :: es) c.env = (false, eval e c.env) :: starEach es c.env) (hp : (backTo pos (starEach es c.env)).any (·.1) = false)
    (h : WE c (eval o c.env) σ fun v σ1 => TY c v T σ1 ∧ WL c (spliced (backTo pos (starEach (e :: es) c.env))) σ1 fun vs σ2 => WCX c (.builtin id) (v :: vs) σ2 cls P) :
    WX c (eval (.Call (.Attribute o name apos) (e :: es) [] pos) c.env) σ cls P := by
  intro X s rr Q E k
  refine wpAny_Call_method hbase hfew hline pa slot hty (h X s rr _ _ fun b a σ' h' tk hp' ha r' => ?_)
  have ht := hp'.1 X { s with heap := h', toks := tk } a ha r'
  refine ⟨ht.1, ht.2, ?_⟩
  exact callWith_method1 (hp'.2 X _ r' _ _ fun vs us σ2 h2 tk2 hW hus r2 => hW (a :: us) (.cons ha hus) X _ r2 _ _ fun h0 e σ'' h'' tk'' hp' r'' hx => k h0 e σ'' h'' tk'' hp' r'' hx) he hp
theorem AssignX_ {c : Cx} {σ : St} {cls : String} {P : St → Prop} {x : Str} {p pos : Pos} {value : Expr} (hs : swapsWith value (some (.Name x p)) pos.line c.env = Pure.pure false) (h : WX c (eval value c.env) σ cls P) :
    WX c (exec (.Assign [.Name x p] value pos) c.env) σ cls P := by
  intro X s r Q E k
  exact wpAny_Assign_Name (h X s r _ _ fun h0 e σ'' h'' tk'' hp' r'' hx => k h0 e σ'' h'' tk'' hp' r'' hx) hs
theorem noteFirst {M : Model} {A : Around} {E : Value → Shared → Prop} {s : Shared} {base : Heap} {env : Env} {outer : List Env} {L e : Addr} {oe : Obj} {vs : Array Value} {a0 : Value} {Q : Unit → Shared → Prop}
    (hfr : A.frames = some (env :: outer)) (hl : s.heap.FunFrames base (env :: outer)) (hf : env.frame = some L)
    (he : s.heap.get? e = some oe) (hkb : base.StaysIn s.heap) (hen : base.get? e = none) (hd : oe.data = .fields vs) (h1 : vs[1]? = some .none) (h0 : vs[0]? = some a0)
    (h : ∀ h', Heap.NotedW base (env :: outer) e oe.cls a0 (rawInt L) s.heap h' → Q () { s with heap := h' }) : wpAny M A (noteFrame (.ref e) env) Q E s := by
  unfold noteFrame
  simp only [hf]
  refine wpAny_bind (wpAny_field he hd h1 ?_)
  rw [if_neg (by decide)]
  exact wpAny_entryW hfr hl hf he hkb hen hd (Array.getElem?_eq_some_iff.mp h1).1 h0 h
/-- what stands when an exception has flown: the frames but for their slots, all else as it was -/
theorem R.flown {base : Heap} {n : Nat} {c : Cx} {X : List (Addr × Obj)} {σ : St} {h h' : Heap} {outer : List Env} (r : R c X σ h) (ok : Ok base c n) (hA : c.A.frames = some (c.env :: outer)) (hs : (hideAll h ((c.env :: outer).filterMap (·.frame))).StaysIn h') (hu : h.UpToSlots h') : R c X σ h' := by
  obtain ⟨A₀, outer', B, hA'⟩ := ok.below
  rw [hA] at hA'; cases hA'
  have hfs : fsOf c = outer.filterMap (·.frame) := by unfold fsOf; rw [hA]; rfl
  have hal : (c.env :: outer).filterMap (·.frame) = c.env.locals :: fsOf c := by rw [hfs, List.filterMap_cons, ok.frame]
  rw [hal] at hs
  have off : ∀ a ∈ keys σ.heap ++ keys X, a ∉ c.env.locals :: fsOf c := fun a ha q => by
    rcases List.mem_cons.mp q with q | q
    · exact (r.off a ha).1 q
    · rw [hfs] at q
      obtain ⟨_, o, ho, _⟩ := B.frames.mem q
      have := (r.off a ha).2
      rw [ho] at this; cases this
  obtain ⟨m, F, V⟩ := r.fr
  refine ⟨⟨m, ⟨hu.ns F.ns, fun b o e => ?_, F.above⟩, V⟩, fun p hp => ?_, fun p hp => ?_, r.nd, r.off⟩
  · have hbl : b ≠ c.env.locals := Nat.ne_of_lt (Nat.lt_of_lt_of_le (Heap.lt_size e) F.above)
    obtain ⟨sl, h1, h2⟩ := F.keep b o e
    by_cases hb : b ∈ fsOf c
    · have hnf : ∀ vs, o.data ≠ .fields vs := by
        have hb' := hb
        rw [hfs] at hb'
        obtain ⟨_, o', ho', hd⟩ := B.frames.mem hb'
        rw [e] at ho'; cases ho'
        exact hd
      obtain ⟨sl', h3⟩ := hu b _ h1 hnf
      exact ⟨sl', h3, fun q => absurd hb q⟩
    · refine ⟨sl, hs b _ (hideAll_get _ h1 fun q => ?_), h2⟩
      rcases List.mem_cons.mp q with q | q
      · exact hbl q
      · exact hb q
  · obtain ⟨o, q1, q2⟩ := r.obj p hp
    exact ⟨o, hs _ _ (hideAll_get _ q1 (off _ (List.mem_append_left _ (List.mem_map_of_mem hp)))), q2⟩
  · exact hs _ _ (hideAll_get _ (r.ext p hp) (off _ (List.mem_append_right _ (List.mem_map_of_mem hp))))
/-- the context of a clause that has caught e -/
abbrev cxE (c : Cx) (e : Addr) : Cx := { c with A := c.A.mark (some (.ref e)) }
theorem R.toE {c X σ h} (r : R c X σ h) (e : Addr) : R (cxE c e) X σ h := ⟨r.fr, r.obj, r.ext, r.nd, r.off⟩
theorem R.ofE {c X σ h} {e : Addr} (r : R (cxE c e) X σ h) : R c X σ h := ⟨r.fr, r.obj, r.ext, r.nd, r.off⟩
theorem TryX_ {base : Heap} {c : Cx} {n : Nat} {σ : St} {P₁ : St → Prop} {P : MF → St → Prop} {st : Stmt} {rest orelse : List Stmt} {np hpos pos : Pos} {b₀ : Stmt} {suite : List Stmt} {hs : List ExceptHandler}
    (ok : Ok base c n) (B : Based base c) (G : GN base "ValueError" (.type "ValueError")) (hk : c.env.kindOf "ValueError" = some .globalImplicit)
    (hbody : WX c (exec st c.env) σ "ValueError" P₁)
    (h : ∀ e σ', P₁ σ' → WF (cxE c e) (execs (b₀ :: suite) c.env) σ' P) :
    WF c (exec (.Try (st :: rest) (.ExceptHandler (some (.Name "ValueError" np)) none (b₀ :: suite) hpos :: hs) orelse [] pos) c.env) σ P := by
  intro X s r Q E k
  refine wpAny_Try_except (wpAny_execs_cons (hbody X s r _ _ fun h₀ e σ' h' tk hp r' hx => ?_))
  obtain ⟨outer, hA, _, hF⟩ := r'.stack ok
  obtain ⟨ob, tp, he, hcls, hd⟩ := hx.there
  have hin : ∀ env ∈ (c.env :: outer), ∀ b, env.frame = some b → b ∈ (c.env :: outer).filterMap (·.frame) := fun env he b hb => List.mem_filterMap.mpr ⟨env, he, hb⟩
  have hen : (hideAll h₀ ((c.env :: outer).filterMap (·.frame))).get? e = none := by
    cases q : (hideAll h₀ ((c.env :: outer).filterMap (·.frame))).get? e with
    | none => rfl
    | some o => have := of_hideAll _ q; rw [hx.new] at this; cases this
  refine noteFirst (base := hideAll h₀ ((c.env :: outer).filterMap (·.frame))) (a0 := tp) hA ((funFrames_hide hF hin).of_keeps fun b o hb _ => ⟨o, hx.keeps b o hb, rfl⟩) ok.frame he (fun b o hb => hx.keeps b o (of_hideAll _ hb)) hen hd rfl rfl fun h1 hN => ?_
  obtain ⟨n1, n2, n3, n4⟩ := hN
  have u1 : h₀.UpToSlots h1 := (Heap.UpToSlots.of_keeps hx.keeps).trans n4
  rw [hcls] at n3
  refine wpAny_landsW ⟨n1, hen, n2, n3⟩ fun h2 f2 v2 => ?_
  have u2 := u1.trans v2
  have r2 := (r'.flown ok hA f2.1 u2).toE e
  have Be : Based base (cxE c e) := ⟨B.keep, B.globals, B.builtins, B.kind, B.off⟩
  refine wpAny_handleBy_builtin (X := "ValueError") (T := "ValueError") (b := true) PySem.F.isExc_ValueError PySem.F.notTuple_ValueError (by rw [isSubtype_type]; kernel_rfl) ?_
  have hq : ∀ (E' : Value → Shared → Prop), (Value.type "ValueError" = .type "ValueError" ∧ Shared.TypeIs { s with heap := h2, toks := tk } (.ref e) "ValueError" ∧
      wpAny (model c.prog c.w) (c.A.mark (some (.ref e))) (setFlight (.ref e) none) (fun _ s₂ => wpAny (model c.prog c.w) (c.A.mark (some (.ref e))) (execs (b₀ :: suite) c.env) Q E' s₂) E' { s with heap := h2, toks := tk }) := fun E' => by
    refine ⟨rfl, ?_, ?_⟩
    · obtain ⟨o2, e1, e2⟩ := f2.there
      exact ⟨o2, e1, e2⟩
    · refine lands_againW f2 fun h3 f3 v3 => ?_
      have r3 := (r'.flown ok hA f3.1 (u2.trans v3)).toE e
      exact h e σ' hp X { s with heap := h3, toks := tk } r3 Q E' fun f a σ'' h'' tk'' hp' hf r'' => k f a σ'' h'' tk'' hp' hf r''.ofE
  obtain ⟨mg, g1, g2⟩ := G
  rcases g2 with g2 | ⟨g2, mb, g3, g4⟩
  · exact Name_function_global Be.kind hk (loadGlobal_global (Be.globals ▸ g1.keeps (r2.base Be)) g2 (hq _)) (by decide)
  · exact Name_function_global Be.kind hk (loadGlobal_builtin (Be.globals ▸ g1.keeps (r2.base Be)) g2 (Be.builtins ▸ g3.keeps (r2.base Be)) g4 (hq _)) (by decide)
end
section
open PySem PySem.Spec PySem.Calls PyProof.Rows PySem.W
/-- a dict whose keys are tuples of strs and whose values are ints: its keys, where they stand, its values -/
abbrev HX := List (List Str × Addr × Int)
inductive HV : HX → List (List Str × Addr × Value) → Prop
  | nil : HV [] []
  | cons {k a n t r r'} : HV r r' → HV ((k, a, n) :: r) ((k, a, .int n t) :: r')
theorem HV.length {xs ys} (h : HV xs ys) : xs.length = ys.length := by
  induction h with
  | nil => rfl
  | cons _ ih => simp [ih]
theorem HV.keys {xs ys} (h : HV xs ys) : xs.map (·.1) = ys.map (·.1) := by
  induction h with
  | nil => rfl
  | cons _ ih => simp [ih]
theorem HV.at {xs ys} (h : HV xs ys) : ∀ y ∈ ys, ∃ n, (y.1, y.2.1, n) ∈ xs := by
  induction h with
  | nil => intro y hy; cases hy
  | @cons k a n t r r' _ ih =>
    intro y hy
    rcases List.mem_cons.mp hy with rfl | hy
    · exact ⟨n, by simp⟩
    · obtain ⟨m, hm⟩ := ih y hy
      exact ⟨m, List.mem_cons_of_mem _ hm⟩
theorem HV.get {xs ys} (h : HV xs ys) : ∀ {i : Nat} {k a n}, xs[i]? = some (k, a, n) → ∃ t, ys[i]? = some (k, a, .int n t) := by
  induction h with
  | nil => intro i k a n e; simp at e
  | @cons k a n t r r' _ ih =>
    intro i k' a' n' e
    cases i with
    | zero => simp at e; obtain ⟨rfl, rfl, rfl⟩ := e; exact ⟨_, rfl⟩
    | succ i => simpa using ih (by simpa using e)
theorem HV.get' {xs ys} (h : HV xs ys) : ∀ {i : Nat} {k a v}, ys[i]? = some (k, a, v) → ∃ n t, xs[i]? = some (k, a, n) ∧ v = .int n t := by
  induction h with
  | nil => intro i k a n e; simp at e
  | @cons k a n t r r' _ ih =>
    intro i k' a' v e
    cases i with
    | zero => simp at e; obtain ⟨rfl, rfl, rfl⟩ := e; exact ⟨n, t, rfl, rfl⟩
    | succ i => simpa using ih (by simpa using e)
def lookH (xs : HX) (k : List Str) : Option Int := (xs.find? fun x => decide (x.1 = k)).map (·.2.2)
theorem HV.look {xs ys} (h : HV xs ys) (k : List Str) : (∃ n a t, lookH xs k = some n ∧ atKey ys k = some (a, .int n t)) ∨ (lookH xs k = none ∧ atKey ys k = none) := by
  induction h with
  | nil => exact .inr ⟨rfl, rfl⟩
  | @cons k' a n t r r' _ ih =>
    unfold lookH atKey at *
    by_cases q : k' = k
    · exact .inl ⟨n, a, t, by simp [q], by simp [q]⟩
    · simpa [List.find?_cons, q] using ih
def storedM (xs : HX) (k : List Str) (a : Addr) (n : Int) : HX :=
  if (lookH xs k).isSome then xs.map (fun x => if x.1 = k then (x.1, x.2.1, n) else x) else xs ++ [(k, a, n)]
theorem HV.put {xs ys} (h : HV xs ys) (k : List Str) (n : Int) (t : Tok) : HV (xs.map fun x => if x.1 = k then (x.1, x.2.1, n) else x) (ys.map (putAt k (.int n t))) := by
  induction h with
  | nil => exact .nil
  | @cons k' a n' t' r r' _ ih =>
    simp only [List.map_cons, putAt]
    by_cases q : k' = k
    · simp only [q, if_true]; exact .cons ih
    · simp only [q, if_false]; exact .cons ih
theorem HV.snoc {xs ys} (h : HV xs ys) (k : List Str) (a : Addr) (n : Int) (t : Tok) : HV (xs ++ [(k, a, n)]) (ys ++ [(k, a, .int n t)]) := by
  induction h with
  | nil => exact .cons .nil
  | cons _ ih => exact .cons ih
theorem HV.stored {xs ys} (h : HV xs ys) (k : List Str) (a : Addr) (n : Int) (t : Tok) : HV (storedM xs k a n) (storedH ys k a (.int n t)) := by
  unfold storedM storedH
  rcases h.look k with ⟨m, b, u, e1, e2⟩ | ⟨e1, e2⟩
  · rw [e1, e2]; exact h.put k n t
  · rw [e1, e2]; exact h.snoc k a n t
theorem storedM_len (xs : HX) (k : List Str) (a : Addr) (n : Int) : (storedM xs k a n).length ≤ xs.length + 1 := by
  unfold storedM
  split <;> simp
theorem storedM_keys {xs : HX} {k : List Str} {a : Addr} {n : Int} : ∀ x ∈ storedM xs k a n, (∃ y ∈ xs, x.1 = y.1 ∧ x.2.1 = y.2.1) ∨ (x.1 = k ∧ x.2.1 = a) := by
  intro x hx
  unfold storedM at hx
  split at hx
  · obtain ⟨y, hy, rfl⟩ := List.mem_map.mp hx
    refine .inl ⟨y, hy, ?_⟩
    split <;> exact ⟨rfl, rfl⟩
  · rcases List.mem_append.mp hx with hx | hx
    · exact .inl ⟨x, hx, rfl, rfl⟩
    · cases List.mem_singleton.mp hx
      exact .inr ⟨rfl, rfl⟩
abbrev MO.dth (prog : Program) (w : World) (xs : HX) : MO := .is fun o => o.ExactDict ∧ ∃ es ep ys, o.data = .dict es ep ∧ HV xs ys ∧ es.toList = ys.map (entryOfKey (tupleKind (strKind prog w))) ∧ (ys.map (·.1)).Nodup
/-- the keys of such a dict stand on the ledger -/
def KeysIn (xs : HX) (H : List (Addr × MO)) : Prop := ∀ x ∈ xs, (x.2.1, MO.tuple (SL x.1)) ∈ H
theorem items_of {prog : Program} {w : World} : ∀ {ks : List Str} {us : List Value}, VRs (SL ks) us → ItemsAre (strKind prog w) ks us
  | [], _, h => by cases h; exact .nil
  | k :: ks, _, h => by
    cases h with | cons h1 h2 =>
    cases h1
    exact .cons (strKind_is prog w k _) (items_of h2)
section
variable {c : Cx} {σ : St}
theorem R.tkey {X h} (r : R c X σ h) {a : Addr} {ks : List Str} (hm : (a, MO.tuple (SL ks)) ∈ σ.heap) : IsTupleKey (strKind c.prog c.w) h ks a := by
  obtain ⟨us, hr, e⟩ := r.tupX hm
  exact ⟨_, us.toArray, 0, e, rfl, rfl, items_of hr⟩
theorem R.dth {X h} (r : R c X σ h) {d : Addr} {xs : HX} (hm : (d, MO.dth c.prog c.w xs) ∈ σ.heap) (hk : KeysIn xs σ.heap) : ∃ ys, HV xs ys ∧ h.DictOfH (tupleKind (strKind c.prog c.w)) d ys := by
  obtain ⟨o, e, q⟩ := r.obj _ hm
  cases q with
  | is q =>
  obtain ⟨hx, es, ep, ys, h1, h2, h3, h4⟩ := q
  refine ⟨ys, h2, o, es, ep, e, hx, h1, h3, fun y hy => ?_, h4⟩
  obtain ⟨n, hn⟩ := h2.at y hy
  exact r.tkey (hk _ hn)
theorem ty_dth {d : Addr} {xs : HX} (hm : (d, MO.dth c.prog c.w xs) ∈ σ.heap) : TY c (.ref d) "dict" σ := by
  intro X s u hu r
  cases hu
  obtain ⟨o, e, q⟩ := r.obj _ hm
  cases q with
  | is q => exact ⟨⟨o, e, q.1.1⟩, fun b z => by cases z; exact ⟨o, e, q.1.2.1⟩⟩
theorem notMods {a : Addr} {mo : MO} {X h} (r : R c X σ h) (hsm : ∃ o, c.g.get? sysModules = some o) (hm : (a, mo) ∈ σ.heap) : (a == sysModules) = false := by
  obtain ⟨o, ho⟩ := hsm
  have := (r.off a (List.mem_append_left _ (List.mem_map_of_mem hm))).2
  cases q : a == sysModules with
  | false => rfl
  | true => rw [eq_of_beq q, ho] at this; cases this
theorem dict0_ {pos : Pos} {P : MV → St → Prop} (h : ∀ d, P (.ref d) { σ with heap := (d, .dth c.prog c.w []) :: σ.heap }) : WE c (eval (.Dict [] [] pos) c.env) σ P := by
  intro X s r Q E k
  exact wpAny_Dict_empty (k _ _ _ _ s.toks (h s.heap.objs.size) (.val _) (r.new (fun b o e => Heap.get?_push_of_some _ e) (Heap.get?_none_of_le (Nat.le_refl _)) (Heap.get?_push_size _ rfl) (.is ⟨⟨rfl, rfl, rfl⟩, #[], 0, [], rfl, .nil, rfl, List.nodup_nil⟩)))
theorem get2_h {d a : Addr} {xs : HX} {ks : List Str} {n : Int} {P : MV → St → Prop} (hu : c.A.units + 1 < cLine) (hsm : ∃ o, c.g.get? sysModules = some o) (hm : (d, MO.dth c.prog c.w xs) ∈ σ.heap) (hk : KeysIn xs σ.heap) (ha : (a, MO.tuple (SL ks)) ∈ σ.heap)
    (h : P (.int ((lookH xs ks).getD n)) σ) : WC c (.builtin "dict.get") [.ref d, .ref a, .int n] σ P := by
  intro us hu' X s r Q E k
  obtain ⟨_, _, _, rfl, h1, h2, h3⟩ := hu'.three; cases h1; cases h2; cases h3
  obtain ⟨ys, hv, hd⟩ := r.dth hm hk
  have hne := notMods r hsm hm
  refine call_meetsIn PySem.F.slot_dict_get hd.typeIs PySem.F.entry_dict_get (PySem.F.args_dict_get_3 _ _ _) (meetsH_dict_get_default (tupleKind (strKind c.prog c.w)) d a hne _)
    ⟨tupleKind_room_in1 hu, ks, ys, r.tkey ha, hd, ?_⟩
  rcases hv.look ks with ⟨m, b, u, e1, e2⟩ | ⟨e1, e2⟩
  · rw [e1] at h; rw [e2]
    exact k _ _ _ s.heap _ h (.int _ _) r
  · rw [e1] at h; rw [e2]
    exact k _ _ _ s.heap _ h (.int _ _) r
theorem setItem_h {d a : Addr} {xs : HX} {ks : List Str} {n : Int} {pre post : List (Addr × MO)} {P : St → Prop} (hu : c.A.units + 1 < cLine) (hm : σ.heap = pre ++ (d, .dth c.prog c.w xs) :: post) (hk : KeysIn xs σ.heap) (ha : (a, MO.tuple (SL ks)) ∈ σ.heap) (hz : xs.length ≤ sizeLine)
    (h : P { σ with heap := pre ++ (d, .dth c.prog c.w (storedM xs ks a n)) :: post }) : ∀ u w x, VR (.ref d) u → VR (.ref a) w → VR (.int n) x → WU c (setItem u w x) σ fun _ => P := by
  intro u w x hu' hw hx X s r Q E k
  cases hu'; cases hw; cases hx with | int _ t =>
  obtain ⟨ys, hv, hd⟩ := r.dth (d := d) (xs := xs) (by rw [hm]; simp) hk
  refine wpAny_setItem_heap (hsz := by rw [← hv.length]; exact hz) (tupleKind_room_in1 hu) (r.tkey ha) hd fun h' hd' hs => ?_
  obtain ⟨o, es, ep, e1, e2, e3, e4, e5, e6⟩ := hd'
  exact k () () _ h' _ h trivial (r.upd hm (fun b o hb e => (hs.2 b hb).trans e) e1 (.is ⟨e2, es, ep, _, e3, hv.stored ks a n t, e4, e6⟩))
/-- whether two such dicts are alike -/
def eqH (xs ys : HX) : Bool := xs.length == ys.length && xs.all fun x => lookH ys x.1 == some x.2.2
end
section
variable {prog : Program} {w : World} {A : Around} {E : Value → Shared → Prop} {s : Shared}
theorem samePairsH {nm : String} {a b : Addr} {xa xb : HX} {ka kb : List (List Str × Addr × Value)} {Q : Bool → Shared → Prop} (hu : A.units < cLine) (ha : (a == sysModules) = false) (hb : (b == sysModules) = false)
    (va : HV xa ka) (vb : HV xb kb) (da : s.heap.DictOfH (tupleKind (strKind prog w)) a ka) (db : s.heap.DictOfH (tupleKind (strKind prog w)) b kb) (h : Q (eqH xa xb) s) : wpAny (model prog w) A (Builtin.Dict.samePairs nm a b) Q E s := by
  obtain ⟨oa, es, ep, hoa, _, hda, hea, hka, hna⟩ := da
  obtain ⟨ob, es', ep', hob, _, hdb, heb, hkb, hnb⟩ := db
  have hla : xa.length = es.size := by rw [va.length, size_of_entries hea]
  have hlb : xb.length = es'.size := by rw [vb.length, size_of_entries heb]
  unfold eqH at h
  rw [hla, hlb] at h
  unfold Builtin.Dict.samePairs Builtin.Dict.showsAll
  rw [if_neg (show ¬ (a == sysModules) = true by rw [ha]; exact Bool.false_ne_true), if_neg (show ¬ (b == sysModules) = true by rw [hb]; exact Bool.false_ne_true)]
  refine wpAny_bind (wpAny_pure (wpAny_bind (wpAny_pure ?_)))
  refine wpAny_bind (wpAny_dictEntries hoa hda ?_)
  dsimp only
  refine wpAny_bind (wpAny_dictEntries hob hdb ?_)
  by_cases hsz : es.size = es'.size
  case neg =>
    rw [if_pos (by simpa using hsz)]
    have hbf : (es.size == es'.size) = false := by simpa using hsz
    rw [hbf, Bool.false_and] at h
    exact wpAny_bind (wpAny_rule (wpAny_pure h))
  case pos =>
    have h' : Q (xa.all fun x => lookH xb x.1 == some x.2.2) s := by simpa [hsz] using h
    rw [if_neg (by rw [hsz]; simp)]
    refine wpAny_bind (wpAny_dictEpoch hoa hda ?_)
    refine wpAny_bind ?_
    rw [Std.Legacy.Range.forIn_eq_forIn_range']
    simp only [Std.Legacy.Range.size, Nat.sub_zero, Nat.add_sub_cancel, Nat.div_one]
    refine wpAny_forIn_list _
      (fun rest q s' => s' = s ∧ q = (none, ()) ∧ ∃ i, rest = List.range' i (es.size - i) ∧ i ≤ es.size ∧ (xa.all fun x => lookH xb x.1 == some x.2.2) = ((xa.drop i).all fun x => lookH xb x.1 == some x.2.2))
      _ ?_ ?_ _ _ ⟨rfl, rfl, 0, by simp, Nat.zero_le _, by simp⟩
    · rintro x rest q s' ⟨rfl, rfl, i, hr, hi, hpre⟩
      have hlt : i < es.size := by
        rcases Nat.lt_or_ge i es.size with h | h
        · exact h
        · rw [Nat.sub_eq_zero_of_le h] at hr; simp at hr
      obtain ⟨rfl, hrest⟩ : x = i ∧ rest = List.range' (i + 1) (es.size - (i + 1)) := by
        have e : es.size - i = (es.size - (i + 1)) + 1 := by omega
        rw [e, List.range'_succ] at hr
        injection hr with h1 h2
        exact ⟨h1, h2⟩
      refine wpAny_bind (wpAny_dictEntries hoa hda ?_)
      rw [Array.getElem?_eq_getElem hlt]
      have hlt' : x < xa.length := by rw [hla]; exact hlt
      obtain ⟨k, ad, n, hkv⟩ : ∃ k ad n, xa[x] = (k, ad, n) := ⟨_, _, _, rfl⟩
      have hdrop : xa.drop x = (k, ad, n) :: xa.drop (x + 1) := by rw [← hkv]; exact List.drop_eq_getElem_cons hlt'
      obtain ⟨t, hka2⟩ := va.get (i := x) (by rw [List.getElem?_eq_getElem hlt', hkv])
      have hent : es[x] = entryOfKey (tupleKind (strKind prog w)) (k, ad, .int n t) := by
        have := entry_at hea x
        rw [hka2, Array.getElem?_eq_getElem hlt] at this
        exact Option.some.inj this
      have hkey := hka _ (List.mem_of_getElem? hka2)
      rw [hdrop, List.all_cons] at hpre
      rw [hent]
      show wpAny _ _ (holding [_, _] _ >>= _) _ _ _
      refine wpAny_bind (wpAny_holding (wpAny_bind (wpAny_dictFind_heap (knd := tupleKind (strKind prog w)) hu hkey hob hdb heb hkb hnb (fun hno => ?_) (fun j p hj => ?_))))
      · have hn : lookH xb k = none := by
          rcases vb.look k with ⟨m, b2, u, e1, e2⟩ | ⟨e1, _⟩
          · rw [atKey_none_of_get hno] at e2; cases e2
          · exact e1
        have hf : (lookH xb k == some n) = false := by rw [hn]; rfl
        rw [hf, Bool.false_and] at hpre
        rw [hpre] at h'
        refine wpAny_pure ?_
        show wpAny _ _ (if (!false) = true then _ else _) _ _ _
        rw [if_pos (by decide)]
        exact wpAny_pure (wpAny_pure h')
      · obtain ⟨b2, v2⟩ := p
        obtain ⟨m, u, e1, rfl⟩ := vb.get' hj
        have hn : lookH xb k = some m := by
          rcases vb.look k with ⟨m', b3, u', e3, e4⟩ | ⟨e3, e4⟩
          · rw [atKey_of_get hnb hj] at e4
            cases e4; exact e3
          · rw [atKey_of_get hnb hj] at e4; cases e4
        refine wpAny_bind (wpAny_dictEntries hob hdb ?_)
        rw [entry_at heb j, hj]
        dsimp only [Option.map_some, entryOfKey]
        refine wpAny_holding ((SeqAt.EqAt.int_int n t m u) prog w _ _ ?_)
        have he : (lookH xb k == some n) = (n == m) := by
          rw [hn, Bool.eq_iff_iff, beq_iff_eq, beq_iff_eq, Option.some.injEq]
          exact eq_comm
        rw [he] at hpre
        cases hnm : n == m with
        | false =>
          rw [hnm, Bool.false_and] at hpre
          rw [hpre] at h'
          show wpAny _ _ (if (!false) = true then _ else _) _ _ _
          rw [if_pos (by decide)]
          exact wpAny_pure (wpAny_pure h')
        | true =>
          rw [hnm, Bool.true_and] at hpre
          show wpAny _ _ (if (!true) = true then _ else _) _ _ _
          rw [if_neg (by decide)]
          refine wpAny_bind (wpAny_dictEpoch hoa hda ?_)
          rw [if_neg (by simp)]
          exact wpAny_pure ⟨rfl, rfl, x + 1, hrest, hlt, hpre⟩
    · rintro q s' ⟨rfl, rfl, i, hr, hi, hpre⟩
      have hin : i = es.size := by
        rcases Nat.lt_or_ge i es.size with h | h
        · have e : es.size - i = (es.size - (i + 1)) + 1 := by omega
          rw [e, List.range'_succ] at hr; exact nomatch hr
        · exact Nat.le_antisymm hi h
      refine wpAny_pure ?_
      rw [hin, ← hla, List.drop_length] at hpre
      rw [hpre] at h'
      exact h'
end
section
variable {c : Cx} {σ : St}
theorem c_eq_h {a b : Addr} {xs ys : HX} {P : MV → St → Prop} (hu : c.A.units + 4 < cLine) (hsm : ∃ o, c.g.get? sysModules = some o) (hm : (a, MO.dth c.prog c.w xs) ∈ σ.heap) (hm' : (b, MO.dth c.prog c.w ys) ∈ σ.heap) (hk : KeysIn xs σ.heap) (hk' : KeysIn ys σ.heap) (h : P (.bool (eqH xs ys)) σ) :
    W2 c (compareOp .Eq) (.ref a) (.ref b) σ P := by
  intro u w hu' hw X s r Q E k
  cases hu'; cases hw
  obtain ⟨ka, va, da⟩ := r.dth hm hk
  obtain ⟨kb, vb, db⟩ := r.dth hm' hk'
  have ha := notMods r hsm hm
  have hb := notMods r hsm hm'
  refine wpAny_richCompare_same_room (op := .Eq) da.typeIs db.typeIs PySem.F.slot_dict_eq (wpAny_call_entry PySem.F.slot_dict_eq da.typeIs PySem.F.entry_dict_eq ?_ (PySem.F.args_dict_eq_2 _ _)) (by omega)
  show wpAny _ _ (Builtin.Dict.dictSlotArgs "__eq__" ⟨[.ref a, .ref b], []⟩ >>= _) _ _ s
  refine wpAny_bind ?_
  unfold Builtin.Dict.dictSlotArgs
  refine wpAny_bind (wpAny_notOrdered_dict da.typeIs ?_)
  show wpAny _ _ (pure (Value.ref a, Value.ref b)) _ _ s
  refine wpAny_pure ?_
  refine wpAny_bind (wpAny_isInstance (T := "dict") db.typeIs PySem.F.sub_dict_dict ?_)
  simp only [Bool.not_true, Bool.false_eq_true, if_false]
  refine wpAny_bind (wpAny_pure (wpAny_bind (wpAny_pure ?_)))
  refine wpAny_bind (samePairsH (by show c.A.units + 1 < _; omega) ha hb va vb da db ?_)
  refine wpAny_pure ⟨_, rfl, ?_, ?_⟩
  · exact fun x => nomatch x
  · simpa using k _ _ σ s.heap s.toks h (.bool _) r
/-- a set of strs -/
abbrev setS (prog : Program) (w : World) (S : Str → Bool) (n : Nat) : MO := .is fun o => o.SetObjOf (strKind prog w) S n
def insS (p : (Str → Bool) × Nat) (x : Str) : (Str → Bool) × Nat := (fun k' => p.1 k' || decide (k' = x), if p.1 x then p.2 else p.2 + 1)
def setOfS (xs : List Str) : (Str → Bool) × Nat := xs.foldl insS (fun _ => false, 0)
theorem setOfS_le (xs : List Str) : (setOfS xs).2 ≤ xs.length := by
  have key : ∀ (l : List Str) (p : (Str → Bool) × Nat), (l.foldl insS p).2 ≤ p.2 + l.length := by
    intro l
    induction l with
    | nil => intro p; exact Nat.le_refl _
    | cons x l ih =>
      intro p
      have := ih (insS p x)
      simp only [List.foldl_cons, List.length_cons]
      have h2 : (insS p x).2 ≤ p.2 + 1 := by unfold insS; dsimp only; split <;> omega
      omega
  simpa [setOfS] using key xs (fun _ => false, 0)
theorem len_setS {a : Addr} {S : Str → Bool} {n : Nat} {P : MV → St → Prop} (hm : (a, setS c.prog c.w S n) ∈ σ.heap) (hz : (n : Int) < 2 ^ 63) (h : P (.int n) σ) : WC c (.builtin "len") [.ref a] σ P := by
  intro us hu X s r Q E k
  obtain ⟨_, rfl, h1⟩ := hu.one; cases h1
  obtain ⟨o, ho, q⟩ := r.obj _ hm
  cases q with | is q =>
  exact len_sl1 (own := []) (rest := []) (h₀ := c.g) (L := c.env.locals) (fun p hp => by cases List.mem_singleton.mp hp; exact ⟨ho, r.off _ (List.mem_append_left _ (List.mem_map_of_mem hm))⟩) q hz (k _ _ σ s.heap _ h (.int _ _) r)
/-- the items of a display are put in, one after the other -/
theorem fillS {d : Addr} : ∀ {ys : List Str} {us : List Value} {p : (Str → Bool) × Nat} {V : List (Option MV)} {H : List (Addr × MO)} {X : List (Addr × Obj)} {s : Shared} {Q : Value → Shared → Prop} {E : Value → Shared → Prop},
    VRs (SL ys) us → R c X ⟨V, (d, setS c.prog c.w p.1 p.2) :: H⟩ s.heap → p.2 + ys.length + 1 < scanBound →
    (∀ h' tk, R c X ⟨V, (d, setS c.prog c.w (ys.foldl insS p).1 (ys.foldl insS p).2) :: H⟩ h' → Q (.ref d) { s with heap := h', toks := tk }) → KdsFill (model c.prog c.w) c.A E false d Q us s
  | [], _, p, V, H, X, s, Q, E, hu, r, _, k => by
    cases hu
    exact kds_fill_nil rfl (k s.heap s.toks r)
  | y :: ys, _, p, V, H, X, s, Q, E, hu, r, hz, k => by
    cases hu with | cons h1 h2 =>
    cases h1 with | str _ t =>
    refine kds_fill_cons ?_
    obtain ⟨o, ho, q⟩ := r.obj (d, setS c.prog c.w p.1 p.2) (by simp)
    cases q with | is q =>
    unfold setAdd
    simp only [List.length_cons] at hz
    refine wpAny_holding (wpAny_bind ((strKind c.prog c.w).pyHash (strKind_is c.prog c.w y t) ?_))
    refine wpAny_setAddHashed_of (s := { s with toks := s.toks + 1 }) (strKind_is c.prog c.w y t) rfl (q.setOf ho (by omega)) (by omega) fun h' hsb hS' => ?_
    obtain ⟨so', ho', hso'⟩ := hS'.objOf
    have r' : R c X ⟨V, (d, setS c.prog c.w (insS p y).1 (insS p y).2) :: H⟩ h' := r.upd (pre := []) rfl (fun b o hb e => (hsb.2 b hb).trans e) ho' (.is hso')
    refine fillS h2 r' ?_ fun h'' tk r'' => k h'' tk r''
    have h3 : (insS p y).2 ≤ p.2 + 1 := by unfold insS; dsimp only; split <;> omega
    omega
theorem Set3_ {e1 e2 e3 : Expr} {pos : Pos} {x1 x2 x3 : Str} {qual : Str} {P : MV → St → Prop} (hcd : ∀ X h, R c X σ h → h.CodeRec c.env.code qual) (hp : [e1, e2, e3].all kdsPlain = true) (hroad : displayRoad 0 [e1, e2, e3] = .oneByOne)
    (h1 : ∀ D so, WE c (eval e1 c.env) ⟨σ.vars, (D, so) :: σ.heap⟩ fun v σ' => v = .str x1 ∧ σ' = ⟨σ.vars, (D, so) :: σ.heap⟩) (h2 : ∀ D so, WE c (eval e2 c.env) ⟨σ.vars, (D, so) :: σ.heap⟩ fun v σ' => v = .str x2 ∧ σ' = ⟨σ.vars, (D, so) :: σ.heap⟩)
    (h3 : ∀ D so, WE c (eval e3 c.env) ⟨σ.vars, (D, so) :: σ.heap⟩ fun v σ' => v = .str x3 ∧ σ' = ⟨σ.vars, (D, so) :: σ.heap⟩)
    (h : ∀ D, P (.ref D) { σ with heap := (D, setS c.prog c.w (setOfS [x1, x2, x3]).1 (setOfS [x1, x2, x3]).2) :: σ.heap }) : WE c (eval (.Set [e1, e2, e3] 0 pos) c.env) σ P := by
  intro X s r Q E k
  rw [arm_eval_Set]
  refine wpAny_bind (wpAny_standAt ?_)
  have main : ∀ Q' : Bool → Shared → Prop, (∀ b, Q' b s) → wpAny (model c.prog c.w) c.A (inMainModule c.env) Q' E s := fun Q' hq => by
    obtain ⟨a, o, vs, t, e, ho, hd, _⟩ := hcd X s.heap r
    unfold inMainModule
    try dsimp only
    rw [e]
    split
    · exact wpAny_pure (hq _)
    · refine wpAny_bind (wpAny_fieldsOf ho hd ?_)
      split
      · exact wpAny_bind (wpAny_askSetting (wpAny_pure (hq _)))
      · exact wpAny_pure (hq _)
  refine wpAny_bind (main _ fun b => ?_)
  rw [kds_star _ hp, List.map_map]
  refine kds_core (ts := (evalEach [e1, e2, e3] c.env).map fun t => do let v ← t; standAt pos; pure v) (by rw [hroad]; rfl) ?_ ?_ ?_ fun led => ?_
  · refine List.findIdx?_eq_none_iff.mpr fun x hx => ?_
    obtain ⟨t, _, rfl⟩ := List.mem_map.mp hx
    rfl
  · rw [List.length_map, kds_len]; simp
  · rw [List.map_map]; try rfl
  · refine kds_all pos _ _ _ ?_
    have r1 : R c X ⟨σ.vars, (s.heap.objs.size, setS c.prog c.w (fun _ => false) 0) :: σ.heap⟩ (s.heap.push { cls := .type "set", dict := none, data := .set #[] 0 (.fresh 0 0 led) }) :=
      r.new (fun b o e => Heap.get?_push_of_some _ e) (Heap.get?_none_of_le (Nat.le_refl _)) (Heap.get?_push_size _ rfl) (.is (setObjOf_fresh led))
    show wpAny _ _ (eval e1 c.env) (fun v s' => KdsAll _ _ _ _ [e2, e3] _ s') _ _
    refine h1 _ _ X { s with heap := s.heap.push { cls := .type "set", dict := none, data := .set #[] 0 (.fresh 0 0 led) } } r1 _ _ fun v1 u1 σ1 g1 tk1 hv1 hu1 r2 => ?_
    obtain ⟨rfl, rfl⟩ := hv1
    show wpAny _ _ (eval e2 c.env) (fun v s' => KdsAll _ _ _ _ [e3] _ s') _ _
    refine h2 _ _ X { s with heap := g1, toks := tk1 } r2 _ _ fun v2 u2 σ2 g2 tk2 hv2 hu2 r3 => ?_
    obtain ⟨rfl, rfl⟩ := hv2
    show wpAny _ _ (eval e3 c.env) (fun v s' => KdsAll _ _ _ _ [] _ s') _ _
    refine h3 _ _ X { s with heap := g2, toks := tk2 } r3 _ _ fun v3 u3 σ3 g3 tk3 hv3 hu3 r4 => ?_
    obtain ⟨rfl, rfl⟩ := hv3
    show KdsFill _ _ _ _ _ _ [u1, u2, u3] _
    rw [hroad]
    refine fillS (ys := [x1, x2, x3]) (p := (fun _ => false, 0)) (.cons hu1 (.cons hu2 (.cons hu3 .nil))) r4 (by show 0 + 3 + 1 < scanBound; decide) fun h' tk r5 => ?_
    exact k _ _ _ h' tk (h _) (.val _) r5
end
end
section
open PySem PySem.Spec PySem.Calls PyProof.Rows PySem.W
section
variable {c : Cx} {σ : St}
/-- f'x{n}' -/
theorem fstr_ {x : Str} {kd : Nat} {cp fp pos : Pos} {e : Expr} {P : MV → St → Prop} (hx : x.length ≤ 100) (h : WE c (eval e c.env) σ fun v σ1 => ∃ n : Int, v = .int n ∧ 0 ≤ n ∧ n < 1000000 ∧ P (.str (x ++ Str.ofString (toString n))) σ1) :
    WE c (eval (.JoinedStr [.Constant (.str x) kd cp, .FormattedValue e (-1) none fp] pos) c.env) σ P := by
  intro X s r Q E k
  refine JoinedStr_many (joinParts_cons (wpAny_Constant_str ?_))
  have ee : Str.empty ++ x = x := Str.empty_append x
  dsimp only
  rw [ee]
  refine ⟨by simp only [sizeLine]; omega, joinParts_cons (FormattedValue_plain (h X { s with toks := s.toks + 1 } r _ _ fun v u σ1 h1 tk1 hp hv r1 => ?_))⟩
  obtain ⟨n, rfl, h0, h2, hP⟩ := hp
  cases hv with | int _ t =>
  have hl : n.natAbs.log2 < 1920 := by
    have h2' : n.natAbs < 2 ^ 1920 := Nat.lt_of_lt_of_le (m := 1000000) (by omega) (Nat.le_trans (by decide : 1000000 ≤ 2 ^ 20) (Nat.pow_le_pow_right (by decide) (by decide)))
    by_cases hz : n.natAbs = 0
    · rw [hz]; decide
    · exact (Nat.log2_lt hz).mpr h2'
  refine formatField_int_small hl ?_
  have hlen : (x ++ Str.ofString (toString n)).length ≤ sizeLine := by
    have := num_len h0 h2
    rw [Str.length_append]
    simp only [sizeLine]
    have h5 : (Str.ofString (toString n)).length ≤ 10 := this
    omega
  refine ⟨hlen, joinParts_nil (k _ _ σ1 h1 _ hP (.str _ _) r1) hlen⟩
/-- del l[-1] -/
theorem DelLast_ {o i : Expr} {tp pos : Pos} {P : MF → St → Prop} (h : WE c (eval o c.env) σ fun ov σ1 => WE c (eval i c.env) σ1 fun iv σ2 => ∃ a vs v pre post, ov = .ref a ∧ iv = .int (-1) ∧ σ2.heap = pre ++ (a, .list (vs ++ [v])) :: post ∧ vs.length + 1 ≤ sizeLine ∧ P .next ⟨σ2.vars, pre ++ (a, .list vs) :: post⟩) :
    WF c (exec (.Delete [.Subscript o i tp] pos) c.env) σ P := by
  intro X s r Q E k
  refine wpAny_Delete (wpAny_deleteEach_cons ?_)
  rw [arm_delete_Subscript]
  refine wpAny_bind (h X s r _ _ fun ov u σ1 h1 tk1 hp1 hu r1 => wpAny_bind (wpAny_holding (hp1 X _ r1 _ _ fun iv w σ2 h2 tk2 hp2 hw r2 => wpAny_bind (wpAny_standAt (wpAny_bind (wpAny_holding ?_))))))
  obtain ⟨a, vs, v, pre, post, rfl, rfl, hm, hz, hP⟩ := hp2
  cases hu; cases hw
  obtain ⟨us, n, hr, hl⟩ := r2.listX (a := a) (vs := vs ++ [v]) (by rw [hm]; simp)
  have hlen : us.length = vs.length + 1 := by rw [← hr.length]; simp
  have hsz : us.toArray.size = vs.length + 1 := by simpa using hlen
  have hz' : vs.length + 1 ≤ 16777216 := by simpa [sizeLine] using hz
  have hk : seqIndex? (-1) us.toArray.size = some vs.length := by
    rw [hsz]
    unfold seqIndex?
    have h1 : (-1 : Int) < 0 := by decide
    simp only [h1, if_true]
    have h2 : (-1 + ((vs.length + 1 : Nat) : Int)).toNat = vs.length := by omega
    first
      | (rw [if_pos (by omega)]; congr 1; omega)
      | (simp; omega)
      | (split <;> simp_all <;> omega)
  refine PySem.P.delItem_list (n := n) hl (by decide) hk ?_ (by rw [hsz]; exact hz)
  have hv : VRs vs (us.eraseIdx vs.length) := by
    have := hr.eraseIdx vs.length
    rw [List.eraseIdx_append_of_length_le (Nat.le_refl _)] at this
    simpa using this
  have r3 : R c X ⟨σ2.vars, pre ++ (a, .list vs) :: post⟩ (h2.update a (Obj.mapSeq fun xs => xs.eraseIdxIfInBounds vs.length)) := by
    refine r2.upd hm (fun b o hb e => (Heap.get?_update_other _ _ (Ne.symm hb)).trans e) (o' := { cls := .type "list", data := .seq (us.eraseIdx vs.length).toArray (n + 1) }) ?_ (.list (n + 1) hv)
    rw [Heap.get?_update_self _ hl rfl]
    congr 1
    have hne : ¬ (us.eraseIdx vs.length).length = us.length := by
      rw [List.length_eraseIdx]
      split <;> omega
    simp [Obj.mapSeq, hne]
  exact wpAny_release (wpAny_deleteEach_nil (k _ _ _ _ _ hP .next r3))
end
end
section
open PySem PySem.Spec PySem.Calls PyProof.Rows PySem.W
set_option maxRecDepth 10000
def nthS : List Stmt → Nat → Stmt
  | s :: _, 0 => s
  | _ :: r, n + 1 => nthS r n
  | [], _ => .Pass ⟨0, 0, 0, 0⟩
def fdBody : Stmt → List Stmt | .FunctionDef _ _ b _ _ _ _ _ _ _ => b | _ => []
def fdArgs : Stmt → Arguments | .FunctionDef _ a _ _ _ _ _ _ _ _ => a | _ => ⟨[], [], none, [], [], none, []⟩
def fdScope : Stmt → Scope | .FunctionDef _ _ _ _ _ _ s _ _ _ => s | _ => ⟨.function, [], false, false, []⟩
def fdPos : Stmt → Pos | .FunctionDef _ _ _ _ _ _ _ _ _ p => p | _ => ⟨0, 0, 0, 0⟩
abbrev stm (n : Nat) : Stmt := nthS PySem.Challenge.pw_em5013_01.main.body n
abbrev stMV : Stmt := nthS (fdBody (stm 15)) 7
abbrev qMV : Str := "to_statement" ++ ".<locals>." ++ "make_vals"
/-- a function of the program, where it stands -/
structure FnAt' (base : Heap) (a : Addr) (name : Str) (st : Stmt) (cd : Addr) : Prop where
  code : base.CodeRec (.ref cd) name
  at_ : ∃ fo doc pm ct, base.get? a = some fo ∧ fo.data = .func (fnX name name (fdArgs st) (fdBody st) (fdScope st) [] .none .none doc pm none (.ref cd) ct)
/-- make_vals, made -/
abbrev mvO (cell c' : Addr) (doc pm ctv : Value) : MO := .raw (fnMade "make_vals" qMV (fdArgs stMV) (fdBody stMV) (fdScope stMV) [("placeholders", cell)] doc pm c' ctv)
/-- State and its members -/
structure StF (prog : Program) (w : World) (base : Heap) (sc mo ms mq me mp : Addr) : Prop where
  out : AttrV prog w base sc "OUT" mo
  sq : AttrV prog w base sc "IN_SQ" ms
  qi : AttrV prog w base sc "IN_QI" mq
  es : AttrV prog w base sc "IN_ES" me
  pn : AttrV prog w base sc "IN_PN" mp
  oo : EqV prog w base mo mo true
  p_o : EqV prog w base mp mo false
  ps : EqV prog w base mp ms false
  pq : EqV prog w base mp mq false
  pe : EqV prog w base mp me false
  pp : EqV prog w base mp mp true
end
section
open PySem PySem.Spec PySem.Calls PyProof.Rows PySem.W
set_option maxRecDepth 10000
abbrev ch1 (c : Nat) : Str := ⟨#[c]⟩
/-- the letter d -/
abbrev ltr (d : Nat) : Str := ch1 (97 + d)
abbrev LL (ds : List Nat) : List Str := ds.map ltr
/-- a query's signs: a colon and a letter for each name, blanks between -/
def qcs : List Nat → List Nat
  | [] => []
  | [d] => [58, 97 + d]
  | d :: ds => 58 :: (97 + d) :: 32 :: qcs ds
def qstr (ds : List Nat) : Str := ⟨(qcs ds).toArray⟩
theorem qcs_len : ∀ ds : List Nat, ds ≠ [] → (qcs ds).length + 1 = 3 * ds.length
  | [], h => absurd rfl h
  | [d], _ => rfl
  | d :: e :: ds, _ => by
    have := qcs_len (e :: ds) (by simp)
    simp only [qcs, List.length_cons] at this ⊢
    omega
theorem qcs_at : ∀ (ds : List Nat) (k : Nat), k < ds.length → (qcs ds)[3 * k]? = some 58 ∧ (qcs ds)[3 * k + 1]? = some (97 + ds.getD k 0) ∧ (k + 1 < ds.length → (qcs ds)[3 * k + 2]? = some 32)
  | [], k, h => by simp at h
  | [d], k, h => by
    have : k = 0 := by simp at h; omega
    subst this
    exact ⟨rfl, rfl, fun h => by simp at h⟩
  | d :: e :: ds, 0, _ => ⟨rfl, rfl, fun _ => rfl⟩
  | d :: e :: ds, k + 1, h => by
    have ih := qcs_at (e :: ds) k (by simpa using h)
    have e1 : 3 * (k + 1) = 3 * k + 1 + 1 + 1 := by omega
    have e2 : 3 * (k + 1) + 1 = (3 * k + 1) + 1 + 1 + 1 := by omega
    have e3 : 3 * (k + 1) + 2 = (3 * k + 2) + 1 + 1 + 1 := by omega
    have eq : qcs (d :: e :: ds) = 58 :: (97 + d) :: 32 :: qcs (e :: ds) := rfl
    rw [eq, e3, e2, e1]
    simp only [List.getElem?_cons_succ, List.getD_cons_succ]
    exact ⟨ih.1, ih.2.1, fun h => ih.2.2 (by simpa using h)⟩
theorem let_occ : ∀ d : Nat, d < 8 → (!(!(Builtin.Str.occurrences (Str.ofString ":=") (ltr d) 0 (Str.ofString ":=").length 1).isEmpty)) = true := by decide +kernel
theorem let_colon : ∀ d : Nat, d < 8 → (ltr d == Str.ofString ":") = false := by decide +kernel
theorem let_repr : ∀ d : Nat, d < 8 → (reprText (ltr d)).length ≤ 1000 := by decide +kernel
theorem let_ok : ∀ d : Nat, d < 8 → PyData.strOk (ltr d) = true := by decide +kernel
theorem colon_one : ∀ d : Nat, d < 8 → (Str.ofString ":" ++ ltr d) = ⟨#[58, 97 + d]⟩ := by decide +kernel
theorem blank_no : Txt.isalnum (ch1 32) = false := by decide +kernel
theorem ltr_inj {a b : Nat} (h : ltr a = ltr b) : a = b := by
  have h2 : (97 + a) = 97 + b := by
    have := congrArg (fun x : Str => x.cps.toList) h
    simpa using this
  omega
theorem join_eq (sep : Str) (ys : List Str) : Txt.join sep ys = Str.join sep ys := StrLaws.glued_eq_join sep ys
theorem str_ext {a b : Str} (h : a.cps.toList = b.cps.toList) : a = b := by
  cases a; cases b
  simp only [Array.toList_inj] at h
  rw [h]
theorem join_words : ∀ ds : List Nat, (∀ d ∈ ds, d < 8) → Txt.join (Str.ofString " ") (ds.map fun (d : Nat) => Str.ofString ":" ++ ltr d) = qstr ds
  | [], _ => rfl
  | [d], h => by
    rw [join_eq]
    show Str.ofString ":" ++ ltr d = _
    rw [colon_one d (h d (by simp))]
    rfl
  | d :: e :: ds, h => by
    have ih := join_words (e :: ds) fun x hx => h x (List.mem_cons_of_mem _ hx)
    rw [join_eq] at ih ⊢
    show (Str.ofString ":" ++ ltr d) ++ Str.ofString " " ++ Str.join (Str.ofString " ") ((e :: ds).map _) = _
    rw [ih, colon_one d (h d (by simp))]
    apply str_ext
    simp only [Str.cps_append, qstr, Array.toList_append, qcs]
    rfl
theorem qstr_len (ds : List Nat) (h : ds ≠ []) : (qstr ds).length + 1 = 3 * ds.length := by
  have := qcs_len ds h
  simpa [qstr, Str.length] using this
theorem qstr_at (ds : List Nat) (i : Nat) : (qstr ds).cps[i]? = (qcs ds)[i]? := by simp [qstr]
/-- the names, each where it comes first -/
def ded (ds : List Nat) : List Nat := ds.foldl (fun acc d => if acc.contains d then acc else acc ++ [d]) []
theorem ded_snoc (ds : List Nat) (d : Nat) : ded (ds ++ [d]) = if (ded ds).contains d then ded ds else ded ds ++ [d] := by
  unfold ded
  rw [List.foldl_append]; rfl
theorem ded_len (ds : List Nat) : (ded ds).length ≤ ds.length := by
  have key : ∀ (l acc : List Nat), (l.foldl (fun acc d => if acc.contains d then acc else acc ++ [d]) acc).length ≤ acc.length + l.length := by
    intro l
    induction l with
    | nil => intro acc; simp
    | cons d l ih =>
      intro acc
      have h1 := ih (if acc.contains d then acc else acc ++ [d])
      simp only [List.foldl_cons, List.length_cons]
      have h2 : (if acc.contains d then acc else acc ++ [d]).length ≤ acc.length + 1 := by split <;> simp
      omega
  simpa [ded] using key ds []
theorem ded_mem (ds : List Nat) (d : Nat) : d ∈ ded ds ↔ d ∈ ds := by
  have key : ∀ (l acc : List Nat), d ∈ l.foldl (fun acc d => if acc.contains d then acc else acc ++ [d]) acc ↔ d ∈ acc ∨ d ∈ l := by
    intro l
    induction l with
    | nil => intro acc; simp
    | cons e l ih =>
      intro acc
      rw [List.foldl_cons, ih]
      by_cases h : acc.contains e = true
      · rw [if_pos h]
        have h2 : e ∈ acc := by simpa using h
        constructor
        · rintro (q | q)
          · exact .inl q
          · exact .inr (List.mem_cons_of_mem _ q)
        · rintro (q | q)
          · exact .inl q
          · rcases List.mem_cons.mp q with rfl | q
            · exact .inl h2
            · exact .inr q
      · rw [if_neg h]
        simp only [List.mem_append, List.mem_cons, List.not_mem_nil, or_false]
        constructor
        · rintro ((q | q) | q)
          · exact .inl q
          · exact .inr (.inl q)
          · exact .inr (.inr q)
        · rintro (q | q | q)
          · exact .inl (.inl q)
          · exact .inl (.inr q)
          · exact .inr q
  simpa [ded] using key ds []
theorem ded_nodup (ds : List Nat) : (ded ds).Nodup := by
  have key : ∀ (l acc : List Nat), acc.Nodup → (l.foldl (fun acc d => if acc.contains d then acc else acc ++ [d]) acc).Nodup := by
    intro l
    induction l with
    | nil => intro acc h; exact h
    | cons e l ih =>
      intro acc h
      rw [List.foldl_cons]
      refine ih _ ?_
      by_cases q : acc.contains e = true
      · rw [if_pos q]; exact h
      · rw [if_neg q]
        have q2 : e ∉ acc := by simpa using q
        refine List.nodup_append.mpr ⟨h, by simp, fun a ha b hb => ?_⟩
        rw [List.mem_singleton.mp hb]
        rintro rfl
        exact q2 ha
  exact key ds [] List.nodup_nil
/-- the places of the names on the shelf that they tell -/
def outs (ds : List Nat) : List Nat := ds.map fun d => (ded ds).idxOf d
end
section
open PySem PySem.Spec PySem.Calls PyProof.Rows PySem.W
set_option maxRecDepth 10000
theorem mv_spec {base : Heap} {c : Cx} {n : Nat} {V : List (Option MV)} {H : List (Addr × MO)} {f cell c' lp d : Addr} {doc pm ctv : Value} {ps : List Nat} {kvs : List (Str × MV)} {P : MV → St → Prop}
    (ok : Ok base c (n + 1)) (g1 : GN base "isinstance" (.builtin "isinstance")) (g2 : GN base "int" (.type "int")) (g3 : GN base "tuple" (.type "tuple")) (hsm : ∃ o, base.get? sysModules = some o)
    (hf : (f, mvO cell c' doc pm ctv) ∈ H) (hc : (c', codeO qMV) ∈ H) (hp : (cell, MO.cell (some (.ref lp))) ∈ H) (hl : (lp, MO.list (SL (LL ps))) ∈ H) (hd : (d, MO.dct c.prog c.w kvs) ∈ H)
    (hz : kvs.length ≤ 1000) (hk : ∀ p ∈ ps, lookK kvs (ltr p) = some (.str (ltr p))) (hpz : ps.length ≤ 1000)
    (h : ∀ t, P (.ref t) ⟨V, (t, .tuple (SL (LL ps))) :: H⟩) : WC c (.ref f) [.ref d] ⟨V, H⟩ P := by
  refine WC.less ?_
  refine Call_plain ["args", "arg_list", "vals", "p"] [some (.ref d), none, none, none] (fun us => [("args", us.getD 0 .none)]) ok (fun X h r => r.raw hf) rfl (fun X h r => r.code hc)
    (fun us hu => by obtain ⟨a, rfl, _⟩ := hu.one; rfl) ?_ ?_ (by decide) rfl rfl rfl ?_
  · intro us hu y hy
    rw [List.mem_singleton.mp hy]; rfl
  · intro us hu i q v h1 h2
    obtain ⟨a, rfl, ha⟩ := hu.one
    rcases i with _ | _ | _ | _ | _ <;> simp at h1 h2
    subst h1 h2
    exact ⟨a, rfl, ha⟩
  intro g L ok' hlt hg
  have B : Based base (cxOf c (envX qMV (fdScope stMV) L f (.ref c') [("placeholders", cell)]) g ["args", "arg_list", "vals", "p"]) := ⟨ok'.base, rfl, rfl, rfl, ok'.off⟩
  dsimp only
  refine execs_cons' ?_
  walk_at "m2"
  refine AssignItems_ (cl := []) ok'.hand (by decide) rfl (by decide) rfl rfl (by decide) (by decide) rfl (fun _ => rfl) rfl ?_
  walk_at "m2"
  refine items_d (by obtain ⟨o, e⟩ := hsm; exact ⟨o, ok'.base _ _ e⟩) hd fun iv => ?_
  refine ⟨iv, d, kvs, rfl, by walk_at "mm", by walk_at "mm", by simp only [sizeLine]; omega, fun al => ?_⟩
  dsimp only
  walk_at "m2"
  rename_i vl
  refine For_ (fun _ _ => rfl) (fun _ => rfl) ?_
  walk_at "m2"
  refine ⟨SL (LL ps), _, itb_list ok'.hand (by walk_at "mm"), fun i σ => ∃ pv, σ = ⟨[some (.ref d), some (.ref al), some (.ref vl), pv], (vl, .list (SL (LL (ps.take i)))) :: (al, .list (kvs.map (·.2))) :: (iv, itemsO d) :: H⟩, ⟨none, rfl⟩, ?_, ?_, ?_⟩
  · rintro i σ' ⟨pv, rfl⟩
    walk_at "mm"
  · rintro i q σ' hq ⟨pv, rfl⟩
    simp only [SL, List.getElem?_map, Option.map_eq_some_iff] at hq
    obtain ⟨k, ⟨p, hk1, rfl⟩, rfl⟩ := hq
    have hkm : p ∈ ps := List.mem_of_getElem? hk1
    have hkv := hk p hkm
    have hsz : (SL (LL (ps.take i))).length ≤ sizeLine := by simp only [SL, LL, List.length_map, List.length_take, sizeLine]; omega
    walk_at "m2"
    refine i_dct (by walk_at "mm") hkv (fun _ _ => rfl) ?_
    walk_at "m2"
    refine ⟨_, Le.refl _, some (.str (ltr p)), ?_⟩
    rw [List.take_add_one, hk1]
    simp [SL, LL]
  · rintro σ' ⟨pv, rfl⟩
    walk_at "m2"
    refine tuple_l (vs := SL (LL (ps.take (SL (LL ps)).length))) (by walk_at "mm") (by simp [sizeLine]; omega) fun t => ?_
    dsimp only [resOf]
    have e : ps.take (SL (LL ps)).length = ps := by simp [SL, LL]
    rw [e]
    exact ⟨_, le_of (VLe.refl _) (by walk_at "mh"), h t⟩
end
section
open PySem PySem.Spec PySem.Calls PyProof.Rows PySem.W
set_option maxRecDepth 10000
abbrev tsNames : List Str := ["query", "in_quote_escape", "output_query", "state", "prev_c", "i", "c", "next_c", "pidx", "reserved", "make_vals"]
abbrev tsV (q : Str) (lo st : Addr) (prev : MV) (a b d e : Option MV) : List (Option MV) := [some (.str q), some (.bool false), some (.ref lo), some (.ref st), some prev, a, b, d, e, none, none]
abbrev tsH (lo lp L : Addr) (outs : List Str) (ph : List MV) (rest : List (Addr × MO)) : List (Addr × MO) := (lo, .list (SL outs)) :: (lp, .list ph) :: (L + 1, .cell (some (.ref lp))) :: rest
/-- the k-th word of a statement -/
def tsW (ds : List Nat) (k : Nat) : Str := Str.ofString "$" ++ Str.ofString (toString (((ded (ds.take (k + 1))).idxOf (ds.getD k 0) : Int) + 1))
def tsO (ds : List Nat) : Nat → List Str
  | 0 => []
  | k + 1 => tsO ds k ++ [tsW ds k, Str.ofString " "]
abbrev tsP (ds : List Nat) (k : Nat) : List MV := SL (LL (ded (ds.take k)))
theorem tsO_len (ds : List Nat) (k : Nat) : (tsO ds k).length = 2 * k := by
  induction k with
  | zero => rfl
  | succ k ih => simp only [tsO, List.length_append, List.length_cons, List.length_nil, ih]; omega
theorem tsP_len (ds : List Nat) (k : Nat) (h : ds.length ≤ 1000) : (ded (ds.take k)).length ≤ 1000 := by
  have := ded_len (ds.take k)
  simp only [List.length_take] at this
  omega
def tsJ (ds : List Nat) (lo lp L mo mp : Addr) (rest : List (Addr × MO)) (i : Nat) (σ : St) : Prop := ∃ (k : Nat) (prev : MV) (a b d e : Option MV), k < ds.length ∧
  ((i = 3 * k ∧ (prev = .none ∨ prev = .str " ") ∧ σ = ⟨tsV (qstr ds) lo mo prev a b d e, tsH lo lp L (tsO ds k) (tsP ds k) rest⟩) ∨
   (i = 3 * k + 1 ∧ σ = ⟨tsV (qstr ds) lo mp (.str ":") a b d e, tsH lo lp L (tsO ds k) (tsP ds k ++ [.str ""]) rest⟩) ∨
   (i = 3 * k + 2 ∧ σ = ⟨tsV (qstr ds) lo mo prev a b d e, tsH lo lp L (tsO ds k ++ [tsW ds k]) (tsP ds (k + 1)) rest⟩))
theorem c_ne_prev {c : Cx} {σ : St} {prev : MV} {P : MV → St → Prop} (hp : prev = .none ∨ prev = .str " ") (h : P (.bool true) σ) : W2 c (compareOp .NotEq) prev (.str ":") σ P := by
  rcases hp with rfl | rfl
  · exact c_ne_none_str h
  · exact c_nes h
local macro_rules | `(tactic| walk_at "m1") => `(tactic| first
  | ((with_reducible refine' Meth0_ PySem.F.plainAttrs_str PySem.F.slot_str_isalnum PySem.F.type_str_isalnum ?a ?d ?_); (case a => rfl); (case d => rfl))
  | ((with_reducible refine' isalnum_ ?_)))
local macro_rules | `(tactic| walk_at "m3") => `(tactic| repeat ((fail_if_success (with_reducible refine' Try_ ?_)); walk_at "m1"))
theorem pick_last (ss : List Str) (v : MV) : pick (SL ss ++ [v]) none (some (-1)) = SL ss := by
  have hn : (SL ss ++ [v]).length = (SL ss).length + 1 := by simp
  have h1 : kms_lo none (SL ss ++ [v]).length = 0 := by simp [kms_lo]
  have h2 : kms_hi (some (-1)) (SL ss ++ [v]).length = (SL ss).length := by
    rw [hn]
    show (SL ss).length + 1 - 1 = _
    omega
  unfold pick
  rw [h1, h2]
  simp
theorem idx_first : ∀ (P : List Nat) (d i : Nat), i < P.idxOf d → P[i]? ≠ some d
  | [], _, _, _ => by simp
  | x :: P, d, i, h => by
    rw [List.idxOf_cons] at h
    by_cases e : x = d
    · rw [beq_iff_eq.mpr e] at h; simp at h
    · rw [beq_eq_false_iff_ne.mpr e] at h
      rcases i with _ | i
      · simpa using e
      · rw [List.getElem?_cons_succ]
        exact idx_first P d i (by simpa using h)
theorem LL_idx {P : List Nat} {d : Nat} (h : d ∈ P) : (LL P)[P.idxOf d]? = some (ltr d) := by
  have h1 := List.idxOf_lt_length_of_mem h
  rw [List.getElem?_map, List.getElem?_eq_getElem h1, List.getElem_idxOf h1]; rfl
theorem LL_first {P : List Nat} {d i : Nat} (h : i < P.idxOf d) : (LL P)[i]? ≠ some (ltr d) := by
  rw [List.getElem?_map]
  cases q : P[i]? with
  | none => simp
  | some x =>
    intro e
    have : x = d := ltr_inj (by simpa using e)
    exact idx_first P d i h (by rw [q, this])
theorem tsP_in {ds : List Nat} {k : Nat} (hk : k < ds.length) (h : ds.getD k 0 ∈ ded (ds.take k)) : ded (ds.take (k + 1)) = ded (ds.take k) := by
  have e : ds[k]? = some (ds.getD k 0) := by rw [List.getD_eq_getElem?_getD, List.getElem?_eq_getElem hk]; rfl
  rw [List.take_add_one, e]
  show ded (_ ++ [_]) = _
  rw [ded_snoc, if_pos (by simpa using h)]
theorem tsP_out {ds : List Nat} {k : Nat} (hk : k < ds.length) (h : ds.getD k 0 ∉ ded (ds.take k)) : ded (ds.take (k + 1)) = ded (ds.take k) ++ [ds.getD k 0] := by
  have e : ds[k]? = some (ds.getD k 0) := by rw [List.getD_eq_getElem?_getD, List.getElem?_eq_getElem hk]; rfl
  rw [List.take_add_one, e]
  show ded (_ ++ [_]) = _
  rw [ded_snoc, if_neg (by simpa using h)]
theorem idx_out {P : List Nat} {d : Nat} (h : d ∉ P) : (P ++ [d]).idxOf d = P.length := by
  rw [List.idxOf_append, if_neg h]
  simp
theorem SL_snoc (xs : List Str) (x : Str) : SL xs ++ [.str x] = SL (xs ++ [x]) := by simp [SL]
theorem SLL_snoc (xs : List Nat) (x : Nat) : SL (LL xs) ++ [.str (ltr x)] = SL (LL (xs ++ [x])) := by simp [SL, LL]
theorem tsW_in {ds : List Nat} {k : Nat} (hk : k < ds.length) (h : ds.getD k 0 ∈ ded (ds.take k)) : tsW ds k = Str.ofString "$" ++ Str.ofString (toString (((ded (ds.take k)).idxOf (ds.getD k 0) : Int) + 1)) := by
  unfold tsW; rw [tsP_in hk h]
theorem tsW_out {ds : List Nat} {k : Nat} (hk : k < ds.length) (h : ds.getD k 0 ∉ ded (ds.take k)) : tsW ds k = Str.ofString "$" ++ Str.ofString (toString (((ded (ds.take k)).length : Int) + 1)) := by
  unfold tsW; rw [tsP_out hk h, idx_out h]
theorem tsW_len (ds : List Nat) (k : Nat) (h : ds.length ≤ 1000) : (tsW ds k).length ≤ 11 := by
  have h1 := List.idxOf_le_length (a := ds.getD k 0) (l := ded (ds.take (k + 1)))
  have h2 := ded_len (ds.take (k + 1))
  rw [List.length_take] at h2
  have h3 : (toString (((ded (ds.take (k + 1))).idxOf (ds.getD k 0) : Int) + 1) : Str).length ≤ 10 := num_len (by omega) (by omega)
  unfold tsW
  rw [Str.length_append]
  have h4 : (Str.ofString "$").length = 1 := by decide
  have h5 : (Str.ofString (toString (((ded (ds.take (k + 1))).idxOf (ds.getD k 0) : Int) + 1))).length ≤ 10 := h3
  omega
theorem tsO_sum (ds : List Nat) (k : Nat) (h : ds.length ≤ 1000) : ((tsO ds k).map (·.length)).sum ≤ 12 * k := by
  induction k with
  | zero => simp [tsO]
  | succ k ih =>
    have h1 := tsW_len ds k h
    have h2 : (Str.ofString " ").length = 1 := by decide
    simp only [tsO, List.map_append, List.sum_append, List.map_cons, List.map_nil, List.sum_cons, List.sum_nil]
    omega
theorem no_word {ds : List Nat} {z : Str} (h : z.length ≠ 1) : (LL ds).any (· == z) = false := by
  rw [List.any_eq_false]
  intro y hy q
  obtain ⟨d, _, rfl⟩ := List.mem_map.mp hy
  have : ltr d = z := by simpa using q
  rw [← this] at h
  exact h rfl
theorem e0_ltr (d : Nat) : Str.ofString "" ++ ltr d = ltr d := by
  apply str_ext
  rw [Str.cps_append]; rfl
set_option maxHeartbeats 4000000 in
theorem ts_spec {base : Heap} {c : Cx} {n : Nat} {aT cdT tab sc mo ms mq me mp : Addr} {V : List (Option MV)} {H T : List (Addr × MO)} {ds : List Nat} {P : MV → St → Prop}
    {p : Program} {loose : List Str} {mean : ExcName → Option Value} {mg mb : Str → Option Value}
    (ok : Ok base c (n + 1)) (Bc : Based base c) (F : FnAt' base aT "to_statement" (stm 15) cdT) (C : CodeHd base cdT tab) (Tp : Top p loose mean mg mb base) (S : StF c.prog c.w base sc mo ms mq me mp)
    (g1 : GN base "len" (.builtin "len")) (g2 : GN base "enumerate" (.type "enumerate")) (g3 : GN base "State" (.ref sc)) (g4 : GN base "ValueError" (.type "ValueError"))
    (hds : ∀ d ∈ ds, d < 8) (hne : ds ≠ []) (hz : ds.length ≤ 1000) (hT : Tab tab (fdPos stMV) qMV T)
    (h : ∀ t f cell lp c' doc pm ctv, P (.ref t) ⟨V, (t, .tuple [.str (Txt.join (Str.ofString "") (tsO ds (ds.length - 1) ++ [tsW ds (ds.length - 1)])), .ref f]) :: (f, mvO cell c' doc pm ctv) :: (lp, .list (SL (LL (ded ds)))) :: (cell, .cell (some (.ref lp))) :: (H ++ tabFull tab (fdPos stMV) qMV c')⟩) :
    WC c (.ref aT) [.str (qstr ds)] ⟨V, H ++ T⟩ P := by
  obtain ⟨fo, doc, pm, ct, e1, e2⟩ := F.at_
  refine WC.less ?_
  refine Call_cells (fo := fo) tsNames [some (.str (qstr ds)), none, none, none, none, none, none, none, none, none, none] (fun L => [(L + 1, .cell none)]) (fun us => [("query", us.getD 0 .none)]) ok
    (fun X h r => r.base Bc _ _ e1) e2 (fun X h r => F.code.keeps (r.base Bc))
    (fun us hu => by obtain ⟨a, rfl, _⟩ := hu.one; rfl) ?_ (by decide) ?_ ?_ ?_ rfl rfl rfl ?_
  · intro us hu n p hp
    left
    rw [List.mem_singleton.mp hp]; rfl
  · intro us hu L i q v h1 h2
    obtain ⟨a, rfl, ha⟩ := hu.one
    rcases i with _ | i
    · simp at h1 h2
      subst h1 h2
      exact ⟨a, rfl, ha⟩
    · exfalso
      rcases i with _ | _ | _ | _ | _ | _ | _ | _ | _ | _ | _ <;> simp at h2
  · intro us hu L cells hc
    obtain ⟨o, rfl, d1⟩ := CellsAre.one (n := "placeholders") (c := L + 1) hc
    exact .cons (.cell .none d1) .nil
  · intro L
    simp only [keys, List.map_cons, List.map_nil, List.nodup_cons, List.mem_cons, List.not_mem_nil, or_false, not_false_eq_true, List.nodup_nil, and_true]
    refine ⟨trivial, ?_⟩
    rintro a rfl
    exact Nat.lt_succ_self _
  intro g L ok' hlt hg
  have B : Based base (cxOf c (envOfC "to_statement" (fdScope (stm 15)) L aT (.ref cdT)) g tsNames) := ⟨ok'.base, rfl, rfl, rfl, ok'.off⟩
  obtain ⟨so, ss, sq, se, sp, eoo, epo, eps, epq, epe, epp⟩ := S
  have hu : (c.A.deeper (envOfC "to_statement" (fdScope (stm 15)) L aT (.ref cdT))).units < cLine := by have := ok'.units; show c.A.units + 3 < _; have h2 : c.A.units + 3 + 3 * n + 60 < cLine := this; omega
  show WF _ (execs (fdBody (stm 15)) _) ⟨_, (L + 1, MO.cell none) :: (H ++ T)⟩ _
  dsimp only
  refine execs_cons' ?_
  walk_at "m2"
  rename_i lp lo
  refine ForEnum_ ok'.hand (fun _ => rfl) ?_
  walk_at "m2"
  refine enum_s fun e it => ?_
  refine ⟨e, it, qstr ds, _, rfl, rfl, tsJ ds lo lp L mo mp (H ++ T), ?_, ?_, ?_⟩
  · exact ⟨0, .none, none, none, none, none, List.length_pos_iff.mpr hne, .inl ⟨rfl, .inl rfl, rfl⟩⟩
  · rintro i ch σ' hch ⟨k, prev, a, b, d, e, hk, hJ⟩
    rw [qstr_at] at hch
    have hq := qcs_at ds k hk
    have hlen := qstr_len ds hne
    have hql : (qstr ds).length ≤ sizeLine := by simp only [sizeLine]; omega
    have hd8 : ds.getD k 0 < 8 := hds _ (by rw [List.getD_eq_getElem?_getD, List.getElem?_eq_getElem hk]; exact List.getElem_mem hk)
    have hOl := tsO_len ds k
    have hPl := tsP_len ds k hz
    have hO : (SL (tsO ds k)).length ≤ sizeLine := by simp only [SL, List.length_map, hOl, sizeLine]; omega
    have hP : (tsP ds k).length ≤ sizeLine := by simp only [SL, LL, List.length_map, sizeLine]; omega
    rcases hJ with ⟨rfl, hp, rfl⟩ | ⟨rfl, rfl⟩ | ⟨rfl, rfl⟩
    · rw [hq.1] at hch; cases hch
      have hocc := let_occ _ hd8
      walk_at "m2"
      refine ite_p (decide_eq_true (by omega)) ?_
      walk_at "m2"
      refine i_str (ch := 97 + ds.getD k 0) (by omega) (by omega) ?_ (fun _ _ => rfl) ?_
      · rw [qstr_at, show ((3 * k : Nat) : Int) + 1 = ((3 * k + 1 : Nat) : Int) by omega, Int.toNat_natCast]
        exact hq.2.1
      walk_at "m2"
      refine c_notin_s ?_
      walk_at "m2"
      refine c_ne_prev hp ?_
      walk_at "m2"
      exact ⟨_, Le.refl _, k, prev, _, _, _, _, hk, .inr (.inl ⟨rfl, rfl⟩)⟩
    · rw [hq.2.1] at hch; cases hch
      have hP2 : (tsP ds k).length < 2 ^ 62 := by simp only [LL, List.length_map]; omega
      have hP3 : (tsP ds k).length + 1 ≤ sizeLine := by simp only [LL, List.length_map, sizeLine]; omega
      have hcz : (Str.ofString "").length + (ltr (ds.getD k 0)).length ≤ sizeLine := by show 0 + 1 ≤ sizeLine; decide
      have hP3' : (tsP ds k ++ [MV.str (ltr (ds.getD k 0))]).length ≤ sizeLine := by rw [List.length_append]; exact hP3
      have hPs : (LL (ded (ds.take k))).length ≤ sizeLine := by simp only [LL, List.length_map, sizeLine]; omega
      have hPn : (((tsP ds k ++ [MV.str (ltr (ds.getD k 0))]).length : Nat) : Int) = ((ded (ds.take k)).length : Int) + 1 := by simp [SL, LL]
      have hbl := blank_no
      have hbl2 : (!Txt.isalnum (ch1 32)) = true := by rw [hbl]; rfl
      walk_at "m2"
      by_cases hl : k + 1 < ds.length
      · refine ite_p (decide_eq_true (by omega)) ?_
        walk_at "m2"
        refine i_str (ch := 32) (by omega) (by omega) ?_ (fun _ _ => rfl) ?_
        · rw [qstr_at, show ((3 * k + 1 : Nat) : Int) + 1 = ((3 * k + 2 : Nat) : Int) by omega, Int.toNat_natCast]
          exact hq.2.2 hl
        walk_at "m2"
        refine g_list_last (by walk_at "mm") hP2 ?_
        walk_at "m2"
        refine ib_cat hcz ?_
        refine setLast' (by walk_at "mu") hP3 ?_
        rw [e0_ltr]
        walk_at "m3"
        by_cases hin : ds.getD k 0 ∈ ded (ds.take k)
        · walk_at "m2"
          refine ⟨_, rfl, _, _, rfl, by walk_at "mm", hP3', fun b => ?_⟩
          rw [pick_last]
          dsimp only
          walk_at "m2"
          refine i_list_last (by walk_at "mm") hP2 (fun _ _ => rfl) ?_
          walk_at "m2"
          refine index_s (by walk_at "mm") (LL_idx hin) (fun i hi => LL_first hi) hPs ?_
          have hix := List.idxOf_lt_length_of_mem hin
          walk_at "m2"
          refine fstr_ (by decide) ?_
          walk_at "m2"
          refine ⟨_, rfl, by omega, by omega, ?_⟩
          rw [← tsW_in hk hin]
          walk_at "m2"
          refine DelLast_ ?_
          walk_at "m2"
          refine ⟨lp, SL (LL (ded (ds.take k))), _, [_, _], _, rfl, rfl, rfl, hP3, ?_⟩
          walk_at "m2"
          rw [SL_snoc, ← tsP_in hk hin]
          exact ⟨_, le_of (VLe.refl _) (List.Sublist.cons _ (sub_refl _)), k, _, _, _, _, _, hk, .inr (.inr ⟨rfl, rfl⟩)⟩
        · refine TryX_ ok' B g4 rfl (P₁ := fun σ' => ∃ b : Addr, σ' = ⟨tsV (qstr ds) lo mo (.str ":") (some (.int (3 * k + 1 : Nat))) (some (.str (ltr (ds.getD k 0)))) (some (.str " ")) e, (b, .list (SL (LL (ded (ds.take k))))) :: tsH lo lp L (tsO ds k) (tsP ds k ++ [.str (ltr (ds.getD k 0))]) (H ++ T)⟩) ?_ ?_
          · refine AssignX_ rfl ?_
            refine MethX_ PySem.F.plainAttrs_list PySem.F.slot_list_index PySem.F.type_list_index rfl rfl rfl rfl rfl ?_
            walk_at "m2"
            refine ⟨_, rfl, _, _, rfl, by walk_at "mm", hP3', fun b => ?_⟩
            rw [pick_last]
            dsimp only
            walk_at "m2"
            refine i_list_last (by walk_at "mm") hP2 (fun _ _ => rfl) ?_
            walk_at "m2"
            refine index_out ok'.hand (by walk_at "mm") hPs (let_repr _ hd8) ?_ ⟨_, rfl⟩
            intro y hy q
            obtain ⟨d', h1, h2⟩ := List.mem_map.mp hy
            rw [q] at h2
            exact hin (ltr_inj h2 ▸ h1)
          · rintro e' σ' ⟨b, rfl⟩
            have B' : Based base (cxE (cxOf c (envOfC "to_statement" (fdScope (stm 15)) L aT (.ref cdT)) g tsNames) e') := ⟨B.keep, B.globals, B.builtins, B.kind, B.off⟩
            walk_at "m2"
            refine fstr_ (by decide) ?_
            walk_at "m2"
            rw [hPn]
            refine ⟨_, rfl, by omega, by omega, ?_⟩
            rw [← tsW_out hk hin]
            walk_at "m2"
            rw [SL_snoc, SLL_snoc, ← tsP_out hk hin]
            exact ⟨_, le_of (VLe.refl _) (List.Sublist.cons _ (sub_refl _)), k, _, _, _, _, _, hk, .inr (.inr ⟨rfl, rfl⟩)⟩
      · refine ite_n (decide_eq_false (by omega)) ?_
        walk_at "m2"
        refine g_list_last (by walk_at "mm") hP2 ?_
        walk_at "m2"
        refine ib_cat hcz ?_
        refine setLast' (by walk_at "mu") hP3 ?_
        rw [e0_ltr]
        walk_at "m3"
        by_cases hin : ds.getD k 0 ∈ ded (ds.take k)
        · walk_at "m2"
          refine ⟨_, rfl, _, _, rfl, by walk_at "mm", hP3', fun b => ?_⟩
          rw [pick_last]
          dsimp only
          walk_at "m2"
          refine i_list_last (by walk_at "mm") hP2 (fun _ _ => rfl) ?_
          walk_at "m2"
          refine index_s (by walk_at "mm") (LL_idx hin) (fun i hi => LL_first hi) hPs ?_
          have hix := List.idxOf_lt_length_of_mem hin
          walk_at "m2"
          refine fstr_ (by decide) ?_
          walk_at "m2"
          refine ⟨_, rfl, by omega, by omega, ?_⟩
          rw [← tsW_in hk hin]
          walk_at "m2"
          refine DelLast_ ?_
          walk_at "m2"
          refine ⟨lp, SL (LL (ded (ds.take k))), _, [_, _], _, rfl, rfl, rfl, hP3, ?_⟩
          walk_at "m2"
          rw [SL_snoc, ← tsP_in hk hin]
          exact ⟨_, le_of (VLe.refl _) (List.Sublist.cons _ (sub_refl _)), k, _, _, _, _, _, hk, .inr (.inr ⟨rfl, rfl⟩)⟩
        · refine TryX_ ok' B g4 rfl (P₁ := fun σ' => ∃ b : Addr, σ' = ⟨tsV (qstr ds) lo mo (.str ":") (some (.int (3 * k + 1 : Nat))) (some (.str (ltr (ds.getD k 0)))) (some .none) e, (b, .list (SL (LL (ded (ds.take k))))) :: tsH lo lp L (tsO ds k) (tsP ds k ++ [.str (ltr (ds.getD k 0))]) (H ++ T)⟩) ?_ ?_
          · refine AssignX_ rfl ?_
            refine MethX_ PySem.F.plainAttrs_list PySem.F.slot_list_index PySem.F.type_list_index rfl rfl rfl rfl rfl ?_
            walk_at "m2"
            refine ⟨_, rfl, _, _, rfl, by walk_at "mm", hP3', fun b => ?_⟩
            rw [pick_last]
            dsimp only
            walk_at "m2"
            refine i_list_last (by walk_at "mm") hP2 (fun _ _ => rfl) ?_
            walk_at "m2"
            refine index_out ok'.hand (by walk_at "mm") hPs (let_repr _ hd8) ?_ ⟨_, rfl⟩
            intro y hy q
            obtain ⟨d', h1, h2⟩ := List.mem_map.mp hy
            rw [q] at h2
            exact hin (ltr_inj h2 ▸ h1)
          · rintro e' σ' ⟨b, rfl⟩
            have B' : Based base (cxE (cxOf c (envOfC "to_statement" (fdScope (stm 15)) L aT (.ref cdT)) g tsNames) e') := ⟨B.keep, B.globals, B.builtins, B.kind, B.off⟩
            walk_at "m2"
            refine fstr_ (by decide) ?_
            walk_at "m2"
            rw [hPn]
            refine ⟨_, rfl, by omega, by omega, ?_⟩
            rw [← tsW_out hk hin]
            walk_at "m2"
            rw [SL_snoc, SLL_snoc, ← tsP_out hk hin]
            exact ⟨_, le_of (VLe.refl _) (List.Sublist.cons _ (sub_refl _)), k, _, _, _, _, _, hk, .inr (.inr ⟨rfl, rfl⟩)⟩
    · have hl : k + 1 < ds.length := by
        have := (List.getElem?_eq_some_iff.mp hch).1
        have h2 : (qcs ds).length = (qstr ds).length := by simp [qstr, Str.length]
        omega
      rw [hq.2.2 hl] at hch; cases hch
      have hq2 := qcs_at ds (k + 1) hl
      have hO2 : (SL (tsO ds k ++ [tsW ds k])).length ≤ sizeLine := by simp only [SL, List.length_map, List.length_append, List.length_singleton, hOl, sizeLine]; omega
      walk_at "m2"
      refine ite_p (decide_eq_true (by omega)) ?_
      walk_at "m2"
      refine i_str (ch := 58) (by omega) (by omega) ?_ (fun _ _ => rfl) ?_
      · rw [qstr_at, show ((3 * k + 2 : Nat) : Int) + 1 = ((3 * (k + 1) : Nat) : Int) by omega, Int.toNat_natCast]
        exact hq2.1
      walk_at "m2"
      rw [show (MV.str { cps := #[32] }) = .str (Str.ofString " ") from rfl, SL_snoc, List.append_assoc]
      exact ⟨_, Le.refl _, k + 1, .str " ", _, _, _, _, hl, .inl ⟨by omega, .inr rfl, rfl⟩⟩
  · rintro σ' ⟨k, prev, a, b, d, e, hk, hJ⟩
    have hlen := qstr_len ds hne
    have hcs : (qstr ds).cps.size = (qstr ds).length := rfl
    rcases hJ with ⟨h1, hp, rfl⟩ | ⟨h1, rfl⟩ | ⟨h1, rfl⟩
    · omega
    · omega
    have hkl : k + 1 = ds.length := by omega
    have hkl2 : k = ds.length - 1 := by omega
    have hds2 : ds.take (k + 1) = ds := by rw [hkl, List.take_length]
    rw [show tsP ds (k + 1) = SL (LL (ded ds)) by unfold tsP; rw [hds2], hkl2]
    have hPl : (LL (ded ds)).length ≤ sizeLine := by have := ded_len ds; simp only [LL, List.length_map, sizeLine]; omega
    have hsum := tsO_sum ds (ds.length - 1) hz
    have hwl := tsW_len ds (ds.length - 1) hz
    have hol := tsO_len ds (ds.length - 1)
    walk_at "m2"
    refine For_ (fun _ _ => rfl) (fun _ => rfl) ?_
    walk_at "m2"
    rename_i tp
    refine ⟨[.str "types", .str "stream"], _, itb_tuple ok'.hand (by walk_at "mm"), fun i σ => ∃ rv, σ = ⟨[some (.str (qstr ds)), some (.bool false), some (.ref lo), some (.ref mo), some prev, a, b, d, e, rv, none], (tp, .tuple [.str "types", .str "stream"]) :: tsH lo lp L (tsO ds (ds.length - 1) ++ [tsW ds (ds.length - 1)]) (SL (LL (ded ds))) (H ++ T)⟩, ⟨none, rfl⟩, ?_, ?_, ?_⟩
    · rintro i σ' ⟨rv, rfl⟩
      walk_at "mm"
    · rintro i y σ' hy ⟨rv, rfl⟩
      obtain ⟨z, rfl, hzl⟩ : ∃ z : Str, y = .str z ∧ z.length ≠ 1 := by
        rcases i with _ | _ | i
        · simp at hy; exact ⟨_, hy.symm, by decide⟩
        · simp at hy; exact ⟨_, hy.symm, by decide⟩
        · simp at hy
      have hno := no_word (ds := ded ds) hzl
      walk_at "m2"
      refine c_in_SL (by walk_at "mm") ?_
      rw [hno]
      walk_at "m2"
      exact ⟨_, Le.refl _, _, rfl⟩
    rintro σ' ⟨rv, rfl⟩
    walk_at "m2"
    refine Nest_ B (H := (tp, .tuple [.str "types", .str "stream"]) :: tsH lo lp L (tsO ds (ds.length - 1) ++ [tsW ds (ds.length - 1)]) (SL (LL (ded ds))) H) (H₂ := T) rfl Tp C hT rfl rfl rfl rfl fun f c' doc ctv => ?_
    change WS _ "make_vals" (.ref f) ⟨_, (f, mvO (L + 1) c' doc ((mg "__name__").getD .none) ctv) :: (tp, .tuple [.str "types", .str "stream"]) :: (lo, .list (SL (tsO ds (ds.length - 1) ++ [tsW ds (ds.length - 1)]))) :: (lp, .list (SL (LL (ded ds)))) :: (L + 1, .cell (some (.ref lp))) :: (H ++ tabFull tab (fdPos stMV) qMV c')⟩ _
    walk_at "m2"
    refine join_l (by walk_at "mm") (by decide) ?_ ?_
    · simp only [List.map_append, List.sum_append, List.map_cons, List.map_nil, List.sum_cons, List.sum_nil, List.length_append, List.length_singleton]
      omega
    walk_at "m2"
    rename_i t
    refine ⟨_, ?_, h t f (L + 1) lp c' doc ((mg "__name__").getD .none) ctv⟩
    refine le_of (VLe.refl _) ?_
    walk_at "mh"
end
section
open PySem PySem.Spec PySem.Calls PyProof.Rows PySem.W
set_option maxRecDepth 10000
/-- the words of the queries -/
abbrev cols (ds : List Nat) : List Str := ds.map fun (d : Nat) => Str.ofString ":" ++ ltr d
theorem cols_sum : ∀ ds : List Nat, ((cols ds).map (·.length)).sum = 2 * ds.length
  | [] => rfl
  | d :: ds => by
    have ih := cols_sum ds
    simp only [cols, List.map_cons, List.sum_cons, List.length_cons] at ih ⊢
    rw [ih, Str.length_append]
    have h1 : (Str.ofString ":").length = 1 := by decide
    have h2 : (ltr d).length = 1 := rfl
    omega
/-- {name: name for name in names} -/
def dictS (ds : List Nat) : List (Str × MV) := ds.foldl (fun acc d => storedK acc (ltr d) (.str (ltr d))) []
theorem lookK_same (kvs : List (Str × MV)) (k : Str) (v : MV) : lookK (storedK kvs k v) k = some v := by
  unfold storedK lookK
  split
  · rename_i h
    induction kvs with
    | nil => simp at h
    | cons kv kvs ih =>
      by_cases e : kv.1 = k
      · simp [e]
      · simp only [List.map_cons, e, if_false]
        rw [List.find?_cons]
        simp only [e, decide_false]
        exact ih (by simpa [e] using h)
  · rename_i h
    rw [List.find?_append]
    have : kvs.find? (fun kv => decide (kv.1 = k)) = none := by
      rw [List.find?_eq_none]
      intro x hx q
      exact h (List.any_eq_true.mpr ⟨x, hx, q⟩)
    rw [this]; simp
theorem lookK_other (kvs : List (Str × MV)) {k k' : Str} (v : MV) (hne : k ≠ k') : lookK (storedK kvs k v) k' = lookK kvs k' := by
  unfold storedK lookK
  split
  · rename_i h
    clear h
    induction kvs with
    | nil => rfl
    | cons kv kvs ih =>
      simp only [List.map_cons, List.find?_cons]
      by_cases e : kv.1 = k
      · have : ¬ kv.1 = k' := fun q => hne (e.symm.trans q)
        simp only [e, if_true, decide_eq_false hne]
        exact ih
      · simp only [e, if_false]
        by_cases e2 : kv.1 = k'
        · simp [e2]
        · simp only [e2, decide_false]
          exact ih
  · rw [List.find?_append]
    simp [hne]
theorem dictS_snoc (ds : List Nat) (d : Nat) : dictS (ds ++ [d]) = storedK (dictS ds) (ltr d) (.str (ltr d)) := by
  unfold dictS; rw [List.foldl_append]; rfl
theorem dictS_len (ds : List Nat) : (dictS ds).length ≤ ds.length := by
  induction ds using snocInd with
  | nil => exact Nat.le_refl _
  | snoc ds d ih =>
    rw [dictS_snoc, List.length_append]
    have := storedK_len (dictS ds) (ltr d) (.str (ltr d))
    simp only [List.length_singleton]; omega
theorem dictS_look (ds : List Nat) {d : Nat} (h : d ∈ ds) : lookK (dictS ds) (ltr d) = some (.str (ltr d)) := by
  induction ds using snocInd with
  | nil => simp at h
  | snoc ds e ih =>
    rw [dictS_snoc]
    by_cases q : e = d
    · subst q; exact lookK_same _ _ _
    · rw [lookK_other _ _ fun h2 => q (ltr_inj h2)]
      refine ih ?_
      rcases List.mem_append.mp h with h | h
      · exact h
      · exact absurd (List.mem_singleton.mp h).symm q
/-- the statement that is told -/
abbrev tsS (ds : List Nat) : Str := Txt.join (Str.ofString "") (tsO ds (ds.length - 1) ++ [tsW ds (ds.length - 1)])
/-- what the functions of the law stand on -/
structure Fx (prog : Program) (w : World) (base : Heap) (aT cdT tab sc mo ms mq me mp : Addr) : Prop where
  len : GN base "len" (.builtin "len")
  range : GN base "range" (.type "range")
  str : GN base "str" (.type "str")
  list : GN base "list" (.type "list")
  isi : GN base "isinstance" (.builtin "isinstance")
  int : GN base "int" (.type "int")
  tuple : GN base "tuple" (.type "tuple")
  enum : GN base "enumerate" (.type "enumerate")
  verr : GN base "ValueError" (.type "ValueError")
  sorted : GN base "sorted" (.builtin "sorted")
  sum : GN base "sum" (.builtin "sum")
  state : GN base "State" (.ref sc)
  ts : GN base "to_statement" (.ref aT)
  fnT : FnAt' base aT "to_statement" (stm 15) cdT
  code : CodeHd base cdT tab
  top : ∃ p loose mean mg mb, Top p loose mean mg mb base
  mem : StF prog w base sc mo ms mq me mp
  sysm : ∃ o, base.get? sysModules = some o
theorem told_spec {base : Heap} {c : Cx} {n : Nat} {aA cdA aT cdT tab sc mo ms mq me mp : Addr} {V : List (Option MV)} {H T : List (Addr × MO)} {nm : Addr} {ds : List Nat} {P : MV → St → Prop}
    (ok : Ok base c (n + 2)) (Bc : Based base c) (F : FnAt' base aA "_law_told" (stm 18) cdA) (X : Fx c.prog c.w base aT cdT tab sc mo ms mq me mp)
    (hm : (nm, MO.list (SL (LL ds))) ∈ H) (hds : ∀ d ∈ ds, d < 8) (hne : ds ≠ []) (hz : ds.length ≤ 100) (hT : Tab tab (fdPos stMV) qMV T)
    (h : ∀ t l c', P (.ref t) ⟨V, (t, .tuple [.str (tsS ds), .ref l]) :: (l, .list (SL (LL (ded ds)))) :: (H ++ tabFull tab (fdPos stMV) qMV c')⟩) : WC c (.ref aA) [.ref nm] ⟨V, H ++ T⟩ P := by
  obtain ⟨fo, doc, pm, ct, e1, e2⟩ := F.at_
  refine WC.less ?_
  refine Call_plain (fo := fo) ["names", "statement", "fill"] [some (.ref nm), none, none] (fun us => [("names", us.getD 0 .none)]) ok (fun X h r => r.base Bc _ _ e1) e2 (fun X h r => F.code.keeps (r.base Bc))
    (fun us hu => by obtain ⟨a, rfl, _⟩ := hu.one; rfl) ?_ ?_ (by decide) rfl rfl rfl ?_
  · intro us hu y hy
    rw [List.mem_singleton.mp hy]; rfl
  · intro us hu i q v h1 h2
    obtain ⟨a, rfl, ha⟩ := hu.one
    rcases i with _ | _ | _ | _ <;> simp at h1 h2
    subst h1 h2
    exact ⟨a, rfl, ha⟩
  intro g L ok' hlt hg
  have B : Based base (cxOf c (envX "_law_told" (fdScope (stm 18)) L aA (.ref cdA) []) g ["names", "statement", "fill"]) := ⟨ok'.base, rfl, rfl, rfl, ok'.off⟩
  show WF _ (execs (fdBody (stm 18)) _) ⟨_, H ++ T⟩ _
  dsimp only
  have g4 := X.ts
  have g5 := X.list
  refine execs_cons' ?_
  walk_at "m2"
  obtain ⟨foT, docT, pmT, ctT, eT1, eT2⟩ := X.fnT.at_
  obtain ⟨pp, loose, mean, mg, mb, Tp⟩ := X.top
  refine cw_f eT2 rfl ?_
  walk_at "m2"
  refine ListPure_ (cl := []) ⟨rfl, by decide, rfl, by decide, rfl, fun _ => rfl⟩ ?_
  walk_at "m2"
  have hcz : (cols ds).length = ds.length := by simp
  refine ⟨_, _, SL (cols ds), itb_list ok'.hand (by walk_at "mm"), ⟨by simp only [SL, LL, List.length_map, sizeLine]; omega, by simp [SL, LL], fun _ => by walk_at "mm", ?_⟩, fun D => ?_⟩
  · intro i q C g' hq hg'
    simp only [SL, LL, List.getElem?_map, Option.map_eq_some_iff] at hq
    obtain ⟨k, ⟨p, hk1, rfl⟩, rfl⟩ := hq
    have hv : (SL (cols ds))[i]? = some (.str (Str.ofString ":" ++ ltr p)) := by
      simp only [SL, cols, List.getElem?_map, hk1]; rfl
    have hs : (Str.ofString ":").length + (ltr p).length ≤ sizeLine := by show 1 + 1 ≤ _; decide
    walk_at "m2"
    refine b_cat hs ⟨hv, ?_⟩
    walk_at "mh"
  walk_at "m2"
  refine join_l (by walk_at "mm") (by decide) ?_ ?_
  · have := cols_sum ds
    omega
  rw [show Txt.join (Str.ofString " ") (cols ds) = qstr ds from join_words _ hds]
  walk_at "m2"
  refine ⟨fun X' h' r => r.base B _ _ eT1, ?_⟩
  refine ts_spec (H := (D, .list (SL (cols ds))) :: H) ok' B X.fnT X.code Tp X.mem X.len X.enum X.state X.verr hds hne (by omega) hT fun t f cell lp c' doc' pm' ctv => ?_
  simp only [List.cons_append]
  walk_at "m2"
  refine cw_f (o := fnMade "make_vals" qMV (fdArgs stMV) (fdBody stMV) (fdScope stMV) [("placeholders", cell)] doc' pm' c' ctv) rfl rfl ?_
  walk_at "m2"
  refine DictCompS_ (cl := []) ⟨rfl, by decide, rfl, by decide, rfl, fun _ => rfl⟩ ?_
  walk_at "m2"
  refine ⟨SL (LL ds), _, fun i acc H' => H' = (t, .tuple [.str (tsS ds), .ref f]) :: (f, mvO cell c' doc' pm' ctv) :: (lp, .list (SL (LL (ded ds)))) :: (cell, .cell (some (.ref lp))) :: (D, .list (SL (cols ds))) :: (H ++ tabFull tab (fdPos stMV) qMV c') ∧ acc = dictS (ds.take i),
    itb_list ok'.hand (by walk_at "mm"), ⟨by simp only [SL, LL, List.length_map, sizeLine]; omega, ⟨rfl, rfl⟩, ?_, ?_⟩, ?_⟩
  · rintro i acc H' V' ⟨rfl, _⟩
    walk_at "mm"
  · rintro i q acc H' C g' hq ⟨rfl, rfl⟩ hg'
    simp only [SL, LL, List.getElem?_map, Option.map_eq_some_iff] at hq
    obtain ⟨k, ⟨p, hk1, rfl⟩, rfl⟩ := hq
    walk_at "m2"
    refine ⟨_, _, rfl, sub_refl _, rfl, ?_⟩
    rw [List.take_add_one, hk1]
    exact (dictS_snoc _ _).symm
  rintro acc H' d ⟨rfl, rfl⟩
  rw [show ds.take (SL (LL ds)).length = ds by simp [SL, LL]]
  walk_at "m2"
  refine ⟨fun X' h' r => r.raw (by walk_at "mm"), ?_⟩
  have hdl := dictS_len ds
  have hpl := ded_len ds
  refine mv_spec (ps := ded ds) (kvs := dictS ds) (lp := lp) (cell := cell) (c' := c') (doc := doc') (pm := pm') (ctv := ctv) ok' X.isi X.int X.tuple X.sysm (by walk_at "mm") ?_ (by walk_at "mm") (by walk_at "mm") (by walk_at "mm") (by omega) (fun p hp => dictS_look ds ((ded_mem ds p).mp hp)) (by omega) fun t2 => ?_
  · repeat (first | exact List.mem_append_right _ List.mem_cons_self | apply List.mem_cons_of_mem)
  walk_at "m2"
  refine list_t (by walk_at "mm") (by simp only [SL, LL, List.length_map, sizeLine]; omega) fun l => ?_
  walk_at "m2"
  exact ⟨_, le_of (VLe.refl _) (by walk_at "mh"), h _ l c'⟩
end
section
open PySem PySem.Spec PySem.Calls PyProof.Rows PySem.W
set_option maxRecDepth 10000
def restOf : List Int := [5, 3, 1, 4, 2, 0, 6, 3, 7, 1]
def drawOf (ns : List Int) : List Int := (List.range 10).map fun k => if k < ns.length then ns.getD k 0 else restOf.getD k 0
theorem fmod_in (a : Int) {b : Int} (h : 0 < b) : 0 ≤ a.fmod b ∧ a.fmod b < b := ⟨Int.fmod_nonneg_of_pos _ h, Int.fmod_lt_of_pos _ h⟩
theorem pick_IL (l : List Int) (lo hi : Option Int) : pick (IL l) lo hi = IL (pick l lo hi) := by
  unfold pick
  simp [IL, List.map_take, List.map_drop]
/-- the letters left and the letters drawn -/
def popAt (dr : List Int) (k : Nat) : Nat := ((dr.getD k 0).fmod (8 - k)).toNat
def popsOf (dr : List Int) : Nat → List Nat × List Nat
  | 0 => (List.range 8, [])
  | k + 1 => ((popsOf dr k).1.eraseIdx (popAt dr k), (popsOf dr k).2 ++ [(popsOf dr k).1.getD (popAt dr k) 0])
theorem popAt_lt (dr : List Int) {k : Nat} (h : k < 4) : popAt dr k < 8 - k := by
  have := fmod_in (dr.getD k 0) (b := 8 - (k : Int)) (by omega)
  unfold popAt
  omega
theorem erase_perm : ∀ (l : List Nat) (j : Nat) (h : j < l.length), ([l[j]] ++ l.eraseIdx j).Perm l
  | [], j, h => by simp at h
  | x :: l, 0, _ => .refl _
  | x :: l, j + 1, h => by
    have ih := erase_perm l j (by simpa using h)
    simp only [List.getElem_cons_succ, List.eraseIdx_cons_succ, List.singleton_append] at ih ⊢
    exact (List.Perm.swap _ _ _).trans (ih.cons x)
theorem pops_ok (dr : List Int) : ∀ k, k ≤ 4 → (popsOf dr k).1.length = 8 - k ∧ (popsOf dr k).2.length = k ∧ ((popsOf dr k).2 ++ (popsOf dr k).1).Perm (List.range 8)
  | 0, _ => ⟨rfl, rfl, .refl _⟩
  | k + 1, h => by
    obtain ⟨h1, h2, h3⟩ := pops_ok dr k (by omega)
    have hj := popAt_lt dr (k := k) (by omega)
    have hj2 : popAt dr k < (popsOf dr k).1.length := by omega
    refine ⟨?_, ?_, ?_⟩
    · simp only [popsOf]
      rw [List.length_eraseIdx_of_lt hj2, h1]; omega
    · simp only [popsOf, List.length_append, h2, List.length_singleton]
    · simp only [popsOf]
      refine .trans ?_ h3
      rw [List.append_assoc]
      refine List.Perm.append_left _ ?_
      rw [List.getD_eq_getElem?_getD, List.getElem?_eq_getElem hj2]
      exact erase_perm _ _ hj2
abbrev begOf (dr : List Int) : List Nat := (popsOf dr 4).2
theorem beg_ok (dr : List Int) : (begOf dr).length = 4 ∧ (begOf dr).Nodup ∧ ∀ d ∈ begOf dr, d < 8 := by
  obtain ⟨_, h2, h3⟩ := pops_ok dr 4 (Nat.le_refl _)
  refine ⟨h2, ?_, ?_⟩
  · have := h3.nodup_iff.mpr List.nodup_range
    exact (List.nodup_append.mp this).1
  · intro d hd
    exact List.mem_range.mp (h3.mem_iff.mp (List.mem_append_left _ hd))
def rqOf (dr : List Int) (bg : List Nat) : List Nat := (dr.drop 4).map fun n => bg.getD (n.fmod 4).toNat 0
theorem rq_ok {dr : List Int} {bg : List Nat} (h : dr.length = 10) (hb : bg.length = 4) : (rqOf dr bg).length = 6 ∧ ∀ d ∈ rqOf dr bg, d ∈ bg := by
  refine ⟨by simp [rqOf, h], ?_⟩
  intro d hd
  obtain ⟨n, _, rfl⟩ := List.mem_map.mp hd
  have := fmod_in n (b := 4) (by decide)
  rw [List.getD_eq_getElem?_getD, List.getElem?_eq_getElem (by omega)]
  exact List.getElem_mem _
/-- to the front -/
def mtf (sh : List Nat) (x : Nat) : List Nat := x :: sh.filter fun y => decide (y ≠ x)
theorem filter_none {l : List Nat} {x : Nat} (h : x ∉ l) : l.filter (fun y => decide (y ≠ x)) = l := by
  rw [List.filter_eq_self]
  intro y hy
  exact decide_eq_true fun e => h (e ▸ hy)
theorem mtf_perm : ∀ {sh : List Nat} {x : Nat}, x ∈ sh → sh.Nodup → (mtf sh x).Perm sh
  | [], _, h, _ => by simp at h
  | y :: sh, x, h, hn => by
    rw [List.nodup_cons] at hn
    by_cases e : y = x
    · subst e
      unfold mtf
      rw [List.filter_cons_of_neg (by simp), filter_none hn.1]
    · have hx : x ∈ sh := by
        rcases List.mem_cons.mp h with rfl | h
        · exact absurd rfl e
        · exact h
      unfold mtf
      rw [List.filter_cons_of_pos (by simpa using e)]
      exact (List.Perm.swap _ _ _).trans ((mtf_perm hx hn.2).cons y)
def shelfAt (bg rq : List Nat) (i : Nat) : List Nat := (rq.take i).foldl mtf bg
theorem shelf_succ {bg rq : List Nat} {i x : Nat} (h : rq[i]? = some x) : shelfAt bg rq (i + 1) = mtf (shelfAt bg rq i) x := by
  unfold shelfAt
  rw [List.take_add_one, h, Option.toList_some, List.foldl_append]; rfl
theorem foldl_perm {bg : List Nat} (hn : bg.Nodup) : ∀ (rq : List Nat), (∀ x ∈ rq, x ∈ bg) → ∀ sh : List Nat, sh.Perm bg → (rq.foldl mtf sh).Perm bg
  | [], _, sh, h => h
  | x :: rq, hx, sh, h => by
    rw [List.foldl_cons]
    refine foldl_perm hn rq (fun y hy => hx y (List.mem_cons_of_mem _ hy)) _ ?_
    exact (mtf_perm (h.mem_iff.mpr (hx x (by simp))) (h.nodup_iff.mpr hn)).trans h
theorem shelf_perm {bg rq : List Nat} (hn : bg.Nodup) (hx : ∀ x ∈ rq, x ∈ bg) (i : Nat) : (shelfAt bg rq i).Perm bg :=
  foldl_perm hn _ (fun x h => hx x (List.mem_of_mem_take h)) _ (.refl _)
theorem ded_cons (x : Nat) (l : List Nat) : ded (x :: l) = x :: (ded l).filter fun y => decide (y ≠ x) := by
  induction l using snocInd with
  | nil => simp [ded]
  | snoc l d ih =>
    rw [← List.cons_append, ded_snoc, ih, ded_snoc]
    by_cases h : d ∈ ded l
    · rw [if_pos (show (ded l).contains d = true by simpa using h)]
      by_cases e : d = x
      · rw [if_pos (by simp [e])]
      · rw [if_pos (by simp [e, h])]
    · rw [if_neg (by simpa using h : ¬ (ded l).contains d = true), List.filter_append]
      by_cases e : d = x
      · subst e
        rw [if_pos (by simp)]
        simp
      · rw [if_neg (by simp [e, h])]
        simp [e]
theorem ded_self {l : List Nat} (h : l.Nodup) : ded l = l := by
  induction l with
  | nil => rfl
  | cons x l ih =>
    rw [List.nodup_cons] at h
    rw [ded_cons, ih h.2, filter_none h.1]
theorem ded_front {x : Nat} {sh : List Nat} (h : sh.Nodup) : ded (x :: sh) = mtf sh x := by
  rw [ded_cons, ded_self h]; rfl
theorem ded_runs {bg : List Nat} (hn : bg.Nodup) : ∀ rq : List Nat, ded (rq.reverse ++ bg) = rq.foldl mtf bg := by
  intro rq
  induction rq using snocInd with
  | nil => exact ded_self hn
  | snoc rq x ih =>
    rw [List.reverse_append, List.reverse_singleton, List.append_assoc, List.singleton_append, ded_cons, ih, List.foldl_append]
    rfl
/-- the words of a statement -/
def wordAt (ds : List Nat) (d : Nat) : Str := Str.ofString "$" ++ Str.ofString (toString (((ded ds).idxOf d : Int) + 1))
theorem ded_prefix (ds : List Nat) (k : Nat) : ∃ r, ded ds = ded (ds.take k) ++ r := by
  have key : ∀ r l : List Nat, ∃ q, ded (l ++ r) = ded l ++ q := by
    intro r
    induction r with
    | nil => intro l; exact ⟨[], by simp⟩
    | cons d r ih =>
      intro l
      rw [show l ++ d :: r = (l ++ [d]) ++ r by simp]
      obtain ⟨q, hq⟩ := ih (l ++ [d])
      rw [hq, ded_snoc]
      split
      · exact ⟨q, rfl⟩
      · exact ⟨d :: q, by simp⟩
  have := key (ds.drop k) (ds.take k)
  rwa [List.take_append_drop] at this
theorem tsW_eq {ds : List Nat} {k : Nat} (h : k < ds.length) : tsW ds k = wordAt ds (ds.getD k 0) := by
  unfold tsW wordAt
  obtain ⟨r, hr⟩ := ded_prefix ds (k + 1)
  have hm : ds.getD k 0 ∈ ded (ds.take (k + 1)) := by
    rw [ded_mem, List.getD_eq_getElem?_getD, List.getElem?_eq_getElem h, Option.getD_some]
    exact List.mem_take_iff_getElem.mpr ⟨k, by omega, rfl⟩
  rw [hr, List.idxOf_append, if_pos hm]
theorem str_nil (x : Str) : x ++ Str.ofString "" = x := by
  apply str_ext
  rw [Str.cps_append, Array.toList_append]
  exact List.append_nil _
def alt : List Str → List Str
  | [] => []
  | [w] => [w]
  | w :: v :: r => w :: Str.ofString " " :: alt (v :: r)
theorem join_alt : ∀ ws : List Str, Str.join (Str.ofString "") (alt ws) = Str.join (Str.ofString " ") ws
  | [] => rfl
  | [w] => rfl
  | w :: v :: r => by
    have ih := join_alt (v :: r)
    obtain ⟨y, ys, hy⟩ : ∃ y ys, alt (v :: r) = y :: ys := by
      cases r with
      | nil => exact ⟨_, _, rfl⟩
      | cons u r => exact ⟨_, _, rfl⟩
    show Str.join _ (w :: Str.ofString " " :: alt (v :: r)) = _
    rw [hy] at ih ⊢
    show w ++ Str.ofString "" ++ (Str.ofString " " ++ Str.ofString "" ++ Str.join (Str.ofString "") (y :: ys)) = w ++ Str.ofString " " ++ Str.join (Str.ofString " ") (v :: r)
    rw [ih, str_nil, str_nil]
    apply str_ext
    simp only [Str.cps_append, Array.toList_append, List.append_assoc]
theorem alt_snoc : ∀ (ws : List Str) (v : Str), alt (ws ++ [v]) = (ws.flatMap fun w => [w, Str.ofString " "]) ++ [v]
  | [], v => rfl
  | [w], v => rfl
  | w :: u :: r, v => by
    have ih := alt_snoc (u :: r) v
    show w :: Str.ofString " " :: alt (u :: r ++ [v]) = _
    rw [ih]; rfl
theorem tsO_flat (ds : List Nat) (k : Nat) : tsO ds k = ((List.range k).map (tsW ds)).flatMap fun w => [w, Str.ofString " "] := by
  induction k with
  | zero => rfl
  | succ k ih => rw [tsO, ih, List.range_succ, List.map_append, List.flatMap_append]; rfl
theorem tsS_eq {ds : List Nat} (h : ds ≠ []) : tsS ds = Txt.join (Str.ofString " ") (ds.map (wordAt ds)) := by
  have hp := List.length_pos_iff.mpr h
  have e : (List.range ds.length).map (tsW ds) = ds.map (wordAt ds) := by
    refine List.ext_getElem (by simp) fun i h1 h2 => ?_
    simp only [List.getElem_map, List.getElem_range]
    have hi : i < ds.length := by simpa using h1
    rw [tsW_eq hi, List.getD_eq_getElem?_getD, List.getElem?_eq_getElem hi]; rfl
  rw [join_eq, ← e, ← join_alt, ← join_eq]
  obtain ⟨n, hn⟩ : ∃ n, ds.length = n + 1 := ⟨ds.length - 1, by omega⟩
  rw [hn, List.range_succ, List.map_append, List.map_singleton, alt_snoc, ← tsO_flat]
  show Txt.join _ (tsO ds (ds.length - 1) ++ [tsW ds (ds.length - 1)]) = _
  rw [hn]; rfl
end
section
open PySem PySem.Spec PySem.Calls PyProof.Rows PySem.W
set_option maxRecDepth 10000
def lookN (W : List (List Nat × Int)) (k : List Nat) : Option Int := (W.find? fun x => decide (x.1 = k)).map (·.2)
def storedN (W : List (List Nat × Int)) (k : List Nat) (v : Int) : List (List Nat × Int) :=
  if (lookN W k).isSome then W.map (fun x => if x.1 = k then (x.1, v) else x) else W ++ [(k, v)]
def keyN (n : Nat) : List Nat := ded [n % 3, n / 3 % 3, n / 9, 0, 1, 2]
def wordsN : Nat → List (List Nat × Int)
  | 0 => []
  | n + 1 => storedN (wordsN n) (keyN n) ((lookN (wordsN n) (keyN n)).getD 0 + 1)
abbrev triN (n : Nat) : List Nat := [n / 9, n / 3 % 3, n % 3]
def upN : List Nat → Bool
  | a :: b :: l => decide (a ≤ b) && upN (b :: l)
  | _ => true
def sumN (l : List Nat) : Int := (((List.range 4).filter fun k => upN (l.drop k)).map fun k => [(0 : Int), 1, 3, 1].getD k 0).sum
def dueN : Nat → List (List Nat × Int)
  | 0 => []
  | n + 1 => if n / 9 ≠ n / 3 % 3 ∧ n / 9 ≠ n % 3 ∧ n / 3 % 3 ≠ n % 3 then storedN (dueN n) (triN n) (sumN (triN n)) else dueN n
def eqN (W U : List (List Nat × Int)) : Bool := W.length == U.length && W.all fun x => lookN U x.1 == some x.2
theorem law_N : eqN (wordsN 27) (dueN 27) = true := by decide +kernel
/-- a dict of words, as it is seen by the places of its letters -/
inductive Img (f : Nat → Nat) : HX → List (List Nat × Int) → Prop
  | nil : Img f [] []
  | cons {k a n xs W} : (∀ i ∈ k, i < 3) → Img f xs W → Img f ((LL (k.map f), a, n) :: xs) ((k, n) :: W)
def Inj3 (f : Nat → Nat) : Prop := ∀ i j, i < 3 → j < 3 → f i = f j → i = j
theorem LL_inj {xs ys : List Nat} (h : LL xs = LL ys) : xs = ys := by
  induction xs generalizing ys with
  | nil => cases ys with | nil => rfl | cons => simp [LL] at h
  | cons x xs ih =>
    cases ys with
    | nil => simp [LL] at h
    | cons y ys =>
      simp only [LL, List.map_cons, List.cons.injEq] at h
      rw [ltr_inj (show ltr x = ltr y from by simpa using h.1), ih h.2]
theorem map_inj3 {f : Nat → Nat} (hf : Inj3 f) : ∀ {k l : List Nat}, (∀ i ∈ k, i < 3) → (∀ i ∈ l, i < 3) → k.map f = l.map f → k = l
  | [], [], _, _, _ => rfl
  | [], _ :: _, _, _, h => by simp at h
  | _ :: _, [], _, _, h => by simp at h
  | x :: k, y :: l, h1, h2, h => by
    simp only [List.map_cons, List.cons.injEq] at h
    rw [hf x y (h1 x (by simp)) (h2 y (by simp)) h.1, map_inj3 hf (fun i hi => h1 i (List.mem_cons_of_mem _ hi)) (fun i hi => h2 i (List.mem_cons_of_mem _ hi)) h.2]
theorem key_eq {f : Nat → Nat} (hf : Inj3 f) {k l : List Nat} (h1 : ∀ i ∈ k, i < 3) (h2 : ∀ i ∈ l, i < 3) : (LL (k.map f) = LL (l.map f)) ↔ (k = l) :=
  ⟨fun h => map_inj3 hf h1 h2 (LL_inj h), fun h => by rw [h]⟩
theorem Img.look {f xs W} (hf : Inj3 f) (h : Img f xs W) {k : List Nat} (hk : ∀ i ∈ k, i < 3) : lookH xs (LL (k.map f)) = lookN W k := by
  induction h with
  | nil => rfl
  | @cons k' a n xs W h1 _ ih =>
    unfold lookH lookN at *
    simp only [List.find?_cons, key_eq hf h1 hk]
    by_cases q : k' = k
    · simp [q]
    · simp only [q, decide_false]; exact ih
theorem Img.put {f xs W} (hf : Inj3 f) (h : Img f xs W) {k : List Nat} (hk : ∀ i ∈ k, i < 3) (n : Int) : Img f (xs.map fun x => if x.1 = LL (k.map f) then (x.1, x.2.1, n) else x) (W.map fun x => if x.1 = k then (x.1, n) else x) := by
  induction h with
  | nil => exact .nil
  | @cons k' a m xs W h1 _ ih =>
    simp only [List.map_cons, key_eq hf h1 hk]
    by_cases q : k' = k
    · simp only [q, if_true]; exact .cons (q ▸ h1) ih
    · simp only [q, if_false]; exact .cons h1 ih
theorem Img.snoc {f xs W} (h : Img f xs W) {k : List Nat} (hk : ∀ i ∈ k, i < 3) (a : Addr) (n : Int) : Img f (xs ++ [(LL (k.map f), a, n)]) (W ++ [(k, n)]) := by
  induction h with
  | nil => exact .cons hk .nil
  | cons h1 _ ih => exact .cons h1 ih
theorem Img.stored {f xs W} (hf : Inj3 f) (h : Img f xs W) {k : List Nat} (hk : ∀ i ∈ k, i < 3) (a : Addr) (n : Int) : Img f (storedM xs (LL (k.map f)) a n) (storedN W k n) := by
  unfold storedM storedN
  rw [h.look hf hk]
  split
  · exact h.put hf hk n
  · exact h.snoc hk a n
theorem Img.length {f xs W} (h : Img f xs W) : xs.length = W.length := by
  induction h with
  | nil => rfl
  | cons _ _ ih => simp [ih]
theorem Img.eqH {f xs W ys U} (hf : Inj3 f) (h : Img f xs W) (h' : Img f ys U) : eqH xs ys = eqN W U := by
  unfold Mine.eqH eqN
  rw [h.length, h'.length]
  congr 1
  induction h with
  | nil => rfl
  | cons h1 _ ih =>
    simp only [List.all_cons]
    rw [h'.look hf h1, ih]
theorem ded_map {f : Nat → Nat} (hf : Inj3 f) (l : List Nat) (h : ∀ i ∈ l, i < 3) : ded (l.map f) = (ded l).map f := by
  induction l using snocInd with
  | nil => rfl
  | snoc l d ih =>
    have hl : ∀ i ∈ l, i < 3 := fun i hi => h i (List.mem_append_left _ hi)
    rw [List.map_append, List.map_singleton, ded_snoc, ded_snoc, ih hl]
    have hc : ((ded l).map f).contains (f d) = (ded l).contains d := by
      rw [Bool.eq_iff_iff]
      simp only [List.contains_iff_mem, List.mem_map]
      constructor
      · rintro ⟨x, hx, e⟩
        rwa [hf x d (hl x ((ded_mem _ _).mp hx)) (h d (by simp)) e] at hx
      · intro hx
        exact ⟨d, hx, rfl⟩
    rw [hc]
    split
    · rfl
    · rw [List.map_append, List.map_singleton]
theorem keyN_in (n : Nat) (h : n < 27) : ∀ i ∈ keyN n, i < 3 := by
  intro i hi
  unfold keyN at hi
  rw [ded_mem] at hi
  simp only [List.mem_cons, List.not_mem_nil, or_false] at hi
  omega
theorem keyN_len (n : Nat) : (keyN n).length ≤ 6 := ded_len _
/-- sorted, and as it was -/
theorem sorted_same {l l' : List Int} (hp : l'.Perm l) (hs : l'.Pairwise (· ≤ ·)) : decide (l = l') = decide (l.Pairwise (· ≤ ·)) := by
  by_cases h : l.Pairwise (· ≤ ·)
  · rw [decide_eq_true h]
    refine decide_eq_true ?_
    exact (List.Perm.eq_of_pairwise (le := (· ≤ ·)) (fun a b _ _ h1 h2 => Int.le_antisymm h1 h2) h hs hp.symm)
  · rw [decide_eq_false h]
    exact decide_eq_false fun e => h (e ▸ hs)
theorem up_eq : ∀ l : List Nat, decide ((l.map Int.ofNat).Pairwise (· ≤ ·)) = upN l := by
  intro l
  induction l with
  | nil => rfl
  | cons a l ih =>
    cases l with
    | nil => simp [upN]
    | cons b l =>
      rw [upN, ← ih, Bool.eq_iff_iff]
      simp only [List.map_cons, List.pairwise_cons, Bool.and_eq_true, decide_eq_true_eq, List.mem_cons, List.mem_map]
      constructor
      · rintro ⟨h1, h2⟩
        refine ⟨?_, h2⟩
        have := h1 (Int.ofNat b) (.inl rfl)
        simpa using this
      · rintro ⟨h1, h2⟩
        refine ⟨?_, h2⟩
        rintro x (rfl | ⟨y, hy, rfl⟩)
        · simpa using h1
        · have := h2.1 (Int.ofNat y) ⟨y, hy, rfl⟩
          simp only [Int.ofNat_eq_natCast, Int.ofNat_le] at this ⊢
          omega
theorem set_three {p q r : Nat} : ((setOfS [ltr p, ltr q, ltr r]).2 = 3) ↔ (p ≠ q ∧ p ≠ r ∧ q ≠ r) := by
  have e : ∀ a b : Nat, (ltr a = ltr b) ↔ a = b := fun a b => ⟨ltr_inj, fun h => by rw [h]⟩
  unfold setOfS insS
  simp only [List.foldl_cons, List.foldl_nil, Bool.false_or, Bool.false_eq_true, if_false]
  by_cases h1 : p = q
  · subst h1
    by_cases h2 : p = r
    · subst h2; simp
    · have : ¬ r = p := fun q => h2 q.symm
      simp [e, this]
  · have h1' : ¬ q = p := fun e => h1 e.symm
    by_cases h2 : p = r
    · subst h2; simp [e, h1, h1']
    · have h2' : ¬ r = p := fun e => h2 e.symm
      by_cases h3 : q = r
      · subst h3; simp [e, h1, h1']
      · have h3' : ¬ r = q := fun e => h3 e.symm
        simp [e, h1, h1', h2, h2', h3, h3']
end
section
open PySem PySem.Spec PySem.Calls PyProof.Rows PySem.W
set_option maxRecDepth 10000
abbrev lawNames : List Str := ["k", "draw", "letters", "shelf", "requests", "statement", "words", "due", "a", "b", "c", "order"]
theorem SL_erase : ∀ (l : List Nat) (j : Nat), (SL (LL l)).eraseIdx j = SL (LL (l.eraseIdx j))
  | [], _ => rfl
  | _ :: _, 0 => rfl
  | x :: l, j + 1 => by
    have := SL_erase l j
    simp only [SL, LL, List.map_cons, List.eraseIdx_cons_succ] at this ⊢
    rw [this]
theorem SL_at {l : List Nat} {j : Nat} (h : j < l.length) : (SL (LL l))[j]? = some (.str (ltr (l.getD j 0))) := by
  simp only [SL, LL, List.getElem?_map, List.getElem?_eq_getElem h, Option.map_some, List.getD_eq_getElem?_getD, Option.getD_some]
theorem told_at {base : Heap} {c : Cx} {n : Nat} {aA cdA aT cdT tab sc mo ms mq me mp : Addr} {V : List (Option MV)} {Hh H T : List (Addr × MO)} {nm : Addr} {ds : List Nat} {P : MV → St → Prop} (e : Hh = H ++ T)
    (ok : Ok base c (n + 2)) (Bc : Based base c) (F : FnAt' base aA "_law_told" (stm 18) cdA) (X : Fx c.prog c.w base aT cdT tab sc mo ms mq me mp)
    (hm : (nm, MO.list (SL (LL ds))) ∈ H) (hds : ∀ d ∈ ds, d < 8) (hne : ds ≠ []) (hz : ds.length ≤ 100) (hT : Tab tab (fdPos stMV) qMV T)
    (h : ∀ t l c', P (.ref t) ⟨V, (t, .tuple [.str (tsS ds), .ref l]) :: (l, .list (SL (LL (ded ds)))) :: (H ++ tabFull tab (fdPos stMV) qMV c')⟩) : WC c (.ref aA) [.ref nm] ⟨V, Hh⟩ P := by
  subst e
  exact told_spec ok Bc F X hm hds hne hz hT h
abbrev lawH (N : List (Addr × MO)) (L bg script : Addr) (pl th af nm : Option MV) (T : List (Addr × MO)) : List (Addr × MO) :=
  N ++ (L + 6, .cell pl) :: (L + 5, .cell th) :: (L + 4, .cell af) :: (L + 3, .cell nm) :: (L + 2, .cell (some (.ref bg))) :: (L + 1, .cell (some (.ref script))) :: T
abbrev lawCx (prog : Program) (w : World) (A : Around) (L aL cdL : Addr) (g : Heap) : Cx := ⟨prog, w, A, envOfC "law" (fdScope (stm 19)) L aL (.ref cdL), g, lawNames⟩
abbrev wV (x0 x1 x2 x3 x4 x5 : Option MV) (wd du : Addr) (va vb vc vo : Option MV) : List (Option MV) := [x0, x1, x2, x3, x4, x5, some (.ref wd), some (.ref du), va, vb, vc, vo]
abbrev fN (t : List Nat) : Nat → Nat := fun i => t.getD i 0
abbrev wH (prog : Program) (w : World) (N : List (Addr × MO)) (du wd th : Addr) (dx wx : HX) (t : List Nat) (N0 : List (Addr × MO)) (L bg script : Addr) (pl af nm : Option MV) (T : List (Addr × MO)) : List (Addr × MO) :=
  N ++ (du, .dth prog w dx) :: (wd, .dth prog w wx) :: (th, .list (SL (LL t))) :: lawH N0 L bg script pl (some (.ref th)) af nm T
def wI (prog : Program) (w : World) (tab : Addr) (x0 x1 x2 x3 x4 x5 : Option MV) (wd du th : Addr) (t : List Nat) (N0 : List (Addr × MO)) (L bg script : Addr) (av nv : Option MV) (n : Nat) (va vb vc vo : Option MV) (σ : St) : Prop :=
  ∃ N T' wx dx pv, Img (fN t) wx (wordsN n) ∧ Img (fN t) dx (dueN n) ∧ KeysIn wx N ∧ KeysIn dx N ∧ Tab tab (fdPos stMV) qMV T' ∧ σ = ⟨wV x0 x1 x2 x3 x4 x5 wd du va vb vc vo, wH prog w N du wd th dx wx t N0 L bg script pv av nv T'⟩
theorem storedN_len (W : List (List Nat × Int)) (k : List Nat) (v : Int) : (storedN W k v).length ≤ W.length + 1 := by
  unfold storedN
  split <;> simp
theorem wordsN_len : ∀ n, (wordsN n).length ≤ n
  | 0 => Nat.le_refl _
  | n + 1 => by
    have := wordsN_len n
    have h2 := storedN_len (wordsN n) (keyN n) ((lookN (wordsN n) (keyN n)).getD 0 + 1)
    simp only [wordsN]; omega
theorem dueN_len : ∀ n, (dueN n).length ≤ n
  | 0 => Nat.le_refl _
  | n + 1 => by
    have := dueN_len n
    have h2 := storedN_len (dueN n) (triN n) (sumN (triN n))
    simp only [dueN]; split <;> omega
theorem KeysIn.mono {xs : HX} {H H' : List (Addr × MO)} (h : KeysIn xs H) (hs : ∀ p ∈ H, p ∈ H') : KeysIn xs H' := fun x hx => hs _ (h x hx)
theorem keys_stored {xs : HX} {H : List (Addr × MO)} {k : List Str} {a : Addr} {n : Int} (h : KeysIn xs H) (ha : (a, MO.tuple (SL k)) ∈ H) : KeysIn (storedM xs k a n) H := by
  intro x hx
  rcases storedM_keys x hx with ⟨y, hy, e1, e2⟩ | ⟨e1, e2⟩
  · rw [e1, e2]; exact h y hy
  · rw [e1, e2]; exact ha
theorem LL_at3 {t : List Nat} {j : Nat} (h : j < t.length) : (LL t)[j]? = some (ltr (fN t j)) := by
  simp only [LL, List.getElem?_map, List.getElem?_eq_getElem h, Option.map_some, fN, List.getD_eq_getElem?_getD, Option.getD_some]
theorem LL_first3 {t : List Nat} (hl : t.length = 3) (hf : Inj3 (fN t)) {j : Nat} (hj : j < 3) {i : Nat} (h : i < j) : (LL t)[i]? ≠ some (ltr (fN t j)) := by
  rw [LL_at3 (by omega)]
  intro e
  have := hf i j (by omega) hj (ltr_inj (Option.some.inj e))
  omega
theorem pick_drop {α : Type} (l : List α) (k : Nat) : pick l (some (k : Int)) none = l.drop k := by
  unfold pick
  have h1 : kms_lo (some (k : Int)) l.length = min k l.length := by
    show (if (k : Int) < 0 then l.length - (-(k : Int)).toNat else min (k : Int).toNat l.length) = _
    rw [if_neg (by omega), Int.toNat_natCast]
  have h2 : kms_hi none l.length = l.length := rfl
  rw [h1, h2, List.take_of_length_le (by simp)]
  by_cases h : k ≤ l.length
  · rw [Nat.min_eq_left h]
  · rw [Nat.min_eq_right (by omega), List.drop_length, List.drop_of_length_le (by omega)]
theorem IL_drop (l : List Int) (k : Nat) : (IL l).drop k = IL (l.drop k) := by simp [IL, List.map_drop]
theorem up_same {ia ib ic k : Nat} {ns' : List Int} (hp : ns'.Perm ([(ia : Int), ib, ic].drop k)) (hs : ns'.Pairwise (· ≤ ·)) : decide ([(ia : Int), ib, ic].drop k = ns') = upN ([ia, ib, ic].drop k) := by
  rw [sorted_same hp hs, ← up_eq, List.map_drop]
  rfl
theorem keysIn0 (H : List (Addr × MO)) : KeysIn [] H := by
  intro x hx
  cases hx
theorem inj3_of {t : List Nat} (hl : t.length = 3) (hn : t.Nodup) : Inj3 (fN t) := by
  intro i j hi hj e
  have h1 : t[i]'(by omega) = t[j]'(by omega) := by
    simp only [fN, List.getD_eq_getElem?_getD, List.getElem?_eq_getElem (show i < t.length by omega), List.getElem?_eq_getElem (show j < t.length by omega), Option.getD_some] at e
    exact e
  exact (List.getElem_inj hn).mp h1
theorem t_eq {t : List Nat} (hl : t.length = 3) : t = [0, 1, 2].map (fN t) := by
  match t, hl with
  | [a, b, c], _ => rfl
theorem SL_item {t : List Nat} {i : Nat} {y : MV} (h : (SL (LL t))[i]? = some y) : i < t.length ∧ y = .str (ltr (fN t i)) := by
  have hi : i < t.length := by
    have := (List.getElem?_eq_some_iff.mp h).1
    simpa [SL, LL] using this
  refine ⟨hi, ?_⟩
  have := SL_at hi
  rw [h] at this
  exact Option.some.inj this
section
variable {c : Cx} {σ : St} {scope : Scope} {cl : List (Str × Addr)} {x : Str} {iter elt test : Expr} {px pos : Pos}
/-- items that are kept or not; each that is kept gives one value and leaves nothing behind -/
theorem ListSome_ {P : MV → St → Prop} (ok : CompOk c scope cl x iter)
    (h : WE c (eval iter c.env) σ fun v σ1 => ∃ items Cond, ∃ p : Nat → Bool, ∃ f : Nat → MV, Itb c v σ1 items Cond ∧ items.length ≤ sizeLine ∧ (∀ V, Cond ⟨V, σ1.heap⟩) ∧
      (∀ (i : Nat) (y : MV) C g, items[i]? = some y → Keeps c g → WB (cxC c scope cl C g x) (isTrue test (compEnvC scope cl C c.env) (eval test (compEnvC scope cl C c.env))) ⟨[some y], σ1.heap⟩ fun b σ2 =>
        b = p i ∧ if b = true then WE (cxC c scope cl C g x) (eval elt (compEnvC scope cl C c.env)) σ2 fun v σ3 => v = f i ∧ σ1.heap.Sublist σ3.heap else σ1.heap.Sublist σ2.heap) ∧
      ∀ D, P (.ref D) ⟨σ1.vars, (D, .list (((List.range items.length).filter p).map f)) :: σ1.heap⟩) :
    WE c (eval (.ListComp elt [⟨.Name x px, iter, [test], 0⟩] scope pos) c.env) σ P := by
  refine ListComp_ ok (h.mono ?_)
  rintro v σ1 ⟨items, Cond, p, f, I, hz, hc, ht, hP⟩
  refine ⟨items, Cond, fun i acc H => H = σ1.heap ∧ acc = ((List.range i).filter p).map f, I, ⟨hz, ⟨rfl, rfl⟩, ?_, ?_⟩, ?_⟩
  · rintro i acc H V ⟨rfl, _⟩; exact hc V
  · rintro i y acc H C g hy ⟨rfl, rfl⟩ hg
    refine tests_one (c := cxC c scope cl C g x) ((ht i y C g hy hg).mono ?_)
    rintro b σ2 ⟨rfl, hb⟩
    have e : (List.range (i + 1)).filter p = (List.range i).filter p ++ (if p i then [i] else []) := by
      rw [List.range_succ, List.filter_append]
      cases hp : p i <;> simp [hp]
    rw [e]
    cases hp : p i with
    | true =>
      rw [hp] at hb
      simp only [if_true] at hb ⊢
      refine hb.mono ?_
      rintro v σ3 ⟨rfl, hs⟩
      exact ⟨_, hs, rfl, by simp⟩
    | false =>
      rw [hp] at hb
      simp only [Bool.false_eq_true, if_false] at hb ⊢
      exact ⟨_, hb, rfl, by simp⟩
  · rintro acc H D ⟨rfl, rfl⟩
    exact hP D
end
local macro_rules | `(tactic| walk_at "m1") => `(tactic| first
  | ((with_reducible refine' dict0_ ?_); intro _)
  | ((with_reducible refine' Meth_ PySem.F.plainAttrs_dict PySem.F.slot_dict_get PySem.F.type_dict_get ?a ?b ?d ?e ?f ?_); (case a => rfl); (case b => rfl); (case d => rfl); (case e => rfl); (case f => rfl))
  | ((with_reducible refine' And.intro (ty_dth ?a) ?_); (case a => walk_at "mm"; done)))
theorem law_words {base : Heap} {prog : Program} {w : World} {A : Around} {g : Heap} {L aL aA aT cdL cdA cdT tab sc mo ms mq me mp script bg : Addr} {x0 x1 x2 x3 x4 x5 av nv : Option MV} {beg : List Nat} {N0 T : List (Addr × MO)} {P : MF → St → Prop}
    (ok : Ok base (lawCx prog w A L aL cdL g) 3)
    (B : Based base (lawCx prog w A L aL cdL g))
    (FA : FnAt' base aA "_law_told" (stm 18) cdA) (hcd : base.CodeRec (.ref cdL) "law") (hsm : ∃ o, g.get? sysModules = some o)
    (X : Fx prog w base aT cdT tab sc mo ms mq me mp) (g6 : GN base "_law_told" (.ref aA))
    (hbg : (bg, MO.list (SL (LL beg))) ∈ N0) (bl : beg.length = 4) (bn : beg.Nodup) (b8 : ∀ d ∈ beg, d < 8)
    (hT : Tab tab (fdPos stMV) qMV T)
    (h : ∀ M T', Tab tab (fdPos stMV) qMV T' → ∀ V, P (.ret (.bool true)) ⟨V, M ++ T'⟩) :
    WF (lawCx prog w A L aL cdL g) (execs (List.drop 6 (fdBody (stm 19))) (envOfC "law" (fdScope (stm 19)) L aL (.ref cdL)))
      ⟨[x0, x1, x2, x3, x4, x5, none, none, none, none, none, none], lawH N0 L bg script none none av nv T⟩ P := by
  have g1 := X.len
  have g2 := X.range
  have g4 := X.tuple
  have g7 := X.sorted
  have g9 := X.sum
  obtain ⟨foA, docA, pmA, ctA, eA1, eA2⟩ := FA.at_
  have hbz : (SL (LL beg)).length ≤ sizeLine := by simp only [SL, LL, List.length_map, bl]; decide
  refine execs_cons' ?_
  walk_at "m2"
  have hp3 : pick (SL (LL beg)) none (some 3) = SL (LL (beg.take 3)) := by
    match beg, bl with
    | [a, b, c, d], _ => rfl
  refine ⟨_, rfl, _, _, rfl, by walk_at "mm", hbz, fun th => ?_⟩
  rw [hp3]
  have tl : (beg.take 3).length = 3 := by rw [List.length_take, bl]; rfl
  have tn : (beg.take 3).Nodup := bn.sublist (List.take_sublist _ _)
  have t8 : ∀ d ∈ beg.take 3, d < 8 := fun d hd => b8 d (List.mem_of_mem_take hd)
  generalize beg.take 3 = t at tl tn t8 ⊢
  have hf := inj3_of tl tn
  have tz : (SL (LL t)).length ≤ sizeLine := by simp only [SL, LL, List.length_map, tl]; decide
  dsimp only
  walk_at "m2"
  rename_i wd du tt
  refine For_ (fun _ _ => rfl) (fun _ => rfl) ?_
  walk_at "m2"
  refine ⟨_, _, itb_list ok.hand (by walk_at "mm"), fun i σ => ∃ va vb vc vo, wI prog w tab x0 x1 x2 x3 x4 x5 wd du th t N0 L bg script av nv (9 * i) va vb vc vo σ, ?_, ?_, ?_, ?_⟩
  · exact ⟨none, none, none, none, [(tt, .tuple [.ref th, .ref wd, .ref du])], T, [], [], _, .nil, .nil, keysIn0 _, keysIn0 _, hT, rfl⟩
  · rintro i σ' ⟨va, vb, vc, vo, N, T', wx, dx, pv, q1, q2, q3, q4, q5, rfl⟩
    walk_at "mm"
  · rintro ia y σ' hy ⟨va, vb, vc, vo, N, T', wx, dx, pv, q1, q2, q3, q4, q5, rfl⟩
    obtain ⟨ha, rfl⟩ := SL_item hy
    rw [tl] at ha
    walk_at "m2"
    refine For_ (fun _ _ => rfl) (fun _ => rfl) ?_
    walk_at "m2"
    refine ⟨_, _, itb_list ok.hand (by walk_at "mm"), fun i σ => ∃ vb vc vo, wI prog w tab x0 x1 x2 x3 x4 x5 wd du th t N0 L bg script av nv (9 * ia + 3 * i) (some (.str (ltr (fN t ia)))) vb vc vo σ, ?_, ?_, ?_, ?_⟩
    · exact ⟨vb, vc, vo, N, T', wx, dx, pv, q1, q2, q3, q4, q5, rfl⟩
    · rintro i σ' ⟨vb, vc, vo, N, T', wx, dx, pv, q1, q2, q3, q4, q5, rfl⟩
      walk_at "mm"
    · clear q1 q2 q3 q4 q5 hy
      clear N T' wx dx pv
      rintro ib y σ' hy ⟨vb, vc, vo, N, T', wx, dx, pv, q1, q2, q3, q4, q5, rfl⟩
      obtain ⟨hb, rfl⟩ := SL_item hy
      rw [tl] at hb
      walk_at "m2"
      refine For_ (fun _ _ => rfl) (fun _ => rfl) ?_
      walk_at "m2"
      refine ⟨_, _, itb_list ok.hand (by walk_at "mm"), fun i σ => ∃ vc vo, wI prog w tab x0 x1 x2 x3 x4 x5 wd du th t N0 L bg script av nv (9 * ia + 3 * ib + i) (some (.str (ltr (fN t ia)))) (some (.str (ltr (fN t ib)))) vc vo σ, ?_, ?_, ?_, ?_⟩
      · exact ⟨vc, vo, N, T', wx, dx, pv, q1, q2, q3, q4, q5, rfl⟩
      · rintro i σ' ⟨vc, vo, N, T', wx, dx, pv, q1, q2, q3, q4, q5, rfl⟩
        walk_at "mm"
      · clear q1 q2 q3 q4 q5 hy
        clear N T' wx dx pv
        rintro ic y σ' hy ⟨vc, vo, N, T', wx, dx, pv, q1, q2, q3, q4, q5, rfl⟩
        obtain ⟨hc, rfl⟩ := SL_item hy
        rw [tl] at hc
        have hz3 : [MV.str (ltr (fN t ic)), MV.str (ltr (fN t ib)), MV.str (ltr (fN t ia))].length + (SL (LL t)).length ≤ sizeLine := by simp only [SL, LL, List.length_map, tl, List.length_cons, List.length_nil]; decide
        have hds : [fN t ic, fN t ib, fN t ia] ++ t = [ic, ib, ia, 0, 1, 2].map (fN t) := by
          rw [show [ic, ib, ia, 0, 1, 2].map (fN t) = [fN t ic, fN t ib, fN t ia] ++ [0, 1, 2].map (fN t) from rfl, ← t_eq tl]
        have hin : ∀ i ∈ [ic, ib, ia, 0, 1, 2], i < 3 := by
          intro i hi
          simp only [List.mem_cons, List.not_mem_nil, or_false] at hi
          omega
        have h8 : ∀ d ∈ [fN t ic, fN t ib, fN t ia] ++ t, d < 8 := by
          intro d hd
          rw [hds] at hd
          obtain ⟨i, hi, rfl⟩ := List.mem_map.mp hd
          have hi3 := hin i hi
          refine t8 _ ?_
          simp only [fN, List.getD_eq_getElem?_getD, List.getElem?_eq_getElem (show i < t.length by omega), Option.getD_some]
          exact List.getElem_mem _
        have e1 : (9 * ia + 3 * ib + ic) / 9 = ia := by omega
        have e2 : (9 * ia + 3 * ib + ic) / 3 % 3 = ib := by omega
        have e3 : (9 * ia + 3 * ib + ic) % 3 = ic := by omega
        have hkey : keyN (9 * ia + 3 * ib + ic) = ded [ic, ib, ia, 0, 1, 2] := by unfold keyN; rw [e1, e2, e3]
        have hkin := keyN_in (9 * ia + 3 * ib + ic) (by omega)
        have hkl := keyN_len (9 * ia + 3 * ib + ic)
        have hded : ded ([fN t ic, fN t ib, fN t ia] ++ t) = (keyN (9 * ia + 3 * ib + ic)).map (fN t) := by rw [hds, ded_map hf _ hin, hkey]
        have hwl : wx.length ≤ 27 := by rw [q1.length]; have := wordsN_len (9 * ia + 3 * ib + ic); omega
        have hdl : dx.length ≤ 27 := by rw [q2.length]; have := dueN_len (9 * ia + 3 * ib + ic); omega
        have hw1 : wordsN (9 * ia + 3 * ib + ic + 1) = storedN (wordsN (9 * ia + 3 * ib + ic)) (keyN (9 * ia + 3 * ib + ic)) ((lookN (wordsN (9 * ia + 3 * ib + ic)) (keyN (9 * ia + 3 * ib + ic))).getD 0 + 1) := rfl
        have hd1 : dueN (9 * ia + 3 * ib + ic + 1) = if ia ≠ ib ∧ ia ≠ ic ∧ ib ≠ ic then storedN (dueN (9 * ia + 3 * ib + ic)) [ia, ib, ic] (sumN [ia, ib, ic]) else dueN (9 * ia + 3 * ib + ic) := by rw [dueN, triN, e1, e2, e3]
        clear e1 e2 e3
        generalize hn : 9 * ia + 3 * ib + ic = n at q1 q2 hkey hkin hkl hded hwl hdl hw1 hd1
        walk_at "m2"
        refine cw_f eA2 rfl ?_
        walk_at "m2"
        rename_i l1
        refine b_lists (by walk_at "mm") (by walk_at "mm") hz3 fun l2 => ?_
        rw [show [MV.str (ltr (fN t ic)), MV.str (ltr (fN t ib)), MV.str (ltr (fN t ia))] ++ SL (LL t) = SL (LL ([fN t ic, fN t ib, fN t ia] ++ t)) by simp [SL, LL]]
        dsimp only
        walk_at "m2"
        refine ⟨fun X' h' r => r.base B _ _ eA1, ?_⟩
        refine told_at (ds := [fN t ic, fN t ib, fN t ia] ++ t) (T := T') (H := (l2, .list (SL (LL ([fN t ic, fN t ib, fN t ia] ++ t)))) :: (l1, .list [.str (ltr (fN t ic)), .str (ltr (fN t ib)), .str (ltr (fN t ia))]) :: wH prog w N du wd th dx wx t N0 L bg script pv av nv []) (by simp) ok B FA X List.mem_cons_self h8 (by simp) (by simp only [List.length_append, tl, List.length_cons, List.length_nil]; decide) q5 fun tt l c' => ?_
        rw [hded]
        generalize keyN n = key at *
        simp only [List.cons_append, List.append_assoc, List.nil_append]
        walk_at "m2"
        refine i_tuple (by walk_at "mm") (by decide) (by decide) rfl (fun _ _ => rfl) ?_
        walk_at "m2"
        refine tuple_l (by walk_at "mm") (by simp only [SL, LL, List.length_map, sizeLine]; omega) fun o => ?_
        dsimp only
        walk_at "m2"
        have hu64 := ok.units
        refine get2_h (by show _ < _; omega) hsm (by walk_at "mm") (q3.mono fun p hp => by walk_at "mm") (by walk_at "mm") ?_
        rw [q1.look hf hkin]
        walk_at "m2"
        refine setItem_h (pre := (o, MO.tuple (SL (LL (key.map (fN t))))) :: (tt, MO.tuple [MV.str (tsS (fN t ic :: fN t ib :: fN t ia :: t)), MV.ref l]) :: (l, MO.list (SL (LL (key.map (fN t))))) :: (l2, MO.list (SL (LL (fN t ic :: fN t ib :: fN t ia :: t)))) ::
          (l1, MO.list [MV.str (ltr (fN t ic)), MV.str (ltr (fN t ib)), MV.str (ltr (fN t ia))]) :: (N ++ [(du, MO.dth prog w dx)])) (by show _ < _; omega) (by simp only [List.cons_append, List.append_assoc, List.nil_append]; rfl) (q3.mono fun p hp => by walk_at "mm") (by walk_at "mm") (by simp only [sizeLine]; omega) ?_
        simp only [List.cons_append, List.append_assoc, List.nil_append]
        have wi := q1.stored hf hkin o ((lookN (wordsN n) key).getD 0 + 1)
        rw [← hw1] at wi
        walk_at "m2"
        refine Set3_ (x1 := ltr (fN t ia)) (x2 := ltr (fN t ib)) (x3 := ltr (fN t ic)) (fun X h r => hcd.keeps (r.base B)) rfl rfl ?_ ?_ ?_ fun S => ?_
        · intro D so; walk_at "m2"; exact ⟨rfl, rfl⟩
        · intro D so; walk_at "m2"; exact ⟨rfl, rfl⟩
        · intro D so; walk_at "m2"; exact ⟨rfl, rfl⟩
        dsimp only
        walk_at "m2"
        refine len_setS (by walk_at "mm") (by have := setOfS_le [ltr (fN t ia), ltr (fN t ib), ltr (fN t ic)]; simp only [List.length_cons, List.length_nil] at this; omega) ?_
        walk_at "m2"
        have hdist : (setOfS [ltr (fN t ia), ltr (fN t ib), ltr (fN t ic)]).2 = 3 ↔ (ia ≠ ib ∧ ia ≠ ic ∧ ib ≠ ic) := by
          rw [set_three]
          have k1 : ∀ i j, i < 3 → j < 3 → (fN t i ≠ fN t j ↔ i ≠ j) := fun i j hi hj => ⟨fun h e => h (by rw [e]), fun h e => h (hf i j hi hj e)⟩
          rw [k1 _ _ ha hb, k1 _ _ ha hc, k1 _ _ hb hc]
        by_cases hd : ia ≠ ib ∧ ia ≠ ic ∧ ib ≠ ic
        · rw [hdist.mpr hd]
          refine ite_p (by decide) ?_
          rw [if_pos hd] at hd1
          walk_at "m2"
          refine ListPure_ (cl := [("three", L + 5)]) ⟨rfl, by decide, rfl, by decide, rfl, fun _ => rfl⟩ ?_
          walk_at "m2"
          rename_i pt
          refine ⟨_, _, IL [(ia : Int), ib, ic], itb_tuple ok.hand List.mem_cons_self, ⟨(by decide : 3 ≤ sizeLine), rfl, fun _ => List.mem_cons_self, ?_⟩, fun pl => ?_⟩
          · rintro i y C g' hy hg'
            obtain ⟨j, hj, rfl, hv⟩ : ∃ j, j < 3 ∧ y = .str (ltr (fN t j)) ∧ (IL [(ia : Int), ib, ic])[i]? = some (.int (j : Int)) := by
              rcases i with _ | _ | _ | i
              · simp at hy; exact ⟨ia, ha, hy.symm, rfl⟩
              · simp at hy; exact ⟨ib, hb, hy.symm, rfl⟩
              · simp at hy; exact ⟨ic, hc, hy.symm, rfl⟩
              · simp at hy
            walk_at "m2"
            refine index_s (by walk_at "mm") (LL_at3 (by omega)) (fun i hi => LL_first3 tl hf hj hi) (by simp only [LL, List.length_map, tl]; decide) ?_
            exact ⟨hv, by walk_at "mh"⟩
          walk_at "m2"
          refine ListSome_ (cl := [("places", L + 6)]) ⟨rfl, by decide, rfl, by decide, rfl, fun _ => rfl⟩ ?_
          walk_at "m2"
          rename_i r4
          refine ⟨_, _, fun k => upN ([ia, ib, ic].drop k), fun k => .int ([(0 : Int), 1, 3, 1].getD k 0), itb_range1 (n := 4) ok.hand (by omega) List.mem_cons_self, by rw [rints_len]; decide, fun _ => trivial, ?_, fun sl => ?_⟩
          · rintro k y C g' hy hg'
            obtain ⟨hk, rfl⟩ := rints_get hy
            have hz4 : (IL [(ia : Int), ib, ic]).length ≤ sizeLine := (by decide : 3 ≤ sizeLine)
            have hz5 : ([(ia : Int), ib, ic].drop k).length < 64 := by rw [List.length_drop]; exact Nat.lt_of_le_of_lt (Nat.sub_le _ _) (by decide : 3 < 64)
            walk_at "m2"
            refine ⟨_, rfl, ?_⟩
            walk_at "m2"
            refine ⟨_, _, rfl, by walk_at "mm", hz4, fun s1 => ?_⟩
            rw [pick_drop, IL_drop]
            dsimp only
            walk_at "m2"
            refine ⟨_, rfl, ?_⟩
            walk_at "m2"
            refine ⟨_, _, rfl, by walk_at "mm", hz4, fun s2 => ?_⟩
            rw [pick_drop, IL_drop]
            dsimp only
            walk_at "m2"
            refine sorted_il (by walk_at "mm") hz5 fun s3 ns' hp hs => ?_
            refine c_eq_IL (by show A.units + 64 < cLine; have h69 : A.units + 3 * 3 + 60 < cLine := ok.units; omega) (by walk_at "mm") (by walk_at "mm") ?_
            rw [up_same hp hs]
            walk_at "m2"
            refine ⟨rfl, ?_⟩
            cases hup : upN ([ia, ib, ic].drop k) with
            | true =>
              simp only [if_true]
              walk_at "m2"
              have hcoef : ∀ k : Nat, k < 4 → [MV.int 0, MV.int 1, MV.int 3, MV.int 1][(k : Int).toNat]? = some (.int ([(0 : Int), 1, 3, 1].getD k 0)) := by
                intro k hk
                rw [Int.toNat_natCast]
                rcases k with _ | _ | _ | _ | k <;> first | rfl | omega
              refine i_tuple (by walk_at "mm") (by omega) (by omega) (hcoef k hk) (fun _ _ => rfl) ?_
              exact ⟨rfl, by walk_at "mh"⟩
            | false =>
              simp only [Bool.false_eq_true, if_false]
              walk_at "mh"
          rw [rints_len, show ((List.range 4).filter fun k => upN ([ia, ib, ic].drop k)).map (fun k => MV.int ([(0 : Int), 1, 3, 1].getD k 0)) = IL (((List.range 4).filter fun k => upN ([ia, ib, ic].drop k)).map fun k => [(0 : Int), 1, 3, 1].getD k 0) by simp [IL]]
          walk_at "m2"
          refine sum_il ok.hand (by walk_at "mm") ?_
          rw [show (((List.range 4).filter fun k => upN ([ia, ib, ic].drop k)).map fun k => [(0 : Int), 1, 3, 1].getD k 0).sum = sumN [ia, ib, ic] from rfl]
          walk_at "m2"
          rename_i kt
          have hki : ∀ i ∈ [ia, ib, ic], i < 3 := by
            intro i hi
            simp only [List.mem_cons, List.not_mem_nil, or_false] at hi
            omega
          have di := q2.stored hf hki kt (sumN [ia, ib, ic])
          rw [← hd1] at di
          refine setItem_h (ks := LL ([ia, ib, ic].map (fN t))) (pre := (kt, MO.tuple (SL (LL ([ia, ib, ic].map (fN t))))) :: (sl, MO.list (IL (((List.range 4).filter fun k => upN ([ia, ib, ic].drop k)).map fun k => [(0 : Int), 1, 3, 1].getD k 0))) :: (r4, MO.range 0 4 1) :: (pl, MO.list (IL [(ia : Int), ib, ic])) ::
            (pt, MO.tuple (SL (LL ([ia, ib, ic].map (fN t))))) :: (S, setS prog w (setOfS [ltr (fN t ia), ltr (fN t ib), ltr (fN t ic)]).1 3) :: (o, MO.tuple (SL (LL (key.map (fN t))))) :: (tt, MO.tuple [MV.str (tsS (fN t ic :: fN t ib :: fN t ia :: t)), MV.ref l]) :: (l, MO.list (SL (LL (key.map (fN t))))) ::
            (l2, MO.list (SL (LL (fN t ic :: fN t ib :: fN t ia :: t)))) :: (l1, MO.list [MV.str (ltr (fN t ic)), MV.str (ltr (fN t ib)), MV.str (ltr (fN t ia))]) :: N) (by show _ < _; omega) rfl (q4.mono fun p hp => by walk_at "mm") List.mem_cons_self (by simp only [sizeLine]; omega) ?_
          simp only [List.cons_append, List.append_assoc, List.nil_append]
          walk_at "m2"
          rw [show 9 * ia + 3 * ib + (ic + 1) = n + 1 from by omega]
          refine ⟨_, Le.refl _, _, _, (kt, MO.tuple (SL (LL ([ia, ib, ic].map (fN t))))) :: (sl, MO.list (IL (((List.range 4).filter fun k => upN ([ia, ib, ic].drop k)).map fun k => [(0 : Int), 1, 3, 1].getD k 0))) :: (r4, MO.range 0 4 1) :: (pl, MO.list (IL [(ia : Int), ib, ic])) ::
            (pt, MO.tuple (SL (LL ([ia, ib, ic].map (fN t))))) :: (S, setS prog w (setOfS [ltr (fN t ia), ltr (fN t ib), ltr (fN t ic)]).1 3) :: (o, MO.tuple (SL (LL (key.map (fN t))))) :: (tt, MO.tuple [MV.str (tsS (fN t ic :: fN t ib :: fN t ia :: t)), MV.ref l]) :: (l, MO.list (SL (LL (key.map (fN t))))) ::
            (l2, MO.list (SL (LL (fN t ic :: fN t ib :: fN t ia :: t)))) :: (l1, MO.list [MV.str (ltr (fN t ic)), MV.str (ltr (fN t ib)), MV.str (ltr (fN t ia))]) :: N, _, _, _, _, wi, di, keys_stored (q3.mono fun p hp => by walk_at "mm") (by walk_at "mm"), keys_stored (q4.mono fun p hp => by walk_at "mm") (by walk_at "mm"), .full c', rfl⟩
        · have hne : ¬ (setOfS [ltr (fN t ia), ltr (fN t ib), ltr (fN t ic)]).2 = 3 := fun q => hd (hdist.mp q)
          generalize (setOfS [ltr (fN t ia), ltr (fN t ib), ltr (fN t ic)]).2 = m at hne ⊢
          refine ite_n (decide_eq_false (by omega)) ?_
          rw [if_neg hd] at hd1
          rw [← hd1] at q2
          walk_at "m2"
          rw [show 9 * ia + 3 * ib + (ic + 1) = n + 1 from by omega]
          refine ⟨_, Le.refl _, _, _, (S, setS prog w (setOfS [ltr (fN t ia), ltr (fN t ib), ltr (fN t ic)]).1 m) :: (o, MO.tuple (SL (LL (key.map (fN t))))) :: (tt, MO.tuple [MV.str (tsS (fN t ic :: fN t ib :: fN t ia :: t)), MV.ref l]) :: (l, MO.list (SL (LL (key.map (fN t))))) ::
            (l2, MO.list (SL (LL (fN t ic :: fN t ib :: fN t ia :: t)))) :: (l1, MO.list [MV.str (ltr (fN t ic)), MV.str (ltr (fN t ib)), MV.str (ltr (fN t ia))]) :: N, _, _, dx, pv, wi, q2, keys_stored (q3.mono fun p hp => by walk_at "mm") (by walk_at "mm"), q4.mono fun p hp => by walk_at "mm", .full c', rfl⟩
      rintro σ' ⟨vc, vo, hw⟩
      rw [show (SL (LL t)).length = 3 from by simp [SL, LL, tl], show 9 * ia + 3 * ib + 3 = 9 * ia + 3 * (ib + 1) from by omega] at hw
      walk_at "m2"
      exact ⟨_, Le.refl _, _, _, _, hw⟩
    rintro σ' ⟨vb, vc, vo, hw⟩
    rw [show (SL (LL t)).length = 3 from by simp [SL, LL, tl], show 9 * ia + 3 * 3 = 9 * (ia + 1) from by omega] at hw
    walk_at "m2"
    exact ⟨_, Le.refl _, _, _, _, _, hw⟩
  rintro σ' ⟨va, vb, vc, vo, N, T', wx, dx, pv, q1, q2, q3, q4, q5, rfl⟩
  walk_at "m2"
  rw [show (SL (LL t)).length = 3 from by simp [SL, LL, tl]] at q1 q2
  refine c_eq_h ?_ hsm (by walk_at "mm") (by walk_at "mm") ?_ ?_ ?_
  · have := ok.units; show _ < _; omega
  · exact q3.mono fun p hp => List.mem_append_left _ hp
  · exact q4.mono fun p hp => List.mem_append_left _ hp
  rw [q1.eqH hf q2, show (9 * 3) = 27 from rfl, law_N]
  have e : wH prog w N du wd th dx wx t N0 L bg script pv av nv T' = (N ++ (du, .dth prog w dx) :: (wd, .dth prog w wx) :: (th, .list (SL (LL t))) :: lawH N0 L bg script pv (some (.ref th)) av nv []) ++ T' := by simp
  show P _ _
  rw [e]
  exact h _ T' q5 _
end
section
open PySem PySem.Spec PySem.Calls PyProof.Rows PySem.W
set_option maxRecDepth 10000
/-- a list of ints that stands always -/
theorem len_base {base : Heap} {c : Cx} {σ : St} {P : MV → St → Prop} {a : Addr} {us : List Value} {ns : List Int} (B : Based base c) (hb : base.IsList a us.toArray) (hr : VRs (IL ns) us) (hz : ns.length ≤ 1000) (h : P (.int ns.length) σ) : WC c (.builtin "len") [.ref a] σ P := by
  intro us' hu X s r Q E k
  obtain ⟨_, rfl, h1⟩ := hu.one; cases h1
  obtain ⟨o, ho, hl⟩ := hb
  have e : us.toArray.size = ns.length := by rw [List.size_toArray, ← hr.length]; simp
  refine call_len_list ⟨o, r.base B _ _ ho, hl⟩ (by rw [e]; omega) ?_
  rw [e]
  exact k _ _ σ s.heap _ h (.int _ _) r
theorem i_list_base {base : Heap} {c : Cx} {σ : St} {P : MV → St → Prop} {value slice : Expr} {a : Addr} {us : List Value} {ns : List Int} {i v : Int} (B : Based base c) (hb : base.IsList a us.toArray) (hr : VRs (IL ns) us) (h0 : 0 ≤ i) (hf : i < 2 ^ 63) (hv : ns[i.toNat]? = some v) (hs : NoSlice slice) (h : P (.int v) σ) :
    W2 c (subscriptTail value slice) (.ref a) (.int i) σ P := by
  intro u w hu hw X s r Q E k
  cases hu; cases hw
  obtain ⟨o, ho, hl⟩ := hb
  obtain ⟨u, e, q⟩ := hr.get (i := i.toNat) (v := .int v) (by simp [IL, hv])
  have hL : s.heap.IsList a us.toArray := ⟨o, r.base B _ _ ho, hl⟩
  exact subTail_ hL.typeIs slot_list_getitem.lookup (wpAny_getItem_list hL h0 hf (by simpa using e) (k _ _ σ s.heap s.toks h q r)) ⟨_, hs _ _⟩
local macro_rules | `(tactic| walk_at "m1") => `(tactic| first
  | ((with_reducible refine' Meth_ PySem.F.plainAttrs_list PySem.F.slot_list_pop PySem.F.type_list_pop ?a ?b ?d ?e ?f ?_); (case a => rfl); (case b => rfl); (case d => rfl); (case e => rfl); (case f => rfl)))
def pS (x : Nat) : MV → Bool | .str s => s != ltr x | _ => false
theorem filt_SL (x : Nat) : ∀ l : List Nat, (SL (LL l)).filter (pS x) = SL (LL (l.filter fun y => decide (y ≠ x)))
  | [] => rfl
  | y :: l => by
    have ih := filt_SL x l
    simp only [SL, LL, List.map_cons] at ih ⊢
    by_cases e : y = x
    · rw [List.filter_cons_of_neg (by simp [pS, e]), List.filter_cons_of_neg (by simp [e]), ih]
    · have h1 : pS x (.str (ltr y)) = true := by
        show (ltr y != ltr x) = true
        rw [bne_iff_ne]
        exact fun q => e (ltr_inj q)
      rw [List.filter_cons_of_pos h1, List.filter_cons_of_pos (by simpa using e), ih]; rfl
theorem LL_ok {l : List Nat} (h : ∀ d ∈ l, d < 8) : ∀ s ∈ LL l, PyData.strOk s = true := by
  intro s hs
  obtain ⟨d, hd, rfl⟩ := List.mem_map.mp hs
  exact let_ok d (h d hd)
theorem word_len (ds : List Nat) (d : Nat) (h : ds.length ≤ 1000) : (wordAt ds d).length ≤ 11 := by
  have h1 := List.idxOf_le_length (a := d) (l := ded ds)
  have h2 := ded_len ds
  have h3 : (toString (((ded ds).idxOf d : Int) + 1) : Str).length ≤ 10 := num_len (by omega) (by omega)
  unfold wordAt
  rw [Str.length_append]
  have h4 : (Str.ofString "$").length = 1 := by decide
  have h5 : (Str.ofString (toString (((ded ds).idxOf d : Int) + 1))).length ≤ 10 := h3
  omega
theorem words_sum (ds : List Nat) (h : ds.length ≤ 1000) : ∀ l : List Nat, ((l.map (wordAt ds)).map (·.length)).sum ≤ 11 * l.length
  | [] => Nat.le_refl _
  | d :: l => by
    have h1 := word_len ds d h
    have h2 := words_sum ds h l
    simp only [List.map_cons, List.sum_cons, List.length_cons]
    omega
abbrev lawCl (L : Addr) : List (Str × Addr) := [("script", L + 1)]
set_option maxHeartbeats 4000000 in
theorem law_walk {base : Heap} {prog : Program} {w : World} {A : Around} {g : Heap} {L aL aR aA aT cdL cdA cdT tab sc mo ms mq me mp script : Addr} {ns : List Int} {us rest : List Value} {T : List (Addr × MO)} {P : MF → St → Prop}
    (ok : Ok base (lawCx prog w A L aL cdL g) 3)
    (B : Based base (lawCx prog w A L aL cdL g))
    (FA : FnAt' base aA "_law_told" (stm 18) cdA) (hcd : base.CodeRec (.ref cdL) "law") (hsm : ∃ o, g.get? sysModules = some o)
    (X : Fx prog w base aT cdT tab sc mo ms mq me mp)
    (g6 : GN base "_law_told" (.ref aA)) (g8 : GN base "_law_rest" (.ref aR))
    (hR : base.get? aR = some { cls := .type "tuple", data := .seq rest.toArray }) (hr : VRs (IL restOf) rest) (hns : ns.length ≤ 63) (hS : base.IsList script us.toArray) (hus : VRs (IL ns) us)
    (hT : Tab tab (fdPos stMV) qMV T)
    (h : ∀ M T', Tab tab (fdPos stMV) qMV T' → ∀ V, P (.ret (.bool true)) ⟨V, M ++ T'⟩) :
    WF (lawCx prog w A L aL cdL g) (execs (fdBody (stm 19)) (envOfC "law" (fdScope (stm 19)) L aL (.ref cdL)))
      ⟨[none, none, none, none, none, none, none, none, none, none, none, none], (L + 6, .cell none) :: (L + 5, .cell none) :: (L + 4, .cell none) :: (L + 3, .cell none) :: (L + 2, .cell none) :: (L + 1, .cell (some (.ref script))) :: T⟩ P := by
  have g1 := X.len
  have g2 := X.range
  have g3 := X.str
  have g4 := X.tuple
  have g5 := X.list
  have g7 := X.sorted
  have g9 := X.sum
  have hz : ns.length ≤ sizeLine := by simp only [sizeLine]; omega
  obtain ⟨foA, docA, pmA, ctA, eA1, eA2⟩ := FA.at_
  refine execs_cons' ?_
  refine AssignPure_ (cl := [("script", L + 1)]) ⟨rfl, by decide, rfl, by decide, rfl, fun _ => rfl⟩ rfl ?_
  walk_at "m2"
  rename_i ra
  have hdl : (drawOf ns).length = 10 := by simp [drawOf]
  refine ⟨_, _, IL (drawOf ns), itb_range1 (n := 10) ok.hand (by omega) List.mem_cons_self, ⟨by rw [rints_len]; simp only [sizeLine]; omega, by simp [drawOf, rints_len], fun _ => trivial, ?_⟩, fun D => ?_⟩
  · rintro i q C g' hq hg'
    obtain ⟨hi', rfl⟩ := rints_get hq
    dsimp only at *
    walk_at "m2"
    refine len_base (Based.comp B rfl hg') hS hus (by omega) ?_
    walk_at "m2"
    by_cases hc : i < ns.length
    · refine ite_p (decide_eq_true (by omega)) ?_
      have hv : ns[(i : Int).toNat]? = some (ns.getD i 0) := by
        rw [Int.toNat_natCast, List.getD_eq_getElem?_getD, List.getElem?_eq_getElem hc]; rfl
      walk_at "m2"
      refine i_list_base (Based.comp B rfl hg') hS hus (by omega) (by omega) hv (fun _ _ => rfl) ?_
      exact ⟨by simp [drawOf, List.getElem?_range hi', hc], sub_refl _⟩
    · refine ite_n (decide_eq_false (by omega)) ?_
      walk_at "m2"
      obtain ⟨u, hu, hv⟩ := hr.get (i := i) (v := .int (restOf.getD i 0)) (by
        have : ∀ i : Nat, i < 10 → (restOf[i]?) = some (restOf.getD i 0) := by decide
        simp only [IL, List.getElem?_map, this i hi', Option.map_some])
      refine i_tuple_base (Based.comp B rfl hg') hR (by omega) (by omega) (by rw [Int.toNat_natCast]; exact hu) hv (fun _ _ => rfl) ?_
      exact ⟨by simp [drawOf, List.getElem?_range hi', hc], sub_refl _⟩
  generalize drawOf ns = dr at hdl ⊢
  walk_at "m2"
  refine list_s ok.hand (by decide) fun lt => ?_
  rw [show SL (signs (Str.ofString "abcdefgh")) = SL (LL (List.range 8)) from rfl]
  walk_at "m2"
  rename_i bg tt
  refine For_ (fun _ _ => rfl) (fun _ => rfl) ?_
  walk_at "m2"
  rename_i rb
  refine ⟨_, _, itb_range1 (n := 4) ok.hand (by omega) List.mem_cons_self, fun i σ => ∃ kv, σ = ⟨[kv, some (.ref D), some (.ref lt), none, none, none, none, none, none, none, none, none],
    (rb, .range 0 4 1) :: (tt, .tuple [.ref lt, .ref bg]) :: (bg, .list (SL (LL (popsOf dr i).2))) :: (lt, .list (SL (LL (popsOf dr i).1))) :: (D, .list (IL dr)) :: (ra, .range 0 10 1) :: (L + 6, .cell none) :: (L + 5, .cell none) :: (L + 4, .cell none) :: (L + 3, .cell none) :: (L + 2, .cell (some (.ref bg))) :: (L + 1, .cell (some (.ref script))) :: T⟩, ?_, ?_, ?_, ?_⟩
  · exact ⟨none, rfl⟩
  · rintro i σ' ⟨kv, rfl⟩
    trivial
  · rintro i q σ' hq ⟨kv, rfl⟩
    obtain ⟨hi', rfl⟩ := rints_get hq
    obtain ⟨p1, p2, p3⟩ := pops_ok dr i (by omega)
    have hj := popAt_lt dr (k := i) hi'
    have hv : dr[(i : Int).toNat]? = some (dr.getD i 0) := by
      rw [Int.toNat_natCast, List.getD_eq_getElem?_getD, List.getElem?_eq_getElem (by omega)]; rfl
    have hfm := fmod_in (dr.getD i 0) (b := 8 - (i : Int)) (by omega)
    have hz1 : (SL (LL (popsOf dr i).1)).length ≤ sizeLine := by simp only [SL, LL, List.length_map, sizeLine]; omega
    have hz2 : (SL (LL (popsOf dr i).2)).length ≤ sizeLine := by simp only [SL, LL, List.length_map, sizeLine]; omega
    walk_at "m2"
    refine b_mod (by omega) ?_
    walk_at "m2"
    refine pop_ (pre := [_, _, _]) rfl hfm.1 (SL_at (j := popAt dr i) (by omega)) hz1 ?_
    rw [SL_erase]
    simp only [List.cons_append, List.nil_append]
    walk_at "m2"
    rw [SLL_snoc]
    exact ⟨_, Le.refl _, _, rfl⟩
  rintro σ' ⟨kv, rfl⟩
  rw [show (rints 0 1 4).length = 4 from rints_len ..]
  obtain ⟨bl, bn, b8⟩ := beg_ok dr
  have hbg : (SL (LL (begOf dr))).length ≤ sizeLine := by simp only [SL, LL, List.length_map, sizeLine]; omega
  generalize (popsOf dr 4).1 = left
  rw [show (popsOf dr 4).2 = begOf dr from rfl]
  generalize begOf dr = beg at bl bn b8 hbg ⊢
  walk_at "m2"
  refine AssignSwap_ ["shelf", "requests"] ok.hand rfl rfl ?_
  walk_at "m2"
  refine ListPure_ (cl := [("begun", L + 2)]) ⟨rfl, by decide, rfl, by decide, rfl, fun _ => rfl⟩ ?_
  walk_at "m2"
  refine ⟨_, rfl, ?_⟩
  walk_at "m2"
  obtain ⟨rql, rqm⟩ := rq_ok hdl bl
  have hdr4 : pick (IL dr) (some 4) none = IL (dr.drop 4) := by
    rw [pick_IL]
    unfold pick
    rw [hdl]
    show IL (((dr.drop 4)).take 6) = _
    rw [List.take_of_length_le (by simp [hdl])]
  refine ⟨_, _, rfl, by walk_at "mm", by simp only [IL, List.length_map, hdl, sizeLine]; omega, fun b4 => ?_⟩
  rw [hdr4]
  refine ⟨_, _, SL (LL (rqOf dr beg)), itb_list ok.hand List.mem_cons_self, ⟨by simp only [IL, List.length_map, List.length_drop, hdl, sizeLine]; omega, by simp [SL, LL, IL, rql, hdl], fun _ => List.mem_cons_self, ?_⟩, fun rq => ?_⟩
  · intro i q C g' hq hg'
    simp only [IL, List.getElem?_map, Option.map_eq_some_iff] at hq
    obtain ⟨n, hn, rfl⟩ := hq
    have hfm := fmod_in n (b := 4) (by decide)
    have hv : (SL (LL (rqOf dr beg)))[i]? = some (.str (ltr (beg.getD (n.fmod 4).toNat 0))) := by
      simp only [SL, LL, rqOf, List.getElem?_map, hn, Option.map_some]
    walk_at "m2"
    refine b_mod (by decide) ?_
    walk_at "m2"
    refine i_list (by walk_at "mm") hfm.1 (by omega) (SL_at (by omega)) (fun _ _ => rfl) ?_
    exact ⟨hv, sub_refl _⟩
  generalize rqOf dr beg = rqs at rql rqm ⊢
  walk_at "m2"
  rename_i t2
  refine ⟨_, _, rfl, by walk_at "mm", rfl, ?_⟩
  show WSs _ ["requests", "shelf"] [_, _] _ _
  walk_at "m2"
  refine For_ (fun _ _ => rfl) (fun _ => rfl) ?_
  walk_at "m2"
  refine ⟨_, _, itb_list ok.hand (by walk_at "mm"), fun i σ => ∃ N T' sh sv av nv, (rq, .list (SL (LL rqs))) ∈ N ∧ (bg, .list (SL (LL beg))) ∈ N ∧ (sh, .list (SL (LL (shelfAt beg rqs i)))) ∈ N ∧ Tab tab (fdPos stMV) qMV T' ∧
    σ = ⟨[kv, some (.ref D), some (.ref lt), some (.ref sh), some (.ref rq), sv, none, none, none, none, none, none], lawH N L bg script none none av nv T'⟩, ?_, ?_, ?_, ?_⟩
  · refine ⟨[(t2, MO.tuple [MV.ref bg, MV.ref rq]), (rq, MO.list (SL (LL rqs))), (b4, MO.list (IL (List.drop 4 dr))), (rb, MO.range 0 4 1), (tt, MO.tuple [MV.ref lt, MV.ref bg]), (bg, MO.list (SL (LL beg))), (lt, MO.list (SL (LL left))), (D, MO.list (IL dr)), (ra, MO.range 0 10 1)], T, bg, none, none, none, by simp, by simp, by simp [shelfAt], hT, rfl⟩
  · rintro i σ' ⟨N, T', sh, sv, av, nv, h1, h2, h3, h4, rfl⟩
    walk_at "mm"
  · rintro i q σ' hq ⟨N, T', sh, sv, av, nv, h1, h2, h3, h4, rfl⟩
    simp only [SL, LL, List.getElem?_map, Option.map_eq_some_iff] at hq
    obtain ⟨_, ⟨x, hx, rfl⟩, rfl⟩ := hq
    have hperm := shelf_perm bn rqm i
    have hxb : x ∈ beg := rqm x (List.mem_of_getElem? hx)
    have hx8 := b8 x hxb
    have hsl : (shelfAt beg rqs i).length = 4 := by rw [hperm.length_eq, bl]
    have hsn : (shelfAt beg rqs i).Nodup := hperm.nodup_iff.mpr bn
    have hs8 : ∀ d ∈ x :: shelfAt beg rqs i, d < 8 := by
      intro d hd
      rcases List.mem_cons.mp hd with rfl | hd
      · exact hx8
      · exact b8 d (hperm.mem_iff.mp hd)
    have hsz : (SL (LL (shelfAt beg rqs i))).length ≤ sizeLine := by simp only [SL, LL, List.length_map, hsl]; decide
    have hss := shelf_succ (bg := beg) hx
    have hded := ded_front (x := x) hsn
    generalize shelfAt beg rqs i = shf at *
    have hsz5 : [MV.str (ltr x)].length + (SL (LL shf)).length ≤ sizeLine := by simp only [SL, LL, List.length_map, hsl, List.length_cons, List.length_nil]; decide
    walk_at "m2"
    refine cw_f eA2 rfl ?_
    walk_at "m2"
    rename_i l1
    refine b_lists (by walk_at "mm") (by walk_at "mm") hsz5 fun l2 => ?_
    walk_at "m2"
    refine ⟨fun X' h' r => r.base B _ _ eA1, ?_⟩
    refine told_at (ds := x :: shf) (H := (l2, .list (SL (LL (x :: shf)))) :: (l1, .list [.str (ltr x)]) :: lawH N L bg script none none av (some (.str (ltr x))) []) (T := T') (by simp) ok B FA X List.mem_cons_self hs8 (by simp) (by simp only [List.length_cons]; omega) h4 fun t l c' => ?_
    have hidx : ∀ d ∈ x :: shf, d ∈ ded (x :: shf) := fun d hd => (ded_mem _ _).mpr hd
    have hdl5 : (ded (x :: shf)).length ≤ 5 := by have := ded_len (x :: shf); simp only [List.length_cons, hsl] at this; exact this
    have hd8 : ∀ d ∈ ded (x :: shf), d < 8 := fun d hd => hs8 d ((ded_mem _ _).mp hd)
    have hz5 : (LL (ded (x :: shf))).length ≤ sizeLine := by simp only [LL, List.length_map, sizeLine]; omega
    have hu64 := ok.units
    simp only [List.cons_append, List.append_assoc, List.nil_append]
    walk_at "m2"
    rename_i l3
    refine ListFilt_ (cl := [("name", L + 3)]) ⟨rfl, by decide, rfl, by decide, rfl, fun _ => rfl⟩ ?_
    walk_at "m2"
    refine ⟨_, _, pS x, itb_list ok.hand (by walk_at "mm"), ⟨hsz, fun _ => by walk_at "mm", ⟨rfl, rfl, by decide⟩, ?_⟩, fun l4 => ?_⟩
    · rintro j y C g' hy hg'
      simp only [SL, LL, List.getElem?_map, Option.map_eq_some_iff] at hy
      obtain ⟨_, ⟨d, hd, rfl⟩, rfl⟩ := hy
      walk_at "m2"
      exact ⟨rfl, sub_refl _, VLe.refl _⟩
    rw [filt_SL]
    have hfl : (shf.filter fun y => decide (y ≠ x)).length ≤ 4 := by have := List.length_filter_le (fun y => decide (y ≠ x)) shf; omega
    refine b_lists (by walk_at "mm") (by walk_at "mm") (by simp only [SL, LL, List.length_map, List.length_cons, List.length_nil, sizeLine]; omega) fun l5 => ?_
    rw [show [MV.str (ltr x)] ++ SL (LL (shf.filter fun y => decide (y ≠ x))) = SL (LL (ded (x :: shf))) by rw [hded]; rfl]
    refine c_ne_SL (LL_ok hd8) (LL_ok hd8) (by show _ < _; omega) (by walk_at "mm") (by walk_at "mm") ?_
    rw [decide_eq_true rfl, Bool.not_true]
    dsimp only
    walk_at "m2"
    refine ListPure_ (cl := [("after", L + 4)]) ⟨rfl, by decide, rfl, by decide, rfl, fun _ => rfl⟩ ?_
    walk_at "m2"
    rename_i l6
    refine b_lists (by walk_at "mm") (by walk_at "mm") hsz5 fun l7 => ?_
    rw [show [MV.str (ltr x)] ++ SL (LL shf) = SL (LL (x :: shf)) from rfl]
    refine ⟨_, _, SL ((x :: shf).map (wordAt (x :: shf))), itb_list ok.hand List.mem_cons_self, ⟨by simp only [SL, LL, List.length_map, List.length_cons, hsl, sizeLine]; omega, by simp [SL, LL], fun _ => List.mem_cons_self, ?_⟩, fun l8 => ?_⟩
    · rintro j y C g' hy hg'
      simp only [SL, LL, List.getElem?_map, Option.map_eq_some_iff] at hy
      obtain ⟨_, ⟨d, hd, rfl⟩, rfl⟩ := hy
      have hdm := hidx d (List.mem_of_getElem? hd)
      have hix := List.idxOf_lt_length_of_mem hdm
      have hv : (SL ((x :: shf).map (wordAt (x :: shf))))[j]? = some (.str (wordAt (x :: shf) d)) := by
        simp only [SL, List.getElem?_map, hd, Option.map_some]
      have hs : (Str.ofString "$").length + (Str.ofString (toString (((ded (x :: shf)).idxOf d : Int) + 1))).length ≤ sizeLine := by
        have := num_len (n := ((ded (x :: shf)).idxOf d : Int) + 1) (by omega) (by omega)
        show 1 + _ ≤ _
        simp only [sizeLine]; omega
      dsimp only
      walk_at "m2"
      refine index_s (by walk_at "mm") (LL_idx hdm) (fun i hi => LL_first hi) hz5 ?_
      walk_at "m2"
      refine str_i' (by omega) (by omega) ?_
      refine b_cat hs ⟨hv, ?_⟩
      walk_at "mh"
    have hws := words_sum (x :: shf) (by simp only [List.length_cons]; omega) (x :: shf)
    dsimp only
    walk_at "m2"
    refine join_l (by walk_at "mm") (by decide) ?_ ?_
    · simp only [List.length_map, List.length_cons, hsl] at hws ⊢; omega
    rw [← tsS_eq (ds := x :: shf) (by simp)]
    refine c_nes ?_
    rw [bne_self_eq_false]
    walk_at "m2"
    refine ⟨_, Le.refl _, (l8, .list (SL ((x :: shf).map (wordAt (x :: shf))))) :: (l7, .list (SL (LL (x :: shf)))) :: (l6, .list [.str (ltr x)]) :: (l5, .list (SL (LL (ded (x :: shf))))) :: (l4, .list (SL (LL (shf.filter fun y => decide (y ≠ x))))) :: (l3, .list [.str (ltr x)]) ::
      (t, .tuple [.str (tsS (x :: shf)), .ref l]) :: (l, .list (SL (LL (ded (x :: shf))))) :: (l2, .list (SL (LL (x :: shf)))) :: (l1, .list [.str (ltr x)]) :: N, _, l, _, _, _, ?_, ?_, ?_, .full c', rfl⟩
    · walk_at "mm"
    · walk_at "mm"
    · rw [hss, ← hded]
      walk_at "mm"
  rintro σ' ⟨N, T', sh, sv, av, nv, h1, h2, h3, h4, rfl⟩
  rw [show (SL (LL rqs)).length = rqs.length from by simp [SL, LL]] at h3
  have hsz10 : (SL (LL rqs)).reverse.length + (SL (LL beg)).length ≤ sizeLine := by simp only [SL, LL, List.length_reverse, List.length_map, rql, bl]; decide
  have hszr : (SL (LL rqs)).length ≤ sizeLine := by simp only [SL, LL, List.length_map, rql]; decide
  have hrun := ded_runs bn rqs
  have hsh : shelfAt beg rqs rqs.length = ded (rqs.reverse ++ beg) := by rw [hrun]; unfold shelfAt; rw [List.take_length]
  rw [hsh] at h3
  have h8r : ∀ d ∈ rqs.reverse ++ beg, d < 8 := by
    intro d hd
    rcases List.mem_append.mp hd with hd | hd
    · exact b8 d (rqm d (List.mem_reverse.mp hd))
    · exact b8 d hd
  have h8d : ∀ d ∈ ded (rqs.reverse ++ beg), d < 8 := fun d hd => h8r d ((ded_mem _ _).mp hd)
  walk_at "m2"
  refine cw_f eA2 rfl ?_
  walk_at "m2"
  refine ⟨_, _, rfl, by walk_at "mm", hszr, fun r1 => ?_⟩
  walk_at "m2"
  refine b_lists (by walk_at "mm") (by walk_at "mm") hsz10 fun r2 => ?_
  rw [show (SL (LL rqs)).reverse ++ SL (LL beg) = SL (LL (rqs.reverse ++ beg)) by simp [SL, LL]]
  dsimp only
  walk_at "m2"
  refine ⟨fun X' h' r => r.base B _ _ eA1, ?_⟩
  have hu64 := ok.units
  refine told_at (ds := rqs.reverse ++ beg) (H := (r2, .list (SL (LL (rqs.reverse ++ beg)))) :: (r1, .list (SL (LL rqs)).reverse) :: lawH N L bg script none none av nv []) (T := T') (by simp) ok B FA X List.mem_cons_self h8r (by intro q; rw [List.append_eq_nil_iff] at q; rw [q.2] at bl; simp at bl) (by simp only [List.length_append, List.length_reverse]; omega) h4 fun t l c' => ?_
  simp only [List.cons_append, List.append_assoc, List.nil_append]
  walk_at "m2"
  refine i_tuple (by walk_at "mm") (by decide) (by decide) rfl (fun _ _ => rfl) ?_
  walk_at "m2"
  refine c_ne_SL (LL_ok h8d) (LL_ok h8d) (by show _ < _; omega) (by walk_at "mm") (by walk_at "mm") ?_
  rw [decide_eq_true rfl, Bool.not_true]
  repeat ((fail_if_success (with_reducible refine' execs_cons' ?_)); walk_at "m1")
  refine law_words (N0 := (t, .tuple [.str (tsS (rqs.reverse ++ beg)), .ref l]) :: (l, .list (SL (LL (ded (rqs.reverse ++ beg))))) :: (r2, .list (SL (LL (rqs.reverse ++ beg)))) :: (r1, .list (SL (LL rqs)).reverse) :: N) ok B FA hcd hsm X g6 (by walk_at "mm") bl bn b8 (.full c') h
end
section
open PySem PySem.Spec PySem.Calls PyProof.Rows PySem.W
set_option maxRecDepth 10000
section
variable {prog : Program} {w : World} {K : Frag} {A : Around} {E : Value → Shared → Prop} {s : Shared} {x y C : Addr}
theorem objEq_check {M : Model} {rest : List Value} {Q : Unit → Shared → Prop} (X : K.In s.heap) (hi : instIn K (.ref x) (.type "object") = some true) (ha : argsOk "object.__eq__" ⟨.ref x :: rest, []⟩) (hq : Q () s) :
    wpAny M A (checkBuiltinCall "object.__eq__" ⟨.ref x :: rest, []⟩) Q E s := by
  simp only [checkBuiltinCall, PySem.F.cmpKind_eq, PySem.F.cmpSplit_eq]
  refine wpAny_bind ((looks_instIn X hi).here ?_)
  simp only [Bool.not_true, Bool.false_eq_true, if_false]
  cases hsig : Manifest.signature? "object.__eq__" with
  | none => exact wpAny_pure hq
  | some sig =>
    simp only [argsOk, hsig] at ha
    have h2 : Bind.checkArgs "object.__eq__" sig ⟨.ref x :: rest, []⟩ = pure () := ha
    show wpAny M A (Bind.checkArgs "object.__eq__" sig ⟨.ref x :: rest, []⟩) Q E _
    rw [h2]; exact wpAny_pure hq
theorem special_obj {M : Model} {args : List Value} {Q : Option Value → Shared → Prop} (X : K.In s.heap) (hs : specialIn K (.ref x) "__eq__" = some (some (.builtin "object.__eq__")))
    (h : wpAny M A (call (.builtin "object.__eq__") (.ref x :: args)) (fun v => Q (some v)) E s) : wpAny M A (callSpecialIfBound? (.ref x) "__eq__" args) Q E s := by
  have hb := PySem.F.cmp_object.eq.bind (.ref x)
  simp only [callSpecialIfBound?, bindSpecialIfBound?]
  refine wpAny_holding (wpAny_bind (wpAny_bind ((looks_specialIn X hs).here ?_)))
  refine wpAny_bind (wpAny_askSetting (wpAny_ite ?_))
  have fin : wpAny M A (call (.builtin "object.__eq__") ([.ref x] ++ args) >>= fun v => pure (some v)) Q E s := wpAny_bind (wpAny_mono h (fun v s' h' => wpAny_pure h') fun _ _ h' => h')
  split
  · rw [hb]; exact wpAny_bind (wpAny_pure (wpAny_pure (by exact fin)))
  · rw [hb]; exact wpAny_tryCatch (wpAny_bind (wpAny_pure (wpAny_pure (by exact fin))))
theorem eqv_same {base : Heap} (X₀ : K.In base) (ht : typeIn K (.ref x) = some (.ref C)) (hs : specialIn K (.ref x) "__eq__" = some (some (.builtin "object.__eq__"))) (hi : instIn K (.ref x) (.type "object") = some true) : EqV prog w base x x true := by
  intro A E s Q hu hk hq
  have X := X₀.keeps hk
  refine cmp_ofEq ?_
  simp only [richCompare, cmpInfo_Eq, oneThing_ref]
  refine wpAny_holding (wpAny_bind (wpAny_cRoomFor hu (wpAny_bind ((looks_typeIn X ht).here (wpAny_bind ((looks_typeIn X ht).here ?_))))))
  have hne : (Value.ref C != Value.ref C) = false := by simp
  rw [hne]
  simp only [Bool.false_eq_true, if_false]
  refine wpAny_bind (wpAny_pure ?_)
  simp only [Bool.false_eq_true, if_false]
  refine wpAny_bind ?_
  unfold tryCompare
  refine wpAny_bind (special_obj X hs (wpAny_call (codeAny_call_builtin PySem.F.cmp_object.eq.plain PySem.F.cmpEntry_eq (objEq_check X hi (PySem.F.cmpArgs_eq _ _) (objEq_entry_same ?_)))))
  exact wpAny_pure (wpAny_pure (hq _))
theorem eqv_other {base : Heap} {ox oy : Obj} (X₀ : K.In base) (hx : K.lookup x = some ox) (hcx : ox.cls = .ref C) (hy : K.lookup y = some oy) (hcy : oy.cls = .ref C) (hxy : x ≠ y) (hs : specialIn K (.ref x) "__eq__" = some (some (.builtin "object.__eq__")))
    (hi : instIn K (.ref x) (.type "object") = some true) (hs' : specialIn K (.ref y) "__eq__" = some (some (.builtin "object.__eq__"))) (hi' : instIn K (.ref y) (.type "object") = some true) : EqV prog w base x y false := by
  intro A E s Q hu hk hq
  have X := X₀.keeps hk
  have ex := X _ _ hx
  have ey := X _ _ hy
  have tx : typeIn K (.ref x) = some (.ref C) := by simp [typeIn, hx, hcx]
  have ty : typeIn K (.ref y) = some (.ref C) := by simp [typeIn, hy, hcy]
  refine cmp_ofEq ?_
  simp only [richCompare, cmpInfo_Eq, oneThing_ref]
  refine wpAny_holding (wpAny_bind (wpAny_cRoomFor hu (wpAny_bind ((looks_typeIn X tx).here (wpAny_bind ((looks_typeIn X ty).here ?_))))))
  have hne : (Value.ref C != Value.ref C) = false := by simp
  rw [hne]
  simp only [Bool.false_eq_true, if_false]
  refine wpAny_bind (wpAny_pure ?_)
  simp only [Bool.false_eq_true, if_false, Bool.not_false, if_true]
  refine wpAny_bind ?_
  unfold tryCompare
  refine wpAny_bind (special_obj X hs (wpAny_call (codeAny_call_builtin PySem.F.cmp_object.eq.plain PySem.F.cmpEntry_eq (objEq_check X hi (PySem.F.cmpArgs_eq _ _) (objEq_entry_other hxy ex ey (by rw [hcx]; intro e; cases e) ?_)))))
  refine wpAny_pure (wpAny_bind ?_)
  refine wpAny_bind (special_obj X hs' (wpAny_call (codeAny_call_builtin PySem.F.cmp_object.eq.plain PySem.F.cmpEntry_eq (objEq_check X hi' (PySem.F.cmpArgs_eq _ _) (objEq_entry_other (Ne.symm hxy) ey ex (by rw [hcy]; intro e; cases e) ?_)))))
  refine wpAny_pure ?_
  refine wpAny_bind (wpAny_rule ?_)
  exact wpAny_bind (wpAny_isSame_ref_other hxy ex ey (by rw [hcx]; intro e; cases e) (wpAny_pure (hq _)))
end
end
section
open PySem PySem.Spec PySem.Calls PyProof.Rows PySem.W
set_option maxRecDepth 10000
section
variable {prog : Program} {w : World} {K : Frag} {base : Heap} {p : Program} {loose : List Str} {mean : ExcName → Option Value} {mg mb : Str → Option Value}
theorem gn_K {x : Str} {v : Value} (X : K.In base) (T : Top p loose mean mg mb base) (e : nsIn K mainGlobals x = some (some v)) : GN base x v := ⟨mg, T.g, .inl (mg_of X T.g e)⟩
theorem gn_B {x : Str} {v : Value} (X : K.In base) (T : Top p loose mean mg mb base) (e : nsIn K mainGlobals x = some none) (hv : bootBuiltins x = some v) (hn : x ≠ "__name__") : GN base x v :=
  ⟨mg, T.g, .inr ⟨mg_none_of X T.g e, mb, T.b, (T.builtins x hn).trans hv⟩⟩
theorem attrv_K {C v : Addr} {mc : Value} {attr : Str} (X : K.In base) (hm : typeIn K (.ref C) = some mc) (hr : readsIn K C mc = true) (e : findCls K (.ref C) mc attr = some (.val (.ref v))) (hh : handedIn (.ref v) = true) : AttrV prog w base C attr v :=
  fun _ _ _ _ hk hq => let _ := hm; cls_value (X.keeps hk) hr e hh (hq _)
theorem fn_K {a cd : Addr} {fo : Obj} {name : Str} {st : Stmt} {doc pm ct : Value} (X : K.In base) (hl : K.lookup a = some fo) (hd : fo.data = .func (fnX name name (fdArgs st) (fdBody st) (fdScope st) [] .none .none doc pm none (.ref cd) ct))
    (hc : codeIn K (.ref cd) name = true) : FnAt' base a name st cd := ⟨codeRec_of X hc, fo, doc, pm, ct, X _ _ hl, hd⟩
theorem sysm_of {tabs : List (Addr × Addr)} (hT : TabsAt tabs base) (T : Top p loose mean mg mb base) (hi : importsNone p = true) : ∃ o, (ghostOf base tabs).get? sysModules = some o := by
  obtain ⟨mm, h, _⟩ := (T.seer hi).mods
  obtain ⟨o, _, _, e, _⟩ := ghost_ns hT h
  exact ⟨o, e⟩
theorem rec_ghost {h : Heap} {tabs : List (Addr × Addr)} {cd : Value} {q : Str} (hT : TabsAt tabs h) (x : h.CodeRec cd q) : (ghostOf h tabs).CodeRec cd q := by
  obtain ⟨c, o, vs, t, e, g, hd, r⟩ := x
  exact ⟨c, o, vs, t, e, ghost_get hT g (fun q => by subst q; cases hd; simp at r), hd, r⟩
theorem ref_of_code {h : Heap} {cd : Value} {q : Str} (x : h.CodeRec cd q) : ∃ a, cd = .ref a := let ⟨a, _, _, _, e, _⟩ := x; ⟨a, e⟩
theorem ints_vrs : ∀ {us : List Value} {ns : List Int}, IntsAre us ns → VRs (IL ns) us
  | _, _, .nil => .nil
  | _, _, .cons _ _ r => .cons (.int _ _) (ints_vrs r)
end
theorem room1 : callerA.depth + 1 + 3 < recursionLimit := by decide +kernel
theorem room2 : callerA.units + 3 + 3 * 3 + 60 < cLine := by decide +kernel
theorem FrT.fr {g : Heap} {L : Addr} {h : Heap} {m : Str → Option Value} (F : FrT [] g L h m) : Fr g L h m := ⟨F.ns, fun b o e => F.same e (by simp), F.above⟩
theorem close1 {base : Heap} {prog : Program} {w : World} {L aR aL aA aT cdL cdA cdT tab sc mo ms mq me mp script : Addr} {ns : List Int} {us rest : List Value} {m : Str → Option Value} {h : Heap} {o1 o2 o3 o4 o5 o6 : Obj}
    {p : Program} {loose : List Str} {mean : ExcName → Option Value} {mg mb : Str → Option Value} {g : Array GenState} {d : Drawn} {tk : Nat} {os : OsState} {Q : Flow → Shared → Prop} {E : Value → Shared → Prop}
    (F : Fr base L h m) (N : News base L h [(L + 6, o6), (L + 5, o5), (L + 4, o4), (L + 3, o3), (L + 2, o2), (L + 1, o1), (tab, tabObj #[])]) (B : Below callerA base [] base) (T : Top p loose mean mg mb base) (hlt : tab < L) (d1 : o1.data = .cell (some (.ref script)))
    (d2 : o2.data = .cell none) (d3 : o3.data = .cell none) (d4 : o4.data = .cell none) (d5 : o5.data = .cell none) (d6 : o6.data = .cell none)
    (hS : base.IsList script us.toArray) (hI : IntsAre us ns) (hns : ns.length ≤ 63)
    (FA : FnAt' base aA "_law_told" (stm 18) cdA) (hcd : base.CodeRec (.ref cdL) "law")
    (X : Fx prog w base aT cdT tab sc mo ms mq me mp)
    (g6 : GN base "_law_told" (.ref aA)) (g8 : GN base "_law_rest" (.ref aR))
    (hR : base.get? aR = some { cls := .type "tuple", data := .seq rest.toArray }) (hr : VRs (IL restOf) rest)
    (hq : ∀ h' tk m' ps, Fr base L h' m' → h'.get? tab = some (tabObj ps) → Q (.ret (.bool true)) ⟨h', g, d, tk, os⟩) :
    wpAny (model prog w) (callerA.deeper (envOfC "law" (fdScope (stm 19)) L aL (.ref cdL))) (execs (fdBody (stm 19)) (envOfC "law" (fdScope (stm 19)) L aL (.ref cdL))) Q E ⟨h, g, d, tk, os⟩ := by
  have ok : Ok base (lawCx prog w (callerA.deeper (envOfC "law" (fdScope (stm 19)) L aL (.ref cdL))) L aL cdL base) 3 :=
    ⟨⟨_, _, B, rfl⟩, rfl, rfl, T.nolimit, room1, rfl, room2⟩
  have Bd : Based base (lawCx prog w (callerA.deeper (envOfC "law" (fdScope (stm 19)) L aL (.ref cdL))) L aL cdL base) := ⟨fun _ _ e => e, rfl, rfl, rfl, fun _ hb => nomatch hb⟩
  have hsm : ∃ o, base.get? sysModules = some o := X.sysm
  have r : R (lawCx prog w (callerA.deeper (envOfC "law" (fdScope (stm 19)) L aL (.ref cdL))) L aL cdL base) []
      ⟨[none, none, none, none, none, none, none, none, none, none, none, none], [(L + 6, .cell none), (L + 5, .cell none), (L + 4, .cell none), (L + 3, .cell none), (L + 2, .cell none), (L + 1, .cell (some (.ref script))), (tab, .raw (tabObj #[]))]⟩ h := by
    refine R.of_lr (X₂ := [(L + 6, o6), (L + 5, o5), (L + 4, o4), (L + 3, o3), (L + 2, o2), (L + 1, o1), (tab, tabObj #[])])
      (.cons (.cell .none d6) (.cons (.cell .none d5) (.cons (.cell .none d4) (.cons (.cell .none d3) (.cons (.cell .none d2) (.cons (.cell (.some (.val _)) d1) (.cons (.raw _) .nil))))))) F ?_ (by rw [List.append_nil]; exact N) ?_
    · intro i x v _ hv
      match i, hv with
      | 0, hv | 1, hv | 2, hv | 3, hv | 4, hv | 5, hv | 6, hv | 7, hv | 8, hv | 9, hv | 10, hv | 11, hv => simp at hv
      | n + 12, hv => simp at hv
    · have hk : ∀ k : Nat, L + k ≠ tab := fun k q => by rw [← q] at hlt; exact absurd hlt (Nat.not_lt.mpr (Nat.le_add_right L k))
      simp [Mine.keys, hk]
  refine law_walk ok Bd FA hcd hsm X g6 g8 hR hr hns hS (ints_vrs hI) .new (P := fun fl σ => fl = .ret (.bool true) ∧ ∃ M T', Tab tab (fdPos stMV) qMV T' ∧ σ.heap = M ++ T') (fun M T' hT V => ⟨rfl, M, T', hT, rfl⟩) [] ⟨h, g, d, tk, os⟩ r Q E ?_
  rintro b a ⟨V, H⟩ h' tk' ⟨rfl, M, T', hT, hH⟩ hf r'
  cases hf with | ret hv =>
  cases hv
  obtain ⟨m', F', _⟩ := r'.fr
  have hg : ∃ ps, h'.get? tab = some (tabObj ps) := by
    cases hT with
    | new => exact ⟨#[], r'.raw (by dsimp only at hH ⊢; rw [hH]; exact List.mem_append_right _ List.mem_cons_self)⟩
    | full c' => exact ⟨_, r'.raw (by dsimp only at hH ⊢; rw [hH]; exact List.mem_append_right _ (List.mem_cons_of_mem _ List.mem_cons_self))⟩
  obtain ⟨ps, hg⟩ := hg
  exact hq _ _ _ _ F'.fr hg
end
def hd1.tw16504855163784329789 : Unit := ()
def hd1.tw15144401665206460925 : Unit := ()
def hd1.tw4040586899403723334 : Unit := ()
def hd1.tw12828808682183431808 : Unit := ()
def hd1.tw2202351928235328297 : Unit := ()
def hd1.tw10311373823116247084 : Unit := ()
def hd1.tw4987814731413733292 : Unit := ()
def hd1.tw1910563206260085541 : Unit := ()
def hd1.tw12661493089785291429 : Unit := ()
def hd1.tw1800959046466129262 : Unit := ()
def hd1.tw6762062234187287080 : Unit := ()
def hd1.tw13955702955133396081 : Unit := ()
def hd1.tw8226333139520655761 : Unit := ()
def hd1.tw2543129827543441204 : Unit := ()
def hd1.tw4674408503641619188 : Unit := ()
def hd1.tw9502251730494934093 : Unit := ()
def hd1.tw4026444901651665549 : Unit := ()
def hd1.tw194732056761187990 : Unit := ()
def hd1.tw4113414360788673081 : Unit := ()
def hd1.tw1358220618722637273 : Unit := ()
def hd1.tw14312419664410385753 : Unit := ()
def hd1.tw4160938712424590354 : Unit := ()
def hd1.tw11817629393507298427 : Unit := ()
def hd1.tw6818379839899660828 : Unit := ()
def hd1.tw5845510777873868732 : Unit := ()
def hd1.tw17503653628025136149 : Unit := ()
def hd1.tw15585082908466518072 : Unit := ()
def hd1.tw12679736507613405176 : Unit := ()
def hd1.tw11026141243532620033 : Unit := ()
def hd1.tw6480235269588282275 : Unit := ()
open PySem PySem.W PyProof.Rows
set_option Elab.async true in
set_option maxRecDepth 100000 in
set_option maxHeartbeats 8000000 in
theorem hd1 : PySem.Challenge.rw_em5013_01.Holds := by
  w_on; o_law; k_head; (case hw => w_witness2)
  w_strict (
    k_go0
    all_goals try k_fold
    have hsm := Mine.sysm_of hT9 (by assumption) (by decide +kernel)
    rename Frag.In _ _ => hX
    obtain ⟨cdL, ecd⟩ := Mine.ref_of_code (by assumption)
    subst ecd
    refine' Mine.close1 (by assumption) (by assumption) (by assumption) (by assumption) (by assumption) ?d1 ?d2 ?d3 ?d4 ?d5 ?d6 lifted (by assumption) ?hns ?FA ?hcd ?X ?g6 ?g8 ?hR ?hr ?hq
    case hns => omega
    case hcd => exact Mine.rec_ghost hT9 (by assumption)
    case g6 => exact Mine.gn_K hX (by assumption) (by k_is)
    case g8 => exact Mine.gn_K hX (by assumption) (by k_is)
    case FA => exact Mine.fn_K hX (by k_is) rfl (by k_is)
    case hR => exact hX _ _ (by k_is)
    case d1 => assumption
    case d2 => assumption
    case d3 => assumption
    case d4 => assumption
    case d5 => assumption
    case d6 => assumption
    case hr => exact .cons (.int _ _) (.cons (.int _ _) (.cons (.int _ _) (.cons (.int _ _) (.cons (.int _ _) (.cons (.int _ _) (.cons (.int _ _) (.cons (.int _ _) (.cons (.int _ _) (.cons (.int _ _) .nil)))))))))
    case X =>
      refine' ⟨?_, ?_, ?_, ?_, ?_, ?_, ?_, ?_, ?_, ?_, ?_, ?state, ?ts, ?fnT, codeHd, ⟨_, _, _, _, _, by assumption⟩, ?mem, hsm⟩
      case state => exact Mine.gn_K hX (by assumption) (by k_is)
      case ts => exact Mine.gn_K hX (by assumption) (by k_is)
      case fnT => exact Mine.fn_K hX (by k_is) rfl (by k_is)
      case mem =>
        refine' ⟨?a1, ?a2, ?a3, ?a4, ?a5, ?q1, ?q2, ?q3, ?q4, ?q5, ?q6⟩
        case a1 => exact Mine.attrv_K hX (by k_is) (by k_is) (by k_is) rfl
        case a2 => exact Mine.attrv_K hX (by k_is) (by k_is) (by k_is) rfl
        case a3 => exact Mine.attrv_K hX (by k_is) (by k_is) (by k_is) rfl
        case a4 => exact Mine.attrv_K hX (by k_is) (by k_is) (by k_is) rfl
        case a5 => exact Mine.attrv_K hX (by k_is) (by k_is) (by k_is) rfl
        case q1 => exact Mine.eqv_same hX (by k_is) (by k_is) (by k_is)
        case q6 => exact Mine.eqv_same hX (by k_is) (by k_is) (by k_is)
        case q2 => exact Mine.eqv_other hX (by k_is) rfl (by k_is) rfl (by decide) (by k_is) (by k_is) (by k_is) (by k_is)
        case q3 => exact Mine.eqv_other hX (by k_is) rfl (by k_is) rfl (by decide) (by k_is) (by k_is) (by k_is) (by k_is)
        case q4 => exact Mine.eqv_other hX (by k_is) rfl (by k_is) rfl (by decide) (by k_is) (by k_is) (by k_is) (by k_is)
        case q5 => exact Mine.eqv_other hX (by k_is) rfl (by k_is) rfl (by decide) (by k_is) (by k_is) (by k_is) (by k_is)
      all_goals exact Mine.gn_B hX (by assumption) (by k_is) (by boot_fast) (by decide)
    case hq =>
      intro h' tk m' ps F' hg
      refine ⟨?_, ⟨_, hg⟩, trivial⟩
      dsimp only
      wrow_close)
end Mine
theorem PySem.Challenge.cw_em5013_01_holds : PySem.Challenge.rw_em5013_01.Holds := by
  exact Mine.hd1
