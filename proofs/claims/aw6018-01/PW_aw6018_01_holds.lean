import PyProof.Rows.All
import Wide.All
import OpenK.AllK
import Wide.FinOn
import KE.KPairComp
import KE.KDictIter
import KE.KLam
import KE.KRevSl
import KE.LcSums
import KE.KNestM
import PySem.Challenge.RW_aw6018_01
set_option maxRecDepth 100000
set_option maxHeartbeats 8000000
set_option linter.unusedVariables false
set_option linter.unusedSimpArgs false
set_option Elab.async false

set_option hygiene false
local macro_rules | `(tactic| walk_at "mem") => `(tactic| with_reducible (first | exact mm0 | exact mm1 | exact mm2 | exact mm3 | exact mm4 | exact mm5 | exact mm6 | exact mm7 | exact mm8 | exact mm9 | exact mm10 | exact mm11 | exact mm12 | exact mm13 | exact mm14 | exact mm15 | exact mm16 | exact mm17 | exact mm18 | exact mm19 | exact mm20 | exact mm21 | exact mm22 | exact mm23 | exact mm24 | exact mm25 | exact mm26 | exact mm27 | exact mm28 | exact mm29))
local macro_rules | `(tactic| walk_at "put") => `(tactic| with_reducible (first | exact pp0 | exact pp1 | exact pp2 | exact pp3 | exact pp4 | exact pp5 | exact pp6 | exact pp7 | exact pp8 | exact pp9 | exact pp10 | exact pp11 | exact pp12 | exact pp13 | exact pp14 | exact pp15 | exact pp16 | exact pp17 | exact pp18 | exact pp19 | exact pp20 | exact pp21 | exact pp22 | exact pp23 | exact pp24 | exact pp25 | exact pp26 | exact pp27 | exact pp28 | exact pp29))
local macro_rules | `(tactic| walk_at "upd") => `(tactic| first | exact uu0 | exact uu1 | exact uu2 | exact uu3 | exact uu4 | exact uu5 | exact uu6 | exact uu7 | exact uu8 | exact uu9 | exact uu10 | exact uu11 | exact uu12 | exact uu13 | exact uu14 | exact uu15 | exact uu16 | exact uu17 | exact uu18 | exact uu19 | exact uu20 | exact uu21 | exact uu22 | exact uu23 | exact uu24 | exact uu25 | exact uu26 | exact uu27 | exact uu28 | exact uu29)
local macro_rules | `(tactic| walk_at "go1") => `(tactic| first | with_reducible refine W_cons ?_ | with_reducible refine W_Assign ?_ (by with_unfolding_all rfl) | with_reducible refine W_AugAssign ?_ | with_reducible refine W_AssignSub ?_ (by with_unfolding_all rfl) | with_reducible refine W_BinOp ?_ | with_reducible refine W_Compare ?_ | with_reducible refine W_tCompare ?_ | with_reducible refine W_UnaryOp ?_ | with_reducible refine W_Subscript ?_ | with_reducible refine W_Return ?_ | with_reducible refine W_If ?_ | with_reducible refine W_IfExp ?_ | with_reducible refine W_int (fun t => ?_) | with_reducible refine W_none ?_ | with_reducible refine W_bool ?_ | with_reducible refine W_addI (fun t => ?_) | with_reducible refine W_iaddI (fun t => ?_) | with_reducible refine W_subI (fun t => ?_) | with_reducible refine W_eqI ?_ | with_reducible refine W_neI ?_ | with_reducible refine W_ltI ?_ | with_reducible refine W_gtI ?_ | with_reducible refine W_leI ?_ | with_reducible refine W_geI ?_ | with_reducible refine W_BoolAnd ?_ | with_reducible refine W_Bool1 ?_ | with_reducible refine W_tBool ?_ | with_reducible refine W_tBoolOp ?_ | with_reducible refine W_andCons ?_ | with_reducible refine W_orCons ?_ | with_reducible refine W_tNot ?_ | with_reducible refine W_andNil ?_ | with_reducible refine W_orNil ?_ | with_reducible refine W_CallN ?_ | with_reducible refine W_itemsNil ?_ | with_reducible refine W_itemsCons ?_ (by with_unfolding_all rfl) | with_reducible refine W_Continue ?_ | with_reducible refine W_Tuple ?_ | with_reducible refine W_List ?_ | (with_reducible apply W_ldC E; walk_at "mem"; walk_at "mem"; with_reducible exact S.get (by walk_at "mem"); with_reducible exact rfl) | (with_reducible apply W_ld E S; walk_at "mem"; walk_at "mem") | (with_reducible apply W_ldn E S; walk_at "mem"; walk_at "mem") | (with_reducible apply W_st E S; walk_at "mem"; walk_at "put"; intro h' S) | (with_reducible apply W_stC E S; walk_at "mem"; walk_at "mem"; walk_at "upd"; intro h' S))
local macro_rules | `(tactic| walk_at "go") => `(tactic| repeat walk_at "go1")
set_option hygiene true

namespace Mine
abbrev Adj := Int → List (Int × Int)

inductive Walk (adj : Adj) : Int → Int → Int → Prop
  | nil (u : Int) : Walk adj u u 0
  | cons {u v t c k : Int} : (v, c) ∈ adj u → Walk adj v t k → Walk adj u t (c + k)

structure GraphOk (n : Int) (adj : Adj) : Prop where
  node : ∀ u v c, (v, c) ∈ adj u → 0 ≤ u ∧ u < n ∧ 0 ≤ v ∧ v < n
  pos : ∀ u v c, (v, c) ∈ adj u → 0 ≤ c
  symm : ∀ u v c, (v, c) ∈ adj u → (u, c) ∈ adj v
  conn : ∀ u v, 0 ≤ u → u < n → 0 ≤ v → v < n → ∃ k, Walk adj u v k

theorem Walk.nonneg {n adj} (G : GraphOk n adj) {u t k} (h : Walk adj u t k) : 0 ≤ k := by
  induction h with
  | nil => omega
  | cons e _ ih => have := G.pos _ _ _ e; omega

theorem Walk.append {adj u v t a b} (h : Walk adj u v a) (h' : Walk adj v t b) : Walk adj u t (a + b) := by
  induction h with
  | nil => simpa using h'
  | cons e _ ih => have := Walk.cons e (ih h'); rwa [← Int.add_assoc] at this

theorem Walk.one {adj u v c} (e : (v, c) ∈ adj u) : Walk adj u v c := by
  have := Walk.cons e (Walk.nil v); simpa using this

theorem Walk.rev {n adj} (G : GraphOk n adj) {u t k} (h : Walk adj u t k) : Walk adj t u k := by
  induction h with
  | nil => exact .nil _
  | cons e _ ih => have := ih.append (Walk.one (G.symm _ _ _ e)); rwa [Int.add_comm] at this

def upd {α : Type} (g : Int → Option α) (x : Int) (v : α) : Int → Option α := fun y => if y = x then some v else g y

structure Side where
  d : Int → Option Int
  s : Int → Option Int
  p : Int → Option (Option Int)
  f : List (Int × Int × Int)

inductive Chain (adj : Adj) (p : Int → Option (Option Int)) : Int → List Int → Int → Prop
  | root {r : Int} : p r = some none → Chain adj p r [r] 0
  | step {x y c k : Int} {l : List Int} : p x = some (some y) → (x, c) ∈ adj y → Chain adj p y l k → Chain adj p x (x :: l) (k + c)

theorem Chain.head {adj p x l k} (h : Chain adj p x l k) : ∃ tl, l = x :: tl := by
  cases h with
  | root => exact ⟨_, rfl⟩
  | step => exact ⟨_, rfl⟩

theorem Chain.congr {adj p p' x l k} (h : Chain adj p x l k) (e : ∀ y ∈ l, p' y = p y) : Chain adj p' x l k := by
  induction h with
  | root h => exact .root ((e _ (by simp)).trans h)
  | step h1 h2 _ ih => exact .step ((e _ (by simp)).trans h1) h2 (ih fun y hy => e y (by simp [hy]))

structure SideOk (n : Int) (adj : Adj) (r : Int) (todo : List (Int × Int × Int)) (S : Side) : Prop where
  sr : S.s r = some 0
  pr : S.p r = some none
  pn : ∀ x, S.p x = some none → x = r
  nd : ∀ x k, S.s x = some k → 0 ≤ x ∧ x < n
  sn : ∀ x k, S.s x = some k → 0 ≤ k
  ds : ∀ x k, S.d x = some k → S.s x = some k
  fs : ∀ k c x, (k, c, x) ∈ S.f → ∃ k', S.s x = some k' ∧ k' ≤ k
  fd : ∀ k c x, (k, c, x) ∈ S.f → ∀ y ky, S.d y = some ky → ky ≤ k
  cov : ∀ x k, S.s x = some k → S.d x = none → ∃ c, (k, c, x) ∈ S.f
  rel : ∀ x k y c, S.d x = some k → (y, c) ∈ adj x → (x, y, c) ∈ todo ∨ ∃ ky, S.s y = some ky ∧ ky ≤ k + c
  ch : ∀ x k, S.s x = some k → ∃ l, Chain adj S.p x l k ∧ l.Nodup ∧ ∀ y ∈ l.tail, (S.d y).isSome = true

theorem SideOk.init {n adj r c} (h0 : 0 ≤ r) (hn : r < n) :
    SideOk n adj r [] ⟨fun _ => none, upd (fun _ => none) r 0, upd (fun _ => none) r none, [(0, c, r)]⟩ := by
  have us : ∀ x k, upd (fun _ => none) r (0 : Int) x = some k → x = r ∧ k = 0 := by
    intro x k h; unfold upd at h; split at h
    · exact ⟨by assumption, by simpa using h.symm⟩
    · cases h
  refine ⟨by simp [upd], by simp [upd], ?_, ?_, ?_, ?_, ?_, ?_, ?_, ?_, ?_⟩
  · intro x h; simp only [upd] at h; split at h
    · assumption
    · cases h
  · intro x k h; obtain ⟨rfl, rfl⟩ := us x k h; exact ⟨h0, hn⟩
  · intro x k h; obtain ⟨rfl, rfl⟩ := us x k h; omega
  · intro x k h; cases h
  · intro k c' x h
    simp only [List.mem_singleton, Prod.mk.injEq] at h
    obtain ⟨rfl, rfl, rfl⟩ := h
    exact ⟨0, by simp [upd], by omega⟩
  · intro k c' x _ y ky h; cases h
  · intro x k h _; obtain ⟨rfl, rfl⟩ := us x k h; exact ⟨c, by simp⟩
  · intro x k y c' h; cases h
  · intro x k h
    obtain ⟨rfl, rfl⟩ := us x k h
    exact ⟨[x], .root (by simp [upd]), by simp, by simp⟩

/-- the popped entry: least, of the fringe -/
structure Pop (S : Side) (k c v : Int) (rest : List (Int × Int × Int)) : Prop where
  perm : S.f.Perm ((k, c, v) :: rest)
  least : ∀ k' c' x, (k', c', x) ∈ S.f → k ≤ k'

theorem Pop.mem {S k c v rest} (P : Pop S k c v rest) : (k, c, v) ∈ S.f := P.perm.mem_iff.mpr (by simp)
theorem Pop.sub {S k c v rest} (P : Pop S k c v rest) {e} (h : e ∈ rest) : e ∈ S.f := P.perm.mem_iff.mpr (by simp [h])
theorem Pop.or {S k c v rest} (P : Pop S k c v rest) {e} (h : e ∈ S.f) : e = (k, c, v) ∨ e ∈ rest := by
  have := P.perm.mem_iff.mp h; simpa using this

theorem SideOk.stale {n adj r S k c v rest kv} (h : SideOk n adj r [] S) (P : Pop S k c v rest) (hv : S.d v = some kv) :
    SideOk n adj r [] { S with f := rest } := by
  refine ⟨h.sr, h.pr, h.pn, h.nd, h.sn, h.ds, fun a b x m => h.fs a b x (P.sub m), fun a b x m => h.fd a b x (P.sub m), ?_, h.rel, h.ch⟩
  intro x a hs hd
  obtain ⟨b, hb⟩ := h.cov x a hs hd
  rcases P.or hb with e | e
  · simp only [Prod.mk.injEq] at e
    obtain ⟨rfl, rfl, rfl⟩ := e
    simp only at hd
    rw [hv] at hd; cases hd
  · exact ⟨b, e⟩

theorem SideOk.popS {n adj r S k c v rest} (h : SideOk n adj r [] S) (P : Pop S k c v rest) (hv : S.d v = none) : S.s v = some k := by
  obtain ⟨k', hk, hle⟩ := h.fs _ _ _ P.mem
  obtain ⟨c', hc⟩ := h.cov v k' hk hv
  have := P.least _ _ _ hc
  have : k' = k := by omega
  rw [← this]; exact hk

theorem SideOk.popTop {n adj r S k c v rest} (h : SideOk n adj r [] S) (P : Pop S k c v rest) : ∀ y ky, upd S.d v k y = some ky → ky ≤ k := by
  intro y ky hy
  unfold upd at hy; split at hy
  · cases hy; omega
  · exact h.fd _ _ _ P.mem y ky hy

theorem SideOk.settle {n adj r S k c v rest} (h : SideOk n adj r [] S) (P : Pop S k c v rest) (hv : S.d v = none) :
    SideOk n adj r ((adj v).map fun e => (v, e.1, e.2)) { S with d := upd S.d v k, f := rest } := by
  have hs := h.popS P hv
  refine ⟨h.sr, h.pr, h.pn, h.nd, h.sn, ?_, fun a b x m => h.fs a b x (P.sub m), ?_, ?_, ?_, ?_⟩
  · intro x a hx
    simp only [upd] at hx; split at hx
    · cases hx; subst_vars; exact hs
    · exact h.ds x a hx
  · intro a b x m y ky hy
    simp only [upd] at hy; split at hy
    · cases hy; exact P.least _ _ _ (P.sub m)
    · exact h.fd a b x (P.sub m) y ky hy
  · intro x a hx hd
    simp only [upd] at hd; split at hd
    · cases hd
    · rename_i hne
      obtain ⟨b, hb⟩ := h.cov x a hx hd
      rcases P.or hb with e | e
      · simp only [Prod.mk.injEq] at e; exact absurd e.2.2 hne
      · exact ⟨b, e⟩
  · intro x a y c' hx hy
    simp only [upd] at hx; split at hx
    · subst_vars; exact .inl (List.mem_map.mpr ⟨(y, c'), hy, rfl⟩)
    · rcases h.rel x a y c' hx hy with q | q
      · cases q
      · exact .inr q
  · intro x a hx
    obtain ⟨l, h1, h2, h3⟩ := h.ch x a hx
    refine ⟨l, h1, h2, fun y hy => ?_⟩
    have := h3 y hy
    simp only [upd]; split
    · rfl
    · exact this

theorem SideOk.skip {n adj r S v w c todo k kw} (h : SideOk n adj r ((v, w, c) :: todo) S) (hv : S.d v = some k) (hw : S.s w = some kw) (hle : kw ≤ k + c) :
    SideOk n adj r todo S := by
  refine ⟨h.sr, h.pr, h.pn, h.nd, h.sn, h.ds, h.fs, h.fd, h.cov, ?_, h.ch⟩
  intro x a y c' hx hy
  rcases h.rel x a y c' hx hy with q | q
  · rcases List.mem_cons.mp q with q | q
    · simp only [Prod.mk.injEq] at q
      obtain ⟨rfl, rfl, rfl⟩ := q
      rw [hv] at hx; cases hx
      exact .inr ⟨kw, hw, hle⟩
    · exact .inl q
  · exact .inr q

/-- a settled neighbour is never bettered -/
theorem SideOk.settled {n adj v w c k kw} {S : Side} (G : GraphOk n adj) (e : (w, c) ∈ adj v)
    (top : ∀ y ky, S.d y = some ky → ky ≤ k) (hw : S.d w = some kw) : kw ≤ k + c := by
  have := top w kw hw
  have := G.pos _ _ _ e
  omega

theorem SideOk.improve {n adj r S v w c todo k cn f'} (h : SideOk n adj r ((v, w, c) :: todo) S) (G : GraphOk n adj) (e : (w, c) ∈ adj v) (hv : S.d v = some k)
    (top : ∀ y ky, S.d y = some ky → ky ≤ k) (hw : S.d w = none) (hb : ∀ kw, S.s w = some kw → k + c < kw) (hf : f'.Perm ((k + c, cn, w) :: S.f)) :
    SideOk n adj r todo ⟨S.d, upd S.s w (k + c), upd S.p w (some v), f'⟩ := by
  have hk := h.sn _ _ (h.ds _ _ hv)
  have hc := G.pos _ _ _ e
  have hwr : w ≠ r := by
    rintro rfl
    have := hb _ h.sr; omega
  have mem : ∀ x, x ∈ f' ↔ x = (k + c, cn, w) ∨ x ∈ S.f := fun x => by rw [hf.mem_iff, List.mem_cons]
  have ne : ∀ x a, S.d x = some a → x ≠ w := by
    rintro x a q rfl; rw [hw] at q; cases q
  refine ⟨?_, ?_, ?_, ?_, ?_, ?_, ?_, ?_, ?_, ?_, ?_⟩
  · simp only [upd]; rw [if_neg (Ne.symm hwr)]; exact h.sr
  · simp only [upd]; rw [if_neg (Ne.symm hwr)]; exact h.pr
  · intro x q; simp only [upd] at q; split at q
    · cases q
    · exact h.pn x q
  · intro x a q; simp only [upd] at q; split at q
    · subst_vars; exact (G.node _ _ _ e).2.2
    · exact h.nd x a q
  · intro x a q; simp only [upd] at q; split at q
    · cases q; omega
    · exact h.sn x a q
  · intro x a q
    simp only [upd]; rw [if_neg (ne x a q)]; exact h.ds x a q
  · intro a b x m
    rcases (mem _).mp m with q | q
    · simp only [Prod.mk.injEq] at q
      obtain ⟨rfl, rfl, rfl⟩ := q
      exact ⟨_, by simp [upd], Int.le_refl _⟩
    · obtain ⟨a', h1, h2⟩ := h.fs a b x q
      by_cases hx : x = w
      · subst hx
        have := hb _ h1
        exact ⟨k + c, by simp [upd], by omega⟩
      · exact ⟨a', by simp only [upd]; rw [if_neg hx]; exact h1, h2⟩
  · intro a b x m y ky hy
    rcases (mem _).mp m with q | q
    · simp only [Prod.mk.injEq] at q
      obtain ⟨rfl, rfl, rfl⟩ := q
      have := top y ky hy; omega
    · exact h.fd a b x q y ky hy
  · intro x a hx hd
    simp only [upd] at hx; split at hx
    · cases hx; subst_vars; exact ⟨cn, (mem _).mpr (.inl rfl)⟩
    · obtain ⟨b, hb⟩ := h.cov x a hx hd
      exact ⟨b, (mem _).mpr (.inr hb)⟩
  · intro x a y c' hx hy
    rcases h.rel x a y c' hx hy with q | ⟨ky, q1, q2⟩
    · rcases List.mem_cons.mp q with q | q
      · simp only [Prod.mk.injEq] at q
        obtain ⟨rfl, rfl, rfl⟩ := q
        rw [hv] at hx; cases hx
        exact .inr ⟨_, by simp [upd], Int.le_refl _⟩
      · exact .inl q
    · by_cases hyw : y = w
      · subst hyw
        have := hb _ q1
        exact .inr ⟨k + c, by simp [upd], by omega⟩
      · exact .inr ⟨ky, by simp only [upd]; rw [if_neg hyw]; exact q1, q2⟩
  · intro x a hx
    have off : ∀ x a l, x ≠ w → Chain adj S.p x l a → (∀ y ∈ l.tail, (S.d y).isSome = true) → w ∉ l := by
      intro x a l hne hC ht hm
      obtain ⟨tl, rfl⟩ := hC.head
      rcases List.mem_cons.mp hm with q | q
      · exact hne q.symm
      · have := ht w q; rw [hw] at this; cases this
    have keep : ∀ x a l, w ∉ l → Chain adj S.p x l a → Chain adj (upd S.p w (some v)) x l a := by
      intro x a l hm hC
      refine hC.congr fun y hy => ?_
      simp only [upd]; rw [if_neg (by rintro rfl; exact hm hy)]
    simp only [upd] at hx; split at hx
    · cases hx; subst_vars
      obtain ⟨l, h1, h2, h3⟩ := h.ch v k (h.ds _ _ hv)
      have hl := off v k l (ne v k hv) h1 h3
      refine ⟨_ :: l, .step (y := v) (by simp [upd]) e (keep _ _ _ hl h1), List.nodup_cons.mpr ⟨hl, h2⟩, fun y hy => ?_⟩
      obtain ⟨tl, rfl⟩ := h1.head
      rcases List.mem_cons.mp hy with q | q
      · subst q; rw [hv]; rfl
      · exact h3 y q
    · rename_i hne
      obtain ⟨l, h1, h2, h3⟩ := h.ch x a hx
      exact ⟨l, keep _ _ _ (off x a l hne h1 h3) h1, h2, h3⟩

/-- from a seen node along a walk: the end is seen well enough, or an unsettled one is met -/
theorem SideOk.split {n adj r S} (h : SideOk n adj r [] S) {x t b} (w : Walk adj x t b) : ∀ {a a'}, S.s x = some a' → a' ≤ a →
    (∃ e, S.s t = some e ∧ e ≤ a + b) ∨ ∃ y sy ay b', S.s y = some sy ∧ sy ≤ ay ∧ S.d y = none ∧ Walk adj y t b' ∧ ay + b' = a + b := by
  induction w with
  | nil u => intro a a' h1 h2; exact .inl ⟨a', h1, by omega⟩
  | @cons u v t c k e wk ih =>
    intro a a' h1 h2
    cases hd : S.d u with
    | none => exact .inr ⟨u, a', a, c + k, h1, h2, hd, .cons e wk, by omega⟩
    | some q =>
      have := h.ds _ _ hd
      rw [h1] at this; cases this
      rcases h.rel _ _ _ _ hd e with z | ⟨ky, z1, z2⟩
      · cases z
      · rcases ih z1 (show ky ≤ a + c by omega) with ⟨e', q1, q2⟩ | ⟨y, sy, ay, b', q1, q2, q3, q4, q5⟩
        · exact .inl ⟨e', q1, by omega⟩
        · exact .inr ⟨y, sy, ay, b', q1, q2, q3, q4, by omega⟩

def FinOk (P Q : Side) : Option (Int × Int) → Prop
  | none => ∀ x a, P.s x = some a → Q.s x = none
  | some (f, m) => (∃ a b, P.s m = some a ∧ Q.s m = some b ∧ f = a + b) ∧ ∀ x a b, P.s x = some a → Q.s x = some b → f ≤ a + b

theorem FinOk.swap {P Q fin} (h : FinOk P Q fin) : FinOk Q P fin := by
  cases fin with
  | none =>
    intro x a hx
    cases hp : P.s x with
    | none => rfl
    | some b => have := h x b hp; rw [hx] at this; cases this
  | some z =>
    obtain ⟨⟨a, b, h1, h2, h3⟩, h4⟩ := h
    exact ⟨⟨b, a, h2, h1, by omega⟩, fun x a b h5 h6 => by have := h4 x b a h6 h5; omega⟩

theorem FinOk.of {P Q P' Q' : Side} {fin} (h : FinOk P Q fin) (e1 : P'.s = P.s) (e2 : Q'.s = Q.s) : FinOk P' Q' fin := by
  unfold FinOk at *; rw [e1, e2]; exact h

/-- what the code makes of finaldist when a side betters w to k and the other side has seen w at b -/
theorem FinOk.far {P Q fin w k P'} (h : FinOk P Q fin) (hs : P'.s = upd P.s w k) (hq : Q.s w = none) : FinOk P' Q fin := by
  cases fin with
  | none =>
    intro x a hx
    rw [hs] at hx; simp only [upd] at hx; split at hx
    · subst_vars; exact hq
    · exact h x a hx
  | some z =>
    obtain ⟨f, m⟩ := z
    obtain ⟨⟨a, b, h1, h2, h3⟩, h4⟩ := h
    have hm : m ≠ w := by rintro rfl; rw [hq] at h2; cases h2
    refine ⟨⟨a, b, ?_, h2, h3⟩, fun x a b h5 h6 => ?_⟩
    · rw [hs]; simp only [upd]; rw [if_neg hm]; exact h1
    · have hx : x ≠ w := by rintro rfl; rw [hq] at h6; cases h6
      rw [hs] at h5; simp only [upd] at h5; rw [if_neg hx] at h5
      exact h4 x a b h5 h6

theorem FinOk.near {P Q fin w k b P'} (h : FinOk P Q fin) (hs : P'.s = upd P.s w k) (hq : Q.s w = some b) (hn : ∀ f m, fin = some (f, m) → k + b < f) : FinOk P' Q (some (k + b, w)) := by
  refine ⟨⟨k, b, by rw [hs]; simp [upd], hq, rfl⟩, fun x a b' h5 h6 => ?_⟩
  rw [hs] at h5; simp only [upd] at h5; split at h5
  · cases h5; subst_vars; rw [hq] at h6; cases h6; omega
  · cases fin with
    | none => have := h x a h5; rw [h6] at this; cases this
    | some z =>
      have := hn z.1 z.2 rfl
      have := h.2 x a b' h5 h6
      omega

theorem FinOk.same {P Q fin w k b P' f m} (h : FinOk P Q fin) (hs : P'.s = upd P.s w k) (hq : Q.s w = some b) (hf : fin = some (f, m)) (hle : f ≤ k + b)
    (hb : ∀ kw, P.s w = some kw → k < kw) : FinOk P' Q fin := by
  subst hf
  obtain ⟨⟨a, b', h1, h2, h3⟩, h4⟩ := h
  have hm : m ≠ w := by
    rintro rfl
    have := hb _ h1
    rw [hq] at h2; cases h2
    omega
  refine ⟨⟨a, b', ?_, h2, h3⟩, fun x a b h5 h6 => ?_⟩
  · rw [hs]; simp only [upd]; rw [if_neg hm]; exact h1
  · rw [hs] at h5; simp only [upd] at h5; split at h5
    · cases h5; subst_vars; rw [hq] at h6; cases h6; omega
    · exact h4 x a b h5 h6

/-- the meeting: the told sum is the least -/
theorem meet_least {n adj rp rq P Q fin k c v rest kb} (G : GraphOk n adj) (hP : SideOk n adj rp [] P) (hQ : SideOk n adj rq [] Q) (hf : FinOk P Q fin)
    (pop : Pop P k c v rest) (hv : P.d v = none) (hq : Q.d v = some kb) :
    ∃ f m a b, fin = some (f, m) ∧ P.s m = some a ∧ Q.s m = some b ∧ f = a + b ∧ ∀ L, Walk adj rp rq L → f ≤ L := by
  have hs := hP.popS pop hv
  have hsq := hQ.ds _ _ hq
  cases fin with
  | none => have := hf v k hs; rw [hsq] at this; cases this
  | some z =>
    obtain ⟨f, m⟩ := z
    obtain ⟨⟨a, b, h1, h2, h3⟩, h4⟩ := hf
    refine ⟨f, m, a, b, rfl, h1, h2, h3, fun L w => ?_⟩
    have hmeet := h4 v k kb hs hsq
    rcases hP.split w hP.sr (Int.le_refl 0) with ⟨e, q1, q2⟩ | ⟨y, sy, ay, b', q1, q2, q3, q4, q5⟩
    · have := h4 rq e 0 q1 hQ.sr; omega
    · obtain ⟨c', hc⟩ := hP.cov y sy q1 q3
      have hky := pop.least _ _ _ hc
      rcases hQ.split (q4.rev G) hQ.sr (Int.le_refl 0) with ⟨e, r1, r2⟩ | ⟨z, sz, az, b'', r1, r2, r3, r4, r5⟩
      · have := h4 y sy e q1 r1; omega
      · obtain ⟨c'', hc'⟩ := hQ.cov z sz r1 r3
        have := hQ.fd _ _ _ hc' _ _ hq
        have := r4.nonneg G
        omega

/-- an empty fringe: everything is settled -/
theorem SideOk.all {n adj r S} (h : SideOk n adj r [] S) (G : GraphOk n adj) (h0 : 0 ≤ r) (hn : r < n) (hf : S.f = []) : ∀ x, 0 ≤ x → x < n → (S.d x).isSome = true := by
  intro x x0 xn
  have seen : ∀ y a, S.s y = some a → (S.d y).isSome = true := by
    intro y a hy
    cases hd : S.d y with
    | some _ => rfl
    | none => obtain ⟨c, hc⟩ := h.cov y a hy hd; rw [hf] at hc; cases hc
  obtain ⟨k, w⟩ := G.conn r x h0 hn x0 xn
  rcases h.split w h.sr (Int.le_refl 0) with ⟨e, q1, _⟩ | ⟨y, sy, ay, b', q1, _, q3, _⟩
  · exact seen x e q1
  · have := seen y sy q1; rw [q3] at this; cases this

inductive Path (adj : Adj) : List Int → Int → Prop
  | one (x : Int) : Path adj [x] 0
  | cons {x y c k : Int} {l : List Int} : (y, c) ∈ adj x → Path adj (y :: l) k → Path adj (x :: y :: l) (c + k)

theorem Chain.path {n adj p x l k} (G : GraphOk n adj) (h : Chain adj p x l k) : Path adj l k := by
  induction h with
  | root => exact .one _
  | step _ h2 h3 ih =>
    obtain ⟨tl, rfl⟩ := h3.head
    have := Path.cons (G.symm _ _ _ h2) ih
    rwa [Int.add_comm] at this

theorem Path.join {adj} {l : List Int} {x a b} {r : List Int} (h : Path adj (l ++ [x]) a) (h' : Path adj (x :: r) b) : Path adj (l ++ x :: r) (a + b) := by
  induction l generalizing a with
  | nil =>
    cases h with
    | one => simpa using h'
  | cons y l ih =>
    cases l with
    | nil =>
      cases h with
      | cons e q =>
        cases q with
        | one => have := Path.cons e h'; simpa using this
    | cons z l =>
      cases h with
      | cons e q =>
        have := Path.cons e (ih q)
        rw [← Int.add_assoc] at this
        exact this

theorem Path.snoc {adj} {l : List Int} {x y c a} (h : Path adj (l ++ [x]) a) (e : (y, c) ∈ adj x) : Path adj (l ++ [x, y]) (a + c) := by
  have := h.join (r := [y]) (b := c + 0) (Path.cons e (.one y))
  simpa using this

theorem Path.rev {n adj} (G : GraphOk n adj) {l k} (h : Path adj l k) : Path adj l.reverse k := by
  induction h with
  | one x => exact .one x
  | @cons x y c k l e q ih =>
    have h1 : Path adj (l.reverse ++ [y]) k := by simpa using ih
    have := h1.snoc (G.symm _ _ _ e)
    rw [Int.add_comm] at this
    simpa using this

theorem Path.walk {adj} {l : List Int} {k} (h : Path adj l k) : ∀ {x y}, l.head? = some x → l.getLast? = some y → Walk adj x y k := by
  induction h with
  | one z => intro x y h1 h2; simp at h1 h2; subst h1; subst h2; exact .nil _
  | @cons u v c k l e q ih =>
    intro x y h1 h2
    simp at h1; subst h1
    exact .cons e (ih rfl (by simpa using h2))

theorem Chain.last {adj p x l k r} (h : Chain adj p x l k) (pn : ∀ x, p x = some none → x = r) : l.getLast? = some r := by
  induction h with
  | root h => rw [pn _ h]; rfl
  | step _ _ h3 ih => obtain ⟨tl, rfl⟩ := h3.head; simpa using ih

structure Way (adj : Adj) (s t told : Int) (way : List Int) : Prop where
  first : way.head? = some s
  last : way.getLast? = some t
  once : way.Nodup
  path : Path adj way told
  least : ∀ L, Walk adj s t L → told ≤ L

/-- the way that is handed back -/
theorem way_of {n adj s t A B m a b l0 l1} (G : GraphOk n adj) (hA : SideOk n adj s [] A) (hB : SideOk n adj t [] B) (dis : ∀ x, (A.d x).isSome = true → B.d x = none)
    (c0 : Chain adj A.p m l0 a) (n0 : l0.Nodup) (t0 : ∀ y ∈ l0.tail, (A.d y).isSome = true)
    (c1 : Chain adj B.p m l1 b) (n1 : l1.Nodup) (t1 : ∀ y ∈ l1.tail, (B.d y).isSome = true) (hl : ∀ L, Walk adj s t L → a + b ≤ L) :
    Way adj s t (a + b) (l0.reverse ++ l1.tail) := by
  obtain ⟨tl0, rfl⟩ := c0.head
  obtain ⟨tl1, rfl⟩ := c1.head
  have hd : ∀ y, y ∈ tl0 → y ∈ tl1 → False := fun y h0 h1 => by
    have := dis y (t0 y h0)
    have h := t1 y h1
    rw [this] at h; cases h
  rw [List.nodup_cons] at n0 n1
  refine ⟨?_, ?_, ?_, ?_, hl⟩
  · have := c0.last hA.pn
    rw [List.head?_append, List.head?_reverse, this]; rfl
  · have := c1.last hB.pn
    cases tl1 with
    | nil => simp at this ⊢; exact this
    | cons z tl1 => rw [List.getLast?_append]; simp at this ⊢; simp [this]
  · rw [List.nodup_append]
    refine ⟨(List.reverse_perm _).nodup_iff.mpr (List.nodup_cons.mpr n0), n1.2, ?_⟩
    intro x hx y hy hxy
    subst hxy
    simp only [List.mem_reverse, List.mem_cons] at hx
    simp only [List.tail_cons] at hy
    rcases hx with rfl | hx
    · exact n1.1 hy
    · exact hd x hx hy
  · have p0 := (c0.path G).rev G
    have p1 := c1.path G
    simp only [List.reverse_cons] at p0 ⊢
    have := p0.join p1
    simpa using this
end Mine
namespace Mine
/-- the parts, as a function of the node -/
def stepF (p : Int → Int) (u v : Int) : Int → Int := if p u = p v then p else fun x => if p x = p u then p v else p x

def runF (p : Int → Int) : List (Int × Int × Int) → (Int → Int)
  | [] => p
  | (u, v, _) :: es => runF (stepF p u v) es

def wsum (es : List (Int × Int × Int)) : Int := (es.map fun e => e.2.2).sum

theorem stepF_eq {p u v x y} (h : p x = p y) : stepF p u v x = stepF p u v y := by
  unfold stepF; split
  · exact h
  · simp only [h]

theorem stepF_join (p : Int → Int) (u v : Int) : stepF p u v u = stepF p u v v := by
  unfold stepF; split
  · assumption
  · rename_i h
    simp only [if_true]
    rw [if_neg (fun e => h e.symm)]

theorem runF_eq {es} : ∀ {p : Int → Int} {x y}, p x = p y → runF p es x = runF p es y := by
  induction es with
  | nil => intro p x y h; exact h
  | cons e es ih => intro p x y h; exact ih (stepF_eq h)

theorem runF_join {es} : ∀ {p : Int → Int} {u v w}, (u, v, w) ∈ es → runF p es u = runF p es v := by
  induction es with
  | nil => intro p u v w h; cases h
  | cons e es ih =>
    intro p u v w h
    rcases List.mem_cons.mp h with rfl | h
    · exact runF_eq (p := stepF p u v) (stepF_join p u v)
    · exact ih h

def sumTo (C : Int → Int) : Nat → Int
  | 0 => 0
  | k + 1 => sumTo C k + C k

theorem sumTo_nonneg {C : Int → Int} (h : ∀ x, 0 ≤ C x) : ∀ k, 0 ≤ sumTo C k
  | 0 => by simp [sumTo]
  | k + 1 => by have := sumTo_nonneg h k; have := h k; simp only [sumTo]; omega

theorem le_sumTo {C : Int → Int} (h : ∀ x, 0 ≤ C x) : ∀ {k : Nat} {l : Int}, 0 ≤ l → l < k → C l ≤ sumTo C k
  | 0, l, h0, h1 => by omega
  | k + 1, l, h0, h1 => by
    simp only [sumTo]
    by_cases e : l = k
    · subst e; have := sumTo_nonneg h k; omega
    · have := le_sumTo (C := C) h (k := k) h0 (by omega); have := h k; omega

def put (C : Int → Int) (l v : Int) : Int → Int := fun x => if x = l then v else C x

theorem sumTo_put {C : Int → Int} {l v : Int} : ∀ {k : Nat}, 0 ≤ l → sumTo (put C l v) k = sumTo C k + (if l < k then v - C l else 0)
  | 0, h0 => by simp [sumTo]; omega
  | k + 1, h0 => by
    simp only [sumTo]
    rw [sumTo_put h0]
    by_cases e : (k : Int) = l
    · subst e; simp only [put]; simp; split <;> omega
    · simp only [put]; rw [if_neg e]; split <;> split <;> omega

structure Metric (n : Nat) (es : List (Int × Int × Int)) (D : Int → Int → Int) : Prop where
  self : ∀ x : Int, 0 ≤ x → x < n → D x x = 0
  tri : ∀ x y z : Int, 0 ≤ x → x < n → 0 ≤ y → y < n → 0 ≤ z → z < n → D x z ≤ D x y + D y z
  sym : ∀ x y : Int, 0 ≤ x → x < n → 0 ≤ y → y < n → D x y = D y x
  edge : ∀ u v w, (u, v, w) ∈ es → D u v ≤ w
  node : ∀ u v w, (u, v, w) ∈ es → 0 ≤ u ∧ u < n ∧ 0 ≤ v ∧ v < n ∧ 0 ≤ w

/-- what each part costs pays for joining any two, any three of its nodes -/
structure Paid (n : Nat) (D : Int → Int → Int) (p : Int → Int) (W : Int) : Prop where
  pays : ∃ C : Int → Int, (∀ l, 0 ≤ C l) ∧ sumTo C n = W ∧ (∀ x : Int, 0 ≤ x → x < n → 0 ≤ p x ∧ p x < n) ∧
    (∀ x y : Int, 0 ≤ x → x < n → 0 ≤ y → y < n → p x = p y → D x y ≤ C (p x)) ∧
    (∀ x y z : Int, 0 ≤ x → x < n → 0 ≤ y → y < n → 0 ≤ z → z < n → p x = p y → p x = p z → ∃ u : Int, 0 ≤ u ∧ u < n ∧ D u x + D u y + D u z ≤ C (p x))

theorem Paid.start {n es D} (M : Metric n es D) : Paid n D (fun x => x) 0 := by
  refine ⟨fun _ => 0, fun _ => Int.le_refl _, ?_, fun x h0 h1 => ⟨h0, h1⟩, ?_, ?_⟩
  · have : ∀ k, sumTo (fun _ => 0) k = 0 := by intro k; induction k with
      | zero => rfl
      | succ k ih => simp [sumTo, ih]
    exact this n
  · intro x y h0 h1 _ _ e; have e : x = y := e; subst e; rw [M.self x h0 h1]; exact Int.le_refl _
  · intro x y z h0 h1 _ _ _ _ e e'; have e : x = y := e; have e' : x = z := e'; subst e; subst e'
    exact ⟨x, h0, h1, by rw [M.self x h0 h1]; exact Int.le_refl _⟩

theorem Paid.step {n es D p W u v w} (M : Metric n es D) (h : Paid n D p W) (e : (u, v, w) ∈ es) : Paid n D (stepF p u v) (W + w) := by
  obtain ⟨C, c0, cW, cl, c2, c3⟩ := h.pays
  obtain ⟨u0, u1, v0, v1, w0⟩ := M.node _ _ _ e
  have hE := M.edge _ _ _ e
  have lu := cl u u0 u1
  have lv := cl v v0 v1
  by_cases huv : p u = p v
  · refine ⟨put C (p u) (C (p u) + w), ?_, ?_, ?_, ?_, ?_⟩
    · intro l; simp only [put]; split
      · have := c0 (p u); omega
      · exact c0 l
    · rw [sumTo_put lu.1, if_pos lu.2]; omega
    · simp only [stepF, if_pos huv]; exact cl
    · simp only [stepF, if_pos huv]
      intro x y x0 x1 y0 y1 q
      have := c2 x y x0 x1 y0 y1 q
      simp only [put]; split
      · rename_i z; rw [z] at this; omega
      · exact this
    · simp only [stepF, if_pos huv]
      intro x y z x0 x1 y0 y1 z0 z1 q q'
      obtain ⟨t, t0, t1, ht⟩ := c3 x y z x0 x1 y0 y1 z0 z1 q q'
      refine ⟨t, t0, t1, ?_⟩
      simp only [put]; split
      · rename_i z; rw [z] at ht; omega
      · exact ht
  · have hvu : ¬ p v = p u := fun q => huv q.symm
    have val : ∀ x, stepF p u v x = if p x = p u then p v else p x := by intro x; simp only [stepF, if_neg huv]
    refine ⟨put (put C (p u) 0) (p v) (C (p u) + C (p v) + w), ?_, ?_, ?_, ?_, ?_⟩
    · intro l; have := c0 (p u); have := c0 (p v); have := c0 l
      simp only [put]; split
      · omega
      · split <;> omega
    · rw [sumTo_put lv.1, sumTo_put lu.1, if_pos lv.2, if_pos lu.2]; simp only [put]; rw [if_neg hvu]; omega
    · intro x x0 x1; rw [val]; split
      · exact lv
      · exact cl x x0 x1
    · -- two nodes
      have two : ∀ x y : Int, 0 ≤ x → x < n → 0 ≤ y → y < n → p x = p u → p y = p v → D x y ≤ C (p u) + C (p v) + w := by
        intro x y x0 x1 y0 y1 hx hy
        have a := c2 x u x0 x1 u0 u1 hx
        have b := c2 v y v0 v1 y0 y1 hy.symm
        have t1 := M.tri x u y x0 x1 u0 u1 y0 y1
        have t2 := M.tri u v y u0 u1 v0 v1 y0 y1
        rw [hx] at a
        omega
      intro x y x0 x1 y0 y1 q
      rw [val, val] at q
      rw [val]
      have nn := c0 (p u); have nv := c0 (p v)
      by_cases hx : p x = p u
      · rw [if_pos hx] at q ⊢
        simp only [put, if_true]
        by_cases hy : p y = p u
        · have := c2 x y x0 x1 y0 y1 (hx.trans hy.symm); rw [hx] at this; omega
        · rw [if_neg hy] at q; exact two x y x0 x1 y0 y1 hx q.symm
      · rw [if_neg hx] at q ⊢
        by_cases hy : p y = p u
        · rw [if_pos hy] at q
          rw [q]; simp only [put, if_true]
          rw [M.sym x y x0 x1 y0 y1]
          exact two y x y0 y1 x0 x1 hy q
        · rw [if_neg hy] at q
          have := c2 x y x0 x1 y0 y1 q
          simp only [put, if_neg hx]; split
          · rename_i z; rw [z] at this; omega
          · exact this
    · -- three nodes
      have nn := c0 (p u); have nv := c0 (p v)
      have uu : ∀ x y z : Int, 0 ≤ x → x < n → 0 ≤ y → y < n → 0 ≤ z → z < n → p x = p u → p y = p u → p z = p v → ∃ t : Int, 0 ≤ t ∧ t < n ∧ D t x + D t y + D t z ≤ C (p u) + C (p v) + w := by
        intro x y z x0 x1 y0 y1 z0 z1 hx hy hz
        obtain ⟨t, t0, t1, ht⟩ := c3 x y u x0 x1 y0 y1 u0 u1 (hx.trans hy.symm) hx
        have b := c2 v z v0 v1 z0 z1 hz.symm
        have q1 := M.tri t u z t0 t1 u0 u1 z0 z1
        have q2 := M.tri u v z u0 u1 v0 v1 z0 z1
        rw [hx] at ht
        exact ⟨t, t0, t1, by omega⟩
      have vv : ∀ x y z : Int, 0 ≤ x → x < n → 0 ≤ y → y < n → 0 ≤ z → z < n → p x = p v → p y = p v → p z = p u → ∃ t : Int, 0 ≤ t ∧ t < n ∧ D t x + D t y + D t z ≤ C (p u) + C (p v) + w := by
        intro x y z x0 x1 y0 y1 z0 z1 hx hy hz
        obtain ⟨t, t0, t1, ht⟩ := c3 x y v x0 x1 y0 y1 v0 v1 (hx.trans hy.symm) hx
        have b := c2 u z u0 u1 z0 z1 hz.symm
        have q1 := M.tri t v z t0 t1 v0 v1 z0 z1
        have q2 := M.tri v u z v0 v1 u0 u1 z0 z1
        have q3 := M.sym v u v0 v1 u0 u1
        rw [hx] at ht
        exact ⟨t, t0, t1, by omega⟩
      intro x y z x0 x1 y0 y1 z0 z1 q q'
      rw [val, val] at q q'
      rw [val]
      by_cases hx : p x = p u
      · rw [if_pos hx] at q q' ⊢
        simp only [put, if_true]
        by_cases hy : p y = p u
        · by_cases hz : p z = p u
          · obtain ⟨t, t0, t1, ht⟩ := c3 x y z x0 x1 y0 y1 z0 z1 (hx.trans hy.symm) (hx.trans hz.symm)
            rw [hx] at ht; exact ⟨t, t0, t1, by omega⟩
          · rw [if_neg hz] at q'; exact uu x y z x0 x1 y0 y1 z0 z1 hx hy q'.symm
        · rw [if_neg hy] at q
          by_cases hz : p z = p u
          · obtain ⟨t, t0, t1, ht⟩ := uu x z y x0 x1 z0 z1 y0 y1 hx hz q.symm
            exact ⟨t, t0, t1, by omega⟩
          · rw [if_neg hz] at q'
            obtain ⟨t, t0, t1, ht⟩ := vv y z x y0 y1 z0 z1 x0 x1 q.symm q'.symm hx
            exact ⟨t, t0, t1, by omega⟩
      · rw [if_neg hx] at q q' ⊢
        by_cases hy : p y = p u
        · rw [if_pos hy] at q
          rw [q]; simp only [put, if_true]
          by_cases hz : p z = p u
          · obtain ⟨t, t0, t1, ht⟩ := uu y z x y0 y1 z0 z1 x0 x1 hy hz q
            exact ⟨t, t0, t1, by omega⟩
          · rw [if_neg hz] at q'
            obtain ⟨t, t0, t1, ht⟩ := vv x z y x0 x1 z0 z1 y0 y1 q (q'.symm.trans q) hy
            exact ⟨t, t0, t1, by omega⟩
        · rw [if_neg hy] at q
          by_cases hz : p z = p u
          · rw [if_pos hz] at q'
            rw [q']; simp only [put, if_true]
            exact vv x y z x0 x1 y0 y1 z0 z1 q' (q.symm.trans q') hz
          · rw [if_neg hz] at q'
            obtain ⟨t, t0, t1, ht⟩ := c3 x y z x0 x1 y0 y1 z0 z1 q q'
            refine ⟨t, t0, t1, ?_⟩
            simp only [put, if_neg hx]; split
            · rename_i z; rw [z] at ht; omega
            · exact ht

theorem Paid.run {n es D} (M : Metric n es D) : ∀ {sel p W}, Paid n D p W → (∀ e ∈ sel, e ∈ es) → Paid n D (runF p sel) (W + wsum sel) := by
  intro sel
  induction sel with
  | nil => intro p W h _; simpa [runF, wsum] using h
  | cons e sel ih =>
    obtain ⟨u, v, w⟩ := e
    intro p W h hs
    have := ih (h.step M (hs (u, v, w) (by simp))) fun e he => hs e (by simp [he])
    have e : W + w + wsum sel = W + wsum ((u, v, w) :: sel) := by simp only [wsum, List.map_cons, List.sum_cons]; omega
    rw [e] at this; exact this

/-- joined by a part, some node is near the three -/
theorem near_of_joined {n : Nat} {es D sel} {a b c : Int} (M : Metric n es D) (hs : ∀ e ∈ sel, e ∈ es) (a0 : 0 ≤ a) (a1 : a < n) (b0 : 0 ≤ b) (b1 : b < n) (c0 : 0 ≤ c) (c1 : c < n)
    (hab : runF (fun x => x) sel a = runF (fun x => x) sel b) (hac : runF (fun x => x) sel a = runF (fun x => x) sel c) :
    ∃ u : Int, 0 ≤ u ∧ u < n ∧ D u a + D u b + D u c ≤ wsum sel := by
  obtain ⟨C, k0, kW, kl, k2, k3⟩ := (Paid.run M (Paid.start M) hs).pays
  obtain ⟨u, u0, u1, hu⟩ := k3 a b c a0 a1 b0 b1 c0 c1 hab hac
  have := le_sumTo k0 (kl a a0 a1).1 (kl a a0 a1).2
  exact ⟨u, u0, u1, by omega⟩

/-- the edges that a mask takes -/
def selM {α : Type} : Nat → List α → List α
  | _, [] => []
  | m, e :: es => if m % 2 = 1 then e :: selM (m / 2) es else selM (m / 2) es

def maskOf {α : Type} (P : α → Bool) : List α → Nat
  | [] => 0
  | e :: es => (if P e then 1 else 0) + 2 * maskOf P es

theorem selM_maskOf {α : Type} (P : α → Bool) : ∀ es : List α, selM (maskOf P es) es = es.filter P
  | [] => rfl
  | e :: es => by
    simp only [selM, maskOf, List.filter_cons]
    by_cases hP : P e = true
    · simp only [if_pos hP]
      have h1 : (1 + 2 * maskOf P es) % 2 = 1 := by omega
      have h2 : (1 + 2 * maskOf P es) / 2 = maskOf P es := by omega
      rw [if_pos h1, h2, selM_maskOf P es]
    · simp only [if_neg hP]
      have h1 : ¬ (0 + 2 * maskOf P es) % 2 = 1 := by omega
      have h2 : (0 + 2 * maskOf P es) / 2 = maskOf P es := by omega
      rw [if_neg h1, h2, selM_maskOf P es]

theorem maskOf_lt {α : Type} (P : α → Bool) : ∀ es : List α, maskOf P es < 2 ^ es.length
  | [] => by simp [maskOf]
  | e :: es => by
    have := maskOf_lt P es
    simp only [maskOf, List.length_cons, Nat.pow_succ]
    split <;> omega

theorem selM_sub {α : Type} : ∀ {m : Nat} {es : List α} {e}, e ∈ selM m es → e ∈ es
  | _, [], _, h => by simp [selM] at h
  | m, x :: es, e, h => by
    simp only [selM] at h
    split at h
    · rcases List.mem_cons.mp h with rfl | h
      · simp
      · exact List.mem_cons_of_mem _ (selM_sub h)
    · exact List.mem_cons_of_mem _ (selM_sub h)

/-- the weight of the edges of es that stand in L is no more than L's -/
theorem wsum_filter_one {es : List (Int × Int × Int)} (x : Int × Int × Int) (hw : ∀ e ∈ es, 0 ≤ e.2.2) (hx : 0 ≤ x.2.2) (nd : es.Nodup) : wsum (es.filter fun e => e == x) ≤ x.2.2 := by
  induction es with
  | nil => simpa [wsum] using hx
  | cons e es ih =>
    rw [List.nodup_cons] at nd
    rw [List.filter_cons]
    by_cases he : e = x
    · subst he
      have : es.filter (fun e' => e' == e) = [] := by
        rw [List.filter_eq_nil_iff]; intro a ha; simp; rintro rfl; exact nd.1 ha
      simp [this, wsum]
    · have : (e == x) = false := by simpa using he
      rw [this]
      exact ih (fun e' h => hw e' (by simp [h])) nd.2

theorem wsum_or {P Q R : Int × Int × Int → Bool} (h : ∀ e, R e = true → P e = true ∨ Q e = true) : ∀ {es : List (Int × Int × Int)}, (∀ e ∈ es, 0 ≤ e.2.2) → wsum (es.filter R) ≤ wsum (es.filter P) + wsum (es.filter Q)
  | [], _ => by simp [wsum]
  | e :: es, hw => by
    have ih := wsum_or h (es := es) fun e' h => hw e' (by simp [h])
    have h0 := hw e (by simp)
    have hh := h e
    simp only [List.filter_cons]
    simp only [wsum] at ih ⊢
    cases h1 : P e <;> cases h2 : Q e <;> cases h3 : R e <;> simp only [h1, h2, h3, Bool.false_eq_true, if_true, if_false, List.map_cons, List.sum_cons] <;> first | omega | (exfalso; simp [h1, h2, h3] at hh)

theorem wsum_filter {es : List (Int × Int × Int)} (hw : ∀ e ∈ es, 0 ≤ e.2.2) (nd : es.Nodup) : ∀ L : List (Int × Int × Int), (∀ e ∈ L, e ∈ es) → wsum (es.filter fun e => L.contains e) ≤ wsum L
  | [], _ => by
    have : es.filter (fun e => ([] : List (Int × Int × Int)).contains e) = [] := by rw [List.filter_eq_nil_iff]; simp
    rw [this]; exact Int.le_refl _
  | x :: L, hL => by
    have ih := wsum_filter hw nd L fun e h => hL e (by simp [h])
    have one := wsum_filter_one x hw (hw x (hL x (by simp))) nd
    have := wsum_or (P := fun e => e == x) (Q := fun e => L.contains e) (R := fun e => (x :: L).contains e) (fun e h => by simpa using h) hw
    have e : wsum (x :: L) = x.2.2 + wsum L := by simp [wsum]
    omega

def AdjOf (es : List (Int × Int × Int)) (adj : Adj) : Prop := ∀ x y c, (y, c) ∈ adj x ↔ (x, y, c) ∈ es ∨ (y, x, c) ∈ es

theorem Path.edges {es adj l k} (A : AdjOf es adj) (h : Path adj l k) : ∃ L : List (Int × Int × Int), (∀ e ∈ L, e ∈ es) ∧ wsum L = k ∧
    ∀ sel p, (∀ e ∈ L, e ∈ sel) → ∀ x ∈ l, ∀ y ∈ l, runF p sel x = runF p sel y := by
  induction h with
  | one x => exact ⟨[], by simp, by simp [wsum], fun sel p _ y hy z hz => by simp at hy hz; rw [hy, hz]⟩
  | @cons x y c k l e q ih =>
    obtain ⟨L, h1, h2, h3⟩ := ih
    have key : ∃ e : Int × Int × Int, e ∈ es ∧ e.2.2 = c ∧ ∀ sel p, e ∈ sel → runF p sel x = runF p sel y := by
      rcases (A x y c).mp e with h | h
      · exact ⟨(x, y, c), h, rfl, fun sel p hm => runF_join hm⟩
      · exact ⟨(y, x, c), h, rfl, fun sel p hm => (runF_join hm).symm⟩
    obtain ⟨e', g1, g2, g3⟩ := key
    refine ⟨e' :: L, fun a ha => ?_, ?_, fun sel p hs a ha b hb => ?_⟩
    · rcases List.mem_cons.mp ha with rfl | ha
      · exact g1
      · exact h1 a ha
    · simp only [wsum, List.map_cons, List.sum_cons] at *; omega
    · have hxy := g3 sel p (hs _ (by simp))
      have rest := h3 sel p (fun a ha => hs a (by simp [ha]))
      have at_ : ∀ a ∈ x :: y :: l, runF p sel a = runF p sel y := by
        intro a ha
        rcases List.mem_cons.mp ha with rfl | ha
        · exact hxy
        · exact rest a ha y (by simp)
      rw [at_ a ha, at_ b hb]

/-- three ways from one node: a mask joins the three at no more than their sum -/
theorem mask_of_ways {es adj u a b c wa wb wc ka kb kc} (A : AdjOf es adj) (hw : ∀ e ∈ es, 0 ≤ e.2.2) (nd : es.Nodup) (ha : Way adj u a ka wa) (hb : Way adj u b kb wb) (hc : Way adj u c kc wc) :
    ∃ m, m < 2 ^ es.length ∧ wsum (selM m es) ≤ ka + kb + kc ∧ runF (fun x => x) (selM m es) a = runF (fun x => x) (selM m es) b ∧ runF (fun x => x) (selM m es) a = runF (fun x => x) (selM m es) c := by
  obtain ⟨La, a1, a2, a3⟩ := ha.path.edges A
  obtain ⟨Lb, b1, b2, b3⟩ := hb.path.edges A
  obtain ⟨Lc, c1, c2, c3⟩ := hc.path.edges A
  have mem : ∀ {l : List Int} {x}, l.head? = some x → x ∈ l := fun h => List.mem_of_mem_head? (by rw [h]; exact rfl)
  have memL : ∀ {l : List Int} {x}, l.getLast? = some x → x ∈ l := fun h => List.mem_of_getLast? h
  have hL : ∀ e ∈ La ++ (Lb ++ Lc), e ∈ es := by
    intro e he
    simp only [List.mem_append] at he
    rcases he with h | h | h
    · exact a1 e h
    · exact b1 e h
    · exact c1 e h
  refine ⟨maskOf (fun e => (La ++ (Lb ++ Lc)).contains e) es, maskOf_lt _ _, ?_⟩
  rw [selM_maskOf]
  have hsel : ∀ e ∈ La ++ (Lb ++ Lc), e ∈ es.filter fun e => (La ++ (Lb ++ Lc)).contains e := fun e he => List.mem_filter.mpr ⟨hL e he, by simpa [List.contains_iff_mem] using he⟩
  have ea := a3 _ (fun x => x) (fun e he => hsel e (by simp [he])) u (mem ha.first) a (memL ha.last)
  have eb := b3 _ (fun x => x) (fun e he => hsel e (by simp [he])) u (mem hb.first) b (memL hb.last)
  have ec := c3 _ (fun x => x) (fun e he => hsel e (by simp [he])) u (mem hc.first) c (memL hc.last)
  refine ⟨?_, ea.symm.trans eb, ea.symm.trans ec⟩
  have := wsum_filter hw nd _ hL
  have e : wsum (La ++ (Lb ++ Lc)) = wsum La + (wsum Lb + wsum Lc) := by simp [wsum]
  omega
end Mine
namespace Mine
/-- the two sides between two turns: T is the side whose turn comes -/
structure PairOk (n : Int) (adj : Adj) (rT rO : Int) (T O : Side) (fin : Option (Int × Int)) : Prop where
  hT : SideOk n adj rT [] T
  hO : SideOk n adj rO [] O
  hf : FinOk T O fin
  dis : ∀ x, (T.d x).isSome = true → O.d x = none
  nxt : (∀ x, O.d x = none) → ∀ x, T.d x = none
  j1 : (∀ x, O.d x = none) → ∀ x, (T.d x).isSome = true → x = rT
  j2 : (∀ x, T.d x = none) → ∀ x, (O.d x).isSome = true → x = rO
  ne : rT ≠ rO
  bT : 0 ≤ rT ∧ rT < n
  bO : 0 ≤ rO ∧ rO < n
theorem none_of {S : Side} (h : ¬ ∃ x, (S.d x).isSome = true) : ∀ x, S.d x = none := fun x => by
  cases q : S.d x with
  | none => rfl
  | some k => exact absurd ⟨x, by rw [q]; rfl⟩ h
theorem PairOk.fT {n adj rT rO T O fin} (h : PairOk n adj rT rO T O fin) (G : GraphOk n adj) : T.f ≠ [] := fun e => by
  have all := h.hT.all G h.bT.1 h.bT.2 e
  have em : ∀ x, O.d x = none := none_of fun ⟨x, hx⟩ => by
    cases q : O.d x with
    | none => rw [q] at hx; cases hx
    | some k =>
      have nd := h.hO.nd x k (h.hO.ds x k q)
      have := h.dis x (all x nd.1 nd.2)
      rw [q] at this; cases this
  exact h.ne (h.j1 em rO (all rO h.bO.1 h.bO.2)).symm
theorem PairOk.fO {n adj rT rO T O fin} (h : PairOk n adj rT rO T O fin) (G : GraphOk n adj) : O.f ≠ [] := fun e => by
  have all := h.hO.all G h.bO.1 h.bO.2 e
  have em : ∀ x, T.d x = none := none_of fun ⟨x, hx⟩ => by
    cases q : T.d x with
    | none => rw [q] at hx; cases hx
    | some k =>
      have nd := h.hT.nd x k (h.hT.ds x k q)
      have := h.dis x hx
      have h2 := all x nd.1 nd.2
      rw [this] at h2; cases h2
  exact h.ne (h.j2 em rT (all rT h.bT.1 h.bT.2))
theorem PairOk.init {n adj s t c c'} (s0 : 0 ≤ s) (sn : s < n) (t0 : 0 ≤ t) (tn : t < n) (ne : s ≠ t) :
    PairOk n adj s t ⟨fun _ => none, upd (fun _ => none) s 0, upd (fun _ => none) s none, [(0, c, s)]⟩ ⟨fun _ => none, upd (fun _ => none) t 0, upd (fun _ => none) t none, [(0, c', t)]⟩ none where
  hT := SideOk.init s0 sn
  hO := SideOk.init t0 tn
  hf := by
    intro x a hx
    simp only [upd] at hx ⊢
    split at hx
    · subst_vars; rw [if_neg ne]
    · cases hx
  dis := fun x h => by cases h
  nxt := fun _ _ => rfl
  j1 := fun _ x h => by cases h
  j2 := fun _ x h => by cases h
  ne := ne
  bT := ⟨s0, sn⟩
  bO := ⟨t0, tn⟩
theorem PairOk.stale {n adj rT rO T O fin k c v rest kv} (h : PairOk n adj rT rO T O fin) (P : Pop T k c v rest) (hv : T.d v = some kv) : PairOk n adj rO rT O { T with f := rest } fin where
  hT := h.hO
  hO := h.hT.stale P hv
  hf := (h.hf.of rfl rfl : FinOk { T with f := rest } O fin).swap
  dis := fun x hx => by
    show T.d x = none
    cases q : T.d x with
    | none => rfl
    | some y => have := h.dis x (by rw [q]; rfl); rw [this] at hx; cases hx
  nxt := fun e => by have := e v; rw [show T.d v = some kv from hv] at this; cases this
  j1 := h.j2
  j2 := h.j1
  ne := h.ne.symm
  bT := h.bO
  bO := h.bT
/-- amid a turn: v is settled at k, its ties in todo are still to be looked at -/
structure MidOk (n : Int) (adj : Adj) (rT rO : Int) (v k : Int) (todo : List (Int × Int × Int)) (T O : Side) (fin : Option (Int × Int)) : Prop where
  hT : SideOk n adj rT todo T
  hO : SideOk n adj rO [] O
  hf : FinOk T O fin
  dis : ∀ x, (T.d x).isSome = true → O.d x = none
  j1 : (∀ x, O.d x = none) → ∀ x, (T.d x).isSome = true → x = rT
  ne : rT ≠ rO
  bT : 0 ≤ rT ∧ rT < n
  bO : 0 ≤ rO ∧ rO < n
  hv : T.d v = some k
  top : ∀ y ky, T.d y = some ky → ky ≤ k
theorem SideOk.first {n adj r S x k} (h : SideOk n adj r [] S) (e : ∀ x, S.d x = none) (hx : S.s x = some k) : x = r := by
  obtain ⟨l, c, nd, t⟩ := h.ch x k hx
  cases c with
  | root q => exact h.pn x q
  | step q1 q2 q3 =>
    obtain ⟨tl, rfl⟩ := q3.head
    have := t _ (by simp only [List.tail_cons]; exact List.mem_cons_self)
    rw [e] at this; cases this
theorem PairOk.settle {n adj rT rO T O fin k c v rest} (h : PairOk n adj rT rO T O fin) (P : Pop T k c v rest) (hv : T.d v = none) (ho : O.d v = none) :
    MidOk n adj rT rO v k ((adj v).map fun e => (v, e.1, e.2)) { T with d := upd T.d v k, f := rest } O fin where
  hT := h.hT.settle P hv
  hO := h.hO
  hf := h.hf.of rfl rfl
  dis := fun x hx => by
    simp only [upd] at hx; split at hx
    · subst_vars; exact ho
    · exact h.dis x hx
  j1 := fun e x hx => by
    simp only [upd] at hx; split at hx
    · subst_vars; exact h.hT.first (h.nxt e) (h.hT.popS P hv)
    · exact h.j1 e x hx
  ne := h.ne
  bT := h.bT
  bO := h.bO
  hv := by simp [upd]
  top := h.hT.popTop P
theorem MidOk.over {n adj rT rO v k T O fin} (h : MidOk n adj rT rO v k [] T O fin) : PairOk n adj rO rT O T fin where
  hT := h.hO
  hO := h.hT
  hf := h.hf.swap
  dis := fun x hx => by
    cases q : T.d x with
    | none => rfl
    | some y => have := h.dis x (by rw [q]; rfl); rw [this] at hx; cases hx
  nxt := fun e => by have := e v; rw [h.hv] at this; cases this
  j1 := fun e => by have := e v; rw [h.hv] at this; cases this
  j2 := h.j1
  ne := h.ne.symm
  bT := h.bO
  bO := h.bT
/-- a tie to a settled node -/
theorem MidOk.settled {n adj rT rO v k w c todo T O fin kw} (h : MidOk n adj rT rO v k ((v, w, c) :: todo) T O fin) (G : GraphOk n adj) (e : (w, c) ∈ adj v) (hw : T.d w = some kw) :
    kw ≤ k + c ∧ MidOk n adj rT rO v k todo T O fin := by
  have q := SideOk.settled (S := T) G e h.top hw
  exact ⟨q, ⟨h.hT.skip h.hv (h.hT.ds _ _ hw) q, h.hO, h.hf, h.dis, h.j1, h.ne, h.bT, h.bO, h.hv, h.top⟩⟩
/-- a tie that betters nothing -/
theorem MidOk.skip {n adj rT rO v k w c todo T O fin kw} (h : MidOk n adj rT rO v k ((v, w, c) :: todo) T O fin) (hw : T.s w = some kw) (hle : kw ≤ k + c) : MidOk n adj rT rO v k todo T O fin :=
  ⟨h.hT.skip h.hv hw hle, h.hO, h.hf, h.dis, h.j1, h.ne, h.bT, h.bO, h.hv, h.top⟩
/-- what becomes of finaldist -/
def finNew (fin : Option (Int × Int)) (f w : Int) : Option (Int × Int) := match fin with
  | none => some (f, w)
  | some (f0, m) => if f0 > f then some (f, w) else some (f0, m)
def finStep (fin : Option (Int × Int)) (so : Option Int) (k w : Int) : Option (Int × Int) := match so with
  | none => fin
  | some b => finNew fin (k + b) w
theorem MidOk.improve {n adj rT rO v k w c cn todo T O fin f'} (h : MidOk n adj rT rO v k ((v, w, c) :: todo) T O fin) (G : GraphOk n adj) (e : (w, c) ∈ adj v) (hw : T.d w = none) (hb : ∀ kw, T.s w = some kw → k + c < kw)
    (hp : f'.Perm ((k + c, cn, w) :: T.f)) : MidOk n adj rT rO v k todo ⟨T.d, upd T.s w (k + c), upd T.p w (some v), f'⟩ O (finStep fin (O.s w) (k + c) w) where
  hT := h.hT.improve G e h.hv h.top hw hb hp
  hO := h.hO
  hf := by
    cases q : O.s w with
    | none => exact h.hf.far rfl q
    | some b =>
      show FinOk _ _ (finNew fin (k + c + b) w)
      cases fin with
      | none => exact h.hf.near rfl q (fun f m z => by cases z)
      | some z =>
        obtain ⟨f0, m⟩ := z
        unfold finNew
        dsimp only
        split
        · rename_i hgt
          exact h.hf.near rfl q (fun f m z => by cases z; omega)
        · rename_i hle
          exact h.hf.same rfl q rfl (by omega) (fun kw z => hb kw z)
  dis := h.dis
  j1 := h.j1
  ne := h.ne
  bT := h.bT
  bO := h.bO
  hv := h.hv
  top := h.top
theorem nodup_len : ∀ (n : Nat) {l : List Int}, l.Nodup → (∀ x ∈ l, 0 ≤ x ∧ x < n) → l.length ≤ n
  | 0, l, _, hb => by
    cases l with
    | nil => simp
    | cons x l => have := hb x (by simp); omega
  | n + 1, l, hn, hb => by
    have h2 := nodup_len n (l := l.erase (n : Int)) (hn.erase _) fun x hx => by
      have h3 := hb x (List.mem_of_mem_erase hx)
      have h4 : x ≠ (n : Int) := (hn.mem_erase_iff.mp hx).1
      omega
    by_cases h : (n : Int) ∈ l
    · rw [List.length_erase_of_mem h] at h2; omega
    · rw [List.erase_of_not_mem h] at h2; omega
/-- the list that the told nodes make: from a node, or from none, to the root -/
inductive Trail (p : Int → Option (Option Int)) : Option Int → List Int → Prop
  | nil : Trail p none []
  | cons {x : Int} {nx : Option Int} {l : List Int} : p x = some nx → Trail p nx l → Trail p (some x) (x :: l)
theorem Chain.trail {adj p x l k} (h : Chain adj p x l k) : Trail p (some x) l := by
  induction h with
  | root q => exact .cons q .nil
  | step q _ _ ih => exact .cons q ih
theorem Trail.tail {p x l} (h : Trail p (some x) l) : ∃ nx, p x = some nx ∧ Trail p nx l.tail := by
  cases h with
  | cons q r => exact ⟨_, q, r⟩
/-- the end: v is settled on both sides -/
theorem PairOk.meet {n adj rT rO T O fin k c v rest} (h : PairOk n adj rT rO T O fin) (G : GraphOk n adj) (P : Pop T k c v rest) (hv : T.d v = none) (ho : (O.d v).isSome = true) :
    ∃ f m lT lO, fin = some (f, m) ∧ Trail T.p (some m) lT ∧ Trail O.p (some m) lO ∧ Way adj rT rO f (lT.reverse ++ lO.tail) ∧ Way adj rO rT f (lO.reverse ++ lT.tail) ∧ lT.length ≤ n.toNat ∧ lO.length ≤ n.toNat := by
  obtain ⟨kb, hq⟩ := Option.isSome_iff_exists.mp ho
  obtain ⟨f, m, a, b, e1, e2, e3, e4, e5⟩ := meet_least G h.hT h.hO h.hf P hv hq
  obtain ⟨lT, c1, n1, t1⟩ := h.hT.ch m a e2
  obtain ⟨lO, c2, n2, t2⟩ := h.hO.ch m b e3
  have dis' : ∀ x, (O.d x).isSome = true → T.d x = none := fun x hx => by
    cases q : T.d x with
    | none => rfl
    | some y => have := h.dis x (by rw [q]; rfl); rw [this] at hx; cases hx
  have w1 := way_of G h.hT h.hO h.dis c1 n1 t1 c2 n2 t2 (fun L w => by rw [← e4]; exact e5 L w)
  have w2 := way_of G h.hO h.hT dis' c2 n2 t2 c1 n1 t1 (fun L w => by rw [Int.add_comm, ← e4]; exact e5 L (w.rev G))
  rw [← e4] at w1
  rw [Int.add_comm, ← e4] at w2
  have len : ∀ (l : List Int), l.Nodup → (∀ x ∈ l, 0 ≤ x ∧ x < n) → l.length ≤ n.toNat := fun l hn hb => by
    exact nodup_len n.toNat hn fun x hx => by have := hb x hx; omega
  have inr : ∀ {p : Int → Option (Option Int)} {S : Side} {r x l k}, SideOk n adj r [] S → Chain adj S.p x l k → (0 ≤ x ∧ x < n) → (∀ y ∈ l.tail, (S.d y).isSome = true) → ∀ y ∈ l, 0 ≤ y ∧ y < n := fun hS hc hx ht y hy => by
    obtain ⟨tl, rfl⟩ := hc.head
    rcases List.mem_cons.mp hy with rfl | hy
    · exact hx
    · obtain ⟨ky, hky⟩ := Option.isSome_iff_exists.mp (ht y hy)
      exact hS.nd _ _ (hS.ds _ _ hky)
  exact ⟨f, m, lT, lO, e1, c1.trail, c2.trail, w1, w2, len _ n1 (inr (p := T.p) h.hT c1 (h.hT.nd _ _ e2) t1), len _ n2 (inr (p := O.p) h.hO c2 (h.hO.nd _ _ e3) t2)⟩
end Mine
namespace Mine
open PySem PySem.Spec PySem.Calls PyProof.Rows PySem.W

/-! the heap alone: what a tree comes to, whatever the tokens -/
structure W {α : Type} (M : Model) (A : Around) (s₀ : Shared) (t : Sem α) (Q : α → Heap → Prop) (h : Heap) : Prop where
  run : ∀ tk, wpAny M A t (fun a s' => ∃ h' tk', s' = { s₀ with heap := h', toks := tk' } ∧ Q a h') (fun _ _ => False) { s₀ with heap := h, toks := tk }
structure WC (M : Model) (A : Around) (s₀ : Shared) (c : Code) (Q : Value → Heap → Prop) (h : Heap) : Prop where
  run : ∀ tk, codeAny M A c (fun r s' => ∃ v h' tk', r = .ok (.ret v) ∧ s' = { s₀ with heap := h', toks := tk' } ∧ Q v h') { s₀ with heap := h, toks := tk }
/-- a loop's code -/
structure WF (M : Model) (A : Around) (s₀ : Shared) (c : Code) (Q : Flow → Heap → Prop) (h : Heap) : Prop where
  run : ∀ tk, codeAny M A c (fun r s' => ∃ f h' tk', r = .ok f ∧ s' = { s₀ with heap := h', toks := tk' } ∧ Q f h') { s₀ with heap := h, toks := tk }

section
variable {α β : Type} {M : Model} {A : Around} {s₀ : Shared} {h : Heap}
theorem W.of {t : Sem α} {Q : α → Heap → Prop}
    (k : ∀ (tk : Nat) (Q' : α → Shared → Prop), (∀ a h' tk', Q a h' → Q' a { s₀ with heap := h', toks := tk' }) → wpAny M A t Q' (fun _ _ => False) { s₀ with heap := h, toks := tk }) : W M A s₀ t Q h :=
  ⟨fun tk => k tk _ fun _ h' tk' q => ⟨h', tk', rfl, q⟩⟩
theorem W.mono {t : Sem α} {Q Q' : α → Heap → Prop} (x : W M A s₀ t Q h) (k : ∀ a h', Q a h' → Q' a h') : W M A s₀ t Q' h :=
  ⟨fun tk => wpAny_mono (x.run tk) (fun a s' ⟨h', tk', e, q⟩ => ⟨h', tk', e, k a h' q⟩) fun _ _ e => e⟩
/-- use of a W inside a plain tree -/
theorem W.use {t : Sem α} {Q : α → Heap → Prop} {Q' : α → Shared → Prop} {E : Value → Shared → Prop} {tk : Nat} (x : W M A s₀ t Q h) (k : ∀ a h' tk', Q a h' → Q' a { s₀ with heap := h', toks := tk' }) :
    wpAny M A t Q' E { s₀ with heap := h, toks := tk } :=
  wpAny_mono (x.run tk) (fun a s' ⟨h', tk', e, q⟩ => by subst e; exact k a h' tk' q) fun _ _ e => e.elim
theorem W_bind {m : Sem α} {f : α → Sem β} {Q : β → Heap → Prop} (x : W M A s₀ m (fun a h' => W M A s₀ (f a) Q h') h) : W M A s₀ (m >>= f) Q h :=
  ⟨fun tk => wpAny_bind (x.use fun a h' tk' q => q.run tk')⟩
theorem W_pure {a : α} {Q : α → Heap → Prop} (q : Q a h) : W M A s₀ (Pure.pure a) Q h := ⟨fun tk => wpAny_pure ⟨h, tk, rfl, q⟩⟩
theorem W_call {f : Value} {pos : List Value} {kw : List (Str × Value)} {Q : Value → Heap → Prop} (x : WC M A s₀ (.call f ⟨pos, kw⟩) Q h) : W M A s₀ (call f pos kw) Q h :=
  ⟨fun tk => wpAny_call (codeAny_mono (x.run tk) fun r s' ⟨v, h', tk', e, e', q⟩ => by subst e; exact ⟨h', tk', e', q⟩)⟩
theorem WC.mono {c : Code} {Q Q' : Value → Heap → Prop} (x : WC M A s₀ c Q h) (k : ∀ a h', Q a h' → Q' a h') : WC M A s₀ c Q' h :=
  ⟨fun tk => codeAny_mono (x.run tk) fun _ _ ⟨v, h', tk', e, e', q⟩ => ⟨v, h', tk', e, e', k v h' q⟩⟩
theorem WC.use {c : Code} {Q : Value → Heap → Prop} {R : Result → Shared → Prop} {tk : Nat} (x : WC M A s₀ c Q h) (k : ∀ v h' tk', Q v h' → R (.ok (.ret v)) { s₀ with heap := h', toks := tk' }) :
    codeAny M A c R { s₀ with heap := h, toks := tk } :=
  codeAny_mono (x.run tk) fun _ _ ⟨v, h', tk', e, e', q⟩ => by subst e; subst e'; exact k v h' tk' q
theorem WF.use {c : Code} {Q : Flow → Heap → Prop} {R : Result → Shared → Prop} {tk : Nat} (x : WF M A s₀ c Q h) (k : ∀ v h' tk', Q v h' → R (.ok v) { s₀ with heap := h', toks := tk' }) :
    codeAny M A c R { s₀ with heap := h, toks := tk } :=
  codeAny_mono (x.run tk) fun _ _ ⟨v, h', tk', e, e', q⟩ => by subst e; subst e'; exact k v h' tk' q
end

/-! the frame -/
abbrev Loc := List (Str × Option Value)
inductive Put (x : Str) (v : Value) : Loc → Loc → Prop
  | head {u r} : Put x v ((x, u) :: r) ((x, some v) :: r)
  | tail {p r r'} : Put x v r r' → Put x v (p :: r) (p :: r')
theorem Put.names {x v ls ls'} (U : Put x v ls ls') : ls'.map (·.1) = ls.map (·.1) := by
  induction U with
  | head => rfl
  | tail _ ih => simp [ih]
theorem Put.name {x v ls ls'} (U : Put x v ls ls') : x ∈ ls.map (·.1) := by
  induction U with
  | head => simp
  | tail _ ih => exact List.mem_cons_of_mem _ ih
theorem Put.vals {x v ls ls'} (U : Put x v ls ls') (nd : (ls.map (·.1)).Nodup) : ∀ p ∈ ls', p = (x, some v) ∨ (p.1 ≠ x ∧ p ∈ ls) := by
  induction U with
  | @head u r =>
    intro p hp
    rcases List.mem_cons.mp hp with rfl | hp
    · exact .inl rfl
    · rw [List.map_cons, List.nodup_cons] at nd
      refine .inr ⟨?_, List.mem_cons_of_mem _ hp⟩
      intro e
      exact nd.1 (List.mem_map.mpr ⟨p, hp, e⟩)
  | @tail q r r' U ih =>
    rw [List.map_cons, List.nodup_cons] at nd
    intro p hp
    rcases List.mem_cons.mp hp with rfl | hp
    · refine .inr ⟨?_, by simp⟩
      intro e
      exact nd.1 (e ▸ U.name)
    · rcases ih nd.2 p hp with h | h
      · exact .inl h
      · exact .inr ⟨h.1, List.mem_cons_of_mem _ h.2⟩

/-- the own objects: (address, object), one changed -/
inductive Upd1 (a : Addr) (o o' : Obj) : List (Addr × Obj) → List (Addr × Obj) → Prop
  | head {r} : Upd1 a o o' ((a, o) :: r) ((a, o') :: r)
  | tail {p r r'} : Upd1 a o o' r r' → Upd1 a o o' (p :: r) (p :: r')
theorem Upd1.addrs {a o o' l l'} (U : Upd1 a o o' l l') : l'.map (·.1) = l.map (·.1) := by
  induction U with
  | head => rfl
  | tail _ ih => simp [ih]
theorem Upd1.mem {a o o' l l'} (U : Upd1 a o o' l l') : (a, o) ∈ l := by
  induction U with
  | head => simp
  | tail _ ih => exact List.mem_cons_of_mem _ ih
theorem Upd1.vals {a o o' l l'} (U : Upd1 a o o' l l') (nd : (l.map (·.1)).Nodup) : ∀ p ∈ l', p = (a, o') ∨ (p.1 ≠ a ∧ p ∈ l) := by
  induction U with
  | head =>
    intro p hp
    rcases List.mem_cons.mp hp with rfl | hp
    · exact .inl rfl
    · rw [List.map_cons, List.nodup_cons] at nd
      exact .inr ⟨fun e => nd.1 (List.mem_map.mpr ⟨p, hp, e⟩), List.mem_cons_of_mem _ hp⟩
  | tail U ih =>
    rw [List.map_cons, List.nodup_cons] at nd
    intro p hp
    rcases List.mem_cons.mp hp with rfl | hp
    · exact .inr ⟨fun e => nd.1 (List.mem_map.mpr ⟨_, U.mem, e.symm⟩), by simp⟩
    · rcases ih nd.2 p hp with h | h
      · exact .inl h
      · exact .inr ⟨h.1, List.mem_cons_of_mem _ h.2⟩

section
variable {α : Type} {r : List α}
theorem mm0 {a0 : α} : a0 ∈ a0 :: r := List.mem_cons_self
theorem mm1 {a0 a1 : α} : a1 ∈ a0 :: a1 :: r := List.mem_cons_of_mem _ mm0
theorem mm2 {a0 a1 a2 : α} : a2 ∈ a0 :: a1 :: a2 :: r := List.mem_cons_of_mem _ mm1
theorem mm3 {a0 a1 a2 a3 : α} : a3 ∈ a0 :: a1 :: a2 :: a3 :: r := List.mem_cons_of_mem _ mm2
theorem mm4 {a0 a1 a2 a3 a4 : α} : a4 ∈ a0 :: a1 :: a2 :: a3 :: a4 :: r := List.mem_cons_of_mem _ mm3
theorem mm5 {a0 a1 a2 a3 a4 a5 : α} : a5 ∈ a0 :: a1 :: a2 :: a3 :: a4 :: a5 :: r := List.mem_cons_of_mem _ mm4
theorem mm6 {a0 a1 a2 a3 a4 a5 a6 : α} : a6 ∈ a0 :: a1 :: a2 :: a3 :: a4 :: a5 :: a6 :: r := List.mem_cons_of_mem _ mm5
theorem mm7 {a0 a1 a2 a3 a4 a5 a6 a7 : α} : a7 ∈ a0 :: a1 :: a2 :: a3 :: a4 :: a5 :: a6 :: a7 :: r := List.mem_cons_of_mem _ mm6
theorem mm8 {a0 a1 a2 a3 a4 a5 a6 a7 a8 : α} : a8 ∈ a0 :: a1 :: a2 :: a3 :: a4 :: a5 :: a6 :: a7 :: a8 :: r := List.mem_cons_of_mem _ mm7
theorem mm9 {a0 a1 a2 a3 a4 a5 a6 a7 a8 a9 : α} : a9 ∈ a0 :: a1 :: a2 :: a3 :: a4 :: a5 :: a6 :: a7 :: a8 :: a9 :: r := List.mem_cons_of_mem _ mm8
theorem mm10 {a0 a1 a2 a3 a4 a5 a6 a7 a8 a9 a10 : α} : a10 ∈ a0 :: a1 :: a2 :: a3 :: a4 :: a5 :: a6 :: a7 :: a8 :: a9 :: a10 :: r := List.mem_cons_of_mem _ mm9
theorem mm11 {a0 a1 a2 a3 a4 a5 a6 a7 a8 a9 a10 a11 : α} : a11 ∈ a0 :: a1 :: a2 :: a3 :: a4 :: a5 :: a6 :: a7 :: a8 :: a9 :: a10 :: a11 :: r := List.mem_cons_of_mem _ mm10
theorem mm12 {a0 a1 a2 a3 a4 a5 a6 a7 a8 a9 a10 a11 a12 : α} : a12 ∈ a0 :: a1 :: a2 :: a3 :: a4 :: a5 :: a6 :: a7 :: a8 :: a9 :: a10 :: a11 :: a12 :: r := List.mem_cons_of_mem _ mm11
theorem mm13 {a0 a1 a2 a3 a4 a5 a6 a7 a8 a9 a10 a11 a12 a13 : α} : a13 ∈ a0 :: a1 :: a2 :: a3 :: a4 :: a5 :: a6 :: a7 :: a8 :: a9 :: a10 :: a11 :: a12 :: a13 :: r := List.mem_cons_of_mem _ mm12
theorem mm14 {a0 a1 a2 a3 a4 a5 a6 a7 a8 a9 a10 a11 a12 a13 a14 : α} : a14 ∈ a0 :: a1 :: a2 :: a3 :: a4 :: a5 :: a6 :: a7 :: a8 :: a9 :: a10 :: a11 :: a12 :: a13 :: a14 :: r := List.mem_cons_of_mem _ mm13
theorem mm15 {a0 a1 a2 a3 a4 a5 a6 a7 a8 a9 a10 a11 a12 a13 a14 a15 : α} : a15 ∈ a0 :: a1 :: a2 :: a3 :: a4 :: a5 :: a6 :: a7 :: a8 :: a9 :: a10 :: a11 :: a12 :: a13 :: a14 :: a15 :: r := List.mem_cons_of_mem _ mm14
theorem mm16 {a0 a1 a2 a3 a4 a5 a6 a7 a8 a9 a10 a11 a12 a13 a14 a15 a16 : α} : a16 ∈ a0 :: a1 :: a2 :: a3 :: a4 :: a5 :: a6 :: a7 :: a8 :: a9 :: a10 :: a11 :: a12 :: a13 :: a14 :: a15 :: a16 :: r := List.mem_cons_of_mem _ mm15
theorem mm17 {a0 a1 a2 a3 a4 a5 a6 a7 a8 a9 a10 a11 a12 a13 a14 a15 a16 a17 : α} : a17 ∈ a0 :: a1 :: a2 :: a3 :: a4 :: a5 :: a6 :: a7 :: a8 :: a9 :: a10 :: a11 :: a12 :: a13 :: a14 :: a15 :: a16 :: a17 :: r := List.mem_cons_of_mem _ mm16
theorem mm18 {a0 a1 a2 a3 a4 a5 a6 a7 a8 a9 a10 a11 a12 a13 a14 a15 a16 a17 a18 : α} : a18 ∈ a0 :: a1 :: a2 :: a3 :: a4 :: a5 :: a6 :: a7 :: a8 :: a9 :: a10 :: a11 :: a12 :: a13 :: a14 :: a15 :: a16 :: a17 :: a18 :: r := List.mem_cons_of_mem _ mm17
theorem mm19 {a0 a1 a2 a3 a4 a5 a6 a7 a8 a9 a10 a11 a12 a13 a14 a15 a16 a17 a18 a19 : α} : a19 ∈ a0 :: a1 :: a2 :: a3 :: a4 :: a5 :: a6 :: a7 :: a8 :: a9 :: a10 :: a11 :: a12 :: a13 :: a14 :: a15 :: a16 :: a17 :: a18 :: a19 :: r := List.mem_cons_of_mem _ mm18
theorem mm20 {a0 a1 a2 a3 a4 a5 a6 a7 a8 a9 a10 a11 a12 a13 a14 a15 a16 a17 a18 a19 a20 : α} : a20 ∈ a0 :: a1 :: a2 :: a3 :: a4 :: a5 :: a6 :: a7 :: a8 :: a9 :: a10 :: a11 :: a12 :: a13 :: a14 :: a15 :: a16 :: a17 :: a18 :: a19 :: a20 :: r := List.mem_cons_of_mem _ mm19
theorem mm21 {a0 a1 a2 a3 a4 a5 a6 a7 a8 a9 a10 a11 a12 a13 a14 a15 a16 a17 a18 a19 a20 a21 : α} : a21 ∈ a0 :: a1 :: a2 :: a3 :: a4 :: a5 :: a6 :: a7 :: a8 :: a9 :: a10 :: a11 :: a12 :: a13 :: a14 :: a15 :: a16 :: a17 :: a18 :: a19 :: a20 :: a21 :: r := List.mem_cons_of_mem _ mm20
theorem mm22 {a0 a1 a2 a3 a4 a5 a6 a7 a8 a9 a10 a11 a12 a13 a14 a15 a16 a17 a18 a19 a20 a21 a22 : α} : a22 ∈ a0 :: a1 :: a2 :: a3 :: a4 :: a5 :: a6 :: a7 :: a8 :: a9 :: a10 :: a11 :: a12 :: a13 :: a14 :: a15 :: a16 :: a17 :: a18 :: a19 :: a20 :: a21 :: a22 :: r := List.mem_cons_of_mem _ mm21
theorem mm23 {a0 a1 a2 a3 a4 a5 a6 a7 a8 a9 a10 a11 a12 a13 a14 a15 a16 a17 a18 a19 a20 a21 a22 a23 : α} : a23 ∈ a0 :: a1 :: a2 :: a3 :: a4 :: a5 :: a6 :: a7 :: a8 :: a9 :: a10 :: a11 :: a12 :: a13 :: a14 :: a15 :: a16 :: a17 :: a18 :: a19 :: a20 :: a21 :: a22 :: a23 :: r := List.mem_cons_of_mem _ mm22
theorem mm24 {a0 a1 a2 a3 a4 a5 a6 a7 a8 a9 a10 a11 a12 a13 a14 a15 a16 a17 a18 a19 a20 a21 a22 a23 a24 : α} : a24 ∈ a0 :: a1 :: a2 :: a3 :: a4 :: a5 :: a6 :: a7 :: a8 :: a9 :: a10 :: a11 :: a12 :: a13 :: a14 :: a15 :: a16 :: a17 :: a18 :: a19 :: a20 :: a21 :: a22 :: a23 :: a24 :: r := List.mem_cons_of_mem _ mm23
theorem mm25 {a0 a1 a2 a3 a4 a5 a6 a7 a8 a9 a10 a11 a12 a13 a14 a15 a16 a17 a18 a19 a20 a21 a22 a23 a24 a25 : α} : a25 ∈ a0 :: a1 :: a2 :: a3 :: a4 :: a5 :: a6 :: a7 :: a8 :: a9 :: a10 :: a11 :: a12 :: a13 :: a14 :: a15 :: a16 :: a17 :: a18 :: a19 :: a20 :: a21 :: a22 :: a23 :: a24 :: a25 :: r := List.mem_cons_of_mem _ mm24
theorem mm26 {a0 a1 a2 a3 a4 a5 a6 a7 a8 a9 a10 a11 a12 a13 a14 a15 a16 a17 a18 a19 a20 a21 a22 a23 a24 a25 a26 : α} : a26 ∈ a0 :: a1 :: a2 :: a3 :: a4 :: a5 :: a6 :: a7 :: a8 :: a9 :: a10 :: a11 :: a12 :: a13 :: a14 :: a15 :: a16 :: a17 :: a18 :: a19 :: a20 :: a21 :: a22 :: a23 :: a24 :: a25 :: a26 :: r := List.mem_cons_of_mem _ mm25
theorem mm27 {a0 a1 a2 a3 a4 a5 a6 a7 a8 a9 a10 a11 a12 a13 a14 a15 a16 a17 a18 a19 a20 a21 a22 a23 a24 a25 a26 a27 : α} : a27 ∈ a0 :: a1 :: a2 :: a3 :: a4 :: a5 :: a6 :: a7 :: a8 :: a9 :: a10 :: a11 :: a12 :: a13 :: a14 :: a15 :: a16 :: a17 :: a18 :: a19 :: a20 :: a21 :: a22 :: a23 :: a24 :: a25 :: a26 :: a27 :: r := List.mem_cons_of_mem _ mm26
theorem mm28 {a0 a1 a2 a3 a4 a5 a6 a7 a8 a9 a10 a11 a12 a13 a14 a15 a16 a17 a18 a19 a20 a21 a22 a23 a24 a25 a26 a27 a28 : α} : a28 ∈ a0 :: a1 :: a2 :: a3 :: a4 :: a5 :: a6 :: a7 :: a8 :: a9 :: a10 :: a11 :: a12 :: a13 :: a14 :: a15 :: a16 :: a17 :: a18 :: a19 :: a20 :: a21 :: a22 :: a23 :: a24 :: a25 :: a26 :: a27 :: a28 :: r := List.mem_cons_of_mem _ mm27
theorem mm29 {a0 a1 a2 a3 a4 a5 a6 a7 a8 a9 a10 a11 a12 a13 a14 a15 a16 a17 a18 a19 a20 a21 a22 a23 a24 a25 a26 a27 a28 a29 : α} : a29 ∈ a0 :: a1 :: a2 :: a3 :: a4 :: a5 :: a6 :: a7 :: a8 :: a9 :: a10 :: a11 :: a12 :: a13 :: a14 :: a15 :: a16 :: a17 :: a18 :: a19 :: a20 :: a21 :: a22 :: a23 :: a24 :: a25 :: a26 :: a27 :: a28 :: a29 :: r := List.mem_cons_of_mem _ mm28
end
section
variable {x : Str} {v : Value} {u : Option Value} {r : Loc}
theorem pp0 : Put x v ((x, u) :: r) ((x, some v) :: r) := Put.head
theorem pp1 {a0 : Str × Option Value} : Put x v (a0 :: (x, u) :: r) (a0 :: (x, some v) :: r) := Put.tail pp0
theorem pp2 {a0 a1 : Str × Option Value} : Put x v (a0 :: a1 :: (x, u) :: r) (a0 :: a1 :: (x, some v) :: r) := Put.tail pp1
theorem pp3 {a0 a1 a2 : Str × Option Value} : Put x v (a0 :: a1 :: a2 :: (x, u) :: r) (a0 :: a1 :: a2 :: (x, some v) :: r) := Put.tail pp2
theorem pp4 {a0 a1 a2 a3 : Str × Option Value} : Put x v (a0 :: a1 :: a2 :: a3 :: (x, u) :: r) (a0 :: a1 :: a2 :: a3 :: (x, some v) :: r) := Put.tail pp3
theorem pp5 {a0 a1 a2 a3 a4 : Str × Option Value} : Put x v (a0 :: a1 :: a2 :: a3 :: a4 :: (x, u) :: r) (a0 :: a1 :: a2 :: a3 :: a4 :: (x, some v) :: r) := Put.tail pp4
theorem pp6 {a0 a1 a2 a3 a4 a5 : Str × Option Value} : Put x v (a0 :: a1 :: a2 :: a3 :: a4 :: a5 :: (x, u) :: r) (a0 :: a1 :: a2 :: a3 :: a4 :: a5 :: (x, some v) :: r) := Put.tail pp5
theorem pp7 {a0 a1 a2 a3 a4 a5 a6 : Str × Option Value} : Put x v (a0 :: a1 :: a2 :: a3 :: a4 :: a5 :: a6 :: (x, u) :: r) (a0 :: a1 :: a2 :: a3 :: a4 :: a5 :: a6 :: (x, some v) :: r) := Put.tail pp6
theorem pp8 {a0 a1 a2 a3 a4 a5 a6 a7 : Str × Option Value} : Put x v (a0 :: a1 :: a2 :: a3 :: a4 :: a5 :: a6 :: a7 :: (x, u) :: r) (a0 :: a1 :: a2 :: a3 :: a4 :: a5 :: a6 :: a7 :: (x, some v) :: r) := Put.tail pp7
theorem pp9 {a0 a1 a2 a3 a4 a5 a6 a7 a8 : Str × Option Value} : Put x v (a0 :: a1 :: a2 :: a3 :: a4 :: a5 :: a6 :: a7 :: a8 :: (x, u) :: r) (a0 :: a1 :: a2 :: a3 :: a4 :: a5 :: a6 :: a7 :: a8 :: (x, some v) :: r) := Put.tail pp8
theorem pp10 {a0 a1 a2 a3 a4 a5 a6 a7 a8 a9 : Str × Option Value} : Put x v (a0 :: a1 :: a2 :: a3 :: a4 :: a5 :: a6 :: a7 :: a8 :: a9 :: (x, u) :: r) (a0 :: a1 :: a2 :: a3 :: a4 :: a5 :: a6 :: a7 :: a8 :: a9 :: (x, some v) :: r) := Put.tail pp9
theorem pp11 {a0 a1 a2 a3 a4 a5 a6 a7 a8 a9 a10 : Str × Option Value} : Put x v (a0 :: a1 :: a2 :: a3 :: a4 :: a5 :: a6 :: a7 :: a8 :: a9 :: a10 :: (x, u) :: r) (a0 :: a1 :: a2 :: a3 :: a4 :: a5 :: a6 :: a7 :: a8 :: a9 :: a10 :: (x, some v) :: r) := Put.tail pp10
theorem pp12 {a0 a1 a2 a3 a4 a5 a6 a7 a8 a9 a10 a11 : Str × Option Value} : Put x v (a0 :: a1 :: a2 :: a3 :: a4 :: a5 :: a6 :: a7 :: a8 :: a9 :: a10 :: a11 :: (x, u) :: r) (a0 :: a1 :: a2 :: a3 :: a4 :: a5 :: a6 :: a7 :: a8 :: a9 :: a10 :: a11 :: (x, some v) :: r) := Put.tail pp11
theorem pp13 {a0 a1 a2 a3 a4 a5 a6 a7 a8 a9 a10 a11 a12 : Str × Option Value} : Put x v (a0 :: a1 :: a2 :: a3 :: a4 :: a5 :: a6 :: a7 :: a8 :: a9 :: a10 :: a11 :: a12 :: (x, u) :: r) (a0 :: a1 :: a2 :: a3 :: a4 :: a5 :: a6 :: a7 :: a8 :: a9 :: a10 :: a11 :: a12 :: (x, some v) :: r) := Put.tail pp12
theorem pp14 {a0 a1 a2 a3 a4 a5 a6 a7 a8 a9 a10 a11 a12 a13 : Str × Option Value} : Put x v (a0 :: a1 :: a2 :: a3 :: a4 :: a5 :: a6 :: a7 :: a8 :: a9 :: a10 :: a11 :: a12 :: a13 :: (x, u) :: r) (a0 :: a1 :: a2 :: a3 :: a4 :: a5 :: a6 :: a7 :: a8 :: a9 :: a10 :: a11 :: a12 :: a13 :: (x, some v) :: r) := Put.tail pp13
theorem pp15 {a0 a1 a2 a3 a4 a5 a6 a7 a8 a9 a10 a11 a12 a13 a14 : Str × Option Value} : Put x v (a0 :: a1 :: a2 :: a3 :: a4 :: a5 :: a6 :: a7 :: a8 :: a9 :: a10 :: a11 :: a12 :: a13 :: a14 :: (x, u) :: r) (a0 :: a1 :: a2 :: a3 :: a4 :: a5 :: a6 :: a7 :: a8 :: a9 :: a10 :: a11 :: a12 :: a13 :: a14 :: (x, some v) :: r) := Put.tail pp14
theorem pp16 {a0 a1 a2 a3 a4 a5 a6 a7 a8 a9 a10 a11 a12 a13 a14 a15 : Str × Option Value} : Put x v (a0 :: a1 :: a2 :: a3 :: a4 :: a5 :: a6 :: a7 :: a8 :: a9 :: a10 :: a11 :: a12 :: a13 :: a14 :: a15 :: (x, u) :: r) (a0 :: a1 :: a2 :: a3 :: a4 :: a5 :: a6 :: a7 :: a8 :: a9 :: a10 :: a11 :: a12 :: a13 :: a14 :: a15 :: (x, some v) :: r) := Put.tail pp15
theorem pp17 {a0 a1 a2 a3 a4 a5 a6 a7 a8 a9 a10 a11 a12 a13 a14 a15 a16 : Str × Option Value} : Put x v (a0 :: a1 :: a2 :: a3 :: a4 :: a5 :: a6 :: a7 :: a8 :: a9 :: a10 :: a11 :: a12 :: a13 :: a14 :: a15 :: a16 :: (x, u) :: r) (a0 :: a1 :: a2 :: a3 :: a4 :: a5 :: a6 :: a7 :: a8 :: a9 :: a10 :: a11 :: a12 :: a13 :: a14 :: a15 :: a16 :: (x, some v) :: r) := Put.tail pp16
theorem pp18 {a0 a1 a2 a3 a4 a5 a6 a7 a8 a9 a10 a11 a12 a13 a14 a15 a16 a17 : Str × Option Value} : Put x v (a0 :: a1 :: a2 :: a3 :: a4 :: a5 :: a6 :: a7 :: a8 :: a9 :: a10 :: a11 :: a12 :: a13 :: a14 :: a15 :: a16 :: a17 :: (x, u) :: r) (a0 :: a1 :: a2 :: a3 :: a4 :: a5 :: a6 :: a7 :: a8 :: a9 :: a10 :: a11 :: a12 :: a13 :: a14 :: a15 :: a16 :: a17 :: (x, some v) :: r) := Put.tail pp17
theorem pp19 {a0 a1 a2 a3 a4 a5 a6 a7 a8 a9 a10 a11 a12 a13 a14 a15 a16 a17 a18 : Str × Option Value} : Put x v (a0 :: a1 :: a2 :: a3 :: a4 :: a5 :: a6 :: a7 :: a8 :: a9 :: a10 :: a11 :: a12 :: a13 :: a14 :: a15 :: a16 :: a17 :: a18 :: (x, u) :: r) (a0 :: a1 :: a2 :: a3 :: a4 :: a5 :: a6 :: a7 :: a8 :: a9 :: a10 :: a11 :: a12 :: a13 :: a14 :: a15 :: a16 :: a17 :: a18 :: (x, some v) :: r) := Put.tail pp18
theorem pp20 {a0 a1 a2 a3 a4 a5 a6 a7 a8 a9 a10 a11 a12 a13 a14 a15 a16 a17 a18 a19 : Str × Option Value} : Put x v (a0 :: a1 :: a2 :: a3 :: a4 :: a5 :: a6 :: a7 :: a8 :: a9 :: a10 :: a11 :: a12 :: a13 :: a14 :: a15 :: a16 :: a17 :: a18 :: a19 :: (x, u) :: r) (a0 :: a1 :: a2 :: a3 :: a4 :: a5 :: a6 :: a7 :: a8 :: a9 :: a10 :: a11 :: a12 :: a13 :: a14 :: a15 :: a16 :: a17 :: a18 :: a19 :: (x, some v) :: r) := Put.tail pp19
theorem pp21 {a0 a1 a2 a3 a4 a5 a6 a7 a8 a9 a10 a11 a12 a13 a14 a15 a16 a17 a18 a19 a20 : Str × Option Value} : Put x v (a0 :: a1 :: a2 :: a3 :: a4 :: a5 :: a6 :: a7 :: a8 :: a9 :: a10 :: a11 :: a12 :: a13 :: a14 :: a15 :: a16 :: a17 :: a18 :: a19 :: a20 :: (x, u) :: r) (a0 :: a1 :: a2 :: a3 :: a4 :: a5 :: a6 :: a7 :: a8 :: a9 :: a10 :: a11 :: a12 :: a13 :: a14 :: a15 :: a16 :: a17 :: a18 :: a19 :: a20 :: (x, some v) :: r) := Put.tail pp20
theorem pp22 {a0 a1 a2 a3 a4 a5 a6 a7 a8 a9 a10 a11 a12 a13 a14 a15 a16 a17 a18 a19 a20 a21 : Str × Option Value} : Put x v (a0 :: a1 :: a2 :: a3 :: a4 :: a5 :: a6 :: a7 :: a8 :: a9 :: a10 :: a11 :: a12 :: a13 :: a14 :: a15 :: a16 :: a17 :: a18 :: a19 :: a20 :: a21 :: (x, u) :: r) (a0 :: a1 :: a2 :: a3 :: a4 :: a5 :: a6 :: a7 :: a8 :: a9 :: a10 :: a11 :: a12 :: a13 :: a14 :: a15 :: a16 :: a17 :: a18 :: a19 :: a20 :: a21 :: (x, some v) :: r) := Put.tail pp21
theorem pp23 {a0 a1 a2 a3 a4 a5 a6 a7 a8 a9 a10 a11 a12 a13 a14 a15 a16 a17 a18 a19 a20 a21 a22 : Str × Option Value} : Put x v (a0 :: a1 :: a2 :: a3 :: a4 :: a5 :: a6 :: a7 :: a8 :: a9 :: a10 :: a11 :: a12 :: a13 :: a14 :: a15 :: a16 :: a17 :: a18 :: a19 :: a20 :: a21 :: a22 :: (x, u) :: r) (a0 :: a1 :: a2 :: a3 :: a4 :: a5 :: a6 :: a7 :: a8 :: a9 :: a10 :: a11 :: a12 :: a13 :: a14 :: a15 :: a16 :: a17 :: a18 :: a19 :: a20 :: a21 :: a22 :: (x, some v) :: r) := Put.tail pp22
theorem pp24 {a0 a1 a2 a3 a4 a5 a6 a7 a8 a9 a10 a11 a12 a13 a14 a15 a16 a17 a18 a19 a20 a21 a22 a23 : Str × Option Value} : Put x v (a0 :: a1 :: a2 :: a3 :: a4 :: a5 :: a6 :: a7 :: a8 :: a9 :: a10 :: a11 :: a12 :: a13 :: a14 :: a15 :: a16 :: a17 :: a18 :: a19 :: a20 :: a21 :: a22 :: a23 :: (x, u) :: r) (a0 :: a1 :: a2 :: a3 :: a4 :: a5 :: a6 :: a7 :: a8 :: a9 :: a10 :: a11 :: a12 :: a13 :: a14 :: a15 :: a16 :: a17 :: a18 :: a19 :: a20 :: a21 :: a22 :: a23 :: (x, some v) :: r) := Put.tail pp23
theorem pp25 {a0 a1 a2 a3 a4 a5 a6 a7 a8 a9 a10 a11 a12 a13 a14 a15 a16 a17 a18 a19 a20 a21 a22 a23 a24 : Str × Option Value} : Put x v (a0 :: a1 :: a2 :: a3 :: a4 :: a5 :: a6 :: a7 :: a8 :: a9 :: a10 :: a11 :: a12 :: a13 :: a14 :: a15 :: a16 :: a17 :: a18 :: a19 :: a20 :: a21 :: a22 :: a23 :: a24 :: (x, u) :: r) (a0 :: a1 :: a2 :: a3 :: a4 :: a5 :: a6 :: a7 :: a8 :: a9 :: a10 :: a11 :: a12 :: a13 :: a14 :: a15 :: a16 :: a17 :: a18 :: a19 :: a20 :: a21 :: a22 :: a23 :: a24 :: (x, some v) :: r) := Put.tail pp24
theorem pp26 {a0 a1 a2 a3 a4 a5 a6 a7 a8 a9 a10 a11 a12 a13 a14 a15 a16 a17 a18 a19 a20 a21 a22 a23 a24 a25 : Str × Option Value} : Put x v (a0 :: a1 :: a2 :: a3 :: a4 :: a5 :: a6 :: a7 :: a8 :: a9 :: a10 :: a11 :: a12 :: a13 :: a14 :: a15 :: a16 :: a17 :: a18 :: a19 :: a20 :: a21 :: a22 :: a23 :: a24 :: a25 :: (x, u) :: r) (a0 :: a1 :: a2 :: a3 :: a4 :: a5 :: a6 :: a7 :: a8 :: a9 :: a10 :: a11 :: a12 :: a13 :: a14 :: a15 :: a16 :: a17 :: a18 :: a19 :: a20 :: a21 :: a22 :: a23 :: a24 :: a25 :: (x, some v) :: r) := Put.tail pp25
theorem pp27 {a0 a1 a2 a3 a4 a5 a6 a7 a8 a9 a10 a11 a12 a13 a14 a15 a16 a17 a18 a19 a20 a21 a22 a23 a24 a25 a26 : Str × Option Value} : Put x v (a0 :: a1 :: a2 :: a3 :: a4 :: a5 :: a6 :: a7 :: a8 :: a9 :: a10 :: a11 :: a12 :: a13 :: a14 :: a15 :: a16 :: a17 :: a18 :: a19 :: a20 :: a21 :: a22 :: a23 :: a24 :: a25 :: a26 :: (x, u) :: r) (a0 :: a1 :: a2 :: a3 :: a4 :: a5 :: a6 :: a7 :: a8 :: a9 :: a10 :: a11 :: a12 :: a13 :: a14 :: a15 :: a16 :: a17 :: a18 :: a19 :: a20 :: a21 :: a22 :: a23 :: a24 :: a25 :: a26 :: (x, some v) :: r) := Put.tail pp26
theorem pp28 {a0 a1 a2 a3 a4 a5 a6 a7 a8 a9 a10 a11 a12 a13 a14 a15 a16 a17 a18 a19 a20 a21 a22 a23 a24 a25 a26 a27 : Str × Option Value} : Put x v (a0 :: a1 :: a2 :: a3 :: a4 :: a5 :: a6 :: a7 :: a8 :: a9 :: a10 :: a11 :: a12 :: a13 :: a14 :: a15 :: a16 :: a17 :: a18 :: a19 :: a20 :: a21 :: a22 :: a23 :: a24 :: a25 :: a26 :: a27 :: (x, u) :: r) (a0 :: a1 :: a2 :: a3 :: a4 :: a5 :: a6 :: a7 :: a8 :: a9 :: a10 :: a11 :: a12 :: a13 :: a14 :: a15 :: a16 :: a17 :: a18 :: a19 :: a20 :: a21 :: a22 :: a23 :: a24 :: a25 :: a26 :: a27 :: (x, some v) :: r) := Put.tail pp27
theorem pp29 {a0 a1 a2 a3 a4 a5 a6 a7 a8 a9 a10 a11 a12 a13 a14 a15 a16 a17 a18 a19 a20 a21 a22 a23 a24 a25 a26 a27 a28 : Str × Option Value} : Put x v (a0 :: a1 :: a2 :: a3 :: a4 :: a5 :: a6 :: a7 :: a8 :: a9 :: a10 :: a11 :: a12 :: a13 :: a14 :: a15 :: a16 :: a17 :: a18 :: a19 :: a20 :: a21 :: a22 :: a23 :: a24 :: a25 :: a26 :: a27 :: a28 :: (x, u) :: r) (a0 :: a1 :: a2 :: a3 :: a4 :: a5 :: a6 :: a7 :: a8 :: a9 :: a10 :: a11 :: a12 :: a13 :: a14 :: a15 :: a16 :: a17 :: a18 :: a19 :: a20 :: a21 :: a22 :: a23 :: a24 :: a25 :: a26 :: a27 :: a28 :: (x, some v) :: r) := Put.tail pp28
end
section
variable {a : Addr} {o o' : Obj} {r : List (Addr × Obj)}
theorem uu0 : Upd1 a o o' ((a, o) :: r) ((a, o') :: r) := Upd1.head
theorem uu1 {a0 : Addr × Obj} : Upd1 a o o' (a0 :: (a, o) :: r) (a0 :: (a, o') :: r) := Upd1.tail uu0
theorem uu2 {a0 a1 : Addr × Obj} : Upd1 a o o' (a0 :: a1 :: (a, o) :: r) (a0 :: a1 :: (a, o') :: r) := Upd1.tail uu1
theorem uu3 {a0 a1 a2 : Addr × Obj} : Upd1 a o o' (a0 :: a1 :: a2 :: (a, o) :: r) (a0 :: a1 :: a2 :: (a, o') :: r) := Upd1.tail uu2
theorem uu4 {a0 a1 a2 a3 : Addr × Obj} : Upd1 a o o' (a0 :: a1 :: a2 :: a3 :: (a, o) :: r) (a0 :: a1 :: a2 :: a3 :: (a, o') :: r) := Upd1.tail uu3
theorem uu5 {a0 a1 a2 a3 a4 : Addr × Obj} : Upd1 a o o' (a0 :: a1 :: a2 :: a3 :: a4 :: (a, o) :: r) (a0 :: a1 :: a2 :: a3 :: a4 :: (a, o') :: r) := Upd1.tail uu4
theorem uu6 {a0 a1 a2 a3 a4 a5 : Addr × Obj} : Upd1 a o o' (a0 :: a1 :: a2 :: a3 :: a4 :: a5 :: (a, o) :: r) (a0 :: a1 :: a2 :: a3 :: a4 :: a5 :: (a, o') :: r) := Upd1.tail uu5
theorem uu7 {a0 a1 a2 a3 a4 a5 a6 : Addr × Obj} : Upd1 a o o' (a0 :: a1 :: a2 :: a3 :: a4 :: a5 :: a6 :: (a, o) :: r) (a0 :: a1 :: a2 :: a3 :: a4 :: a5 :: a6 :: (a, o') :: r) := Upd1.tail uu6
theorem uu8 {a0 a1 a2 a3 a4 a5 a6 a7 : Addr × Obj} : Upd1 a o o' (a0 :: a1 :: a2 :: a3 :: a4 :: a5 :: a6 :: a7 :: (a, o) :: r) (a0 :: a1 :: a2 :: a3 :: a4 :: a5 :: a6 :: a7 :: (a, o') :: r) := Upd1.tail uu7
theorem uu9 {a0 a1 a2 a3 a4 a5 a6 a7 a8 : Addr × Obj} : Upd1 a o o' (a0 :: a1 :: a2 :: a3 :: a4 :: a5 :: a6 :: a7 :: a8 :: (a, o) :: r) (a0 :: a1 :: a2 :: a3 :: a4 :: a5 :: a6 :: a7 :: a8 :: (a, o') :: r) := Upd1.tail uu8
theorem uu10 {a0 a1 a2 a3 a4 a5 a6 a7 a8 a9 : Addr × Obj} : Upd1 a o o' (a0 :: a1 :: a2 :: a3 :: a4 :: a5 :: a6 :: a7 :: a8 :: a9 :: (a, o) :: r) (a0 :: a1 :: a2 :: a3 :: a4 :: a5 :: a6 :: a7 :: a8 :: a9 :: (a, o') :: r) := Upd1.tail uu9
theorem uu11 {a0 a1 a2 a3 a4 a5 a6 a7 a8 a9 a10 : Addr × Obj} : Upd1 a o o' (a0 :: a1 :: a2 :: a3 :: a4 :: a5 :: a6 :: a7 :: a8 :: a9 :: a10 :: (a, o) :: r) (a0 :: a1 :: a2 :: a3 :: a4 :: a5 :: a6 :: a7 :: a8 :: a9 :: a10 :: (a, o') :: r) := Upd1.tail uu10
theorem uu12 {a0 a1 a2 a3 a4 a5 a6 a7 a8 a9 a10 a11 : Addr × Obj} : Upd1 a o o' (a0 :: a1 :: a2 :: a3 :: a4 :: a5 :: a6 :: a7 :: a8 :: a9 :: a10 :: a11 :: (a, o) :: r) (a0 :: a1 :: a2 :: a3 :: a4 :: a5 :: a6 :: a7 :: a8 :: a9 :: a10 :: a11 :: (a, o') :: r) := Upd1.tail uu11
theorem uu13 {a0 a1 a2 a3 a4 a5 a6 a7 a8 a9 a10 a11 a12 : Addr × Obj} : Upd1 a o o' (a0 :: a1 :: a2 :: a3 :: a4 :: a5 :: a6 :: a7 :: a8 :: a9 :: a10 :: a11 :: a12 :: (a, o) :: r) (a0 :: a1 :: a2 :: a3 :: a4 :: a5 :: a6 :: a7 :: a8 :: a9 :: a10 :: a11 :: a12 :: (a, o') :: r) := Upd1.tail uu12
theorem uu14 {a0 a1 a2 a3 a4 a5 a6 a7 a8 a9 a10 a11 a12 a13 : Addr × Obj} : Upd1 a o o' (a0 :: a1 :: a2 :: a3 :: a4 :: a5 :: a6 :: a7 :: a8 :: a9 :: a10 :: a11 :: a12 :: a13 :: (a, o) :: r) (a0 :: a1 :: a2 :: a3 :: a4 :: a5 :: a6 :: a7 :: a8 :: a9 :: a10 :: a11 :: a12 :: a13 :: (a, o') :: r) := Upd1.tail uu13
theorem uu15 {a0 a1 a2 a3 a4 a5 a6 a7 a8 a9 a10 a11 a12 a13 a14 : Addr × Obj} : Upd1 a o o' (a0 :: a1 :: a2 :: a3 :: a4 :: a5 :: a6 :: a7 :: a8 :: a9 :: a10 :: a11 :: a12 :: a13 :: a14 :: (a, o) :: r) (a0 :: a1 :: a2 :: a3 :: a4 :: a5 :: a6 :: a7 :: a8 :: a9 :: a10 :: a11 :: a12 :: a13 :: a14 :: (a, o') :: r) := Upd1.tail uu14
theorem uu16 {a0 a1 a2 a3 a4 a5 a6 a7 a8 a9 a10 a11 a12 a13 a14 a15 : Addr × Obj} : Upd1 a o o' (a0 :: a1 :: a2 :: a3 :: a4 :: a5 :: a6 :: a7 :: a8 :: a9 :: a10 :: a11 :: a12 :: a13 :: a14 :: a15 :: (a, o) :: r) (a0 :: a1 :: a2 :: a3 :: a4 :: a5 :: a6 :: a7 :: a8 :: a9 :: a10 :: a11 :: a12 :: a13 :: a14 :: a15 :: (a, o') :: r) := Upd1.tail uu15
theorem uu17 {a0 a1 a2 a3 a4 a5 a6 a7 a8 a9 a10 a11 a12 a13 a14 a15 a16 : Addr × Obj} : Upd1 a o o' (a0 :: a1 :: a2 :: a3 :: a4 :: a5 :: a6 :: a7 :: a8 :: a9 :: a10 :: a11 :: a12 :: a13 :: a14 :: a15 :: a16 :: (a, o) :: r) (a0 :: a1 :: a2 :: a3 :: a4 :: a5 :: a6 :: a7 :: a8 :: a9 :: a10 :: a11 :: a12 :: a13 :: a14 :: a15 :: a16 :: (a, o') :: r) := Upd1.tail uu16
theorem uu18 {a0 a1 a2 a3 a4 a5 a6 a7 a8 a9 a10 a11 a12 a13 a14 a15 a16 a17 : Addr × Obj} : Upd1 a o o' (a0 :: a1 :: a2 :: a3 :: a4 :: a5 :: a6 :: a7 :: a8 :: a9 :: a10 :: a11 :: a12 :: a13 :: a14 :: a15 :: a16 :: a17 :: (a, o) :: r) (a0 :: a1 :: a2 :: a3 :: a4 :: a5 :: a6 :: a7 :: a8 :: a9 :: a10 :: a11 :: a12 :: a13 :: a14 :: a15 :: a16 :: a17 :: (a, o') :: r) := Upd1.tail uu17
theorem uu19 {a0 a1 a2 a3 a4 a5 a6 a7 a8 a9 a10 a11 a12 a13 a14 a15 a16 a17 a18 : Addr × Obj} : Upd1 a o o' (a0 :: a1 :: a2 :: a3 :: a4 :: a5 :: a6 :: a7 :: a8 :: a9 :: a10 :: a11 :: a12 :: a13 :: a14 :: a15 :: a16 :: a17 :: a18 :: (a, o) :: r) (a0 :: a1 :: a2 :: a3 :: a4 :: a5 :: a6 :: a7 :: a8 :: a9 :: a10 :: a11 :: a12 :: a13 :: a14 :: a15 :: a16 :: a17 :: a18 :: (a, o') :: r) := Upd1.tail uu18
theorem uu20 {a0 a1 a2 a3 a4 a5 a6 a7 a8 a9 a10 a11 a12 a13 a14 a15 a16 a17 a18 a19 : Addr × Obj} : Upd1 a o o' (a0 :: a1 :: a2 :: a3 :: a4 :: a5 :: a6 :: a7 :: a8 :: a9 :: a10 :: a11 :: a12 :: a13 :: a14 :: a15 :: a16 :: a17 :: a18 :: a19 :: (a, o) :: r) (a0 :: a1 :: a2 :: a3 :: a4 :: a5 :: a6 :: a7 :: a8 :: a9 :: a10 :: a11 :: a12 :: a13 :: a14 :: a15 :: a16 :: a17 :: a18 :: a19 :: (a, o') :: r) := Upd1.tail uu19
theorem uu21 {a0 a1 a2 a3 a4 a5 a6 a7 a8 a9 a10 a11 a12 a13 a14 a15 a16 a17 a18 a19 a20 : Addr × Obj} : Upd1 a o o' (a0 :: a1 :: a2 :: a3 :: a4 :: a5 :: a6 :: a7 :: a8 :: a9 :: a10 :: a11 :: a12 :: a13 :: a14 :: a15 :: a16 :: a17 :: a18 :: a19 :: a20 :: (a, o) :: r) (a0 :: a1 :: a2 :: a3 :: a4 :: a5 :: a6 :: a7 :: a8 :: a9 :: a10 :: a11 :: a12 :: a13 :: a14 :: a15 :: a16 :: a17 :: a18 :: a19 :: a20 :: (a, o') :: r) := Upd1.tail uu20
theorem uu22 {a0 a1 a2 a3 a4 a5 a6 a7 a8 a9 a10 a11 a12 a13 a14 a15 a16 a17 a18 a19 a20 a21 : Addr × Obj} : Upd1 a o o' (a0 :: a1 :: a2 :: a3 :: a4 :: a5 :: a6 :: a7 :: a8 :: a9 :: a10 :: a11 :: a12 :: a13 :: a14 :: a15 :: a16 :: a17 :: a18 :: a19 :: a20 :: a21 :: (a, o) :: r) (a0 :: a1 :: a2 :: a3 :: a4 :: a5 :: a6 :: a7 :: a8 :: a9 :: a10 :: a11 :: a12 :: a13 :: a14 :: a15 :: a16 :: a17 :: a18 :: a19 :: a20 :: a21 :: (a, o') :: r) := Upd1.tail uu21
theorem uu23 {a0 a1 a2 a3 a4 a5 a6 a7 a8 a9 a10 a11 a12 a13 a14 a15 a16 a17 a18 a19 a20 a21 a22 : Addr × Obj} : Upd1 a o o' (a0 :: a1 :: a2 :: a3 :: a4 :: a5 :: a6 :: a7 :: a8 :: a9 :: a10 :: a11 :: a12 :: a13 :: a14 :: a15 :: a16 :: a17 :: a18 :: a19 :: a20 :: a21 :: a22 :: (a, o) :: r) (a0 :: a1 :: a2 :: a3 :: a4 :: a5 :: a6 :: a7 :: a8 :: a9 :: a10 :: a11 :: a12 :: a13 :: a14 :: a15 :: a16 :: a17 :: a18 :: a19 :: a20 :: a21 :: a22 :: (a, o') :: r) := Upd1.tail uu22
theorem uu24 {a0 a1 a2 a3 a4 a5 a6 a7 a8 a9 a10 a11 a12 a13 a14 a15 a16 a17 a18 a19 a20 a21 a22 a23 : Addr × Obj} : Upd1 a o o' (a0 :: a1 :: a2 :: a3 :: a4 :: a5 :: a6 :: a7 :: a8 :: a9 :: a10 :: a11 :: a12 :: a13 :: a14 :: a15 :: a16 :: a17 :: a18 :: a19 :: a20 :: a21 :: a22 :: a23 :: (a, o) :: r) (a0 :: a1 :: a2 :: a3 :: a4 :: a5 :: a6 :: a7 :: a8 :: a9 :: a10 :: a11 :: a12 :: a13 :: a14 :: a15 :: a16 :: a17 :: a18 :: a19 :: a20 :: a21 :: a22 :: a23 :: (a, o') :: r) := Upd1.tail uu23
theorem uu25 {a0 a1 a2 a3 a4 a5 a6 a7 a8 a9 a10 a11 a12 a13 a14 a15 a16 a17 a18 a19 a20 a21 a22 a23 a24 : Addr × Obj} : Upd1 a o o' (a0 :: a1 :: a2 :: a3 :: a4 :: a5 :: a6 :: a7 :: a8 :: a9 :: a10 :: a11 :: a12 :: a13 :: a14 :: a15 :: a16 :: a17 :: a18 :: a19 :: a20 :: a21 :: a22 :: a23 :: a24 :: (a, o) :: r) (a0 :: a1 :: a2 :: a3 :: a4 :: a5 :: a6 :: a7 :: a8 :: a9 :: a10 :: a11 :: a12 :: a13 :: a14 :: a15 :: a16 :: a17 :: a18 :: a19 :: a20 :: a21 :: a22 :: a23 :: a24 :: (a, o') :: r) := Upd1.tail uu24
theorem uu26 {a0 a1 a2 a3 a4 a5 a6 a7 a8 a9 a10 a11 a12 a13 a14 a15 a16 a17 a18 a19 a20 a21 a22 a23 a24 a25 : Addr × Obj} : Upd1 a o o' (a0 :: a1 :: a2 :: a3 :: a4 :: a5 :: a6 :: a7 :: a8 :: a9 :: a10 :: a11 :: a12 :: a13 :: a14 :: a15 :: a16 :: a17 :: a18 :: a19 :: a20 :: a21 :: a22 :: a23 :: a24 :: a25 :: (a, o) :: r) (a0 :: a1 :: a2 :: a3 :: a4 :: a5 :: a6 :: a7 :: a8 :: a9 :: a10 :: a11 :: a12 :: a13 :: a14 :: a15 :: a16 :: a17 :: a18 :: a19 :: a20 :: a21 :: a22 :: a23 :: a24 :: a25 :: (a, o') :: r) := Upd1.tail uu25
theorem uu27 {a0 a1 a2 a3 a4 a5 a6 a7 a8 a9 a10 a11 a12 a13 a14 a15 a16 a17 a18 a19 a20 a21 a22 a23 a24 a25 a26 : Addr × Obj} : Upd1 a o o' (a0 :: a1 :: a2 :: a3 :: a4 :: a5 :: a6 :: a7 :: a8 :: a9 :: a10 :: a11 :: a12 :: a13 :: a14 :: a15 :: a16 :: a17 :: a18 :: a19 :: a20 :: a21 :: a22 :: a23 :: a24 :: a25 :: a26 :: (a, o) :: r) (a0 :: a1 :: a2 :: a3 :: a4 :: a5 :: a6 :: a7 :: a8 :: a9 :: a10 :: a11 :: a12 :: a13 :: a14 :: a15 :: a16 :: a17 :: a18 :: a19 :: a20 :: a21 :: a22 :: a23 :: a24 :: a25 :: a26 :: (a, o') :: r) := Upd1.tail uu26
theorem uu28 {a0 a1 a2 a3 a4 a5 a6 a7 a8 a9 a10 a11 a12 a13 a14 a15 a16 a17 a18 a19 a20 a21 a22 a23 a24 a25 a26 a27 : Addr × Obj} : Upd1 a o o' (a0 :: a1 :: a2 :: a3 :: a4 :: a5 :: a6 :: a7 :: a8 :: a9 :: a10 :: a11 :: a12 :: a13 :: a14 :: a15 :: a16 :: a17 :: a18 :: a19 :: a20 :: a21 :: a22 :: a23 :: a24 :: a25 :: a26 :: a27 :: (a, o) :: r) (a0 :: a1 :: a2 :: a3 :: a4 :: a5 :: a6 :: a7 :: a8 :: a9 :: a10 :: a11 :: a12 :: a13 :: a14 :: a15 :: a16 :: a17 :: a18 :: a19 :: a20 :: a21 :: a22 :: a23 :: a24 :: a25 :: a26 :: a27 :: (a, o') :: r) := Upd1.tail uu27
theorem uu29 {a0 a1 a2 a3 a4 a5 a6 a7 a8 a9 a10 a11 a12 a13 a14 a15 a16 a17 a18 a19 a20 a21 a22 a23 a24 a25 a26 a27 a28 : Addr × Obj} : Upd1 a o o' (a0 :: a1 :: a2 :: a3 :: a4 :: a5 :: a6 :: a7 :: a8 :: a9 :: a10 :: a11 :: a12 :: a13 :: a14 :: a15 :: a16 :: a17 :: a18 :: a19 :: a20 :: a21 :: a22 :: a23 :: a24 :: a25 :: a26 :: a27 :: a28 :: (a, o) :: r) (a0 :: a1 :: a2 :: a3 :: a4 :: a5 :: a6 :: a7 :: a8 :: a9 :: a10 :: a11 :: a12 :: a13 :: a14 :: a15 :: a16 :: a17 :: a18 :: a19 :: a20 :: a21 :: a22 :: a23 :: a24 :: a25 :: a26 :: a27 :: a28 :: (a, o') :: r) := Upd1.tail uu28
end

structure Fm (g : Heap) (L : Addr) (ls : Loc) (own : List (Addr × Obj)) (h : Heap) : Prop where
  ns : ∃ m, h.Ns L m ∧ ∀ x v, (x, some v) ∈ ls → m x = some v
  nl : (ls.map (·.1)).Nodup
  keep : ∀ b o, g.get? b = some o → h.get? b = some o
  has : ∀ p ∈ own, h.get? p.1 = some p.2
  nd : (own.map (·.1)).Nodup
  offL : ∀ p ∈ own, p.1 ≠ L
  gL : g.get? L = none
  goff : ∀ p ∈ own, g.get? p.1 = none

section
variable {g h h' : Heap} {L : Addr} {ls ls' : Loc} {own own' : List (Addr × Obj)}
theorem Fm.get {a o} (S : Fm g L ls own h) (hm : (a, o) ∈ own) : h.get? a = some o := S.has _ hm
/-- a name of the frame is stored -/
theorem Fm.stored {x v m'} (S : Fm g L ls own h) (U : Put x v ls ls') (hs : Heap.SameBut L h h') (hn : h'.Ns L m')
    (hm : ∀ m, h.Ns L m → ∀ y, m' y = if y = x then some v else m y) : Fm g L ls' own h' := by
  obtain ⟨m, n1, n2⟩ := S.ns
  refine ⟨⟨m', hn, fun y u hy => ?_⟩, U.names ▸ S.nl, fun b o e => (hs.2 b ?_).trans (S.keep b o e), fun p hp => (hs.2 _ (S.offL p hp)).trans (S.has p hp), S.nd, S.offL, S.gL, S.goff⟩
  · rw [hm m n1]
    rcases U.vals S.nl _ hy with e | ⟨e, e'⟩
    · cases e; simp
    · rw [if_neg e]; exact n2 y u e'
  · rintro rfl; rw [S.gL] at e; cases e
/-- something new -/
theorem Fm.push {o} (S : Fm g L ls own h) (hf : o.isFreed = false := by rfl) : Fm g L ls ((h.objs.size, o) :: own) (h.push o) := by
  obtain ⟨m, n1, n2⟩ := S.ns
  have lt : ∀ p ∈ own, p.1 < h.objs.size := fun p hp => Heap.lt_size (S.has p hp)
  refine ⟨⟨m, n1.push o, n2⟩, S.nl, fun b o' e => Heap.get?_push_of_some _ (S.keep b o' e), ?_, ?_, ?_, S.gL, ?_⟩
  · intro p hp
    rcases List.mem_cons.mp hp with rfl | hp
    · exact Heap.get?_push_size _ hf
    · exact Heap.get?_push_of_some _ (S.has p hp)
  · rw [List.map_cons, List.nodup_cons]
    refine ⟨fun hm => ?_, S.nd⟩
    obtain ⟨p, hp, e⟩ := List.mem_map.mp hm
    have := lt p hp
    rw [e] at this; exact Nat.lt_irrefl _ this
  · intro p hp
    rcases List.mem_cons.mp hp with rfl | hp
    · exact Nat.ne_of_gt n1.lt
    · exact S.offL p hp
  · intro p hp
    rcases List.mem_cons.mp hp with rfl | hp
    · cases q : g.get? h.objs.size with
      | none => rfl
      | some o' => exact absurd (Heap.lt_size (S.keep _ _ q)) (Nat.lt_irrefl _)
    · exact S.goff p hp
/-- an own object is changed -/
theorem Fm.changed {a o o'} (S : Fm g L ls own h) (U : Upd1 a o o' own own') (hs : Heap.SameBut a h h') (ho : h'.get? a = some o') : Fm g L ls own' h' := by
  obtain ⟨m, n1, n2⟩ := S.ns
  have ha := U.mem
  refine ⟨⟨m, n1.sameBut hs (Ne.symm (S.offL _ ha)), n2⟩, S.nl, fun b x e => (hs.2 b ?_).trans (S.keep b x e), ?_, U.addrs ▸ S.nd, ?_, S.gL, ?_⟩
  · rintro rfl; rw [S.goff _ ha] at e; cases e
  · intro p hp
    rcases U.vals S.nd p hp with rfl | ⟨e, hp⟩
    · exact ho
    · exact (hs.2 _ e).trans (S.has p hp)
  · intro p hp
    rcases U.vals S.nd p hp with rfl | ⟨e, hp⟩
    · exact S.offL (a, o) ha
    · exact S.offL _ hp
  · intro p hp
    rcases U.vals S.nd p hp with rfl | ⟨e, hp⟩
    · exact S.goff (a, o) ha
    · exact S.goff _ hp
/-- the heap has grown, all else as it was -/
theorem Fm.grown (S : Fm g L ls own h) (k : ∀ b o, h.get? b = some o → h'.get? b = some o) : Fm g L ls own h' := by
  obtain ⟨m, n1, n2⟩ := S.ns
  exact ⟨⟨m, n1.keeps k, n2⟩, S.nl, fun b o e => k b o (S.keep b o e), fun p hp => k _ _ (S.has p hp), S.nd, S.offL, S.gL, S.goff⟩
theorem Fm.forget (S : Fm g L ls own h) (hs : own'.Sublist own) : Fm g L ls own' h :=
  ⟨S.ns, S.nl, S.keep, fun p hp => S.has p (hs.subset hp), (hs.map _).nodup S.nd, fun p hp => S.offL p (hs.subset hp), S.gL, fun p hp => S.goff p (hs.subset hp)⟩
/-- names: what is known may be forgotten -/
theorem Fm.locs (S : Fm g L ls own h) (e : ls'.map (·.1) = ls.map (·.1)) (k : ∀ x v, (x, some v) ∈ ls' → (x, some v) ∈ ls) : Fm g L ls' own h :=
  let ⟨m, n1, n2⟩ := S.ns
  ⟨⟨m, n1, fun x v hm => n2 x v (k x v hm)⟩, e ▸ S.nl, S.keep, S.has, S.nd, S.offL, S.gL, S.goff⟩
/-- another ground: all that stands but the frame and the own objects -/
theorem Fm.ground (S : Fm g L ls own h) : ∃ B, Fm B L ls own h ∧ (∀ b o, h.get? b = some o → b ≠ L → (∀ p ∈ own, p.1 ≠ b) → B.get? b = some o) ∧ ∀ b o, g.get? b = some o → B.get? b = some o := by
  have off : ∀ {b o}, h.get? b = some o → b ≠ L → (∀ p ∈ own, p.1 ≠ b) → (hideAll h (L :: own.map (·.1))).get? b = some o := fun e hL ho => by
    refine hideAll_get _ e fun hm => ?_
    rcases List.mem_cons.mp hm with q | q
    · exact hL q
    · obtain ⟨p, hp, e⟩ := List.mem_map.mp q
      exact ho p hp e
  refine ⟨hideAll h (L :: own.map (·.1)), ⟨S.ns, S.nl, fun b o e => of_hideAll _ e, S.has, S.nd, S.offL, hideAll_none _ (by simp), fun p hp => hideAll_none _ (List.mem_cons_of_mem _ (List.mem_map_of_mem hp))⟩, fun b o e hL ho => off e hL ho, fun b o e => ?_⟩
  refine off (S.keep b o e) ?_ ?_
  · rintro rfl; rw [S.gL] at e; cases e
  · rintro p hp rfl; rw [S.goff p hp] at e; cases e
end
end Mine
namespace Mine
open PySem PySem.Spec PySem.Calls PyProof.Rows PySem.W

structure EnvOk (env : Env) (L : Addr) (names : List (Str × NameKind)) (cells : List (Str × Addr)) : Prop where
  kind : env.scope.kind = .function
  hnames : env.scope.names = names
  nd : (names.map (·.1)).Nodup
  locals : env.locals = L
  globals : env.globals = mainGlobals
  builtins : env.builtins = builtinsNs
  hcells : env.cells = cells
  cnd : (cells.map (·.1)).Nodup
  dbg : ∀ p ∈ names, (p.1 == ("__debug__" : Str)) = false ∧ (p.1 == ("__classdict__" : Str)) = false

theorem look_nodup {α β : Type} [BEq α] [LawfulBEq α] {x : α} {v : β} : ∀ {l : List (α × β)}, (x, v) ∈ l → (l.map (·.1)).Nodup → l.lookup x = some v
  | (y, u) :: r, h, nd => by
    rw [List.map_cons, List.nodup_cons] at nd
    rw [List.lookup_cons]
    rcases List.mem_cons.mp h with e | h'
    · cases e; simp
    · have : (x == y) = false := by
        rw [beq_eq_false_iff_ne]; intro e
        exact nd.1 (List.mem_map.mpr ⟨(x, v), h', e⟩)
      rw [this]; exact look_nodup h' nd.2

/-- a name that the whole text reads: a global, or a built-in that no global hides -/
def Glo (g : Heap) (x : Str) (v : Value) : Prop :=
  (∃ mg, g.Ns mainGlobals mg ∧ mg x = some v) ∨ ∃ mg mb, g.Ns mainGlobals mg ∧ mg x = none ∧ g.Ns builtinsNs mb ∧ mb x = some v

section
variable {M : Model} {A : Around} {s₀ : Shared} {env : Env} {L : Addr} {names : List (Str × NameKind)} {cells : List (Str × Addr)} {g h : Heap} {ls ls' : Loc} {own own' : List (Addr × Obj)}
variable (E : EnvOk env L names cells)
include E
theorem EnvOk.kindOf {x k} (hm : (x, k) ∈ names) : env.kindOf x = some k := by
  show env.scope.names.lookup x = some k
  rw [E.hnames]; exact look_nodup hm E.nd
theorem EnvOk.cellAt {x c} (hm : (x, c) ∈ cells) : env.cells.lookup x = some c := by rw [E.hcells]; exact look_nodup hm E.cnd
theorem EnvOk.nocls : (env.scope.kind == .class || (env.scope.kind == .module && env.locals != env.globals)) = false := by rw [E.kind]; rfl

theorem W_ldn {x : Str} {v : Value} {Q : Value → Heap → Prop} (S : Fm g L ls own h) (hn : (x, NameKind.local) ∈ names) (hv : (x, some v) ∈ ls) (q : Q v h) : W M A s₀ (loadName env x) Q h :=
  W.of fun tk Q' k => by
    obtain ⟨m, n1, n2⟩ := S.ns
    exact wpAny_loadName_local E.kind (E.kindOf hn) (by rw [E.locals]; exact n1) (n2 x v hv) (k _ _ _ q)
theorem W_ld {x : Str} {pos : Pos} {v : Value} {Q : Value → Heap → Prop} (S : Fm g L ls own h) (hn : (x, NameKind.local) ∈ names) (hv : (x, some v) ∈ ls) (q : Q v h) : W M A s₀ (eval (.Name x pos) env) Q h :=
  W.of fun tk Q' k => wpAny_Name ((W_ldn (M := M) (A := A) (s₀ := s₀) E S hn hv q).use k) (E.dbg _ hn).1
theorem W_ldC {x : Str} {pos : Pos} {v : Value} {c : Addr} {o : Obj} {Q : Value → Heap → Prop} (hn : (x, NameKind.cell) ∈ names) (hc : (x, c) ∈ cells) (ho : h.get? c = some o) (hd : o.data = .cell (some v)) (q : Q v h) : W M A s₀ (eval (.Name x pos) env) Q h :=
  W.of fun tk Q' k => wpAny_Name (wpAny_loadName_cell E.kind (E.kindOf hn) (E.cellAt hc) ⟨o, ho, hd⟩ (k _ _ _ q)) (E.dbg _ hn).1
theorem W_ldF {x : Str} {pos : Pos} {v : Value} {c : Addr} {o : Obj} {Q : Value → Heap → Prop} (hn : (x, NameKind.free) ∈ names) (hc : (x, c) ∈ cells) (ho : h.get? c = some o) (hd : o.data = .cell (some v)) (q : Q v h) : W M A s₀ (eval (.Name x pos) env) Q h :=
  W.of fun tk Q' k => wpAny_Name (wpAny_loadName_free E.kind (E.kindOf hn) (E.cellAt hc) ⟨o, ho, hd⟩ (k _ _ _ q) (E.dbg _ hn).2) (E.dbg _ hn).1
theorem W_ldG {x : Str} {pos : Pos} {v : Value} {Q : Value → Heap → Prop} (hn : (x, NameKind.globalImplicit) ∈ names) (hg : Glo g x v) (hk : ∀ b o, g.get? b = some o → h.get? b = some o) (q : Q v h) : W M A s₀ (eval (.Name x pos) env) Q h :=
  W.of fun tk Q' k => by
    refine Name_function_global E.kind (E.kindOf hn) ?_ (E.dbg _ hn).1
    rcases hg with ⟨mg, n1, n2⟩ | ⟨mg, mb, n1, n2, n3, n4⟩
    · exact loadGlobal_global (by rw [E.globals]; exact n1.keeps hk) n2 (k _ _ _ q)
    · exact loadGlobal_builtin (by rw [E.globals]; exact n1.keeps hk) n2 (by rw [E.builtins]; exact n3.keeps hk) n4 (k _ _ _ q)

theorem W_st {x : Str} {v : Value} {Q : Unit → Heap → Prop} (S : Fm g L ls own h) (hn : (x, NameKind.local) ∈ names) (U : Put x v ls ls') (q : ∀ h', Fm g L ls' own h' → Q () h') : W M A s₀ (storeName env x v) Q h :=
  W.of fun tk Q' k => by
    obtain ⟨m, n1, n2⟩ := S.ns
    refine wpAny_storeName_local (m := m) (E.kindOf hn) (by rw [E.locals]; exact n1) (fun h' hn' hs => k () h' _ (q h' ?_)) E.nocls
    rw [E.locals] at hn' hs
    refine S.stored U hs hn' fun m₂ n₂ y => ?_
    have : m₂ = m := by
      funext z
      obtain ⟨o, es, ep, a1, a2, _, a4⟩ := n₂
      obtain ⟨o', es', ep', b1, b2, _, b4⟩ := n1
      rw [a1] at b1; cases b1
      rw [a2] at b2; cases b2
      rw [← a4, ← b4]
    rw [this]
theorem W_stC {x : Str} {v : Value} {c : Addr} {u : Option Value} {Q : Unit → Heap → Prop} (S : Fm g L ls own h) (hn : (x, NameKind.cell) ∈ names) (hc : (x, c) ∈ cells)
    (U : Upd1 c { cls := .type "cell", data := .cell u } { cls := .type "cell", data := .cell (some v) } own own') (q : ∀ h', Fm g L ls own' h' → Q () h') : W M A s₀ (storeName env x v) Q h :=
  W.of fun tk Q' k => by
    have ho := S.get U.mem
    unfold storeName
    simp only [E.kindOf hn, E.kind]
    refine wpAny_bind (wpAny_cellOf (E.cellAt hc) ?_)
    unfold cellSet
    refine wpAny_bind (wpAny_load ho ?_)
    refine wpAny_update ho ?_
    exact k () _ tk (q _ (S.changed U (Heap.SameBut.update _ _ _) (Heap.get?_update_self _ ho rfl)))
end

section
variable {M : Model} {A : Around} {s₀ : Shared} {env : Env} {h : Heap}
theorem W_int {i k pos} {Q : Value → Heap → Prop} (q : ∀ t, Q (.int i t) h) : W M A s₀ (eval (.Constant (.int i) k pos) env) Q h := W.of fun tk Q' k => wpAny_Constant_int (k _ _ _ (q _))
theorem W_none {k pos} {Q : Value → Heap → Prop} (q : Q .none h) : W M A s₀ (eval (.Constant .none k pos) env) Q h := W.of fun tk Q' k => wpAny_Constant_none (k _ _ _ q)
theorem W_bool {b k pos} {Q : Value → Heap → Prop} (q : Q (.bool b) h) : W M A s₀ (eval (.Constant (.bool b) k pos) env) Q h := W.of fun tk Q' k => wpAny_Constant_bool (k _ _ _ q)
theorem W_str {x : Str} {k pos} {Q : Value → Heap → Prop} (q : ∀ t, Q (.str x t) h) : W M A s₀ (eval (.Constant (.str x) k pos) env) Q h := W.of fun tk Q' k => wpAny_Constant_str (k _ _ _ (q _))
theorem W_BinOp {l op r pos} {Q : Value → Heap → Prop} (x : W M A s₀ (eval l env) (fun a h1 => W M A s₀ (eval r env) (fun b h2 => W M A s₀ (binaryOp op a b) Q h2) h1) h) : W M A s₀ (eval (.BinOp l op r pos) env) Q h :=
  W.of fun tk Q' k => wpAny_BinOp (x.use fun _ _ _ y => y.use fun _ _ _ z => z.use k)
theorem W_Compare {l op r pos} {Q : Value → Heap → Prop} (x : W M A s₀ (eval l env) (fun a h1 => W M A s₀ (eval r env) (fun b h2 => W M A s₀ (compareOp op a b) Q h2) h1) h)
    (hm : behindInMarks op r = false := by with_unfolding_all rfl) : W M A s₀ (eval (.Compare l [op] [r] pos) env) Q h :=
  W.of fun tk Q' k => wpAny_Compare1 (x.use fun _ _ _ y => y.use fun _ _ _ z => z.use k) hm
theorem W_tCompare {l op r pos whole} {Q : Bool → Heap → Prop} (x : W M A s₀ (eval l env) (fun a h1 => W M A s₀ (eval r env) (fun b h2 => W M A s₀ (compareOp op a b) (fun c h3 => W M A s₀ (truthy c) Q h3) h2) h1) h)
    (hm : behindInMarks op r = false := by with_unfolding_all rfl) : W M A s₀ (isTrue (.Compare l [op] [r] pos) env whole) Q h :=
  W.of fun tk Q' k => wpAny_isTrue_Compare1 (x.use fun _ _ _ y => y.use fun _ _ _ z => z.use fun _ _ _ u => u.use k) hm
theorem W_tBool {b : Bool} {Q : Bool → Heap → Prop} (q : Q b h) : W M A s₀ (truthy (.bool b)) Q h := W.of fun tk Q' k => wpAny_truthy_bool (k _ _ _ q)
theorem W_tVal {e : Expr} {whole : Sem Value} {Q : Bool → Heap → Prop} (x : W M A s₀ whole (fun v h1 => W M A s₀ (truthy v) Q h1) h)
    (he : isTrue e env whole = (do let v ← whole; standAt e.pos; holding [v] (truthy v)) := by rfl) : W M A s₀ (isTrue e env whole) Q h :=
  W.of fun tk Q' k => wpAny_isTrue_value (x.use fun _ _ _ y => y.use k) he
theorem W_tNot {x : Expr} {pos : Pos} {whole : Sem Value} {Q : Bool → Heap → Prop} (y : W M A s₀ (isTrue x env (eval x env)) (fun b h1 => Q (!b) h1) h) : W M A s₀ (isTrue (.UnaryOp .Not x pos) env whole) Q h :=
  W.of fun tk Q' k => wpAny_isTrue_Not (y.use fun _ _ _ z => k _ _ _ z)
theorem W_tBoolOp {op : BoolOp} {values : List Expr} {pos : Pos} {whole : Sem Value} {Q : Bool → Heap → Prop} (x : W M A s₀ (allTrue op values env) Q h) : W M A s₀ (isTrue (.BoolOp op values pos) env whole) Q h :=
  W.of fun tk Q' k => wpAny_isTrue_BoolOp (x.use k)
theorem W_andNil {Q : Bool → Heap → Prop} (q : Q true h) : W M A s₀ (allTrue .And [] env) Q h := W.of fun tk Q' k => wpAny_allTrue_And_nil (k _ _ _ q)
theorem W_orNil {Q : Bool → Heap → Prop} (q : Q false h) : W M A s₀ (allTrue .Or [] env) Q h := W.of fun tk Q' k => wpAny_allTrue_Or_nil (k _ _ _ q)
theorem W_andCons {x : Expr} {rest : List Expr} {Q : Bool → Heap → Prop} (y : W M A s₀ (isTrue x env (eval x env)) (fun b h1 => if b = true then W M A s₀ (allTrue .And rest env) Q h1 else Q false h1) h) : W M A s₀ (allTrue .And (x :: rest) env) Q h :=
  W.of fun tk Q' k => wpAny_allTrue_And_cons (y.use fun b h1 tk1 z => by
    cases b with
    | true => simp only [if_true] at z ⊢; exact z.use k
    | false => simp only [Bool.false_eq_true, if_false] at z ⊢; exact k _ _ _ z)
theorem W_orCons {x : Expr} {rest : List Expr} {Q : Bool → Heap → Prop} (y : W M A s₀ (isTrue x env (eval x env)) (fun b h1 => if b = true then Q true h1 else W M A s₀ (allTrue .Or rest env) Q h1) h) : W M A s₀ (allTrue .Or (x :: rest) env) Q h :=
  W.of fun tk Q' k => wpAny_allTrue_Or_cons (y.use fun b h1 tk1 z => by
    cases b with
    | true => simp only [if_true] at z ⊢; exact k _ _ _ z
    | false => simp only [Bool.false_eq_true, if_false] at z ⊢; exact z.use k)
theorem W_IfExp {test body orelse : Expr} {pos : Pos} {Q : Value → Heap → Prop} (y : W M A s₀ (isTrue test env (eval test env)) (fun b h1 => if b = true then W M A s₀ (eval body env) Q h1 else W M A s₀ (eval orelse env) Q h1) h) : W M A s₀ (eval (.IfExp test body orelse pos) env) Q h :=
  W.of fun tk Q' k => wpAny_IfExp (y.use fun b h1 tk1 z => by
    cases b with
    | true => simp only [if_true] at z ⊢; exact z.use k
    | false => simp only [Bool.false_eq_true, if_false] at z ⊢; exact z.use k)
theorem W_UnaryOp {op : UnaryOp} {x : Expr} {pos : Pos} {Q : Value → Heap → Prop} (y : W M A s₀ (eval x env) (fun v h1 => W M A s₀ (unaryOp op v) Q h1) h) : W M A s₀ (eval (.UnaryOp op x pos) env) Q h :=
  W.of fun tk Q' k => wpAny_UnaryOp (y.use fun _ _ _ z => z.use k)
theorem W_nil {Q : Flow → Heap → Prop} (q : Q .next h) : W M A s₀ (execs [] env) Q h := W.of fun tk Q' k => wpAny_execs_nil (k _ _ _ q)
theorem W_cons {st rest} {Q : Flow → Heap → Prop} (y : W M A s₀ (exec st env) (fun f h1 => match f with | .next => W M A s₀ (execs rest env) Q h1 | f => Q f h1) h) : W M A s₀ (execs (st :: rest) env) Q h :=
  W.of fun tk Q' k => wpAny_execs_cons (y.use fun f h1 tk1 z => by cases f <;> first | exact z.use k | exact k _ _ _ z)
theorem W_If {test body orelse pos} {Q : Flow → Heap → Prop} (y : W M A s₀ (isTrue test env (eval test env)) (fun b h1 => if b = true then W M A s₀ (execs body env) Q h1 else W M A s₀ (execs orelse env) Q h1) h) : W M A s₀ (exec (.If test body orelse pos) env) Q h :=
  W.of fun tk Q' k => wpAny_If (y.use fun b h1 tk1 z => by
    cases b with
    | true => simp only [if_true] at z ⊢; exact z.use k
    | false => simp only [Bool.false_eq_true, if_false] at z ⊢; exact z.use k)
theorem W_Return {e pos} {Q : Flow → Heap → Prop} (y : W M A s₀ (eval e env) (fun v h1 => Q (.ret v) h1) h) : W M A s₀ (exec (.Return (some e) pos) env) Q h := W.of fun tk Q' k => wpAny_Return_some (y.use fun _ _ _ z => k _ _ _ z)
theorem W_Return0 {pos} {Q : Flow → Heap → Prop} (q : Q (.ret .none) h) : W M A s₀ (exec (.Return .none pos) env) Q h := W.of fun tk Q' k => wpAny_Return_none (k _ _ _ q)
theorem W_Continue {pos} {Q : Flow → Heap → Prop} (q : Q .cont h) : W M A s₀ (exec (.Continue pos) env) Q h := W.of fun tk Q' k => wpAny_Continue (k _ _ _ q)
theorem W_Assign {x pos' value pos} {Q : Flow → Heap → Prop} (y : W M A s₀ (eval value env) (fun v h1 => W M A s₀ (storeName env x v) (fun _ h2 => Q .next h2) h1) h)
    (hs : swapsWith value (some (.Name x pos')) pos.line env = pure false := by rfl) : W M A s₀ (exec (.Assign [.Name x pos'] value pos) env) Q h :=
  W.of fun tk Q' k => wpAny_Assign_Name (y.use fun _ _ _ z => z.use fun _ _ _ u => k _ _ _ u) hs
theorem W_AugAssign {x pos' op value pos} {Q : Flow → Heap → Prop} (y : W M A s₀ (loadName env x) (fun old h1 => W M A s₀ (eval value env) (fun v h2 => W M A s₀ (inplaceOp op old v) (fun r h3 => W M A s₀ (storeName env x r) (fun _ h4 => Q .next h4) h3) h2) h1) h) :
    W M A s₀ (exec (.AugAssign (.Name x pos') op value pos) env) Q h :=
  W.of fun tk Q' k => wpAny_AugAssign_Name (y.use fun _ _ _ z => z.use fun _ _ _ u => u.use fun _ _ _ t => t.use fun _ _ _ r => k _ _ _ r)
theorem W_AssignSub {o i pos' value pos} {Q : Flow → Heap → Prop} (y : W M A s₀ (eval value env) (fun v h1 => W M A s₀ (eval o env) (fun ov h2 => W M A s₀ (eval i env) (fun iv h3 => W M A s₀ (setItem ov iv v) (fun _ h4 => Q .next h4) h3) h2) h1) h)
    (hs : swapsWith value (some (.Subscript o i pos')) pos.line env = pure false := by rfl) : W M A s₀ (exec (.Assign [.Subscript o i pos'] value pos) env) Q h :=
  W.of fun tk Q' k => wpAny_Assign_Subscript (y.use fun _ _ _ z => z.use fun _ _ _ u => u.use fun _ _ _ t => t.use fun _ _ _ r => k _ _ _ r) hs
theorem W_Subscript {value slice pos} {Q : Value → Heap → Prop} (y : W M A s₀ (eval value env) (fun o h1 => W M A s₀ (eval slice env) (fun i h2 => W M A s₀ (subscriptTail value slice o i) Q h2) h1) h) : W M A s₀ (eval (.Subscript value slice pos) env) Q h :=
  W.of fun tk Q' k => Subscript_ (y.use fun _ _ _ z => z.use fun _ _ _ u => u.use k)
theorem W_itemsNil {pos : Pos} {Q : List Value → Heap → Prop} (q : Q [] h) : W M A s₀ (spliced (backTo pos (starEach [] env))) Q h := W.of fun tk Q' k => wpAny_items_nil (k _ _ _ q)
theorem W_itemsCons {pos : Pos} {e : Expr} {rest : List Expr} {Q : List Value → Heap → Prop} (y : W M A s₀ (eval e env) (fun v h1 => W M A s₀ (spliced (backTo pos (starEach rest env))) (fun vs h2 => Q (v :: vs) h2) h1) h)
    (he : starEach (e :: rest) env = (false, eval e env) :: starEach rest env := by rfl) : W M A s₀ (spliced (backTo pos (starEach (e :: rest) env))) Q h :=
  W.of fun tk Q' k => wpAny_items_cons (y.use fun _ _ _ z => z.use fun _ _ _ u => k _ _ _ u) he
end

abbrev tupO (vs : List Value) : Obj := { cls := .type "tuple", data := .seq vs.toArray }
abbrev lstO (vs : List Value) (n : Nat := 0) : Obj := { cls := .type "list", data := .seq vs.toArray n }
section
variable {M : Model} {A : Around} {s₀ : Shared} {env : Env} {L : Addr} {g h : Heap} {ls ls' : Loc} {own own' : List (Addr × Obj)}
theorem W_newTuple {vs : List Value} {Q : Value → Heap → Prop} (S : Fm g L ls own h) (hsz : vs.length ≤ 1000) (q : ∀ a h', h.get? a = none → Fm g L ls ((a, tupO vs) :: own) h' → (∀ b o, h.get? b = some o → h'.get? b = some o) → Q (.ref a) h') : W M A s₀ (newTuple vs) Q h :=
  W.of fun tk Q' k => wpAny_newObj_type (k _ _ _ (q h.objs.size _ (by cases e : h.get? h.objs.size with
    | none => rfl
    | some o => exact absurd (Heap.lt_size e) (Nat.lt_irrefl _)) S.push (fun b o e => Heap.get?_push_of_some _ e))) (by show vs.toArray.size ≤ sizeLine; rw [List.size_toArray, sizeLine_eq]; omega)
theorem W_newList {vs : List Value} {Q : Value → Heap → Prop} (S : Fm g L ls own h) (hsz : vs.length ≤ 1000) (q : ∀ a h', h.get? a = none → Fm g L ls ((a, lstO vs) :: own) h' → (∀ b o, h.get? b = some o → h'.get? b = some o) → Q (.ref a) h') : W M A s₀ (newList vs) Q h :=
  W.of fun tk Q' k => wpAny_newObj_type (k _ _ _ (q h.objs.size _ (by cases e : h.get? h.objs.size with
    | none => rfl
    | some o => exact absurd (Heap.lt_size e) (Nat.lt_irrefl _)) S.push (fun b o e => Heap.get?_push_of_some _ e))) (by show vs.toArray.size ≤ sizeLine; rw [List.size_toArray, sizeLine_eq]; omega)
theorem W_Tuple {elts : List Expr} {n : Nat} {pos : Pos} {Q : Value → Heap → Prop} (y : W M A s₀ (spliced (backTo pos (starEach elts env))) (fun vs h1 => W M A s₀ (PySem.newTuple vs) Q h1) h) : W M A s₀ (eval (.Tuple elts n pos) env) Q h :=
  W.of fun tk Q' k => Tuple_ (y.use fun _ _ _ z => z.use k)
theorem W_List {elts : List Expr} {pos : Pos} {Q : Value → Heap → Prop} (y : W M A s₀ (spliced (backTo pos (starEach elts env))) (fun vs h1 => W M A s₀ (PySem.newList vs) Q h1) h) : W M A s₀ (eval (.List elts pos) env) Q h :=
  W.of fun tk Q' k => List_ (y.use fun _ _ _ z => z.use k)
end
end Mine
namespace Mine
open PySem PySem.Spec PySem.Calls PyProof.Rows PySem.W

def Le (g h : Heap) : Prop := ∀ b o, g.get? b = some o → h.get? b = some o
theorem Le.refl (g : Heap) : Le g g := fun _ _ e => e
theorem Le.trans {f g h : Heap} (x : Le f g) (y : Le g h) : Le f h := fun b o e => y b o (x b o e)

/-- the room around a call -/
structure Room (A : Around) (k : Nat) : Prop where
  hh : A.handled = none
  depth : A.depth + 10 * 0 ≤ 310 + k
  units : A.units ≤ 100 + 3 * k
theorem Room.deep {A : Around} {k : Nat} (R : Room A k) (hk : k ≤ 50) : A.depth < recursionLimit := by have := R.depth; unfold recursionLimit; omega
theorem Room.unit {A : Around} {k : Nat} (R : Room A k) (hk : k ≤ 50) : A.in1.units < cLine := by have := R.units; show A.units + 1 < 9900; omega
theorem Room.unit0 {A : Around} {k : Nat} (R : Room A k) (hk : k ≤ 50) : A.units < cLine := by have := R.units; show A.units < 9900; omega
theorem Room.deeper {A : Around} {k : Nat} (R : Room A k) (env : Env) : Room (A.deeper env) (k + 1) :=
  ⟨R.hh, by have := R.depth; show A.depth + 1 + 10 * 0 ≤ _; omega, by have := R.units; show A.units + 3 ≤ _; omega⟩

section
variable {prog : Program} {w : World} {A : Around} {s₀ : Shared} {env : Env} {h : Heap}
theorem W_While {test body pos} {Q : Flow → Heap → Prop} (I : Nat → Heap → Prop)
    (turn : ∀ n h, I n h → W (model prog w) A s₀ (isTrue test env (eval test env)) (fun b h1 => if b = true then W (model prog w) A s₀ (execs body env) (fun f h2 => match f with
      | .next | .cont => ∃ m, m < n ∧ I m h2
      | .brk => Q .next h2
      | .ret v => Q (.ret v) h2) h1 else Q .next h1) h) (n : Nat) (h0 : I n h) : W (model prog w) A s₀ (exec (.While test body [] pos) env) Q h :=
  W.of fun tk Q' k => by
    refine wpAny_While (codeAny_whileLoop (fun n s => ∃ h tk, s = { s₀ with heap := h, toks := tk } ∧ I n h) ?_ n ⟨h, tk, rfl, h0⟩)
    rintro n s ⟨h, tk, rfl, hI⟩
    refine (turn n h hI).use fun b h1 tk1 z => ?_
    cases b with
    | false =>
      simp only [Bool.false_eq_true, if_false] at z ⊢
      exact wpAny_execs_nil (k _ _ _ z)
    | true =>
      simp only [if_true] at z ⊢
      refine z.use fun f h2 tk2 y => ?_
      cases f with
      | next => obtain ⟨m, hm, hi⟩ := y; exact ⟨m, hm, h2, tk2, rfl, hi⟩
      | cont => obtain ⟨m, hm, hi⟩ := y; exact ⟨m, hm, h2, tk2, rfl, hi⟩
      | brk => exact k _ _ _ y
      | ret v => exact k _ _ _ y
theorem W_For {target iter body pos} {Q : Flow → Heap → Prop}
    (y : W (model prog w) A s₀ (eval iter env) (fun x h1 => W (model prog w) A s₀ (pyIter x) (fun it h2 => WF (model prog w) A s₀ (.forLoop target it body [] env) Q h2) h1) h)
    (hs : ∀ x, foldedSetIterable iter env x = pure x := by intro _; rfl) : W (model prog w) A s₀ (exec (.For target iter body [] pos) env) Q h :=
  W.of fun tk Q' k => wpAny_For (y.use fun x h1 tk1 z => z.use fun it h2 tk2 u => u.use fun f h3 tk3 q => k _ _ _ q) hs
theorem WF_For {target it body} {Q : Flow → Heap → Prop} (I : Nat → Heap → Prop)
    (turn : ∀ n h, I n h → W (model prog w) A s₀ (pyNext it) (fun r h1 => match r with
      | none => Q .next h1
      | some v => W (model prog w) A s₀ (letOwnedTupleGo target it v) (fun _ h2 => W (model prog w) A s₀ (assign target env v) (fun _ h3 => W (model prog w) A s₀ (execs body env) (fun f h4 => match f with
        | .next | .cont => ∃ m, m < n ∧ I m h4
        | .brk => Q .next h4
        | .ret v => Q (.ret v) h4) h3) h2) h1) h) (n : Nat) (h0 : I n h) : WF (model prog w) A s₀ (.forLoop target it body [] env) Q h := ⟨fun tk => by
  refine codeAny_forLoop_any (fun n s => ∃ h tk, s = { s₀ with heap := h, toks := tk } ∧ I n h) ?_ n ⟨h, tk, rfl, h0⟩
  rintro n s ⟨h, tk, rfl, hI⟩
  refine (turn n h hI).use fun r h1 tk1 z => ?_
  cases r with
  | none => exact wpAny_execs_nil ⟨_, _, _, rfl, rfl, z⟩
  | some v =>
    refine z.use fun _ h2 tk2 z => z.use fun _ h3 tk3 z => z.use fun f h4 tk4 y => ?_
    cases f with
    | next => obtain ⟨m, hm, hi⟩ := y; exact ⟨m, hm, _, _, rfl, hi⟩
    | cont => obtain ⟨m, hm, hi⟩ := y; exact ⟨m, hm, _, _, rfl, hi⟩
    | brk => exact ⟨_, _, _, rfl, rfl, y⟩
    | ret v => exact ⟨_, _, _, rfl, rfl, y⟩⟩
theorem W_asName {x pos v} {Q : Unit → Heap → Prop} (y : W (model prog w) A s₀ (storeName env x v) Q h) : W (model prog w) A s₀ (assign (.Name x pos) env v) Q h :=
  W.of fun tk Q' k => wpAny_assign_Name (y.use k)
theorem W_keepTup {x pos it v} {Q : Unit → Heap → Prop} (q : Q () h) : W (model prog w) A s₀ (letOwnedTupleGo (.Name x pos) it v) Q h := W.of fun tk Q' k => wpAny_pure (k _ _ _ q)
end

/-! ground moves -/
section
variable {g h h' B B' : Heap} {L C : Addr} {ls lc : Loc} {own own' ex : List (Addr × Obj)}
theorem Fm.down (S : Fm B L ls own h) (k : Le g B) : Fm g L ls own h := by
  have no : ∀ b, B.get? b = none → g.get? b = none := fun b e => by
    cases q : g.get? b with
    | none => rfl
    | some o => rw [k b o q] at e; cases e
  exact ⟨S.ns, S.nl, fun b o e => S.keep b o (k b o e), S.has, S.nd, S.offL, no _ S.gL, fun p hp => no _ (S.goff p hp)⟩
/-- what of a callee's ground stands in the caller's: all but the caller's own frame -/
structure Out (B g : Heap) (L : Addr) : Prop where
  ne : ∀ b o, B.get? b = some o → b ≠ L → g.get? b = some o
  nd : ∀ b o, B.get? b = some o → (∀ es ep, o.data ≠ .dict es ep) → g.get? b = some o
/-- the frame of a call is entered: the caller's frame stands in the ground -/
theorem Fm.enter (S : Fm g L ls own h) (k : Le h h') {m : Str → Option Value} (hn : h'.Ns C m) (hC : h.get? C = none) (hm : ∀ x v, (x, some v) ∈ lc → m x = some v) (nl : (lc.map (·.1)).Nodup) :
    ∃ B, Fm B C lc own h' ∧ (∀ b o, h.get? b = some o → (∀ p ∈ own, p.1 ≠ b) → B.get? b = some o) ∧ Le g B := by
  have lC : ∀ b o, h.get? b = some o → b ≠ C := fun b o e hb => by rw [hb, hC] at e; cases e
  have off : ∀ b o, h.get? b = some o → (∀ p ∈ own, p.1 ≠ b) → (hideAll h' (C :: own.map (·.1))).get? b = some o := fun b o e ho => by
    refine hideAll_get _ (k b o e) fun hm => ?_
    rcases List.mem_cons.mp hm with q | q
    · exact lC b o e q
    · obtain ⟨p, hp, e⟩ := List.mem_map.mp q
      exact ho p hp e
  refine ⟨hideAll h' (C :: own.map (·.1)), ⟨⟨m, hn, hm⟩, nl, fun b o e => of_hideAll _ e, fun p hp => k _ _ (S.has p hp), S.nd, fun p hp => lC _ _ (S.has p hp), hideAll_none _ (by simp), fun p hp => hideAll_none _ (List.mem_cons_of_mem _ (List.mem_map_of_mem hp))⟩, off, fun b o e => ?_⟩
  refine off b o (S.keep b o e) ?_
  rintro p hp rfl; rw [S.goff p hp] at e; cases e
/-- and left -/
theorem Fm.leave (S : Fm g L ls own h) (hB : ∀ b o, h.get? b = some o → (∀ p ∈ own, p.1 ≠ b) → B.get? b = some o) (kB : Le B B') (T : Fm B' C lc own' h') :
    ∃ g', Fm g' L ls own' h' ∧ Le g g' ∧ Out B' g' L ∧ Le g' B' := by
  obtain ⟨m, n1, n2⟩ := S.ns
  have toB : ∀ b o, h.get? b = some o → (∀ p ∈ own, p.1 ≠ b) → B'.get? b = some o := fun b o e ho => kB _ _ (hB b o e ho)
  obtain ⟨oL, es, ep, e1, e2, e3, e4⟩ := id n1
  have hL := toB _ _ e1 fun p hp => S.offL p hp
  refine ⟨hideAll B' [L], ⟨⟨m, ⟨oL, es, ep, T.keep _ _ hL, e2, e3, e4⟩, n2⟩, S.nl, fun b o e => T.keep b o (of_hideAll _ e), T.has, T.nd, fun p hp e => ?_, hideAll_none _ (by simp), fun p hp => ?_⟩, fun b o e => ?_, ⟨fun b o e hb => hideAll_get _ e (by simpa using hb), fun b o e hd => hideAll_get _ e (by rw [List.mem_singleton]; rintro rfl; rw [hL] at e; cases e; exact hd _ _ e2)⟩, fun b o e => of_hideAll _ e⟩
  · have := T.goff p hp; rw [e, hL] at this; cases this
  · cases q : (hideAll B' [L]).get? p.1 with
    | none => rfl
    | some o => have := of_hideAll _ q; rw [T.goff p hp] at this; cases this
  · refine hideAll_get _ (toB b o (S.keep b o e) ?_) ?_
    · rintro p hp rfl; rw [S.goff p hp] at e; cases e
    · rw [List.mem_singleton]; rintro rfl; rw [S.gL] at e; cases e
theorem Fm.Upd1_mid {a : Addr} {o o' : Obj} : ∀ (l : List (Addr × Obj)), Upd1 a o o' (l ++ (a, o) :: ex) (l ++ (a, o') :: ex)
  | [] => .head
  | p :: l => .tail (Fm.Upd1_mid l)
/-- something new, by what is known of it -/
theorem Fm.pushed {a : Addr} {o : Obj} (S : Fm g L ls own h) (k : Le h h') (ha : h.get? a = none) (ho : h'.get? a = some o) (hL : a ≠ L) : Fm g L ls ((a, o) :: own) h' := by
  obtain ⟨m, n1, n2⟩ := S.ns
  refine ⟨⟨m, n1.keeps k, n2⟩, S.nl, fun b o e => k b o (S.keep b o e), ?_, ?_, ?_, S.gL, ?_⟩
  · intro p hp
    rcases List.mem_cons.mp hp with rfl | hp
    · exact ho
    · exact k _ _ (S.has p hp)
  · rw [List.map_cons, List.nodup_cons]
    refine ⟨fun hm => ?_, S.nd⟩
    obtain ⟨p, hp, e⟩ := List.mem_map.mp hm
    have := S.has p hp
    rw [e, ha] at this; cases this
  · intro p hp
    rcases List.mem_cons.mp hp with rfl | hp
    · exact hL
    · exact S.offL p hp
  · intro p hp
    rcases List.mem_cons.mp hp with rfl | hp
    · cases q : g.get? a with
      | none => rfl
      | some o' => rw [S.keep _ _ q] at ha; cases ha
    · exact S.goff p hp
theorem Fm.perm (S : Fm g L ls own h) (p : own.Perm own') : Fm g L ls own' h :=
  ⟨S.ns, S.nl, S.keep, fun q hq => S.has q (p.symm.subset hq), (p.map _).nodup_iff.mp S.nd, fun q hq => S.offL q (p.symm.subset hq), S.gL, fun q hq => S.goff q (p.symm.subset hq)⟩
/-- another ground: all that stands but the frame and the own objects; what is dropped from the own objects is in it -/
theorem Fm.settle (S : Fm g L ls own h) (hs : own'.Sublist own) : ∃ B, Fm B L ls own' h ∧ Le g B ∧ ∀ p ∈ own, p ∉ own' → B.get? p.1 = some p.2 := by
  obtain ⟨B, x, y, z⟩ := (S.forget hs).ground
  refine ⟨B, x, z, fun p hp hn => y _ _ (S.has p hp) (S.offL p hp) fun q hq e => hn ?_⟩
  have hq' := hs.subset hq
  have e1 := S.has p hp
  have e2 := S.has q hq'
  rw [e, e1] at e2
  have : q = p := Prod.ext e (Option.some.inj e2).symm
  exact this ▸ hq
theorem Fm.settle1 {a : Addr} {o : Obj} (S : Fm g L ls ((a, o) :: own) h) : ∃ B, Fm B L ls own h ∧ Le g B ∧ B.get? a = some o := by
  obtain ⟨B, S', k1, k2⟩ := S.settle (List.sublist_cons_self _ _)
  refine ⟨B, S', k1, k2 (a, o) List.mem_cons_self fun hm => ?_⟩
  have nd := S.nd
  rw [List.map_cons, List.nodup_cons] at nd
  exact nd.1 (List.mem_map_of_mem hm)
theorem Fm.ne {D : Addr} {o : Obj} (S : Fm g L ls own h) (hB : ∀ b o, h.get? b = some o → (∀ p ∈ own, p.1 ≠ b) → B.get? b = some o) (kB : Le B B') (T : Fm B' C lc own' h') (hm : (D, o) ∈ own') : D ≠ L := by
  obtain ⟨m, ⟨oL, es, ep, e1, _⟩, n2⟩ := S.ns
  have hL := kB _ _ (hB _ _ e1 fun p hp => S.offL p hp)
  rintro rfl
  have := T.goff _ hm
  rw [hL] at this; cases this
end
end Mine
namespace Mine
open PySem PySem.Spec PySem.Calls PyProof.Rows PySem.W

section
variable {g h h' B B' : Heap} {L C : Addr} {ls lc : Loc} {own own' ex : List (Addr × Obj)}
theorem Fm.ext {it : Addr} {o o' : Obj} (S : Fm g L ls (own ++ (it, o) :: ex) h) (k : Heap.ExtBut it h h') (ho : h'.get? it = some o') : Fm g L ls (own ++ (it, o') :: ex) h' := by
  obtain ⟨m, n1, n2⟩ := S.ns
  have hi : (it, o) ∈ own ++ (it, o) :: ex := by simp
  have U : Upd1 it o o' (own ++ (it, o) :: ex) (own ++ (it, o') :: ex) := Fm.Upd1_mid own
  have hL : L ≠ it := fun e => S.offL _ hi e.symm
  refine ⟨⟨m, n1.extBut k hL, n2⟩, S.nl, fun b x e => k b x ?_ (S.keep b x e), ?_, U.addrs ▸ S.nd, ?_, S.gL, ?_⟩
  · rintro rfl; rw [S.goff _ hi] at e; cases e
  · intro p hp
    rcases U.vals S.nd p hp with rfl | ⟨e, hp⟩
    · exact ho
    · exact k _ _ e (S.has p hp)
  · intro p hp
    rcases U.vals S.nd p hp with rfl | ⟨e, hp⟩
    · exact S.offL (it, o) hi
    · exact S.offL _ hp
  · intro p hp
    rcases U.vals S.nd p hp with rfl | ⟨e, hp⟩
    · exact S.goff (it, o) hi
    · exact S.goff _ hp
theorem Fm.drop {it : Addr} {o : Obj} (S : Fm g L ls (own ++ (it, o) :: ex) h) (k : Heap.ExtBut it h h') : Fm g L ls (own ++ ex) h' := by
  obtain ⟨m, n1, n2⟩ := S.ns
  have hi : (it, o) ∈ own ++ (it, o) :: ex := by simp
  have hL : L ≠ it := fun e => S.offL _ hi e.symm
  have sub : (own ++ ex).Sublist (own ++ (it, o) :: ex) := List.Sublist.append (List.Sublist.refl _) (List.sublist_cons_self _ _)
  have ne : ∀ p ∈ own ++ ex, p.1 ≠ it := fun p hp e => by
    have nd := S.nd
    rw [List.map_append, List.map_cons, List.nodup_append] at nd
    rcases List.mem_append.mp hp with q | q
    · exact nd.2.2 p.1 (List.mem_map_of_mem q) it (by simp) e
    · exact (List.nodup_cons.mp nd.2.1).1 (List.mem_map.mpr ⟨p, q, e⟩)
  refine ⟨⟨m, n1.extBut k hL, n2⟩, S.nl, fun b x e => k b x ?_ (S.keep b x e), fun p hp => k _ _ (ne p hp) (S.has p (sub.subset hp)), (sub.map _).nodup S.nd, fun p hp => S.offL p (sub.subset hp), S.gL, fun p hp => S.goff p (sub.subset hp)⟩
  rintro rfl; rw [S.goff _ hi] at e; cases e
end

structure Itr (prog : Program) (w : World) (A : Around) (s₀ : Shared) (target : Expr) (g : Heap) (it : Addr) (n : Nat) (P : Nat → Value → Heap → Prop) (O : Nat → Obj → Prop) : Prop where
  item : ∀ i h o, i < n → Le g h → h.get? it = some o → O i o → ∀ Q : Value → Heap → Prop, (∀ v h' o', P i v h' → Heap.ExtBut it h h' → h'.get? it = some o' → O (i + 1) o' → Q v h') →
    W (model prog w) A s₀ (pyNext (.ref it)) (fun r h1 => ∃ v, r = some v ∧ (∀ x px, target = .Name x px → Q v h1) ∧ W (model prog w) A s₀ (letOwnedTupleGo target (.ref it) v) (fun _ h2 => Q v h2) h1) h
  self : ∀ h o, Le g h → h.get? it = some o → O 0 o → ∀ Q : Value → Heap → Prop, Q (.ref it) h → W (model prog w) A s₀ (pyIter (.ref it)) Q h
  done : ∀ h o, Le g h → h.get? it = some o → O n o → ∀ Q : Heap → Prop, (∀ h', Heap.ExtBut it h h' → Q h') → W (model prog w) A s₀ (pyNext (.ref it)) (fun r h1 => r = none ∧ Q h1) h

section
variable {prog : Program} {w : World} {A : Around} {s₀ : Shared} {env : Env} {h : Heap}
theorem WF_itr {target : Expr} {body : List Stmt} {g : Heap} {L it : Addr} {n : Nat} {P : Nat → Value → Heap → Prop} {O : Nat → Obj → Prop} {ls : Loc} {own ex : List (Addr × Obj)} {o : Obj} {Q : Flow → Heap → Prop}
    (I : Itr prog w A s₀ target g it n P O) (S : Fm g L ls (own ++ (it, o) :: ex) h) (o0 : O 0 o) (J : Nat → Heap → Loc → List (Addr × Obj) → Prop) (h0 : J 0 g ls own)
    (step : ∀ i v B ls own ex h, i < n → Le g B → J i B ls own → P i v h → Fm B L ls (own ++ ex) h → W (model prog w) A s₀ (assign target env v) (fun _ h2 => W (model prog w) A s₀ (execs body env) (fun f h' =>
      (f = .next ∨ f = .cont) ∧ ∃ B' ls' own', Le B B' ∧ Fm B' L ls' (own' ++ ex) h' ∧ J (i + 1) B' ls' own') h2) h)
    (done : ∀ B ls own h, Le g B → J n B ls own → Fm B L ls (own ++ ex) h → Q .next h) : WF (model prog w) A s₀ (.forLoop target (.ref it) body [] env) Q h := by
  refine WF_For (fun m h => ∃ i B ls own o, m = n - i ∧ i ≤ n ∧ Le g B ∧ J i B ls own ∧ O i o ∧ Fm B L ls (own ++ (it, o) :: ex) h) ?_ n ⟨0, g, ls, own, o, rfl, Nat.zero_le _, Le.refl g, h0, o0, S⟩
  rintro m h ⟨i, B, ls, own, o, rfl, hi, kB, hJ, hO, S⟩
  have ho := S.get (show (it, o) ∈ _ by simp)
  rcases Nat.lt_or_eq_of_le hi with hlt | rfl
  · have key : ∀ v h' o', P i v h' → Heap.ExtBut it h h' → h'.get? it = some o' → O (i + 1) o' → W (model prog w) A s₀ (assign target env v) (fun _ h3 => W (model prog w) A s₀ (execs body env) (fun f h4 => match f with
        | .next | .cont => ∃ m, m < n - i ∧ ∃ i B ls own o, m = n - i ∧ i ≤ n ∧ Le g B ∧ J i B ls own ∧ O i o ∧ Fm B L ls (own ++ (it, o) :: ex) h4
        | .brk => Q .next h4
        | .ret v => Q (.ret v) h4) h3) h' := fun v h' o' p k ho' hO' => by
      refine (step i v B ls own ((it, o') :: ex) h' hlt kB hJ p (S.ext k ho')).mono fun _ h3 x => x.mono fun f h4 => ?_
      rintro ⟨hf, B', ls', own', kB', S', hJ'⟩
      rcases hf with rfl | rfl <;> exact ⟨n - (i + 1), by omega, i + 1, B', ls', own', o', rfl, hlt, kB.trans kB', hJ', hO', S'⟩
    refine (I.item i h o hlt (kB.trans S.keep) ho hO _ key).mono ?_
    rintro r h1 ⟨v, rfl, _, x⟩
    exact x
  · refine (I.done h o (kB.trans S.keep) ho hO _ fun h' k => done B ls own h' kB hJ (S.drop k)).mono ?_
    rintro r h1 ⟨rfl, q⟩
    exact q
end
end Mine
namespace Mine
open PySem PySem.Spec PySem.Calls PyProof.Rows PySem.W
section
variable {prog : Program} {w : World} {A : Around} {s₀ : Shared} {env : Env} {h g : Heap} {L : Addr} {ls : Loc} {own ex : List (Addr × Obj)}

theorem isList_le {g h : Heap} {l : Addr} {items : Array Value} (x : g.IsList l items) (k : Le g h) : h.IsList l items := let ⟨o, a, b⟩ := x; ⟨o, k _ _ a, b⟩
/-- the target takes no tuple of the iterator's own -/
def NoGo (target : Expr) : Prop := ∀ (M : Model) (A : Around) (s₀ : Shared) (it : Addr) (v : Value) (o : Obj) (n : String) (h : Heap) (Q : Unit → Heap → Prop), h.get? it = some o → o.cls = .type n → n = "list_iterator" ∨ n = "range_iterator" ∨ n = "dict_keyiterator" →
  Q () h → W M A s₀ (letOwnedTupleGo target (.ref it) v) Q h
theorem NoGo.name (x : Str) (pos : Pos) : NoGo (.Name x pos) := fun M A s₀ it v o n h Q ho hn hc q => W.of fun tk Q' k => wpAny_pure (k _ _ _ q)
theorem NoGo.tuple (elts : List Expr) (n : Nat) (pos : Pos) : NoGo (.Tuple elts n pos) := fun M A s₀ it v o n h Q ho hn hc q => W.of fun tk Q' k => by
  unfold letOwnedTupleGo
  cases v with
  | ref a =>
    refine wpAny_bind (wpAny_load ho ?_)
    rw [hn]
    cases hd : o.data with
    | fields vs =>
      dsimp only
      have : ["enumerate", "zip", "dict_itemiterator", "dict_reverseitemiterator", "odict_iterator", "itertools.zip_longest", "itertools.pairwise"].contains n = false := by
        rcases hc with rfl | rfl | rfl <;> decide
      rw [this]
      exact wpAny_pure (k _ _ _ q)
    | _ => exact wpAny_pure (k _ _ _ q)
  | _ => exact wpAny_pure (k _ _ _ q)

theorem Itr.list {target : Expr} {it l : Addr} {items : Array Value} (hh : A.handled = none) (hg : NoGo target) (hl : g.IsList l items) (hi : g.get? it = none) :
    Itr prog w A s₀ target g it items.size (fun i v _ => items[i]? = some v) (fun i o => o.cls = .type "list_iterator" ∧ o.data = .fields #[.ref l, .int i 0]) where
  item := fun i h o hlt kg ho ⟨hc, hd⟩ Q q => W.of fun tk Q' k => by
    refine wpAny_pyNext_list_item (it := it) (l := l) ⟨o, ho, hc, hd⟩ (isList_le hl kg) (x := items[i]) (Array.getElem?_eq_getElem hlt) fun h' ⟨o', ho', hc', hd'⟩ hs => ?_
    exact k _ _ _ ⟨_, rfl, fun _ _ _ => q _ h' o' (Array.getElem?_eq_getElem hlt) hs.extBut ho' ⟨hc', hd'⟩, hg _ _ _ it _ o' _ h' _ ho' hc' (.inl rfl) (q _ h' o' (Array.getElem?_eq_getElem hlt) hs.extBut ho' ⟨hc', hd'⟩)⟩
  self := fun h o kg ho ⟨hc, hd⟩ Q q => W.of fun tk Q' k => wpAny_pyIter_listiter (it := it) (l := l) ⟨o, ho, hc, hd⟩ (k _ _ _ q)
  done := fun h o kg ho ⟨hc, hd⟩ Q q => W.of fun tk Q' k => by
    exact wpAny_pyNext_list_end hh (it := it) (l := l) ⟨o, ho, hc, hd⟩ (isList_le hl kg) (by simp) fun h' he => k _ _ _ ⟨rfl, q h' he⟩
theorem Itr.range {target : Expr} {it : Addr} {a : Int} {n : Nat} (hh : A.handled = none) (hg : NoGo target) :
    Itr prog w A s₀ target g it n (fun i v _ => ∃ t, v = .int (a + i) t) (fun i o => o = { cls := .type "range_iterator", dict := none, data := .fields #[rawInt (a + i), rawInt ((n : Int) - i), rawInt 1], slots := #[] }) where
  item := fun i h o hlt kg ho hO Q q => W.of fun tk Q' k => by
    subst hO
    refine wpAny_pyNext_range_item (it := it) ho (by omega) fun h' ho' hs => ?_
    have q' := q (.int (a + i) tk) h' _ ⟨_, rfl⟩ hs.extBut ho' (by
      simp only [Int.natCast_add, Int.natCast_one, Obj.mk.injEq, true_and, and_true, Data.fields.injEq]
      rw [show a + (i : Int) + 1 = a + ((i : Int) + 1) by omega, show (n : Int) - (i : Int) - 1 = (n : Int) - ((i : Int) + 1) by omega])
    exact k _ h' _ ⟨_, rfl, fun _ _ _ => q', hg _ _ _ it _ _ _ h' _ ho' rfl (.inr (.inl rfl)) q'⟩
  self := fun h o kg ho hO Q q => W.of fun tk Q' k => by
    subst hO
    exact wpAny_pyIter_rangeiter (it := it) ho (k _ _ _ q)
  done := fun h o kg ho hO Q q => W.of fun tk Q' k => by
    subst hO
    exact wpAny_pyNext_range_end hh (it := it) ho (by omega) fun h' he => k _ _ _ ⟨rfl, q h' he⟩

theorem fresh_none (h : Heap) : h.get? h.objs.size = none := by
  cases e : h.get? h.objs.size with
  | none => rfl
  | some o => exact absurd (Heap.lt_size e) (Nat.lt_irrefl _)
/-- an iterator is laid: it lies behind what the loop's law speaks of -/
theorem Fm.pushMid {o : Obj} (S : Fm g L ls (own ++ ex) h) (hf : o.isFreed = false := by rfl) : Fm g L ls (own ++ (h.objs.size, o) :: ex) (h.push o) :=
  (S.push hf).perm List.perm_middle.symm
theorem Fm.goffFresh (S : Fm g L ls own h) : g.get? h.objs.size = none := by
  cases e : g.get? h.objs.size with
  | none => rfl
  | some o => exact absurd (Heap.lt_size (S.keep _ _ e)) (Nat.lt_irrefl _)

theorem W_loopList {target : Expr} {body : List Stmt} {l : Addr} {items : Array Value} {Q : Flow → Heap → Prop} (hh : A.handled = none) (hg : NoGo target) (S : Fm g L ls (own ++ ex) h) (hl : g.IsList l items)
    (J : Nat → Heap → Loc → List (Addr × Obj) → Prop) (h0 : J 0 g ls own)
    (step : ∀ i v B ls own ex h, items[i]? = some v → Le g B → J i B ls own → Fm B L ls (own ++ ex) h → W (model prog w) A s₀ (assign target env v) (fun _ h2 => W (model prog w) A s₀ (execs body env) (fun f h' =>
      (f = .next ∨ f = .cont) ∧ ∃ B' ls' own', Le B B' ∧ Fm B' L ls' (own' ++ ex) h' ∧ J (i + 1) B' ls' own') h2) h)
    (done : ∀ B ls own h, Le g B → J items.size B ls own → Fm B L ls (own ++ ex) h → Q .next h) : W (model prog w) A s₀ (pyIter (.ref l)) (fun it h2 => WF (model prog w) A s₀ (.forLoop target it body [] env) Q h2) h :=
  W.of fun tk Q' k => wpAny_pyIter_list (isList_le hl S.keep) (k _ _ _ (WF_itr (Itr.list hh hg hl S.goffFresh) S.pushMid ⟨rfl, rfl⟩ J h0 (fun i v B ls own ex h _ kB hJ p S => step i v B ls own ex h p kB hJ S) done))
theorem W_loopRange {target : Expr} {body : List Stmt} {r : Addr} {a b : Int} {t u v : Tok} {Q : Flow → Heap → Prop} (hh : A.handled = none) (hg : NoGo target) (S : Fm g L ls (own ++ ex) h) (hr : IsRange h r a b 1 t u v)
    (ha : -(2 ^ 62) ≤ a) (ha' : a < 2 ^ 62) (hb : -(2 ^ 62) ≤ b) (hb' : b < 2 ^ 62)
    (J : Nat → Heap → Loc → List (Addr × Obj) → Prop) (h0 : J 0 g ls own)
    (step : ∀ i t B ls own ex h, i < (b - a).toNat → Le g B → J i B ls own → Fm B L ls (own ++ ex) h → W (model prog w) A s₀ (assign target env (.int (a + i) t)) (fun _ h2 => W (model prog w) A s₀ (execs body env) (fun f h' =>
      (f = .next ∨ f = .cont) ∧ ∃ B' ls' own', Le B B' ∧ Fm B' L ls' (own' ++ ex) h' ∧ J (i + 1) B' ls' own') h2) h)
    (done : ∀ B ls own h, Le g B → J (b - a).toNat B ls own → Fm B L ls (own ++ ex) h → Q .next h) : W (model prog w) A s₀ (pyIter (.ref r)) (fun it h2 => WF (model prog w) A s₀ (.forLoop target it body [] env) Q h2) h :=
  W.of fun tk Q' k => wpAny_pyIter_range hr (small_one ha ha' hb hb') (k _ _ _ (WF_itr (Itr.range (a := a) (n := (b - a).toNat) hh hg) S.pushMid
    (by rw [rangeSize_nat]; simp only [Int.natCast_zero, Int.add_zero, Int.sub_zero]) J h0 (fun i v B ls own ex h hi kB hJ p S => by obtain ⟨t, rfl⟩ := p; exact step i t B ls own ex h hi kB hJ S) done))
end
end Mine
namespace Mine
open PySem PySem.Spec PySem.Calls PyProof.Rows PySem.W

abbrev celO (v : Option Value) : Obj := { cls := .type "cell", data := .cell v }
inductive Laid : List Str → List (Str × Addr) → List (Addr × Obj) → List (Str × Addr) → List (Addr × Obj) → Prop
  | nil {cs ow} : Laid [] cs ow cs ow
  | cons {n r cs ow cs' ow'} (a : Addr) : Laid r ((n, a) :: cs) ((a, celO none) :: ow) cs' ow' → Laid (n :: r) cs ow cs' ow'
def cellNames : List (Str × NameKind) → List Str
  | [] => []
  | (n, k) :: r => if k == .cell then n :: cellNames r else cellNames r

section
variable {M : Model} {A : Around} {s₀ : Shared} {env : Env} {g h B : Heap} {L C : Addr} {ls lc : Loc} {own : List (Addr × Obj)}
theorem W_layCells (f : Str × NameKind → List (Str × Addr) → Sem (ForInStep (List (Str × Addr))))
    (hf : ∀ name kind cells, f (name, kind) cells = if kind == .cell then (do let a ← alloc { cls := .type "cell", data := .cell none }; pure (.yield ((name, a) :: cells))) else pure (.yield cells)) :
    ∀ (names : List (Str × NameKind)) (acc : List (Str × Addr)) (own : List (Addr × Obj)) (h : Heap) (Q : List (Str × Addr) → Heap → Prop), Fm B C lc own h →
      (∀ cs' ow' h', Laid (cellNames names) acc own cs' ow' → Fm B C lc ow' h' → Le h h' → Q cs' h') → W M A s₀ (forIn names acc f) Q h
  | [], acc, own, h, Q, S, q => by rw [List.forIn_nil]; exact W_pure (q _ _ _ .nil S (Le.refl _))
  | (name, kind) :: r, acc, own, h, Q, S, q => by
    rw [List.forIn_cons, hf]
    by_cases hk : kind == .cell
    · rw [if_pos hk]
      refine W_bind (W_bind (W.of fun tk Q' k => wpAny_alloc (k _ _ _ (W_pure ?_))))
      refine W_layCells f hf r _ _ _ Q S.push fun cs' ow' h' l S' kk => q cs' ow' h' ?_ S' (Le.trans (fun b o e => Heap.get?_push_of_some _ e) kk)
      have : cellNames ((name, kind) :: r) = name :: cellNames r := if_pos hk
      rw [this]; exact .cons _ l
    · rw [if_neg hk]
      refine W_bind (W_pure (W_layCells f hf r _ _ _ Q S fun cs' ow' h' l S' kk => q cs' ow' h' ?_ S' kk))
      have : cellNames ((name, kind) :: r) = cellNames r := if_neg hk
      rw [this]; exact l

def bindsLoop (env : Env) (binds : List (Str × Value)) : Sem PUnit := forIn binds PUnit.unit fun p _ => do storeName env p.1 p.2; pure (.yield ⟨⟩)
theorem W_bindsNil {Q : PUnit → Heap → Prop} (q : Q ⟨⟩ h) : W M A s₀ (bindsLoop env []) Q h := by unfold bindsLoop; rw [List.forIn_nil]; exact W_pure q
theorem W_bindsCons {n v r} {Q : PUnit → Heap → Prop} (y : W M A s₀ (storeName env n v) (fun _ h1 => W M A s₀ (bindsLoop env r) Q h1) h) : W M A s₀ (bindsLoop env ((n, v) :: r)) Q h := by
  unfold bindsLoop; rw [List.forIn_cons]
  exact W_bind (W_bind (y.mono fun _ h1 z => W_pure z))

theorem W_newEnv {scope : Scope} {globals builtins : Addr} {closure : List (Str × Addr)} {binds : List (Str × Value)} {qual : Str} {func : Option Addr} {code : Value} {around : Option Env} {Q : Env → Heap → Prop}
    (lc : Loc) (S : Fm g L ls own h) (hlc : ∀ p ∈ lc, p.2 = none) (nl : (lc.map (·.1)).Nodup)
    (y : ∀ B C cs own' h', Laid (cellNames scope.names) closure own cs own' → Fm B C lc own' h' → Le h h' → (∀ b o, h.get? b = some o → (∀ p ∈ own, p.1 ≠ b) → B.get? b = some o) → Le g B → (∀ b o, h.get? b = some o → b < C) →
      W M A s₀ (bindsLoop (newEnv scope C globals cs qual func code around builtins) binds) (fun _ h2 => Q (newEnv scope C globals cs qual func code around builtins) h2) h') :
    W M A s₀ (newFunctionEnv scope globals closure binds qual func code around builtins) Q h := by
  have hlc' : ∀ x v, (x, some v) ∈ lc → (none : Option Value) = some v := fun x v e => by have := hlc _ e; cases this
  have start : ∀ cls, ∃ B, Fm B h.objs.size lc own (h.push { cls := cls, data := .dict #[] }) ∧ (∀ b o, h.get? b = some o → (∀ p ∈ own, p.1 ≠ b) → B.get? b = some o) ∧ Le g B := fun cls =>
    S.enter (fun b o e => Heap.get?_push_of_some _ e) (Heap.Ns.new h cls) (fresh_none h) (fun x v e => by have := hlc _ e; cases this) nl
  cases around with
  | none =>
    simp only [newFunctionEnv, Option.isSome_none, Bool.false_eq_true, if_false]
    obtain ⟨B, S1, k1, k2⟩ := start (.type "frame")
    refine W_bind (W.of fun tk Q' k => wpAny_alloc (k _ _ _ ?_))
    refine W_bind (W_layCells _ (fun name kind cells => by cases hkc : kind == NameKind.cell <;> simp [hkc]) _ _ _ _ _ S1 fun cs' ow' h' l S' kk => ?_)
    refine W_bind ?_
    exact (y B _ cs' ow' h' l S' (Le.trans (fun b o e => Heap.get?_push_of_some _ e) kk) k1 k2 (fun b o e => Heap.lt_size e)).mono fun _ h2 q => W_pure q
  | some outer =>
    simp only [newFunctionEnv, Option.isSome_some, if_true]
    obtain ⟨B, S1, k1, k2⟩ := start (.type "dict")
    refine W_bind (W.of fun tk Q' k => wpAny_alloc (k _ _ _ ?_))
    refine W_bind (W_layCells _ (fun name kind cells => by cases hkc : kind == NameKind.cell <;> simp [hkc]) _ _ _ _ _ S1 fun cs' ow' h' l S' kk => ?_)
    refine W_bind ?_
    exact (y B _ cs' ow' h' l S' (Le.trans (fun b o e => Heap.get?_push_of_some _ e) kk) k1 k2 (fun b o e => Heap.lt_size e)).mono fun _ h2 q => W_pure q
end

def envF (fd : FuncData) (C : Addr) (cs : List (Str × Addr)) (a : Addr) : Env := newEnv fd.scope C fd.globals cs (fd.qualname ++ ".<locals>.") (some a) fd.code none fd.builtins
def retOf : Flow → Value
  | .ret v => v
  | _ => .none
section
variable {prog : Program} {w : World} {A : Around} {s₀ : Shared} {g h : Heap} {L : Addr} {ls : Loc} {own : List (Addr × Obj)}
theorem WC_def {a : Addr} {o : Obj} {fd : FuncData} {body : List Stmt} {args : Args} {binds : List (Str × Value)} {Q : Value → Heap → Prop} (lc : Loc) (S : Fm g L ls own h) (hroom : A.depth < recursionLimit)
    (ho : h.get? a = some o) (hdata : o.data = .func fd) (hlim : g.NoLimit) (hcd : h.CodeRec fd.code fd.qualname) (hbody : fd.body = .stmts body)
    (hbind : ∀ tk, BindsTo { s₀ with heap := h, toks := tk } fd args binds) (hlc : ∀ p ∈ lc, p.2 = none) (nl : (lc.map (·.1)).Nodup)
    (y : ∀ B C cs own' h', Laid (cellNames fd.scope.names) fd.closure own cs own' → Fm B C lc own' h' → Le h h' → (∀ b o, h.get? b = some o → (∀ p ∈ own, p.1 ≠ b) → B.get? b = some o) → Le g B → (∀ b o, h.get? b = some o → b < C) →
      W (model prog w) A.in1 s₀ (bindsLoop (envF fd C cs a) binds) (fun _ h2 => Le g h2 ∧ W (model prog w) (A.deeper (envF fd C cs a)) s₀ (execs body (envF fd C cs a)) (fun f h3 => Q (retOf f) h3) h2) h')
    (hco : fd.scope.isCoroutine = false := by rfl) (hgen : fd.scope.isGenerator = false := by rfl) :
    WC (model prog w) A s₀ (.call (.ref a) args) Q h := ⟨fun tk => by
  refine codeAny_call_function hroom ho hdata hco hgen hbody hcd (hbind tk _ _ _ _ ?_)
  refine (W_newEnv (Q := fun env h2 => Le g h2 ∧ W (model prog w) (A.deeper env) s₀ (execs body env) (fun f h3 => Q (retOf f) h3) h2) lc S hlc nl fun B C cs own' h' l S' k1 k2 k3 k4 => y B C cs own' h' l S' k1 k2 k3 k4).use fun env h2 tk2 ⟨kk, z⟩ => ?_
  refine ⟨hlim.keeps kk, codeAny_func (z.use fun f h3 tk3 q => ?_)⟩
  exact ⟨_, _, _, by cases f <;> rfl, rfl, q⟩⟩
theorem WC_lam {a : Addr} {o : Obj} {fd : FuncData} {body : Expr} {args : Args} {binds : List (Str × Value)} {Q : Value → Heap → Prop} (lc : Loc) (S : Fm g L ls own h) (hroom : A.depth < recursionLimit)
    (ho : h.get? a = some o) (hdata : o.data = .func fd) (hlim : g.NoLimit) (hcd : h.CodeRec fd.code fd.qualname) (hbody : fd.body = .expr body)
    (hbind : ∀ tk, BindsTo { s₀ with heap := h, toks := tk } fd args binds) (hlc : ∀ p ∈ lc, p.2 = none) (nl : (lc.map (·.1)).Nodup)
    (y : ∀ B C cs own' h', Laid (cellNames fd.scope.names) fd.closure own cs own' → Fm B C lc own' h' → Le h h' → (∀ b o, h.get? b = some o → (∀ p ∈ own, p.1 ≠ b) → B.get? b = some o) → Le g B → (∀ b o, h.get? b = some o → b < C) →
      W (model prog w) A.in1 s₀ (bindsLoop (envF fd C cs a) binds) (fun _ h2 => Le g h2 ∧ W (model prog w) (A.deeper (envF fd C cs a)) s₀ (eval body (envF fd C cs a)) Q h2) h')
    (hco : fd.scope.isCoroutine = false := by rfl) (hgen : fd.scope.isGenerator = false := by rfl) :
    WC (model prog w) A s₀ (.call (.ref a) args) Q h := ⟨fun tk => by
  refine kla_callFunE hroom ho hdata hco hgen hbody hcd (hbind tk _ _ _ _ ?_)
  refine (W_newEnv (Q := fun env h2 => Le g h2 ∧ W (model prog w) (A.deeper env) s₀ (eval body env) Q h2) lc S hlc nl fun B C cs own' h' l S' k1 k2 k3 k4 => y B C cs own' h' l S' k1 k2 k3 k4).use fun env h2 tk2 ⟨kk, z⟩ => ?_
  refine ⟨hlim.keeps kk, kla_codeExpr (z.use fun v h3 tk3 q => ?_)⟩
  exact ⟨_, _, _, rfl, rfl, q⟩⟩
theorem EnvOk.call {fd : FuncData} {C a : Addr} {cs : List (Str × Addr)} {names : List (Str × NameKind)} (hk : fd.scope.kind = .function) (hn : fd.scope.names = names) (hg : fd.globals = mainGlobals) (hb : fd.builtins = builtinsNs)
    (nd : (names.map (·.1)).Nodup) (cnd : (cs.map (·.1)).Nodup) (dbg : ∀ p ∈ names, (p.1 == ("__debug__" : Str)) = false ∧ (p.1 == ("__classdict__" : Str)) = false) : EnvOk (envF fd C cs a) C names cs :=
  ⟨hk, hn, nd, rfl, hg, hb, rfl, cnd, dbg⟩
end
end Mine
namespace Mine
open PySem PySem.Spec PySem.Calls PyProof.Rows PySem.W

section
variable {g h h' B B' : Heap} {L C : Addr} {ls lc : Loc} {own own' ex : List (Addr × Obj)}
/-- the frame of a comprehension is left: it is still there, as an own object -/
theorem Fm.leaveC (S : Fm g L ls own h) (hB : ∀ b o, h.get? b = some o → (∀ p ∈ own, p.1 ≠ b) → B.get? b = some o) (kB : Le B B') (T : Fm B' C lc own' h') (hC : h.get? C = none) :
    ∃ g' oC, Fm g' L ls ((C, oC) :: own') h' ∧ Le g g' ∧ Out B' g' L ∧ Le g' B' ∧ ∃ m, ∀ (h'' : Heap), h''.get? C = some oC → h''.Ns C m := by
  obtain ⟨m, n1, n2⟩ := S.ns
  have toB : ∀ b o, h.get? b = some o → (∀ p ∈ own, p.1 ≠ b) → B'.get? b = some o := fun b o e ho => kB _ _ (hB b o e ho)
  obtain ⟨oL, es, ep, e1, e2, e3, e4⟩ := id n1
  have hL := toB _ _ e1 fun p hp => S.offL p hp
  have hCL : C ≠ L := by rintro rfl; rw [e1] at hC; cases hC
  obtain ⟨mC, c1, _⟩ := T.ns
  obtain ⟨oC, ec, pc, f1, f2, f3, f4⟩ := id c1
  refine ⟨hideAll B' [L], oC, ⟨⟨m, ⟨oL, es, ep, T.keep _ _ hL, e2, e3, e4⟩, n2⟩, S.nl, fun b o e => T.keep b o (of_hideAll _ e), ?_, ?_, ?_, hideAll_none _ (by simp), ?_⟩, fun b o e => ?_, ⟨fun b o e hb => hideAll_get _ e (by simpa using hb), fun b o e hd => hideAll_get _ e (by rw [List.mem_singleton]; rintro rfl; rw [hL] at e; cases e; exact hd _ _ e2)⟩, fun b o e => of_hideAll _ e, mC, fun h'' e => ⟨oC, ec, pc, e, f2, f3, f4⟩⟩
  · intro p hp
    rcases List.mem_cons.mp hp with rfl | hp
    · exact f1
    · exact T.has p hp
  · rw [List.map_cons, List.nodup_cons]
    refine ⟨fun hm => ?_, T.nd⟩
    obtain ⟨p, hp, e⟩ := List.mem_map.mp hm
    exact T.offL p hp e
  · intro p hp
    rcases List.mem_cons.mp hp with rfl | hp
    · exact hCL
    · intro e; have := T.goff p hp; rw [e, hL] at this; cases this
  · intro p hp
    have no : B'.get? p.1 = none := by
      rcases List.mem_cons.mp hp with rfl | hp
      · exact T.gL
      · exact T.goff p hp
    cases q : (hideAll B' [L]).get? p.1 with
    | none => rfl
    | some o => have := of_hideAll _ q; rw [no] at this; cases this
  · refine hideAll_get _ (toB b o (S.keep b o e) ?_) ?_
    · rintro p hp rfl; rw [S.goff p hp] at e; cases e
    · rw [List.mem_singleton]; rintro rfl; rw [S.gL] at e; cases e
end

def compTests (ifs : List Expr) (env : Env) : Sem Bool := forIn ifs true fun c r => if r = true then do let ok ← isTrue c env (eval c env); pure (ForInStep.yield ok) else pure (ForInStep.yield r)
section
variable {M : Model} {A : Around} {s₀ : Shared} {env : Env} {h : Heap}
theorem W_testsNil {Q : Bool → Heap → Prop} (q : Q true h) : W M A s₀ (compTests [] env) Q h := by unfold compTests; rw [List.forIn_nil]; exact W_pure q
theorem W_tests1 {c : Expr} {Q : Bool → Heap → Prop} (y : W M A s₀ (isTrue c env (eval c env)) Q h) : W M A s₀ (compTests [c] env) Q h := by
  unfold compTests; rw [List.forIn_cons]
  refine W_bind ?_
  rw [if_pos rfl]
  refine W_bind (y.mono fun ok h1 q => W_pure ?_)
  show W M A s₀ (forIn [] ok _) Q h1
  rw [List.forIn_nil]; exact W_pure q
end

/-- the free names of a scope, in the cells of the scope around it -/
def freeOf (cells : List (Str × Addr)) : List (Str × NameKind) → List (Str × Addr) → List (Str × Addr)
  | [], acc => acc
  | (n, k) :: r, acc => if k == .free then freeOf cells r ((n, (cells.lookup n).getD 0) :: acc) else freeOf cells r acc
theorem closure_eq {env : Env} : ∀ (names : List (Str × NameKind)) (acc : List (Str × Addr)), (∀ p ∈ names, p.2 = .free → (env.cells.lookup p.1).isSome = true) →
    (forIn names acc (fun (p : Str × NameKind) (cs : List (Str × Addr)) => if (p.2 == NameKind.free) = true then do let c ← cellOf env p.1; pure (ForInStep.yield ((p.1, c) :: cs)) else pure (ForInStep.yield cs)) : Sem (List (Str × Addr))) = pure (freeOf env.cells names acc)
  | [], acc, _ => by rw [List.forIn_nil]; rfl
  | (n, k) :: r, acc, hf => by
    rw [List.forIn_cons]
    have ih := fun acc => closure_eq (env := env) r acc fun p hp => hf p (List.mem_cons_of_mem _ hp)
    by_cases hk : (k == NameKind.free) = true
    · obtain ⟨c, hc⟩ := Option.isSome_iff_exists.mp (hf (n, k) (by simp) (by simpa using hk))
      have hc' : env.cells.lookup n = some c := hc
      simp only [hk, if_true, freeOf, cellOf, hc', pure_bind, Option.getD_some]
      exact ih _
    · simp only [hk, if_false, freeOf, pure_bind]
      exact ih _
theorem closureFor_eq {scope : Scope} {env : Env} (hf : ∀ p ∈ scope.names, p.2 = .free → (env.cells.lookup p.1).isSome = true) : closureFor scope env = pure (freeOf env.cells scope.names []) := by
  have := closure_eq (env := env) scope.names [] hf
  unfold closureFor
  refine Eq.trans ?_ this
  exact bind_pure _
end Mine
namespace Mine
open PySem PySem.Spec PySem.Calls PyProof.Rows PySem.W
theorem Laid.front {n cs ow cs' ow'} (l : Laid n cs ow cs' ow') : ∃ new, ow' = new ++ ow ∧ ∀ ow2, Laid n cs ow2 cs' (new ++ ow2) := by
  induction l with
  | nil => exact ⟨[], rfl, fun _ => .nil⟩
  | @cons n r cs ow cs' ow' a l ih =>
    obtain ⟨new, e, k⟩ := ih
    exact ⟨new ++ [(a, celO none)], by simp [e], fun ow2 => by simpa using Laid.cons a (k ((a, celO none) :: ow2))⟩

structure CompGo (prog : Program) (w : World) (A : Around) (s₀ : Shared) (env : Env) (e : Expr) (newAcc : Sem Value) (scope : Scope) (cl : List (Str × Addr)) (use : Option (Value → Sem Unit)) (it : Value) (Q : Value → Heap → Prop) (h : Heap) : Prop where
  run : ∀ tk, wpAny (model prog w) A newAcc (fun acc s₃ => wpAny (model prog w) A (newFunctionEnv scope env.globals cl [] env.qual none .none (some env)) (fun cenv s₄ =>
    codeAny (model prog w) A (.compStart e 0 it acc { cenv with scope := relabel scope env })
      (compPost (model prog w) A (fun _ _ => False) use (fun v s' => ∃ h' tk', s' = { s₀ with heap := h', toks := tk' } ∧ Q v h') acc cenv.locals) s₄) (fun _ _ => False) s₃) (fun _ _ => False) { s₀ with heap := h, toks := tk }
structure FinC (prog : Program) (w : World) (A : Around) (s₀ : Shared) (use : Option (Value → Sem Unit)) (Q : Value → Heap → Prop) (C : Addr) (D : Value) (h : Heap) : Prop where
  run : ∀ tk, compPost (model prog w) A (fun _ _ => False) use (fun v s' => ∃ h' tk', s' = { s₀ with heap := h', toks := tk' } ∧ Q v h') D C (.ok .next) { s₀ with heap := h, toks := tk }

section
variable {prog : Program} {w : World} {A : Around} {s₀ : Shared} {env : Env} {h g : Heap} {L : Addr} {ls : Loc} {own ex : List (Addr × Obj)}
theorem W_ListComp {elt target iter : Expr} {ifs : List Expr} {rest : List Comprehension} {scope : Scope} {pos : Pos} {cl : List (Str × Addr)} {Q : Value → Heap → Prop}
    (hclos : closureFor scope env = pure cl) (hkind : scope.kind = .function) (hnames : ∀ x ∈ scope.names, x.2 = .local → scope.names.lookup x.1 = some .local)
    (y : W (model prog w) A s₀ (eval iter env) (fun v h1 => W (model prog w) A s₀ (pyIter v) (fun it h2 => CompGo prog w A s₀ env (.ListComp elt (⟨target, iter, ifs, 0⟩ :: rest) scope pos) (newList []) scope cl none it Q h2) h1) h)
    (hs : ∀ x, foldedSetIterable iter env x = pure x := by intro _; rfl) : W (model prog w) A s₀ (eval (.ListComp elt (⟨target, iter, ifs, 0⟩ :: rest) scope pos) env) Q h := ⟨fun tk => by
  rw [eval_ListComp]
  exact wpAny_comprehension_free rfl hs hclos hkind hnames (y.use fun v h1 tk1 z => z.use fun it h2 tk2 u => u.run tk2)⟩

theorem FinC.none {Q : Value → Heap → Prop} {C D : Addr} {oC : Obj} {m : Str → Option Value} (S : Fm g L ls ((C, oC) :: own) h) (hm : ∀ (h'' : Heap), h''.get? C = some oC → h''.Ns C m) (q : ∀ h', Fm g L ls own h' → Q (.ref D) h') :
    FinC prog w A s₀ none Q C (.ref D) h := ⟨fun tk => ⟨m, hm h (S.get (.head _)), fun h' hs => ⟨h', tk, rfl, q h' (S.drop (own := []) hs.extBut)⟩⟩⟩
theorem FinC.name {Q : Value → Heap → Prop} {C D : Addr} {oC : Obj} {m : Str → Option Value} {y : Str} {py : Pos} {names : List (Str × NameKind)} {cells : List (Str × Addr)} {ls' : Loc} (E : EnvOk env L names cells) (S : Fm g L ls ((C, oC) :: own) h)
    (hm : ∀ (h'' : Heap), h''.get? C = some oC → h''.Ns C m) (hn : (y, NameKind.local) ∈ names) (U : Put y (.ref D) ls ls') (q : ∀ h', Fm g L ls' own h' → Q .none h') :
    FinC prog w A s₀ (some (assign (.Name y py) env)) Q C (.ref D) h := ⟨fun tk => by
  refine (W_asName (W_st (Q := fun _ h2 => Fm g L ls' ((C, oC) :: own) h2) E S hn U fun h' S' => S')).use fun _ h2 tk2 S2 => ?_
  exact ⟨m, hm h2 (S2.get (.head _)), fun h' hs => ⟨h', tk2, rfl, q h' (S2.drop (own := []) hs.extBut)⟩⟩⟩
theorem W_AssignComp {elt target iter : Expr} {ifs : List Expr} {rest : List Comprehension} {scope : Scope} {pos spos py : Pos} {y : Str} {cl : List (Str × Addr)} {Q : Flow → Heap → Prop}
    (hclos : closureFor scope env = pure cl) (hkind : scope.kind = .function) (hnames : ∀ x ∈ scope.names, x.2 = .local → scope.names.lookup x.1 = some .local)
    (x : W (model prog w) A s₀ (eval iter env) (fun v h1 => W (model prog w) A s₀ (pyIter v) (fun it h2 => CompGo prog w A s₀ env (.ListComp elt (⟨target, iter, ifs, 0⟩ :: rest) scope pos) (newList []) scope cl (some (assign (.Name y py) env)) it (fun _ h3 => Q .next h3) h2) h1) h)
    (hsw : swapsWith (.ListComp elt (⟨target, iter, ifs, 0⟩ :: rest) scope pos) (some (.Name y py)) spos.line env = pure true)
    (hs : ∀ x, foldedSetIterable iter env x = pure x := by intro _; rfl) : W (model prog w) A s₀ (exec (.Assign [.Name y py] (.ListComp elt (⟨target, iter, ifs, 0⟩ :: rest) scope pos) spos) env) Q h := W.of fun tk Q' k => by
  rw [exec_Assign_Name_used _ _ _ _ hsw]
  refine wpAny_bind (wpAny_standAt (wpAny_bind ?_))
  rw [arm_evalThenUse_ListComp]
  refine wpAny_bind (wpAny_comprehension_free (Q := fun v s' => ∃ h' tk', s' = { s₀ with heap := h', toks := tk' } ∧ Q .next h') rfl hs hclos hkind hnames (x.use fun v h1 tk1 z => z.use fun it h2 tk2 u => u.run tk2) |> fun z => wpAny_mono z (fun v s' ⟨h', tk', e, q⟩ => ?_) fun _ _ e => e)
  subst e
  exact wpAny_pure (wpAny_pure (k _ _ _ q))

theorem CompGo.itr {use : Option (Value → Sem Unit)} {elt iter : Expr} {x : Str} {px : Pos} {ifs : List Expr} {scope : Scope} {pos : Pos} {cl : List (Str × Addr)} {it : Addr} {n : Nat} {P : Nat → Value → Heap → Prop} {O : Nat → Obj → Prop} {o : Obj} {Q : Value → Heap → Prop}
    (I : Itr prog w A s₀ (.Name x px) g it n P O) (S : Fm g L ls (own ++ (it, o) :: ex) h) (o0 : O 0 o) (hsz : n ≤ 1000) (lc0 : Loc) (hlc : ∀ p ∈ lc0, p.2 = none) (nl : (lc0.map (·.1)).Nodup)
    (J : Addr → List (Str × Addr) → Nat → Heap → Loc → List Value → List (Addr × Obj) → Prop)
    (h0 : ∀ B C cs ownC, Laid (cellNames scope.names) cl own cs ownC → (∀ b o', h.get? b = some o' → (∀ p ∈ own ++ (it, o) :: ex, p.1 ≠ b) → B.get? b = some o') → Le g B → J C cs 0 B lc0 [] ownC)
    (step : ∀ C cs ownC i v B lc ys own₁ ex h, Laid (cellNames scope.names) cl own cs ownC → i < n → Le g B → J C cs i B lc ys own₁ → P i v h → Fm B C lc (own₁ ++ ex) h →
      W (model prog w) A s₀ (assign (.Name x px) (compEnvC scope cs C env) v) (fun _ h2 => W (model prog w) A s₀ (compTests ifs (compEnvC scope cs C env)) (fun ok h3 =>
        if ok = true then W (model prog w) A s₀ (eval elt (compEnvC scope cs C env)) (fun y h4 => ∃ B' lc' own', Le B B' ∧ Fm B' C lc' (own' ++ ex) h4 ∧ J C cs (i + 1) B' lc' (ys ++ [y]) own') h3
        else ∃ B' lc' own', Le B B' ∧ Fm B' C lc' (own' ++ ex) h3 ∧ J C cs (i + 1) B' lc' ys own') h2) h)
    (done : ∀ C cs B lc ys own₁ D k g' h', Le g B → J C cs n B lc ys own₁ → Le g g' → Out B g' L → (∀ oC m, Fm g' L ls ((C, oC) :: (D, lstO ys k) :: (own₁ ++ ex)) h' → (∀ (h'' : Heap), h''.get? C = some oC → h''.Ns C m) → FinC prog w A s₀ use Q C (.ref D) h')) :
    CompGo prog w A s₀ env (.ListComp elt [⟨.Name x px, iter, ifs, 0⟩] scope pos) (newList []) scope cl use (.ref it) Q h := ⟨fun tk => by
  have S1 := S.push (o := lstO [])
  refine wpAny_newObj_type ?_
  refine (W_newEnv (Q := fun cenv h2 => ∃ B C cs new, cenv = newEnv scope C env.globals cs env.qual none .none (some env) builtinsNs ∧ Laid (cellNames scope.names) cl own cs (new ++ own) ∧
    Fm B C lc0 (new ++ (h.objs.size, lstO []) :: (own ++ (it, o) :: ex)) h2 ∧ (∀ b o', h.get? b = some o' → (∀ p ∈ own ++ (it, o) :: ex, p.1 ≠ b) → B.get? b = some o') ∧ Le g B ∧ h.get? C = none) lc0 S1 hlc nl ?_).use ?_
  · intro B C cs own' h' l S' k1 k2 k3 hC
    obtain ⟨new, e, l2⟩ := l.front
    subst e
    refine W_bindsNil ⟨B, C, cs, new, rfl, l2 _, S', fun b o' e no => k2 b o' (Heap.get?_push_of_some _ e) fun p hp => ?_, k3, ?_⟩
    rotate_left
    · cases e : h.get? C with
      | none => rfl
      | some o' => exact absurd (hC _ _ (Heap.get?_push_of_some _ e)) (Nat.lt_irrefl _)
    rcases List.mem_cons.mp hp with rfl | hp
    · exact Nat.ne_of_gt (Heap.lt_size e)
    · exact no p hp
  rintro cenv h2 tk2 ⟨B, C, cs, new, rfl, l, S2, kB, kg, hC⟩
  have S2 : Fm B C lc0 ((new ++ own) ++ (h.objs.size, lstO []) :: (it, o) :: ex) h2 := S2.perm (by
    rw [List.append_assoc]
    refine List.Perm.append_left _ ?_
    exact (List.perm_middle (a := (h.objs.size, lstO [])) (l₁ := own) (l₂ := (it, o) :: ex)).symm)
  have J0 := h0 B C cs _ l kB kg
  generalize h.objs.size = D at S2
  show codeAny (model prog w) A (.compStart _ 0 (.ref it) (.ref D) (compEnvC scope cs C env)) (compPost (model prog w) A (fun _ _ => False) use _ (.ref D) C) _
  have fin : ∀ (B' : Heap) (lc : Loc) (ys : List Value) (own₁ : List (Addr × Obj)) (k : Nat) (h3 : Heap) (tk3 : Nat), Le B B' → J C cs n B' lc ys own₁ → Fm B' C lc (own₁ ++ (D, lstO ys k) :: ex) h3 →
      compPost (model prog w) A (fun _ _ => False) use (fun v s' => ∃ h' tk', s' = { s₀ with heap := h', toks := tk' } ∧ Q v h') (.ref D) C (.ok .next) { s₀ with heap := h3, toks := tk3 } := by
    intro B' lc ys own₁ k h3 tk3 kk hJ S3
    obtain ⟨g', oC, T, q1, q2, q3, m, q4⟩ := S.leaveC kB kk S3 hC
    exact (done C cs B' lc ys own₁ D k g' h3 (kg.trans kk) hJ q1 q2 oC m (T.perm (List.Perm.cons _ List.perm_middle)) q4).run tk3
  have loop : ∀ tk2, codeAny (model prog w) A (.compLoop (.ListComp elt [⟨.Name x px, iter, ifs, 0⟩] scope pos) 0 (.ref it) (.ref D) (compEnvC scope cs C env)) (compPost (model prog w) A (fun _ _ => False) use (fun v s' => ∃ h' tk', s' = { s₀ with heap := h', toks := tk' } ∧ Q v h') (.ref D) C) { s₀ with heap := h2, toks := tk2 } := fun tk2 => by
    refine codeAny_compLoop_tests (fun m s => ∃ h tk i B' lc ys own₁ o k, s = { s₀ with heap := h, toks := tk } ∧ m = n - i ∧ i ≤ n ∧ ys.length ≤ i ∧ Le B B' ∧ J C cs i B' lc ys own₁ ∧ O i o ∧ Fm B' C lc (own₁ ++ (D, lstO ys k) :: (it, o) :: ex) h) ?_ n
      ⟨h2, tk2, 0, B, lc0, [], new ++ own, o, 0, rfl, rfl, Nat.zero_le _, Nat.le_refl _, Le.refl _, J0, o0, S2⟩
    rintro m s ⟨h, tk, i, B', lc, ys, own₁, o, k, rfl, rfl, hi, hys, kk, hJ, hO, S⟩
    have S' : Fm B' C lc ((own₁ ++ [(D, lstO ys k)]) ++ (it, o) :: ex) h := by simpa using S
    have ho := S.get (show (it, o) ∈ _ by simp)
    have kg' : Le g h := (kg.trans kk).trans S.keep
    rcases Nat.lt_or_eq_of_le hi with hlt | rfl
    · have key : ∀ v h' o', P i v h' → Heap.ExtBut it h h' → h'.get? it = some o' → O (i + 1) o' →
          W (model prog w) A s₀ (assign (.Name x px) (compEnvC scope cs C env) v) (fun _ h2 => W (model prog w) A s₀ (compTests ifs (compEnvC scope cs C env)) (fun ok h3 =>
            if ok = true then W (model prog w) A s₀ (eval elt (compEnvC scope cs C env)) (fun y h4 => ∃ B'' lc' own' o', Le B' B'' ∧ Fm B'' C lc' (own' ++ (D, lstO ys k) :: (it, o') :: ex) h4 ∧ J C cs (i + 1) B'' lc' (ys ++ [y]) own' ∧ O (i + 1) o') h3
            else ∃ B'' lc' own' o', Le B' B'' ∧ Fm B'' C lc' (own' ++ (D, lstO ys k) :: (it, o') :: ex) h3 ∧ J C cs (i + 1) B'' lc' ys own' ∧ O (i + 1) o') h2) h' := fun v h' o' p k' ho' hO' => by
        have S2 := S'.ext k' ho'
        refine (step C cs _ i v B' lc ys own₁ ((D, lstO ys k) :: (it, o') :: ex) h' l hlt (kg.trans kk) hJ p (by simpa using S2)).mono fun _ h3 x => x.mono fun ok h4 x => ?_
        cases ok with
        | true =>
          simp only [if_true] at x ⊢
          exact x.mono fun y h5 ⟨B'', lc', own', q1, q2, q3⟩ => ⟨B'', lc', own', o', q1, q2, q3, hO'⟩
        | false =>
          simp only [Bool.false_eq_true, if_false] at x ⊢
          obtain ⟨B'', lc', own', q1, q2, q3⟩ := x
          exact ⟨B'', lc', own', o', q1, q2, q3, hO'⟩
      refine (I.item i h o hlt kg' ho hO _ key).use fun r h1 tk1 z => ?_
      obtain ⟨v, rfl, z, _⟩ := z
      refine (z x px rfl).use fun _ h2 tk2 z => z.use fun ok h3 tk3 z => ?_
      cases ok with
      | true =>
        simp only [if_true] at z ⊢
        refine z.use fun y h4 tk4 ⟨B'', lc', own', o', q1, q2, q3, hO'⟩ => ?_
        have hD := q2.get (show (D, lstO ys k) ∈ _ by simp)
        refine append_at hD (fun h' hs ho' => ?_) (by show ys.toArray.size ≤ _; rw [List.size_toArray, sizeLine_eq]; omega)
        refine ⟨n - (i + 1), by omega, h', tk4, i + 1, B'', lc', ys ++ [y], own', o', k + 1, rfl, rfl, hlt, by simp; omega, kk.trans q1, q3, hO', ?_⟩
        refine q2.changed (Fm.Upd1_mid _) hs ?_
        rw [ho']; simp [lstO]
      | false =>
        simp only [Bool.false_eq_true, if_false] at z ⊢
        obtain ⟨B'', lc', own', o', q1, q2, q3, hO'⟩ := z
        exact ⟨n - (i + 1), by omega, h3, tk3, i + 1, B'', lc', ys, own', o', k, rfl, rfl, hlt, by omega, kk.trans q1, q3, hO', q2⟩
    · refine (I.done h o kg' ho hO (fun h' => Heap.ExtBut it h h') fun h' k => k).use fun r h1 tk1 z => ?_
      obtain ⟨rfl, z⟩ := z
      have S2 := S'.drop z
      exact fin B' lc ys own₁ k h1 tk1 kk hJ (by simpa using S2)
  refine codeAny_compStart_list (loop tk2) ?_
  have ho := S2.get (show (it, o) ∈ _ by simp)
  exact (I.self h2 o (kg.trans S2.keep) ho o0 (fun v h' => v = .ref it ∧ h' = h2) ⟨rfl, rfl⟩).use fun v h' tk' ⟨e1, e2⟩ => by subst e1; subst e2; exact loop tk'⟩
end
end Mine
namespace Mine
open PySem PySem.Spec PySem.Calls PyProof.Rows PySem.W
section
variable {prog : Program} {w : World} {A : Around} {s₀ : Shared} {env : Env} {h g : Heap} {L : Addr} {ls : Loc} {own ex : List (Addr × Obj)}
theorem W_compList {use : Option (Value → Sem Unit)} {elt iter : Expr} {x : Str} {px : Pos} {ifs : List Expr} {scope : Scope} {pos : Pos} {cl : List (Str × Addr)} {l : Addr} {items : Array Value} {Q : Value → Heap → Prop}
    (hh : A.handled = none) (S : Fm g L ls (own ++ ex) h) (hl : g.IsList l items) (hsz : items.size ≤ 1000) (lc0 : Loc) (hlc : ∀ p ∈ lc0, p.2 = none) (nl : (lc0.map (·.1)).Nodup)
    (J : Addr → List (Str × Addr) → Nat → Heap → Loc → List Value → List (Addr × Obj) → Prop)
    (h0 : ∀ B C cs ownC, Laid (cellNames scope.names) cl own cs ownC → (∀ b o', h.get? b = some o' → (∀ p ∈ own ++ ex, p.1 ≠ b) → B.get? b = some o') → Le g B → J C cs 0 B lc0 [] ownC)
    (step : ∀ C cs ownC i v B lc ys own₁ ex h, Laid (cellNames scope.names) cl own cs ownC → items[i]? = some v → Le g B → J C cs i B lc ys own₁ → Fm B C lc (own₁ ++ ex) h →
      W (model prog w) A s₀ (assign (.Name x px) (compEnvC scope cs C env) v) (fun _ h2 => W (model prog w) A s₀ (compTests ifs (compEnvC scope cs C env)) (fun ok h3 =>
        if ok = true then W (model prog w) A s₀ (eval elt (compEnvC scope cs C env)) (fun y h4 => ∃ B' lc' own', Le B B' ∧ Fm B' C lc' (own' ++ ex) h4 ∧ J C cs (i + 1) B' lc' (ys ++ [y]) own') h3
        else ∃ B' lc' own', Le B B' ∧ Fm B' C lc' (own' ++ ex) h3 ∧ J C cs (i + 1) B' lc' ys own') h2) h)
    (done : ∀ C cs B lc ys own₁ D k g' h', Le g B → J C cs items.size B lc ys own₁ → Le g g' → Out B g' L → (∀ oC m, Fm g' L ls ((C, oC) :: (D, lstO ys k) :: (own₁ ++ ex)) h' → (∀ (h'' : Heap), h''.get? C = some oC → h''.Ns C m) → FinC prog w A s₀ use Q C (.ref D) h')) :
    W (model prog w) A s₀ (pyIter (.ref l)) (fun it h2 => CompGo prog w A s₀ env (.ListComp elt [⟨.Name x px, iter, ifs, 0⟩] scope pos) (newList []) scope cl use it Q h2) h :=
  W.of fun tk Q' k => wpAny_pyIter_list (isList_le hl S.keep) (k _ _ _ (CompGo.itr (Itr.list hh (NoGo.name _ _) hl S.goffFresh) S.pushMid ⟨rfl, rfl⟩ hsz lc0 hlc nl J
    (fun B C cs ownC l kB kg => h0 B C cs ownC l (fun b o' e no => kB b o' (Heap.get?_push_of_some _ e) fun p hp => by
      rcases List.mem_append.mp hp with hp | hp
      · exact no p (List.mem_append_left _ hp)
      · rcases List.mem_cons.mp hp with rfl | hp
        · exact Nat.ne_of_gt (Heap.lt_size e)
        · exact no p (List.mem_append_right _ hp)) kg)
    (fun C cs ownC i v B lc ys own₁ ex h l _ kB hJ p S => step C cs ownC i v B lc ys own₁ ex h l p kB hJ S) done))
theorem W_compRange {use : Option (Value → Sem Unit)} {elt iter : Expr} {x : Str} {px : Pos} {ifs : List Expr} {scope : Scope} {pos : Pos} {cl : List (Str × Addr)} {r : Addr} {a b : Int} {t u v : Tok} {Q : Value → Heap → Prop}
    (hh : A.handled = none) (S : Fm g L ls (own ++ ex) h) (hr : IsRange h r a b 1 t u v) (ha : -(2 ^ 62) ≤ a) (ha' : a < 2 ^ 62) (hb : -(2 ^ 62) ≤ b) (hb' : b < 2 ^ 62)
    (hsz : (b - a).toNat ≤ 1000) (lc0 : Loc) (hlc : ∀ p ∈ lc0, p.2 = none) (nl : (lc0.map (·.1)).Nodup)
    (J : Addr → List (Str × Addr) → Nat → Heap → Loc → List Value → List (Addr × Obj) → Prop)
    (h0 : ∀ B C cs ownC, Laid (cellNames scope.names) cl own cs ownC → (∀ b o', h.get? b = some o' → (∀ p ∈ own ++ ex, p.1 ≠ b) → B.get? b = some o') → Le g B → J C cs 0 B lc0 [] ownC)
    (step : ∀ C cs ownC i t B lc ys own₁ ex h, Laid (cellNames scope.names) cl own cs ownC → i < (b - a).toNat → Le g B → J C cs i B lc ys own₁ → Fm B C lc (own₁ ++ ex) h →
      W (model prog w) A s₀ (assign (.Name x px) (compEnvC scope cs C env) (.int (a + i) t)) (fun _ h2 => W (model prog w) A s₀ (compTests ifs (compEnvC scope cs C env)) (fun ok h3 =>
        if ok = true then W (model prog w) A s₀ (eval elt (compEnvC scope cs C env)) (fun y h4 => ∃ B' lc' own', Le B B' ∧ Fm B' C lc' (own' ++ ex) h4 ∧ J C cs (i + 1) B' lc' (ys ++ [y]) own') h3
        else ∃ B' lc' own', Le B B' ∧ Fm B' C lc' (own' ++ ex) h3 ∧ J C cs (i + 1) B' lc' ys own') h2) h)
    (done : ∀ C cs B lc ys own₁ D k g' h', Le g B → J C cs (b - a).toNat B lc ys own₁ → Le g g' → Out B g' L → (∀ oC m, Fm g' L ls ((C, oC) :: (D, lstO ys k) :: (own₁ ++ ex)) h' → (∀ (h'' : Heap), h''.get? C = some oC → h''.Ns C m) → FinC prog w A s₀ use Q C (.ref D) h')) :
    W (model prog w) A s₀ (pyIter (.ref r)) (fun it h2 => CompGo prog w A s₀ env (.ListComp elt [⟨.Name x px, iter, ifs, 0⟩] scope pos) (newList []) scope cl use it Q h2) h :=
  W.of fun tk Q' k => wpAny_pyIter_range hr (small_one ha ha' hb hb') (k _ _ _ (CompGo.itr (Itr.range (a := a) (n := (b - a).toNat) hh (NoGo.name _ _)) S.pushMid (by rw [rangeSize_nat]; simp only [Int.natCast_zero, Int.add_zero, Int.sub_zero]) hsz lc0 hlc nl J
    (fun B C cs ownC l kB kg => h0 B C cs ownC l (fun b o' e no => kB b o' (Heap.get?_push_of_some _ e) fun p hp => by
      rcases List.mem_append.mp hp with hp | hp
      · exact no p (List.mem_append_left _ hp)
      · rcases List.mem_cons.mp hp with rfl | hp
        · exact Nat.ne_of_gt (Heap.lt_size e)
        · exact no p (List.mem_append_right _ hp)) kg)
    (fun C cs ownC i v B lc ys own₁ ex h l hi kB hJ p S => by obtain ⟨t, rfl⟩ := p; exact step C cs ownC i t B lc ys own₁ ex h l hi kB hJ S) done))

/-- the environment of a comprehension -/
def relN (outer names : List (Str × NameKind)) : List (Str × NameKind) := names.map fun p => if p.2 == .free && outer.lookup p.1 == some .cell then (p.1, .cell) else p
theorem EnvOk.comp {names names' : List (Str × NameKind)} {cells cs : List (Str × Addr)} {scope : Scope} {C : Addr} (E : EnvOk env L names cells) (hk : scope.kind = .function) (hn : relN names scope.names = names')
    (nd : (names'.map (·.1)).Nodup) (cnd : (cs.map (·.1)).Nodup) (dbg : ∀ p ∈ names', (p.1 == ("__debug__" : Str)) = false ∧ (p.1 == ("__classdict__" : Str)) = false) : EnvOk (compEnvC scope cs C env) C names' cs := by
  refine ⟨hk, ?_, nd, rfl, E.globals, E.builtins, rfl, cnd, dbg⟩
  rw [← hn]
  show (relabel scope env).names = _
  unfold relabel relN
  refine List.map_congr_left fun p hp => ?_
  obtain ⟨n, k⟩ := p
  have e : env.kindOf n = names.lookup n := by show env.scope.names.lookup n = _; rw [E.hnames]
  simp only [E.kind, e]
  simp
theorem W_inEnv {M : Model} {names : List (Str × NameKind)} {cells : List (Str × Addr)} {target : Expr} {v : Value} {C : Addr} {Q : Unit → Heap → Prop} (E : EnvOk env C names cells) (x : EnvOk env C names cells → W M A s₀ (assign target env v) Q h) : W M A s₀ (assign target env v) Q h := x E
end
end Mine
namespace Mine
open PySem PySem.Spec PySem.Calls PyProof.Rows PySem.W

/-! the kit's frame facts, out of ours and back -/
def restOf (b g : Heap) : List (Addr × Obj) := (List.range g.objs.size).filterMap fun a => match b.get? a with | some _ => none | none => (g.get? a).map fun o => (a, o)
theorem mem_restOf {b g : Heap} {p : Addr × Obj} : p ∈ restOf b g ↔ b.get? p.1 = none ∧ g.get? p.1 = some p.2 := by
  unfold restOf
  rw [List.mem_filterMap]
  constructor
  · rintro ⟨a, ha, e⟩
    cases q : b.get? a with
    | some o => rw [q] at e; cases e
    | none =>
      rw [q] at e
      obtain ⟨o, ho, rfl⟩ := Option.map_eq_some_iff.mp e
      exact ⟨q, ho⟩
  · rintro ⟨q, e⟩
    exact ⟨p.1, List.mem_range.mpr (Heap.lt_size e), by rw [q, e]; rfl⟩

section
variable {b g h h' : Heap} {L : Addr} {ls : Loc} {own own' : List (Addr × Obj)}
theorem Fm.fr (S : Fm g L ls own h) (kb : Le b g) (hL : b.objs.size ≤ L) : ∃ m, Fr b L h m ∧ (∀ x v, (x, some v) ∈ ls → m x = some v) ∧ News b L h (own ++ restOf b g) := by
  obtain ⟨m, n1, n2⟩ := S.ns
  refine ⟨m, ⟨n1, kb.trans S.keep, hL⟩, n2, fun p hp => ?_⟩
  rcases List.mem_append.mp hp with q | q
  · refine ⟨S.has p q, S.offL p q, ?_⟩
    cases e : b.get? p.1 with
    | none => rfl
    | some o => have := kb _ _ e; rw [S.goff p q] at this; cases this
  · obtain ⟨q1, q2⟩ := mem_restOf.mp q
    refine ⟨S.keep _ _ q2, ?_, q1⟩
    rintro e; rw [e, S.gL] at q2; cases q2
theorem Fm.back {m : Str → Option Value} (S : Fm g L ls own h) (F : Fr b L h' m) (hm : ∀ x v, (x, some v) ∈ ls → m x = some v) (N : News b L h' (own' ++ restOf b g)) (kb : Le b g)
    (nd : (own'.map (·.1)).Nodup) (off : ∀ p ∈ own', g.get? p.1 = none) : Fm g L ls own' h' := by
  refine ⟨⟨m, F.ns, hm⟩, S.nl, fun x o e => ?_, fun p hp => (N p (List.mem_append_left _ hp)).1, nd, fun p hp => (N p (List.mem_append_left _ hp)).2.1, S.gL, off⟩
  cases q : b.get? x with
  | some o' =>
    have := kb _ _ q
    rw [e] at this; cases this
    exact F.keep _ _ q
  | none => exact (N (x, o) (List.mem_append_right _ (mem_restOf.mpr ⟨q, e⟩))).1
end

/-! calls -/
def Kept (M : Model) (h : Heap) (f : Value) : Prop := ∃ k, (k = Keeper.frame ∨ k = Keeper.machine ∨ k = Keeper.boundFrame) ∧ Looks M h (keeperOf f) k
theorem Kept.builtin (M : Model) (h : Heap) (id : String) : Kept M h (.builtin id) := ⟨.machine, .inr (.inl rfl), Looks.of_pure rfl⟩
theorem Kept.type (M : Model) (h : Heap) (id : String) : Kept M h (.type id) := ⟨.machine, .inr (.inl rfl), Looks.of_pure rfl⟩
theorem Kept.func (M : Model) {h : Heap} {a : Addr} {o : Obj} {fd : FuncData} (ho : h.get? a = some o) (hd : o.data = .func fd) : Kept M h (.ref a) := by
  obtain ⟨c, d, dt, sl⟩ := o
  dsimp only at hd
  subst hd
  exact ⟨.frame, .inl rfl, (Looks.ld (part := none) ho).andThen .now⟩
theorem Kept.frag (M : Model) {K : Frag} {h : Heap} {f : Value} (X : K.In h) (e : keepIn K f = true) : Kept M h f := keeps_K e h X

section
variable {M : Model} {A : Around} {s₀ : Shared} {env : Env} {h : Heap}
theorem W_callWith {pos : Pos} {f : Value} {first : List Value} {args : List Expr} {Q : Value → Heap → Prop}
    (y : W M A s₀ (spliced (backTo pos (starEach args env))) (fun vs h2 => Kept M h2 f ∧ W M A s₀ (call f (first ++ vs)) Q h2) h)
    (hp : (backTo pos (starEach args env)).any (·.1) = false := by rfl) : W M A s₀ (callWith pos f first (backTo pos (starEach args env)) []) Q h :=
  W.of fun tk Q' k => by
    refine callWith_of (P := fun h => Kept M h f) (by rw [hp]; rfl) (fun h X => X) ?_
    have k1 := y.use (E := fun _ _ => False) (tk := tk) (Q' := fun vs s₁ => Kept M s₁.heap f ∧ wpAny M A (call f (first ++ vs)) Q' (fun _ _ => False) s₁) fun vs h2 tk2 z => ⟨z.1, z.2.use k⟩
    revert k1 hp
    generalize backTo pos (starEach args env) = al
    intro hp k1
    cases al with
    | nil =>
      unfold evalArgs
      show wpAny M A (spliced [] >>= _) _ _ _
      refine wpAny_bind (wpAny_mono k1 (fun vs s' h' => ?_) fun _ _ x => x)
      refine wpAny_bind (wpAny_pure ?_)
      refine wpAny_holding ?_
      exact wpAny_bind (wpAny_pure (wpAny_bind (wpAny_pure (wpAny_pure h'))))
    | cons x r =>
      obtain ⟨b, t⟩ := x
      have hb : b = false := by simp only [List.any_cons, Bool.or_eq_false_iff] at hp; exact hp.1
      subst hb
      exact evalArgs_plain k1
theorem W_CallN {id : Str} {p pos : Pos} {args : List Expr} {Q : Value → Heap → Prop}
    (y : W M A s₀ (eval (.Name id p) env) (fun f h1 => W M A s₀ (callWith pos f [] (backTo pos (starEach args env)) []) Q h1) h) : W M A s₀ (eval (.Call (.Name id p) args [] pos) env) Q h :=
  W.of fun tk Q' k => wpAny_Call_Name_kw (y.use fun f h1 tk1 z => z.use k)
theorem W_CallM {o : Expr} {name : Str} {apos pos : Pos} {args : List Expr} {Q : Value → Heap → Prop} {pl : Sem Bool}
    (y : W M A s₀ (eval o env) (fun ov h1 => W M A s₀ (getMethod ov name pl) (fun fx h2 => W M A s₀ (callWith pos fx.1 fx.2 (backTo pos (starEach args env)) []) Q h2) h1) h)
    (he : eval (.Call (.Attribute o name apos) args [] pos) env = (do
      let ov ← eval o env
      standAt apos.atName
      let (f, first) ← holding [ov] (getMethod ov name pl)
      callWith pos f first (backTo pos (starEach args env)) (backToKw pos (keywordEach [] env))) := by rfl) : W M A s₀ (eval (.Call (.Attribute o name apos) args [] pos) env) Q h :=
  W.of fun tk Q' k => methodCall_KW (pl := pl) (y.use fun f h1 tk1 z => z.use fun fx h2 tk2 u => u.use k) he
theorem W_standing {o : Expr} {name : Str} {pos : Pos} {Q : Value → Heap → Prop} {expr : Bool}
    (y : W M A s₀ (eval o env) (fun ov h1 => W M A s₀ (getAttr ov name expr) Q h1) h)
    (he : eval (.Attribute o name pos) env = (do let ov ← eval o env; standAt pos.atName; holding [ov] (getAttr ov name expr)) := by rfl) : W M A s₀ (eval (.Attribute o name pos) env) Q h :=
  W.of fun tk Q' k => by
    rw [he]
    exact wpAny_bind (y.use fun ov h1 tk1 z => wpAny_bind (wpAny_standAt (wpAny_holding (z.use k))))
end
end Mine
namespace Mine
open PySem PySem.Spec PySem.Calls PyProof.Rows PySem.W

section
variable {prog : Program} {w : World} {A : Around} {s₀ : Shared} {env : Env} {h g : Heap} {L : Addr} {ls : Loc} {own own' : List (Addr × Obj)} {a b : Int} {t u : Tok}
theorem W_addI {Q : Value → Heap → Prop} (q : ∀ t, Q (.int (a + b) t) h) : W (model prog w) A s₀ (binaryOp .Add (.int a t) (.int b u)) Q h := W.of fun tk Q' k => PySem.P.add_int (k _ _ _ (q _))
theorem W_iaddI {Q : Value → Heap → Prop} (q : ∀ t, Q (.int (a + b) t) h) : W (model prog w) A s₀ (inplaceOp .Add (.int a t) (.int b u)) Q h := W.of fun tk Q' k => PySem.P.iadd_int (k _ _ _ (q _))
theorem W_subI {Q : Value → Heap → Prop} (q : ∀ t, Q (.int (a - b) t) h) : W (model prog w) A s₀ (binaryOp .Sub (.int a t) (.int b u)) Q h := W.of fun tk Q' k => PySem.P.sub_int (k _ _ _ (q _))
theorem W_mulI {Q : Value → Heap → Prop} (q : ∀ t, Q (.int (a * b) t) h) (hm : IntMulOk a b) : W (model prog w) A s₀ (binaryOp .Mult (.int a t) (.int b u)) Q h := W.of fun tk Q' k => PySem.P.mul_int (k _ _ _ (q _)) hm
theorem W_modI {Q : Value → Heap → Prop} (hb : b ≠ 0) (q : ∀ t, Q (.int (a.fmod b) t) h) : W (model prog w) A s₀ (binaryOp .Mod (.int a t) (.int b u)) Q h := W.of fun tk Q' k => mod_int' hb (k _ _ _ (q _))
theorem W_fdivI {Q : Value → Heap → Prop} (hb : b ≠ 0) (hs : b.natAbs < 1073741824) (q : ∀ t, Q (.int (a.fdiv b) t) h) : W (model prog w) A s₀ (binaryOp .FloorDiv (.int a t) (.int b u)) Q h :=
  W.of fun tk Q' k => floordiv_int hb (k _ _ _ (q _)) (.inl (PyProof.noPylong_small hs))
theorem W_powI {Q : Value → Heap → Prop} (hb : 0 ≤ b) (hb2 : b ≤ 1000000) (ha : a.natAbs < 2 ^ 64) (q : ∀ t, Q (.int (a ^ b.toNat) t) h) : W (model prog w) A s₀ (binaryOp .Pow (.int a t) (.int b u)) Q h :=
  W.of fun tk Q' k => pow_int_small hb hb2 ha (k _ _ _ (q _))
theorem W_negI {Q : Value → Heap → Prop} (q : ∀ t, Q (.int (-a) t) h) : W (model prog w) A s₀ (unaryOp .USub (.int a t)) Q h := W.of fun tk Q' k => PySem.P.neg_int (k _ _ _ (q _))
theorem W_eqI {Q : Value → Heap → Prop} (q : Q (.bool (a == b)) h) : W (model prog w) A s₀ (compareOp .Eq (.int a t) (.int b u)) Q h := W.of fun tk Q' k => PySem.P.eq_int (k _ _ _ q)
theorem W_neI {Q : Value → Heap → Prop} (q : Q (.bool (a != b)) h) : W (model prog w) A s₀ (compareOp .NotEq (.int a t) (.int b u)) Q h := W.of fun tk Q' k => PySem.P.ne_int (k _ _ _ q)
theorem W_ltI {Q : Value → Heap → Prop} (q : Q (.bool (decide (a < b))) h) : W (model prog w) A s₀ (compareOp .Lt (.int a t) (.int b u)) Q h := W.of fun tk Q' k => PySem.P.lt_int (k _ _ _ q)
theorem W_gtI {Q : Value → Heap → Prop} (q : Q (.bool (decide (a > b))) h) : W (model prog w) A s₀ (compareOp .Gt (.int a t) (.int b u)) Q h := W.of fun tk Q' k => PySem.P.gt_int (k _ _ _ q)
theorem W_absI {Q : Value → Heap → Prop} (q : ∀ t, Q (.int (if a < 0 then -a else a) t) h) : W (model prog w) A s₀ (call (.builtin "abs") [.int a t]) Q h := W.of fun tk Q' k => call_abs_int fun u tk => k _ _ _ (q _)

theorem W_Slice {lower upper step : Option Expr} {p : Pos} {Q : Value → Heap → Prop}
    (y : W (model prog w) A s₀ (evalPart lower env) (fun l h1 => W (model prog w) A s₀ (evalPart upper env) (fun u h2 => W (model prog w) A s₀ (evalPart step env) (fun st h3 => Q (.ref h3.objs.size) (h3.push { cls := .type "slice", data := .fields #[l, u, st] })) h2) h1) h) :
    W (model prog w) A s₀ (eval (.Slice lower upper step p) env) Q h := W.of fun tk Q' k => wpAny_Slice (y.use fun _ _ _ z => z.use fun _ _ _ u => u.use fun _ _ _ q => k _ _ _ q)
theorem W_part0 {Q : Value → Heap → Prop} (q : Q .none h) : W (model prog w) A s₀ (evalPart none env) Q h := by rw [evalPart_none]; exact W_pure q
theorem W_part1 {e : Expr} {Q : Value → Heap → Prop} (y : W (model prog w) A s₀ (eval e env) Q h) : W (model prog w) A s₀ (evalPart (some e) env) Q h := by rw [evalPart_some]; exact y

/-- x[i], whatever x is written as -/
theorem W_tail {value slice : Expr} {o i : Value} {T id : String} {ops : List Value} {Q : Value → Heap → Prop} (hT : ∃ a o', o = .ref a ∧ h.get? a = some o' ∧ o'.cls = .type T)
    (hl : typeLookup (.type T) "__getitem__" = pure (some (.builtin id))) (y : W (model prog w) A s₀ (getItem o i) Q h)
    (hs : subscripted slice false o i = operate ops (getItem o i)) : W (model prog w) A s₀ (subscriptTail value slice o i) Q h :=
  W.of fun tk Q' k => by
    obtain ⟨a, o', rfl, ho, hc⟩ := hT
    have hT : Shared.TypeIs { s₀ with heap := h, toks := tk } (.ref a) T := ⟨o', ho, hc⟩
    unfold subscriptTail
    refine wpAny_bind ?_
    rw [getitemInPython_of_ne hT.not_modules]
    refine wpAny_bind (wpAny_specialOf hT hl ?_)
    have fin : wpAny (model prog w) A (subscripted slice false (.ref a) i) (fun r s₃ => wpAny (model prog w) A (letTemporaryGo value (.ref a) r >>= fun _ => pure r) Q' (fun _ _ => False) s₃) (fun _ _ => False) { s₀ with heap := h, toks := tk } := by
      rw [hs]
      refine wpAny_operating (y.use fun r h3 tk3 q => ?_)
      exact wpAny_bind (wpAny_letTemporaryGo (wpAny_pure (k _ _ _ q)))
    first
      | exact wpAny_pure (wpAny_bind fin)
      | exact wpAny_bind (wpAny_pure (wpAny_bind fin))
      | exact wpAny_bind fin

theorem W_itemList {value slice : Expr} {l : Addr} {items : Array Value} {x : Value} {Q : Value → Heap → Prop} (hl : h.IsList l items) (h0 : 0 ≤ a) (hx : items[a.toNat]? = some x) (hf : a < 2 ^ 63) (q : Q x h)
    (hs : subscripted slice false (.ref l) (.int a t) = operate [.ref l, .int a t] (getItem (.ref l) (.int a t)) := by with_unfolding_all rfl) : W (model prog w) A s₀ (subscriptTail value slice (.ref l) (.int a t)) Q h :=
  W_tail (by obtain ⟨o, e, c, _⟩ := hl; exact ⟨l, o, rfl, e, c⟩) slot_list_getitem.lookup (W.of fun tk Q' k => wpAny_getItem_list hl h0 hf hx (k _ _ _ q)) hs
theorem W_itemSlice {value slice : Expr} {l sl : Addr} {items : Array Value} {vl vu vs : Value} {lo hi st : Option Int} {ops : List Value} {Q : Value → Heap → Prop} (hl : h.IsList l items) (hsl : h.get? sl = some { cls := .type "slice", data := .fields #[vl, vu, vs] })
    (pl : IsPart vl lo) (pu : IsPart vu hi) (ps : IsPart vs st) (h0 : st ≠ some 0) (hsz : items.size ≤ 1000)
    (q : Q (.ref h.objs.size) (h.push { cls := .type "list", data := .seq (slicePick items lo hi st) }))
    (hs : subscripted slice false (.ref l) (.ref sl) = operate ops (getItem (.ref l) (.ref sl)) := by with_unfolding_all rfl) : W (model prog w) A s₀ (subscriptTail value slice (.ref l) (.ref sl)) Q h :=
  W_tail (by obtain ⟨o, e, c, _⟩ := hl; exact ⟨l, o, rfl, e, c⟩) slot_list_getitem.lookup (W.of fun tk Q' k => wpAny_getItem_list_slice hl ⟨_, hsl, rfl, rfl⟩ pl pu ps h0 (k _ _ _ q) (by rw [sizeLine_eq]; omega)) hs
theorem W_lenList {l : Addr} {items : Array Value} {Q : Value → Heap → Prop} (hl : h.IsList l items) (hf : (items.size : Int) < 2 ^ 63) (q : ∀ t, Q (.int items.size t) h) : W (model prog w) A s₀ (call (.builtin "len") [.ref l]) Q h :=
  W.of fun tk Q' k => Calls.call_len_list hl hf (k _ _ _ (q _))
theorem W_append {l : Addr} {vs : List Value} {n : Nat} {x : Value} {Q : Value → Heap → Prop} (S : Fm g L ls own h) (U : Upd1 l (lstO vs n) (lstO (vs ++ [x]) (n + 1)) own own') (hz : vs.length ≤ 1000) (q : ∀ h', Fm g L ls own' h' → Q .none h') :
    W (model prog w) A s₀ (call (.builtin "list.append") [.ref l, x]) Q h :=
  W.of fun tk Q' k => append_at (S.get U.mem) (fun h' hs ho => k _ _ _ (q h' (S.changed U hs (by rw [ho]; simp)))) (by show vs.toArray.size ≤ _; rw [List.size_toArray, sizeLine_eq]; omega)
theorem W_mAppend {l : Addr} {vs : List Value} {n : Nat} {pl : Sem Bool} {Q : Value × List Value → Heap → Prop} (hl : h.get? l = some (lstO vs n)) (q : Q (.builtin "list.append", [.ref l]) h) : W (model prog w) A s₀ (getMethod (.ref l) "append" pl) Q h :=
  W.of fun tk Q' k => getMethod_list_append hl rfl rfl (k _ _ _ q)
theorem W_Expr {e : Expr} {pos : Pos} {Q : Flow → Heap → Prop} (y : W (model prog w) A s₀ (eval e env) (fun v h1 => v = .none ∧ Q .next h1) h) (hi : interactive env = false := by rfl) (hs : swapsWith e none pos.line env = pure false := by rfl) :
    W (model prog w) A s₀ (exec (.Expr e pos) env) Q h := W.of fun tk Q' k => wpAny_Expr (y.use fun v h1 tk1 z => by obtain ⟨rfl, z⟩ := z; exact k _ _ _ z) hi hs
theorem W_range1 {Q : Value → Heap → Prop} (S : Fm g L ls own h) (q : ∀ r h' t u v, Fm g L ls own h' → IsRange h' r 0 a 1 t u v → Q (.ref r) h') : W (model prog w) A s₀ (call (.type "range") [.int a t]) Q h :=
  W.of fun tk Q' k => call_range_1 (k _ _ _ (q _ _ _ _ _ (S.grown fun b o e => Heap.get?_push_of_some _ e) (IsRange.new ..)))
theorem W_range2 {Q : Value → Heap → Prop} (S : Fm g L ls own h) (q : ∀ r h' t u v, Fm g L ls own h' → IsRange h' r a b 1 t u v → Q (.ref r) h') : W (model prog w) A s₀ (call (.type "range") [.int a t, .int b u]) Q h :=
  W.of fun tk Q' k => call_range_2 (k _ _ _ (q _ _ _ _ _ (S.grown fun b o e => Heap.get?_push_of_some _ e) (IsRange.new ..)))
end
end Mine
namespace Mine
open PySem PySem.Spec PySem.Calls PyProof.Rows PySem.W
def stm (k : Nat) : Stmt := match PySem.Challenge.pw_aw6018_01.main.body[k]? with
  | some s => s
  | none => .Pass ⟨0, 0, 0, 0⟩
def bodyF : Stmt → List Stmt
  | .FunctionDef _ _ body .. => body
  | .ClassDef _ _ _ body .. => body
  | _ => []
def scopeF : Stmt → Scope
  | .FunctionDef _ _ _ _ _ _ scope .. => scope
  | _ => default
def argsF : Stmt → Arguments
  | .FunctionDef _ args .. => args
  | _ => default
def subF (s : Stmt) (k : Nat) : Stmt := match (bodyF s)[k]? with
  | some s => s
  | none => .Pass ⟨0, 0, 0, 0⟩

/-- a function of the text stands at a -/
structure FnIs (g : Heap) (a : Addr) (s : Stmt) (dv : Value) : Prop where
  ex : ∃ o fd, g.get? a = some o ∧ o.data = .func fd ∧ fd.body = .stmts (bodyF s) ∧ fd.scope = scopeF s ∧ fd.params = argsF s ∧ fd.globals = mainGlobals ∧ fd.builtins = builtinsNs ∧ fd.closure = [] ∧ fd.defaults = dv ∧ fd.kwdefaults = .none ∧ g.CodeRec fd.code fd.qualname
theorem FnIs.mono {g h : Heap} {a : Addr} {s : Stmt} {dv : Value} (x : FnIs g a s dv) (k : Le g h) : FnIs h a s dv := by
  obtain ⟨o, fd, e1, e2, e3, e4, e5, e6, e7, e8, e9, e10, e11⟩ := x.ex
  exact ⟨o, fd, k _ _ e1, e2, e3, e4, e5, e6, e7, e8, e9, e10, e11.keeps k⟩
theorem Glo.mono {g h : Heap} {x : Str} {v : Value} (y : Glo g x v) (k : Le g h) : Glo h x v := by
  rcases y with ⟨mg, a, b⟩ | ⟨mg, mb, a, b, c, d⟩
  · exact .inl ⟨mg, a.keeps k, b⟩
  · exact .inr ⟨mg, mb, a.keeps k, b, c.keeps k, d⟩
theorem EnvOk.inter {env : Env} {L : Addr} {names cells} (E : EnvOk env L names cells) : interactive env = false := by unfold interactive; rw [E.kind]; rfl

section
variable {env : Env} {L : Addr} {names : List (Str × NameKind)} {cells : List (Str × Addr)}
theorem EnvOk.block (E : EnvOk env L names cells) : env.blockKind = .function := by
  unfold Env.blockKind
  rw [E.kind]
  rfl
theorem EnvOk.swaps (E : EnvOk env L names cells) {elt : Expr} {gens : List Comprehension} {scope : Scope} {p tp : Pos} {t : Str} {line : Nat} (hn : (t, NameKind.local) ∈ names) (hl : (tp.line == p.line) = true)
    (hs : (scope.names.any fun x => x.1 == t && (x.2 == .local || x.2 == .cell)) = false) : swapsWith (.ListComp elt gens scope p) (some (.Name t tp)) line env = pure true := by
  show (Pure.pure (env.blockKind == .function && env.kindOf t == some .local && tp.line == p.line && !(scope.names.any fun x => x.1 == t && (x.2 == .local || x.2 == .cell))) : Sem Bool) = _
  rw [E.block, E.kindOf hn, hl, hs]; rfl
theorem EnvOk.noswap (E : EnvOk env L names cells) {elt : Expr} {gens : List Comprehension} {scope : Scope} {p tp : Pos} {t : Str} {line : Nat} (hn : (t, NameKind.cell) ∈ names) :
    swapsWith (.ListComp elt gens scope p) (some (.Name t tp)) line env = pure false := by
  show (Pure.pure (env.blockKind == .function && env.kindOf t == some .local && tp.line == p.line && !(scope.names.any fun x => x.1 == t && (x.2 == .local || x.2 == .cell))) : Sem Bool) = _
  rw [E.kindOf hn]
  cases env.blockKind == ScopeKind.function <;> rfl
end

section
variable {prog : Program} {w : World} {A : Around} {s₀ : Shared} {g h : Heap} {L : Addr} {ls : Loc} {own : List (Addr × Obj)}
/-- a call of a function of the text -/
theorem WC_fn {a : Addr} {s : Stmt} {dv : Value} {args : Args} {Q : Value → Heap → Prop} (names : List (Str × NameKind)) (cells : List Str) (lc : Loc) (binds : List (Str × Value)) (body : List Stmt)
    (G : FnIs g a s dv) (S : Fm g L ls own h) (hroom : A.depth < recursionLimit) (hlim : g.NoLimit) (hb : bodyF s = body) (hn : (scopeF s).names = names) (hcn : cellNames names = cells)
    (hbind : ∀ fd tk, fd.params = argsF s → fd.defaults = dv → fd.kwdefaults = .none → BindsTo { s₀ with heap := h, toks := tk } fd args binds) (hlc : ∀ p ∈ lc, p.2 = none) (nl : (lc.map (·.1)).Nodup)
    (nd : (names.map (·.1)).Nodup) (dbg : ∀ p ∈ names, (p.1 == ("__debug__" : Str)) = false ∧ (p.1 == ("__classdict__" : Str)) = false)
    (hk : (scopeF s).kind = .function) (hco : (scopeF s).isCoroutine = false) (hgen : (scopeF s).isGenerator = false)
    (y : ∀ env B C cs own' h', Laid cells [] own cs own' → EnvOk env C names cs → ((∀ b o, h.get? b = some o → b < C) ∧ ∀ o fd, g.get? a = some o → o.data = .func fd → env.code = fd.code ∧ env.qual = fd.qualname ++ ".<locals>.") → Fm B C lc own' h' → Le h h' → (∀ b o, h.get? b = some o → (∀ p ∈ own, p.1 ≠ b) → B.get? b = some o) → Le g B →
      W (model prog w) A.in1 s₀ (bindsLoop env binds) (fun _ h2 => Le g h2 ∧ W (model prog w) (A.deeper env) s₀ (execs body env) (fun f h3 => Q (retOf f) h3) h2) h') (cnd : cells.Nodup) :
    WC (model prog w) A s₀ (.call (.ref a) args) Q h := by
  obtain ⟨o, fd, e1, e2, e3, e4, e5, e6, e7, e8, e9, e10, e11⟩ := G.ex
  refine WC_def lc S hroom (S.keep _ _ e1) e2 hlim (e11.keeps S.keep) (by rw [e3, hb]) (hbind fd · e5 e9 e10) hlc nl ?_ (by rw [e4]; exact hco) (by rw [e4]; exact hgen)
  intro B C cs own' h' l S' k1 k2 k3 k4
  rw [e4, hn, hcn, e8] at l
  refine y _ B C cs own' h' l (EnvOk.call (by rw [e4]; exact hk) (by rw [e4]; exact hn) e6 e7 nd ?_ dbg) ⟨k4, fun o' fd' q1 q2 => by rw [e1] at q1; cases q1; rw [e2] at q2; cases q2; exact ⟨rfl, rfl⟩⟩ S' k1 k2 k3
  have : ∀ {cells : List Str} {c0 : List (Str × Addr)} {o1 cs o2}, Laid cells c0 o1 cs o2 → (cs.map (·.1)).Perm (cells ++ c0.map (·.1)) := by
    intro cells c0 o1 cs o2 l
    induction l with
    | nil => exact .refl _
    | cons a l ih => exact ih.trans (by simpa using (List.perm_middle (a := _) (l₁ := _) (l₂ := _)))
  exact (this l).nodup_iff.mpr (by simpa using cnd)
end
end Mine
namespace Mine
open PySem PySem.Spec PySem.Calls PyProof.Rows PySem.W

abbrev dicE : Obj := { cls := .type "dict", data := .dict #[] }
abbrev IK (prog : Program) (w : World) := intKind prog w
abbrev TK (prog : Program) (w : World) := tupleKind (intKind prog w)
structure TD (prog : Program) (w : World) (B : Heap) (o : Obj) (xs : List (List Int × Addr × Value)) : Prop where
  exact : o.ExactDict
  data : ∃ es ep, o.data = .dict es ep ∧ es.toList = xs.map (entryOfKey (TK prog w))
  keys : ∀ x ∈ xs, IsTupleKey (intKind prog w) B x.1 x.2.1
  nd : (xs.map (·.1)).Nodup
theorem TD.mono {prog : Program} {w : World} {B B' : Heap} {o : Obj} {xs : List (List Int × Addr × Value)} (x : TD prog w B o xs) (k : Le B B') : TD prog w B' o xs :=
  ⟨x.exact, x.data, fun y hy => let ⟨a, b, c, d, e⟩ := x.keys y hy; ⟨a, b, c, k _ _ d, e⟩, x.nd⟩
theorem tkey_le {prog : Program} {w : World} {B B' : Heap} {a : Addr} {ks : List Int} (x : IsTupleKey (intKind prog w) B ks a) (k : Le B B') : IsTupleKey (intKind prog w) B' ks a := let ⟨a, b, c, d, e⟩ := x; ⟨a, b, c, k _ _ d, e⟩
theorem TD.heap {prog : Program} {w : World} {B h : Heap} {o : Obj} {d : Addr} {xs : List (List Int × Addr × Value)} (x : TD prog w B o xs) (ho : h.get? d = some o) (k : Le B h) : h.DictOfH (TK prog w) d xs :=
  let ⟨es, ep, e1, e2⟩ := x.data
  ⟨o, es, ep, ho, x.exact, e1, e2, fun y hy => tkey_le (x.keys y hy) k, x.nd⟩
theorem TD.new {prog : Program} {w : World} (B : Heap) : TD prog w B dicE [] := ⟨⟨rfl, rfl, rfl⟩, ⟨#[], 0, rfl, rfl⟩, (fun _ h => nomatch h), List.nodup_nil⟩
theorem tkey2 {prog : Program} {w : World} {B : Heap} {a : Addr} {x y : Int} {t u : Tok} (h : B.get? a = some (tupO [.int x t, .int y u])) : IsTupleKey (intKind prog w) B [x, y] a :=
  ⟨_, _, _, h, rfl, rfl, .cons (intKind_is _ _ _ _) (.cons (intKind_is _ _ _ _) .nil)⟩

section
variable {prog : Program} {w : World} {A : Around} {s₀ : Shared} {env : Env} {h g B : Heap} {L d a : Addr} {ls : Loc} {own : List (Addr × Obj)} {o : Obj} {xs : List (List Int × Addr × Value)} {ks : List Int}
theorem W_newDict {pos : Pos} {Q : Value → Heap → Prop} (S : Fm g L ls own h) (q : ∀ a h', Fm g L ls ((a, dicE) :: own) h' → h.get? a = none → Le h h' → Q (.ref a) h') : W (model prog w) A s₀ (eval (.Dict [] [] pos) env) Q h :=
  W.of fun tk Q' k => wpAny_Dict_empty (k _ _ _ (q _ _ S.push (fresh_none h) fun b o e => Heap.get?_push_of_some _ e))
theorem W_setT {v : Value} {own' : Obj → List (Addr × Obj)} {Q : Unit → Heap → Prop} (S : Fm B L ls own h) (U : ∀ o', Upd1 d o o' own (own' o')) (T : TD prog w B o xs) (hk : IsTupleKey (intKind prog w) B ks a) (hu : A.in1.units < cLine) (hz : xs.length ≤ 1000)
    (q : ∀ o' h', TD prog w B o' (storedH xs ks a v) → Fm B L ls (own' o') h' → Q () h') : W (model prog w) A s₀ (setItem (.ref d) (.ref a) v) Q h :=
  W.of fun tk Q' k => wpAny_setItem_heap (knd := TK prog w) (k := ks) hu (tkey_le hk S.keep) (T.heap (S.get (U o).mem) S.keep) (fun h' ⟨o', es, ep, e1, e2, e3, e4, e5, e6⟩ hs => k _ _ _ (q o' h' ⟨e2, ⟨es, ep, e3, e4⟩, fun x hx => by
    unfold storedH at hx
    split at hx
    · obtain ⟨y, hy, rfl⟩ := List.mem_map.mp hx
      unfold putAt
      split <;> exact T.keys y hy
    · rcases List.mem_append.mp hx with hx | hx
      · exact T.keys x hx
      · rw [List.mem_singleton.mp hx]; exact hk, e6⟩ (S.changed (U o') hs e1))) (by rw [sizeLine_eq]; omega)
theorem W_itemT {value slice : Expr} {p : Addr × Value} {Q : Value → Heap → Prop} (hd : h.DictOfH (TK prog w) d xs) (hk : IsTupleKey (intKind prog w) h ks a) (hu : A.in1.units < cLine) (hp : atKey xs ks = some p) (q : Q p.2 h)
    (hs : subscripted slice false (.ref d) (.ref a) = operate [.ref d, .ref a] (getItem (.ref d) (.ref a)) := by with_unfolding_all rfl) : W (model prog w) A s₀ (subscriptTail value slice (.ref d) (.ref a)) Q h :=
  W_tail (by obtain ⟨o, _, _, e, c, _⟩ := hd; exact ⟨d, o, rfl, e, c.1⟩) F.slot_dict_getitem.lookup (W.of fun tk Q' k => wpAny_getItem_heap (knd := TK prog w) hu hk hd hp (k _ _ _ q)) hs
theorem W_inT {Q : Value → Heap → Prop} (hd : h.DictOfH (TK prog w) d xs) (hs : (d == sysModules) = false) (hk : IsTupleKey (intKind prog w) h ks a) (hu : A.in1.units < cLine) (q : Q (.bool (atKey xs ks).isSome) h) : W (model prog w) A s₀ (compareOp .In (.ref a) (.ref d)) Q h :=
  W.of fun tk Q' k => wpAny_in_heap (knd := TK prog w) hu hk hs hd (k _ _ _ q)

variable {kvs : List (Int × Value)} {i : Int} {t : Tok}
theorem W_setD {v : Value} {own' : Obj → List (Addr × Obj)} {Q : Unit → Heap → Prop} (S : Fm B L ls own h) (U : ∀ o', Upd1 d o o' own (own' o')) (T : o.IsDictOf (IK prog w) kvs) (hz : kvs.length ≤ 1000)
    (q : ∀ o' h', o'.IsDictOf (IK prog w) (stored kvs i v) → Fm B L ls (own' o') h' → Q () h') : W (model prog w) A s₀ (setItem (.ref d) (.int i t) v) Q h :=
  W.of fun tk Q' k => wpAny_setItem_pairs (knd := IK prog w) (k := i) (intKind_is _ _ _ _) (Heap.dictOf_iff.mpr ⟨o, S.get (U o).mem, T⟩) (fun h' hd hs => by
    obtain ⟨o', ho', T'⟩ := Heap.dictOf_iff.mp hd
    exact k _ _ _ (q o' h' T' (S.changed (U o') hs ho'))) (by rw [sizeLine_eq]; omega)
end
end Mine
namespace Mine
open PySem PySem.Spec PySem.Calls PyProof.Rows PySem.W
section
variable {prog : Program} {w : World} {A : Around} {s₀ : Shared} {env : Env} {h : Heap}
theorem WF_comp1 {elt target iter : Expr} {ifs : List Expr} {c0 : Comprehension} {scope : Scope} {pos : Pos} {it acc : Value} {Q : Flow → Heap → Prop} (I : Nat → Heap → Prop)
    (turn : ∀ n h, I n h → W (model prog w) A s₀ (pyNext it) (fun r h1 => match r with
      | none => Q .next h1
      | some v => W (model prog w) A s₀ (letOwnedTupleGo target it v) (fun _ h2 => W (model prog w) A s₀ (assign target env v) (fun _ h3 => W (model prog w) A s₀ (compTests ifs env) (fun ok h4 =>
          if ok = true then W (model prog w) A s₀ (eval elt env) (fun x h5 => W (model prog w) A s₀ (call (.builtin "list.append") [acc, x]) (fun _ h6 => ∃ m, m < n ∧ I m h6) h5) h4 else ∃ m, m < n ∧ I m h4) h3) h2) h1) h)
    (n : Nat) (h0 : I n h) : WF (model prog w) A s₀ (.compLoop (.ListComp elt [c0, ⟨target, iter, ifs, 0⟩] scope pos) 1 it acc env) Q h := ⟨fun tk => by
  refine codeAny_loop rfl (fun n s => ∃ h tk, s = { s₀ with heap := h, toks := tk } ∧ I n h) (fun n s hI => ?_) n ⟨h, tk, rfl, h0⟩
  obtain ⟨h, tk, rfl, hI⟩ := hI
  show wpAny _ A ((compTurn (.ListComp elt [c0, ⟨target, iter, ifs, 0⟩] scope pos) 1 it acc env).onRaise (fun x => do noteFrame x env; theTreesLotGoes x)) _ _ _
  refine wpAny_noted ?_
  unfold compTurn
  refine wpAny_bind (wpAny_standAt ?_)
  show wpAny _ _ (pyNext it >>= _) _ _ _
  refine wpAny_bind ((turn n h hI).use fun r h1 tk1 z => ?_)
  cases r with
  | none => exact wpAny_pure ⟨_, _, _, rfl, rfl, z⟩
  | some v =>
    show wpAny _ _ (letOwnedTupleGo target it v >>= _) _ _ _
    refine wpAny_bind (z.use fun _ h2 tk2 z => ?_)
    show wpAny _ _ (assign target env v >>= _) _ _ _
    refine wpAny_bind (z.use fun _ h3 tk3 z => ?_)
    show wpAny _ _ (compTests ifs env >>= _) _ _ _
    refine wpAny_bind (z.use fun ok h4 tk4 z => ?_)
    cases ok with
    | false =>
      simp only [Bool.false_eq_true, if_false] at z
      obtain ⟨m, hm, hi⟩ := z
      exact wpAny_pure ⟨rfl, m, hm, _, _, rfl, hi⟩
    | true =>
      simp only [if_true] at z
      show wpAny _ _ ((eval elt env >>= fun x => call (.builtin "list.append") [acc, x] >>= fun _ => pure ()) >>= fun _ => again (.compLoop (.ListComp elt [c0, ⟨target, iter, ifs, 0⟩] scope pos) 1 it acc env)) _ _ _
      refine wpAny_bind (wpAny_bind (z.use fun x h5 tk5 z => wpAny_bind (z.use fun _ h6 tk6 z => ?_)))
      obtain ⟨m, hm, hi⟩ := z
      exact wpAny_pure (wpAny_pure ⟨rfl, m, hm, _, _, rfl, hi⟩)⟩
theorem start1 {elt : Expr} {c0 c1 : Comprehension} {scope : Scope} {pos : Pos} {it acc : Value} {Q : Flow → Heap → Prop} {R : Result → Shared → Prop} {tk : Nat}
    (z1 : W (model prog w) A s₀ (pyIter it) (fun it2 h7 => it2 = it ∧ WF (model prog w) A s₀ (.compLoop (.ListComp elt [c0, c1] scope pos) 1 it acc env) Q h7) h)
    (z2 : WF (model prog w) A s₀ (.compLoop (.ListComp elt [c0, c1] scope pos) 1 it acc env) Q h) (k : ∀ f h' tk', Q f h' → R (.ok f) { s₀ with heap := h', toks := tk' }) (hsy : (c1.is_async != 0) = false := by rfl) :
    codeAny (model prog w) A (.compStart (.ListComp elt [c0, c1] scope pos) 1 it acc env) R { s₀ with heap := h, toks := tk } := by
  refine codeAny_of_tree ?_
  show wpAny _ _ ((compStart (.ListComp elt [c0, c1] scope pos) 1 it acc env).onRaise (fun x => do noteFrame x env; standAt theWindowsPlace)) _ _ _
  refine wpAny_notedAt ?_
  have e : ((clausesOf (.ListComp elt [c0, c1] scope pos))[1]?).elim false (·.is_async != 0) = false := hsy
  unfold compStart
  rw [e]
  show wpAny _ _ (ask >>= _) _ _ _
  refine wpAny_bind (wpAny_askSetting (wpAny_ite ?_))
  split
  · exact wpAny_bind (wpAny_pure (wpAny_pure (And.intro rfl (z2.use k))))
  · have fin : wpAny (model prog w) A (pyIter it) (fun it' s' => wpAny (model prog w) A (again (.compLoop (.ListComp elt [c0, c1] scope pos) 1 it' acc env)) (fun fin s' => match fin with
        | .done f => R (.ok f) s'
        | .again c' => c'.quiet = true ∧ codeAny (model prog w) A c' R s') (notedBy (model prog w) A env fun x s' => R (.error x) s') s') (notedBy (model prog w) A env fun x s' => R (.error x) s') { s₀ with heap := h, toks := tk } :=
      z1.use fun it2 h7 tk7 ⟨e, z⟩ => by subst e; exact wpAny_pure (And.intro rfl (z.use k))
    first
      | exact wpAny_bind (wpAny_rule (wpAny_bind (wpAny_standAt (wpAny_bind fin))))
      | (refine wpAny_bind (wpAny_rule ?_); show wpAny _ _ (standAt c1.iter.pos >>= _) _ _ _; exact wpAny_bind (wpAny_standAt (wpAny_bind fin)))

theorem WF_comp0 {elt target iter target1 iter1 : Expr} {ifs ifs1 : List Expr} {scope : Scope} {pos : Pos} {it acc : Value} {Q : Flow → Heap → Prop} (I : Nat → Heap → Prop)
    (turn : ∀ n h, I n h → W (model prog w) A s₀ (pyNext it) (fun r h1 => match r with
      | none => Q .next h1
      | some v => W (model prog w) A s₀ (letOwnedTupleGo target it v) (fun _ h2 => W (model prog w) A s₀ (assign target env v) (fun _ h3 => W (model prog w) A s₀ (compTests ifs env) (fun ok h4 =>
          if ok = true then W (model prog w) A s₀ (eval iter1 env) (fun x h5 => W (model prog w) A s₀ (pyIter x) (fun it1 h6 =>
            W (model prog w) A s₀ (pyIter it1) (fun it2 h7 => it2 = it1 ∧ WF (model prog w) A s₀ (.compLoop (.ListComp elt [⟨target, iter, ifs, 0⟩, ⟨target1, iter1, ifs1, 0⟩] scope pos) 1 it1 acc env) (fun f h8 => f = .next ∧ ∃ m, m < n ∧ I m h8) h7) h6 ∧
              WF (model prog w) A s₀ (.compLoop (.ListComp elt [⟨target, iter, ifs, 0⟩, ⟨target1, iter1, ifs1, 0⟩] scope pos) 1 it1 acc env) (fun f h8 => f = .next ∧ ∃ m, m < n ∧ I m h8) h6) h5) h4 else ∃ m, m < n ∧ I m h4) h3) h2) h1) h)
    (n : Nat) (h0 : I n h) (hs : ∀ x, foldedSetIterable iter1 env x = pure x := by intro _; rfl) : WF (model prog w) A s₀ (.compLoop (.ListComp elt [⟨target, iter, ifs, 0⟩, ⟨target1, iter1, ifs1, 0⟩] scope pos) 0 it acc env) Q h := ⟨fun tk => by
  refine codeAny_loop rfl (fun n s => ∃ h tk, s = { s₀ with heap := h, toks := tk } ∧ I n h) (fun n s hI => ?_) n ⟨h, tk, rfl, h0⟩
  obtain ⟨h, tk, rfl, hI⟩ := hI
  show wpAny _ A ((compTurn (.ListComp elt [⟨target, iter, ifs, 0⟩, ⟨target1, iter1, ifs1, 0⟩] scope pos) 0 it acc env).onRaise (fun x => do noteFrame x env; theTreesLotGoes x)) _ _ _
  refine wpAny_noted ?_
  unfold compTurn
  refine wpAny_bind (wpAny_standAt ?_)
  show wpAny _ _ (pyNext it >>= _) _ _ _
  refine wpAny_bind ((turn n h hI).use fun r h1 tk1 z => ?_)
  cases r with
  | none => exact wpAny_pure ⟨_, _, _, rfl, rfl, z⟩
  | some v =>
    show wpAny _ _ (letOwnedTupleGo target it v >>= _) _ _ _
    refine wpAny_bind (z.use fun _ h2 tk2 z => ?_)
    show wpAny _ _ (assign target env v >>= _) _ _ _
    refine wpAny_bind (z.use fun _ h3 tk3 z => ?_)
    show wpAny _ _ (compTests ifs env >>= _) _ _ _
    refine wpAny_bind (z.use fun ok h4 tk4 z => ?_)
    cases ok with
    | false =>
      simp only [Bool.false_eq_true, if_false] at z
      obtain ⟨m, hm, hi⟩ := z
      exact wpAny_pure ⟨rfl, m, hm, _, _, rfl, hi⟩
    | true =>
      simp only [if_true] at z
      show wpAny _ _ (eval iter1 env >>= _) _ _ _
      refine wpAny_bind (z.use fun x h5 tk5 z => ?_)
      refine wpAny_bind (wpAny_standAt ?_)
      show wpAny _ _ (foldedSetIterable iter1 env x >>= _) _ _ _
      refine wpAny_bind (wpAny_of_eq (hs x) ?_)
      show wpAny _ _ (holding [x] (pyIter x) >>= _) _ _ _
      refine wpAny_bind (wpAny_holding (z.use fun it1 h6 tk6 z => ?_))
      refine wpAny_bind (wpAny_runOwn (start1 z.1 z.2 fun f h8 tk8 q => ?_))
      obtain ⟨rfl, m, hm, hi⟩ := q
      exact wpAny_pure ⟨rfl, m, hm, _, _, rfl, hi⟩⟩
end
section
variable {prog : Program} {w : World} {A : Around} {s₀ : Shared} {env : Env} {h g : Heap} {L : Addr} {ls : Loc} {own ex : List (Addr × Obj)}
theorem CompGo.itr2 {use : Option (Value → Sem Unit)} {elt iter iter1 : Expr} {x1 : Str} {px1 : Pos} {ifs1 : List Expr} {x : Str} {px : Pos} {ifs : List Expr} {scope : Scope} {pos : Pos} {cl : List (Str × Addr)} {it : Addr} {n : Nat} {P : Nat → Value → Heap → Prop} {O : Nat → Obj → Prop} {o : Obj} {Q : Value → Heap → Prop}
    (I : Itr prog w A s₀ (.Name x px) g it n P O) (S : Fm g L ls (own ++ (it, o) :: ex) h) (o0 : O 0 o) (lc0 : Loc) (hlc : ∀ p ∈ lc0, p.2 = none) (nl : (lc0.map (·.1)).Nodup)
    (J : Addr → List (Str × Addr) → Nat → Heap → Loc → List Value → List (Addr × Obj) → Prop)
    (h0 : ∀ B C cs ownC, Laid (cellNames scope.names) cl own cs ownC → (∀ b o', h.get? b = some o' → (∀ p ∈ own ++ (it, o) :: ex, p.1 ≠ b) → B.get? b = some o') → Le g B → J C cs 0 B lc0 [] ownC)
    (step : ∀ C cs ownC D k i v B lc ys own₁ ex h, Laid (cellNames scope.names) cl own cs ownC → i < n → Le g B → J C cs i B lc ys own₁ → P i v h → Fm B C lc (own₁ ++ (D, lstO ys k) :: ex) h →
      W (model prog w) A s₀ (assign (.Name x px) (compEnvC scope cs C env) v) (fun _ h2 => W (model prog w) A s₀ (compTests ifs (compEnvC scope cs C env)) (fun ok h3 =>
        if ok = true then W (model prog w) A s₀ (eval iter1 (compEnvC scope cs C env)) (fun xv h4 => W (model prog w) A s₀ (pyIter xv) (fun it1 h5 =>
          W (model prog w) A s₀ (pyIter it1) (fun it2 h6 => it2 = it1 ∧ WF (model prog w) A s₀ (.compLoop (.ListComp elt [⟨.Name x px, iter, ifs, 0⟩, ⟨.Name x1 px1, iter1, ifs1, 0⟩] scope pos) 1 it1 (.ref D) (compEnvC scope cs C env)) (fun f h' => f = .next ∧ ∃ B' lc' ys' k' own', Le B B' ∧ Fm B' C lc' (own' ++ (D, lstO ys' k') :: ex) h' ∧ J C cs (i + 1) B' lc' ys' own') h6) h5 ∧
          WF (model prog w) A s₀ (.compLoop (.ListComp elt [⟨.Name x px, iter, ifs, 0⟩, ⟨.Name x1 px1, iter1, ifs1, 0⟩] scope pos) 1 it1 (.ref D) (compEnvC scope cs C env)) (fun f h' => f = .next ∧ ∃ B' lc' ys' k' own', Le B B' ∧ Fm B' C lc' (own' ++ (D, lstO ys' k') :: ex) h' ∧ J C cs (i + 1) B' lc' ys' own') h5) h4) h3
        else ∃ B' lc' own', Le B B' ∧ Fm B' C lc' (own' ++ (D, lstO ys k) :: ex) h3 ∧ J C cs (i + 1) B' lc' ys own') h2) h)
    (done : ∀ C cs B lc ys own₁ D k g' h', Le g B → J C cs n B lc ys own₁ → Le g g' → Out B g' L → (∀ oC m, Fm g' L ls ((C, oC) :: (D, lstO ys k) :: (own₁ ++ ex)) h' → (∀ (h'' : Heap), h''.get? C = some oC → h''.Ns C m) → FinC prog w A s₀ use Q C (.ref D) h'))
    (hs1 : ∀ env x, foldedSetIterable iter1 env x = pure x := by intro _ _; rfl) : CompGo prog w A s₀ env (.ListComp elt [⟨.Name x px, iter, ifs, 0⟩, ⟨.Name x1 px1, iter1, ifs1, 0⟩] scope pos) (newList []) scope cl use (.ref it) Q h := ⟨fun tk => by
  have S1 := S.push (o := lstO [])
  refine wpAny_newObj_type ?_
  refine (W_newEnv (Q := fun cenv h2 => ∃ B C cs new, cenv = newEnv scope C env.globals cs env.qual none .none (some env) builtinsNs ∧ Laid (cellNames scope.names) cl own cs (new ++ own) ∧
    Fm B C lc0 (new ++ (h.objs.size, lstO []) :: (own ++ (it, o) :: ex)) h2 ∧ (∀ b o', h.get? b = some o' → (∀ p ∈ own ++ (it, o) :: ex, p.1 ≠ b) → B.get? b = some o') ∧ Le g B ∧ h.get? C = none) lc0 S1 hlc nl ?_).use ?_
  · intro B C cs own' h' l S' k1 k2 k3 hC
    obtain ⟨new, e, l2⟩ := l.front
    subst e
    refine W_bindsNil ⟨B, C, cs, new, rfl, l2 _, S', fun b o' e no => k2 b o' (Heap.get?_push_of_some _ e) fun p hp => ?_, k3, ?_⟩
    rotate_left
    · cases e : h.get? C with
      | none => rfl
      | some o' => exact absurd (hC _ _ (Heap.get?_push_of_some _ e)) (Nat.lt_irrefl _)
    rcases List.mem_cons.mp hp with rfl | hp
    · exact Nat.ne_of_gt (Heap.lt_size e)
    · exact no p hp
  rintro cenv h2 tk2 ⟨B, C, cs, new, rfl, l, S2, kB, kg, hC⟩
  have S2 : Fm B C lc0 ((new ++ own) ++ (h.objs.size, lstO []) :: (it, o) :: ex) h2 := S2.perm (by
    rw [List.append_assoc]
    refine List.Perm.append_left _ ?_
    exact (List.perm_middle (a := (h.objs.size, lstO [])) (l₁ := own) (l₂ := (it, o) :: ex)).symm)
  have J0 := h0 B C cs _ l kB kg
  generalize h.objs.size = D at S2
  show codeAny (model prog w) A (.compStart _ 0 (.ref it) (.ref D) (compEnvC scope cs C env)) (compPost (model prog w) A (fun _ _ => False) use _ (.ref D) C) _
  have fin : ∀ (B' : Heap) (lc : Loc) (ys : List Value) (own₁ : List (Addr × Obj)) (k : Nat) (h3 : Heap) (tk3 : Nat), Le B B' → J C cs n B' lc ys own₁ → Fm B' C lc (own₁ ++ (D, lstO ys k) :: ex) h3 →
      compPost (model prog w) A (fun _ _ => False) use (fun v s' => ∃ h' tk', s' = { s₀ with heap := h', toks := tk' } ∧ Q v h') (.ref D) C (.ok .next) { s₀ with heap := h3, toks := tk3 } := by
    intro B' lc ys own₁ k h3 tk3 kk hJ S3
    obtain ⟨g', oC, T, q1, q2, q3, m, q4⟩ := S.leaveC kB kk S3 hC
    exact (done C cs B' lc ys own₁ D k g' h3 (kg.trans kk) hJ q1 q2 oC m (T.perm (List.Perm.cons _ List.perm_middle)) q4).run tk3
  have loop : ∀ tk2, codeAny (model prog w) A (.compLoop (.ListComp elt [⟨.Name x px, iter, ifs, 0⟩, ⟨.Name x1 px1, iter1, ifs1, 0⟩] scope pos) 0 (.ref it) (.ref D) (compEnvC scope cs C env)) (compPost (model prog w) A (fun _ _ => False) use (fun v s' => ∃ h' tk', s' = { s₀ with heap := h', toks := tk' } ∧ Q v h') (.ref D) C) { s₀ with heap := h2, toks := tk2 } := fun tk2 => by
    refine (WF_comp0 (Q := fun f h3 => f = .next ∧ ∃ B' lc ys own₁ k, Le B B' ∧ J C cs n B' lc ys own₁ ∧ Fm B' C lc (own₁ ++ (D, lstO ys k) :: ex) h3)
      (fun m h => ∃ i B' lc ys own₁ o k, m = n - i ∧ i ≤ n ∧ Le B B' ∧ J C cs i B' lc ys own₁ ∧ O i o ∧ Fm B' C lc (own₁ ++ (D, lstO ys k) :: (it, o) :: ex) h) ?_ n ⟨0, B, lc0, [], new ++ own, o, 0, rfl, Nat.zero_le _, Le.refl _, J0, o0, S2⟩ (hs1 _)).use
      fun f h3 tk3 ⟨e, B', lc, ys, own₁, k, kk, hJ, S3⟩ => by subst e; exact fin B' lc ys own₁ k h3 tk3 kk hJ S3
    rintro m h ⟨i, B', lc, ys, own₁, o, k, rfl, hi, kk, hJ, hO, S⟩
    have S' : Fm B' C lc ((own₁ ++ [(D, lstO ys k)]) ++ (it, o) :: ex) h := by simpa using S
    have ho := S.get (show (it, o) ∈ _ by simp)
    have kg' : Le g h := (kg.trans kk).trans S.keep
    rcases Nat.lt_or_eq_of_le hi with hlt | rfl
    · have key : ∀ v h' o', P i v h' → Heap.ExtBut it h h' → h'.get? it = some o' → O (i + 1) o' →
          W (model prog w) A s₀ (assign (.Name x px) (compEnvC scope cs C env) v) (fun _ h2 => W (model prog w) A s₀ (compTests ifs (compEnvC scope cs C env)) (fun ok h3 =>
            if ok = true then W (model prog w) A s₀ (eval iter1 (compEnvC scope cs C env)) (fun xv h4 => W (model prog w) A s₀ (pyIter xv) (fun it1 h5 =>
              W (model prog w) A s₀ (pyIter it1) (fun it2 h6 => it2 = it1 ∧ WF (model prog w) A s₀ (.compLoop (.ListComp elt [⟨.Name x px, iter, ifs, 0⟩, ⟨.Name x1 px1, iter1, ifs1, 0⟩] scope pos) 1 it1 (.ref D) (compEnvC scope cs C env)) (fun f h' => f = .next ∧ ∃ m, m < n - i ∧ ∃ i B' lc ys own₁ o k, m = n - i ∧ i ≤ n ∧ Le B B' ∧ J C cs i B' lc ys own₁ ∧ O i o ∧ Fm B' C lc (own₁ ++ (D, lstO ys k) :: (it, o) :: ex) h') h6) h5 ∧
              WF (model prog w) A s₀ (.compLoop (.ListComp elt [⟨.Name x px, iter, ifs, 0⟩, ⟨.Name x1 px1, iter1, ifs1, 0⟩] scope pos) 1 it1 (.ref D) (compEnvC scope cs C env)) (fun f h' => f = .next ∧ ∃ m, m < n - i ∧ ∃ i B' lc ys own₁ o k, m = n - i ∧ i ≤ n ∧ Le B B' ∧ J C cs i B' lc ys own₁ ∧ O i o ∧ Fm B' C lc (own₁ ++ (D, lstO ys k) :: (it, o) :: ex) h') h5) h4) h3
            else ∃ m, m < n - i ∧ ∃ i B' lc ys own₁ o k, m = n - i ∧ i ≤ n ∧ Le B B' ∧ J C cs i B' lc ys own₁ ∧ O i o ∧ Fm B' C lc (own₁ ++ (D, lstO ys k) :: (it, o) :: ex) h3) h2) h' := fun v h' o' p k' ho' hO' => by
        have S2 := S'.ext k' ho'
        have back : ∀ f h', (f = Flow.next ∧ ∃ B'' lc' ys' k' own', Le B' B'' ∧ Fm B'' C lc' (own' ++ (D, lstO ys' k') :: (it, o') :: ex) h' ∧ J C cs (i + 1) B'' lc' ys' own') → (f = Flow.next ∧ ∃ m, m < n - i ∧ ∃ i B' lc ys own₁ o k, m = n - i ∧ i ≤ n ∧ Le B B' ∧ J C cs i B' lc ys own₁ ∧ O i o ∧ Fm B' C lc (own₁ ++ (D, lstO ys k) :: (it, o) :: ex) h') :=
          fun f h' ⟨e, B'', lc', ys', k', own', q1, q2, q3⟩ => ⟨e, n - (i + 1), by omega, i + 1, B'', lc', ys', own', o', k', rfl, hlt, kk.trans q1, q3, hO', q2⟩
        refine (step C cs _ D k i v B' lc ys own₁ ((it, o') :: ex) h' l hlt (kg.trans kk) hJ p (by simpa using S2)).mono fun _ h3 x => x.mono fun ok h4 x => ?_
        cases ok with
        | true =>
          simp only [if_true] at x ⊢
          exact x.mono fun xv h5 x => x.mono fun it1 h6 x => ⟨x.1.mono fun it2 h7 y => ⟨y.1, ⟨fun tk => y.2.use fun f h8 tk8 q => ⟨_, _, _, rfl, rfl, back f h8 q⟩⟩⟩, ⟨fun tk => x.2.use fun f h8 tk8 q => ⟨_, _, _, rfl, rfl, back f h8 q⟩⟩⟩
        | false =>
          simp only [Bool.false_eq_true, if_false] at x ⊢
          obtain ⟨B'', lc', own', q1, q2, q3⟩ := x
          exact ⟨n - (i + 1), by omega, i + 1, B'', lc', ys, own', o', k, rfl, hlt, kk.trans q1, q3, hO', q2⟩
      refine (I.item i h o hlt kg' ho hO _ key).mono ?_
      rintro r h1 ⟨v, rfl, _, z⟩
      exact z
    · refine (I.done h o kg' ho hO (fun h' => Heap.ExtBut it h h') fun h' k => k).mono ?_
      rintro r h1 ⟨rfl, z⟩
      have S2 := S'.drop z
      exact ⟨rfl, B', lc, ys, own₁, k, kk, hJ, by simpa using S2⟩
  refine codeAny_compStart_list (loop tk2) ?_
  have ho := S2.get (show (it, o) ∈ _ by simp)
  exact (I.self h2 o (kg.trans S2.keep) ho o0 (fun v h' => v = .ref it ∧ h' = h2) ⟨rfl, rfl⟩).use fun v h' tk' ⟨e1, e2⟩ => by subst e1; subst e2; exact loop tk'⟩
end
end Mine
namespace Mine
open PySem PySem.Spec PySem.Calls PyProof.Rows PySem.W
section
variable {prog : Program} {w : World} {A : Around} {s₀ : Shared} {env : Env} {h g : Heap} {C : Addr} {lc : Loc} {own ex : List (Addr × Obj)}
/-- the inner clause of a double comprehension -/
theorem WF_comp1_itr {elt iter : Expr} {x : Str} {px : Pos} {c0 : Comprehension} {scope : Scope} {pos : Pos} {it D : Addr} {n : Nat} {P : Nat → Value → Heap → Prop} {O : Nat → Obj → Prop} {o : Obj} {ys : List Value} {k : Nat} {Q : Flow → Heap → Prop}
    (I : Itr prog w A s₀ (.Name x px) g it n P O) (S : Fm g C lc (own ++ (it, o) :: (D, lstO ys k) :: ex) h) (o0 : O 0 o) (hz : ys.length + n ≤ 1000)
    (J : Nat → Heap → Loc → List Value → List (Addr × Obj) → Prop) (h0 : J 0 g lc ys own)
    (step : ∀ i v B lc zs own ex h, i < n → Le g B → J i B lc zs own → P i v h → Fm B C lc (own ++ ex) h → W (model prog w) A s₀ (assign (.Name x px) env v) (fun _ h2 => W (model prog w) A s₀ (eval elt env) (fun y h3 =>
      ∃ B' lc' own', Le B B' ∧ Fm B' C lc' (own' ++ ex) h3 ∧ J (i + 1) B' lc' (zs ++ [y]) own') h2) h)
    (done : ∀ B lc zs own k h, Le g B → J n B lc zs own → Fm B C lc (own ++ (D, lstO zs k) :: ex) h → Q .next h) :
    WF (model prog w) A s₀ (.compLoop (.ListComp elt [c0, ⟨.Name x px, iter, [], 0⟩] scope pos) 1 (.ref it) (.ref D) env) Q h := by
  refine WF_comp1 (fun m h => ∃ i B lc zs own o k, m = n - i ∧ i ≤ n ∧ zs.length = ys.length + i ∧ Le g B ∧ J i B lc zs own ∧ O i o ∧ Fm B C lc (own ++ (it, o) :: (D, lstO zs k) :: ex) h) ?_ n ⟨0, g, lc, ys, own, o, k, rfl, Nat.zero_le _, rfl, Le.refl g, h0, o0, S⟩
  rintro m h ⟨i, B, lc, zs, own, o, k, rfl, hi, hlen, kB, hJ, hO, S⟩
  have ho := S.get (show (it, o) ∈ _ by simp)
  rcases Nat.lt_or_eq_of_le hi with hlt | rfl
  · have key : ∀ v h' o', P i v h' → Heap.ExtBut it h h' → h'.get? it = some o' → O (i + 1) o' → W (model prog w) A s₀ (assign (.Name x px) env v) (fun _ h3 => W (model prog w) A s₀ (compTests [] env) (fun ok h4 =>
          if ok = true then W (model prog w) A s₀ (eval elt env) (fun x h5 => W (model prog w) A s₀ (call (.builtin "list.append") [.ref D, x]) (fun _ h6 => ∃ m, m < n - i ∧ ∃ i B lc zs own o k, m = n - i ∧ i ≤ n ∧ zs.length = ys.length + i ∧ Le g B ∧ J i B lc zs own ∧ O i o ∧ Fm B C lc (own ++ (it, o) :: (D, lstO zs k) :: ex) h6) h5) h4
          else ∃ m, m < n - i ∧ ∃ i B lc zs own o k, m = n - i ∧ i ≤ n ∧ zs.length = ys.length + i ∧ Le g B ∧ J i B lc zs own ∧ O i o ∧ Fm B C lc (own ++ (it, o) :: (D, lstO zs k) :: ex) h4) h3) h' := fun v h' o' p k' ho' hO' => by
      have S2 := S.ext k' ho'
      refine (step i v B lc zs own _ h' hlt kB hJ p S2).mono fun _ h3 x => W_testsNil ?_
      rw [if_pos rfl]
      refine x.mono fun y h5 ⟨B', lc', own', q1, q2, q3⟩ => ?_
      refine W_append (n := k) (vs := zs) q2 (own' := own' ++ (it, o') :: (D, lstO (zs ++ [y]) (k + 1)) :: ex) ?_ (by omega) fun h' S => ⟨n - (i + 1), by omega, i + 1, B', lc', _, own', o', k + 1, rfl, hlt, by simp; omega, kB.trans q1, q3, hO', S⟩
      have := Fm.Upd1_mid (a := D) (o := lstO zs k) (o' := lstO (zs ++ [y]) (k + 1)) (ex := ex) (own' ++ [(it, o')])
      simpa using this
    refine (I.item i h o hlt (kB.trans S.keep) ho hO _ key).mono ?_
    rintro r h1 ⟨v, rfl, _, x⟩
    exact x
  · refine (I.done h o (kB.trans S.keep) ho hO _ fun h' k' => done B lc zs own k h' kB hJ (S.drop k')).mono ?_
    rintro r h1 ⟨rfl, q⟩
    exact q
end
end Mine
namespace Mine
open PySem PySem.Spec PySem.Calls PyProof.Rows PySem.W
section
variable {prog : Program} {w : World} {A : Around} {s₀ : Shared} {env : Env} {h g : Heap} {L : Addr} {ls : Loc} {own ex : List (Addr × Obj)}
theorem W_comp2Range {use : Option (Value → Sem Unit)} {elt iter iter1 : Expr} {x1 : Str} {px1 : Pos} {ifs1 : List Expr} {x : Str} {px : Pos} {ifs : List Expr} {scope : Scope} {pos : Pos} {cl : List (Str × Addr)} {r : Addr} {a b : Int} {t u v : Tok} {Q : Value → Heap → Prop}
    (hh : A.handled = none) (S : Fm g L ls (own ++ ex) h) (hr : IsRange h r a b 1 t u v) (ha : -(2 ^ 62) ≤ a) (ha' : a < 2 ^ 62) (hb : -(2 ^ 62) ≤ b) (hb' : b < 2 ^ 62)
    (lc0 : Loc) (hlc : ∀ p ∈ lc0, p.2 = none) (nl : (lc0.map (·.1)).Nodup)
    (J : Addr → List (Str × Addr) → Nat → Heap → Loc → List Value → List (Addr × Obj) → Prop)
    (h0 : ∀ B C cs ownC, Laid (cellNames scope.names) cl own cs ownC → (∀ b o', h.get? b = some o' → (∀ p ∈ own ++ ex, p.1 ≠ b) → B.get? b = some o') → Le g B → J C cs 0 B lc0 [] ownC)
    (step : ∀ C cs ownC D k i t B lc ys own₁ ex h, Laid (cellNames scope.names) cl own cs ownC → i < (b - a).toNat → Le g B → J C cs i B lc ys own₁ → Fm B C lc (own₁ ++ (D, lstO ys k) :: ex) h →
      W (model prog w) A s₀ (assign (.Name x px) (compEnvC scope cs C env) (.int (a + i) t)) (fun _ h2 => W (model prog w) A s₀ (compTests ifs (compEnvC scope cs C env)) (fun ok h3 =>
        if ok = true then W (model prog w) A s₀ (eval iter1 (compEnvC scope cs C env)) (fun xv h4 => W (model prog w) A s₀ (pyIter xv) (fun it1 h5 =>
          W (model prog w) A s₀ (pyIter it1) (fun it2 h6 => it2 = it1 ∧ WF (model prog w) A s₀ (.compLoop (.ListComp elt [⟨.Name x px, iter, ifs, 0⟩, ⟨.Name x1 px1, iter1, ifs1, 0⟩] scope pos) 1 it1 (.ref D) (compEnvC scope cs C env)) (fun f h' => f = .next ∧ ∃ B' lc' ys' k' own', Le B B' ∧ Fm B' C lc' (own' ++ (D, lstO ys' k') :: ex) h' ∧ J C cs (i + 1) B' lc' ys' own') h6) h5 ∧
          WF (model prog w) A s₀ (.compLoop (.ListComp elt [⟨.Name x px, iter, ifs, 0⟩, ⟨.Name x1 px1, iter1, ifs1, 0⟩] scope pos) 1 it1 (.ref D) (compEnvC scope cs C env)) (fun f h' => f = .next ∧ ∃ B' lc' ys' k' own', Le B B' ∧ Fm B' C lc' (own' ++ (D, lstO ys' k') :: ex) h' ∧ J C cs (i + 1) B' lc' ys' own') h5) h4) h3
        else ∃ B' lc' own', Le B B' ∧ Fm B' C lc' (own' ++ (D, lstO ys k) :: ex) h3 ∧ J C cs (i + 1) B' lc' ys own') h2) h)
    (done : ∀ C cs B lc ys own₁ D k g' h', Le g B → J C cs (b - a).toNat B lc ys own₁ → Le g g' → Out B g' L → (∀ oC m, Fm g' L ls ((C, oC) :: (D, lstO ys k) :: (own₁ ++ ex)) h' → (∀ (h'' : Heap), h''.get? C = some oC → h''.Ns C m) → FinC prog w A s₀ use Q C (.ref D) h'))
    (hs1 : ∀ env x, foldedSetIterable iter1 env x = pure x := by intro _ _; rfl) :
    W (model prog w) A s₀ (pyIter (.ref r)) (fun it h2 => CompGo prog w A s₀ env (.ListComp elt [⟨.Name x px, iter, ifs, 0⟩, ⟨.Name x1 px1, iter1, ifs1, 0⟩] scope pos) (newList []) scope cl use it Q h2) h :=
  W.of fun tk Q' k => wpAny_pyIter_range hr (small_one ha ha' hb hb') (k _ _ _ (CompGo.itr2 (hs1 := hs1) (Itr.range (a := a) (n := (b - a).toNat) hh (NoGo.name _ _)) S.pushMid (by rw [rangeSize_nat]; simp only [Int.natCast_zero, Int.add_zero, Int.sub_zero]) lc0 hlc nl J
    (fun B C cs ownC l kB kg => h0 B C cs ownC l (fun b o' e no => kB b o' (Heap.get?_push_of_some _ e) fun p hp => by
      rcases List.mem_append.mp hp with hp | hp
      · exact no p (List.mem_append_left _ hp)
      · rcases List.mem_cons.mp hp with rfl | hp
        · exact Nat.ne_of_gt (Heap.lt_size e)
        · exact no p (List.mem_append_right _ hp)) kg)
    (fun C cs ownC D k i v B lc ys own₁ ex h l hi kB hJ p S => by obtain ⟨t, rfl⟩ := p; exact step C cs ownC D k i t B lc ys own₁ ex h l hi kB hJ S) done))


/-- an iterator over a range, asked for its own iterator, gives itself; the inner clause over a range -/
theorem W_inner {elt iter : Expr} {x : Str} {px : Pos} {c0 : Comprehension} {scope : Scope} {pos : Pos} {r D : Addr} {a b : Int} {t u v : Tok} {ys : List Value} {k : Nat} {Q : Flow → Heap → Prop} (hh : A.handled = none) (S : Fm g L ls (own ++ (D, lstO ys k) :: ex) h) (hr : IsRange h r a b 1 t u v)
    (ha : -(2 ^ 62) ≤ a) (ha' : a < 2 ^ 62) (hb : -(2 ^ 62) ≤ b) (hb' : b < 2 ^ 62) (hz : ys.length + (b - a).toNat ≤ 1000)
    (J : Nat → Heap → Loc → List Value → List (Addr × Obj) → Prop) (h0 : J 0 g ls ys own)
    (step : ∀ i t B lc zs own ex h, i < (b - a).toNat → Le g B → J i B lc zs own → Fm B L lc (own ++ ex) h → W (model prog w) A s₀ (assign (.Name x px) env (.int (a + i) t)) (fun _ h2 => W (model prog w) A s₀ (eval elt env) (fun y h3 =>
      ∃ B' lc' own', Le B B' ∧ Fm B' L lc' (own' ++ ex) h3 ∧ J (i + 1) B' lc' (zs ++ [y]) own') h2) h)
    (done : ∀ B lc zs own k h, Le g B → J (b - a).toNat B lc zs own → Fm B L lc (own ++ (D, lstO zs k) :: ex) h → Q .next h) :
    W (model prog w) A s₀ (pyIter (.ref r)) (fun it1 h5 =>
      W (model prog w) A s₀ (pyIter it1) (fun it2 h6 => it2 = it1 ∧ WF (model prog w) A s₀ (.compLoop (.ListComp elt [c0, ⟨.Name x px, iter, [], 0⟩] scope pos) 1 it1 (.ref D) env) Q h6) h5 ∧
      WF (model prog w) A s₀ (.compLoop (.ListComp elt [c0, ⟨.Name x px, iter, [], 0⟩] scope pos) 1 it1 (.ref D) env) Q h5) h :=
  W.of fun tk Q' k => wpAny_pyIter_range hr (small_one ha ha' hb hb') (k _ _ _ (by
    have S2 := S.pushMid (own := own) (o := { cls := .type "range_iterator", data := .fields #[rawInt a, rawInt (Builtin.Range.rangeSize a b 1), rawInt 1] })
    have e : ({ cls := .type "range_iterator", data := .fields #[rawInt a, rawInt (Builtin.Range.rangeSize a b 1), rawInt 1] } : Obj) = { cls := .type "range_iterator", dict := none, data := .fields #[rawInt (a + (0 : Nat)), rawInt (((b - a).toNat : Int) - (0 : Nat)), rawInt 1], slots := #[] } := by
      rw [rangeSize_nat]; simp only [Int.natCast_zero, Int.add_zero, Int.sub_zero]
    have I := Itr.range (prog := prog) (w := w) (A := A) (s₀ := s₀) (target := .Name x px) (g := g) (it := h.objs.size) (a := a) (n := (b - a).toNat) hh (NoGo.name _ _)
    have body := WF_comp1_itr (elt := elt) (iter := iter) (c0 := c0) (scope := scope) (pos := pos) (Q := Q) I S2 e hz J h0 (fun i v B lc zs own ex h hi kB hJ p S => by obtain ⟨t, rfl⟩ := p; exact step i t B lc zs own ex h hi kB hJ S) done
    exact ⟨I.self _ _ S2.keep (S2.get (by simp)) e _ ⟨rfl, body⟩, body⟩))
end
end Mine
namespace Mine
open PySem PySem.Spec PySem.Calls PyProof.Rows PySem.W

/-! walks over the keys of a dict, whatever they are: read off the built-in's own text -/
structure RawD (h : Heap) (d : Addr) (es : Array DictEntry) (ep : Nat) : Prop where
  obj : ∃ o, h.get? d = some o ∧ o.ExactDict ∧ o.data = .dict es ep
theorem RawD.le {g h : Heap} {d : Addr} {es : Array DictEntry} {ep : Nat} (x : RawD g d es ep) (k : Le g h) : RawD h d es ep := let ⟨o, a, b⟩ := x.obj; ⟨⟨o, k _ _ a, b⟩⟩
section
variable {prog : Program} {w : World} {A : Around} {E : Value → Shared → Prop} {s : Shared}
theorem raw_iter {d : Addr} {es : Array DictEntry} {ep : Nat} {Q : Value → Shared → Prop} (hd : (d == sysModules) = false) (D : RawD s.heap d es ep)
    (q : Q (.ref s.heap.objs.size) { s with heap := s.heap.push { cls := .type "dict_keyiterator", data := .fields #[.ref d, .int 0 0, .int es.size 0, .int ep 0] } }) :
    wpAny (model prog w) A (pyIter (.ref d)) Q E s := by
  obtain ⟨o, ho, hx, ht⟩ := D.obj
  have ty : s.TypeIs (.ref d) "dict" := ⟨o, ho, hx.1⟩
  refine wpAny_pyIter_slot ty F.slot_dict_iter (wpAny_call_entry F.slot_dict_iter ty F.entry_dict_iter ?_ (F.args_dict_iter_1 _))
  unfold Builtin.«dict.__iter__» Builtin.Dict.dictSlotNone
  refine wpAny_bind (wpAny_bind (wpAny_notOrdered_dict ty ?_))
  refine wpAny_pure ?_
  show wpAny _ _ (Builtin.Dict.showsAll d >>= _) _ _ s
  unfold Builtin.Dict.showsAll
  rw [hd, if_neg Bool.false_ne_true]
  refine wpAny_bind (wpAny_pure (wpAny_bind (wpAny_dictEntries ho ht (wpAny_bind (wpAny_dictEpoch ho ht ?_)))))
  exact wpAny_bind (wpAny_newObj_type (wpAny_pure ⟨_, rfl, "dict_keyiterator", _, ⟨_, Heap.get?_push_size _ rfl, rfl⟩, F.slot_dict_keyiterator_next.lookup, by simpa [rawInt] using q⟩))
theorem raw_next {it d : Addr} {i ep : Nat} {es : Array DictEntry} {e : DictEntry} {Q : Option Value → Shared → Prop} (K : s.heap.IsKeyIter it d i es.size ep) (D : RawD s.heap d es ep) (he : es[i]? = some e)
    (q : ∀ h', h'.IsKeyIter it d (i + 1) es.size ep → Heap.SameBut it s.heap h' → Q (some e.key) { s with heap := h' }) : wpAny (model prog w) A (pyNext (.ref it)) Q E s := by
  obtain ⟨oi, hi, ci, di⟩ := id K
  obtain ⟨o, ho, hx, ht⟩ := D.obj
  obtain ⟨hlt, he⟩ := Array.getElem?_eq_some_iff.mp he
  unfold pyNext
  refine wpAny_bind (wpAny_attempt (wpAny_callSpecial?_slot (name := Str.ofString "__next__") K.typeIs F.slot_dict_keyiterator_next (wpAny_call_entry F.slot_dict_keyiterator_next K.typeIs F.entry_dict_keyiterator_next ?_ (F.args_dict_keyiterator_next_1 _))))
  refine wpAny_bind (wpAny_pure (wpAny_bind (wpAny_bind ?_)))
  first | refine wpAny_bind (wpAny_typeNameOfWhole_keyiter K.typeIs (wpAny_pure ?_)) | refine wpAny_bind (wpAny_typeNameOf_keyiter K.typeIs (wpAny_pure ?_))
  refine wpAny_bind (wpAny_fieldsOf hi di ?_)
  simp only [show Builtin.Dict_items.ownsTuple "dict_keyiterator" = false by decide, Bool.false_eq_true, if_false]
  show wpAny _ _ (if (Value.ref d == Value.none) = true then _ else _) _ _ s
  rw [if_neg (show ¬ ((Value.ref d == Value.none) = true) from Bool.false_ne_true)]
  refine wpAny_bind (wpAny_pure (wpAny_bind (wpAny_dictEntries ho ht ?_)))
  rw [if_neg (by simp)]
  refine wpAny_bind (wpAny_pure (wpAny_bind (wpAny_dictEpoch ho ht ?_)))
  rw [if_neg (by simp)]
  refine wpAny_pure ?_
  simp only [show ¬ ((i : Int) < 0) from by omega, if_false, Int.toNat_natCast, Array.getElem?_eq_getElem hlt]
  refine wpAny_bind ?_
  first | refine wpAny_bind (wpAny_typeNameOfWhole_keyiter K.typeIs (wpAny_pure ?_)) | refine wpAny_bind (wpAny_typeNameOf_keyiter K.typeIs (wpAny_pure ?_))
  refine wpAny_bind (wpAny_isOneOf_keyiter K.typeIs ?_)
  show wpAny _ _ (setField (.ref it) 1 (rawInt ((i : Int) + 1)) >>= _) _ _ s
  refine wpAny_bind (wpAny_setField hi di (by simp) ?_)
  have K' : (s.heap.update it (Obj.mapFields (·.setIfInBounds 1 (rawInt ((i : Int) + 1))))).IsKeyIter it d (i + 1) es.size ep :=
    ⟨_, Heap.get?_update_self _ hi (Obj.isFreed_of_fields (Obj.data_mapFields di _)), (Obj.cls_mapFields ..).trans ci, by rw [Obj.data_mapFields di]; simp [rawInt]⟩
  refine wpAny_bind (wpAny_holding (wpAny_bind (wpAny_isOneOf_keyiter (s := { s with heap := s.heap.update it (Obj.mapFields (·.setIfInBounds 1 (rawInt ((i : Int) + 1)))) }) K'.typeIs ?_)))
  show wpAny _ _ (pure es[i].key) _ _ _
  rw [he]
  exact wpAny_pure (wpAny_pure ⟨_, rfl, wpAny_pure (q _ K' (Heap.SameBut.update ..))⟩)
theorem raw_end {it d : Addr} {i ep : Nat} {es : Array DictEntry} {Q : Option Value → Shared → Prop} (hh : A.handled = none) (K : s.heap.IsKeyIter it d i es.size ep) (D : RawD s.heap d es ep) (he : es.size ≤ i)
    (q : ∀ h', Heap.ExtBut it s.heap h' → Q none { s with heap := h' }) : wpAny (model prog w) A (pyNext (.ref it)) Q E s := by
  obtain ⟨oi, hi, ci, di⟩ := id K
  obtain ⟨o, ho, hx, ht⟩ := D.obj
  unfold pyNext
  refine wpAny_bind (wpAny_attempt (wpAny_callSpecial?_slot (name := Str.ofString "__next__") K.typeIs F.slot_dict_keyiterator_next (wpAny_call_entry F.slot_dict_keyiterator_next K.typeIs F.entry_dict_keyiterator_next ?_ (F.args_dict_keyiterator_next_1 _))))
  refine wpAny_bind (wpAny_pure (wpAny_bind (wpAny_bind ?_)))
  first | refine wpAny_bind (wpAny_typeNameOfWhole_keyiter K.typeIs (wpAny_pure ?_)) | refine wpAny_bind (wpAny_typeNameOf_keyiter K.typeIs (wpAny_pure ?_))
  refine wpAny_bind (wpAny_fieldsOf hi di ?_)
  simp only [show Builtin.Dict_items.ownsTuple "dict_keyiterator" = false by decide, Bool.false_eq_true, if_false]
  show wpAny _ _ (if (Value.ref d == Value.none) = true then _ else _) _ _ s
  rw [if_neg (show ¬ ((Value.ref d == Value.none) = true) from Bool.false_ne_true)]
  refine wpAny_bind (wpAny_pure (wpAny_bind (wpAny_dictEntries ho ht ?_)))
  rw [if_neg (by simp)]
  refine wpAny_bind (wpAny_pure (wpAny_bind (wpAny_dictEpoch ho ht ?_)))
  rw [if_neg (by simp)]
  refine wpAny_pure ?_
  simp only [show ¬ ((i : Int) < 0) from by omega, if_false, Int.toNat_natCast, Array.getElem?_eq_none he]
  refine wpAny_bind ?_
  first | refine wpAny_bind (wpAny_typeNameOfWhole_keyiter K.typeIs (wpAny_pure ?_)) | refine wpAny_bind (wpAny_typeNameOf_keyiter K.typeIs (wpAny_pure ?_))
  show wpAny _ _ (setField (.ref it) 0 .none >>= _) _ _ s
  refine wpAny_bind (wpAny_setField hi di (by simp) ?_)
  show wpAny _ _ (newExc (.type "StopIteration") [] >>= _) _ _ _
  simp only [newExc, newTuple]
  refine wpAny_bind (wpAny_bind (wpAny_newObj_type ?_ (by size_fits)))
  refine wpAny_bind (m := firstArgMember _ _) (wpAny_of_eq (a := Value.none) (by first | rfl | (simp only [firstArgMember]; rfl)) (wpAny_newObj_type ?_ (by size_fits)))
  simp only [raiseNew]
  refine wpAny_bind (wpAny_handled ?_)
  rw [show A.in1.handled = none from hh]
  refine wpAny_bind (wpAny_pure (wpAny_throw ?_))
  refine wpAny_bind (wpAny_isInstance (T := "StopIteration") (b := true) ⟨_, Heap.get?_push_size _ rfl, rfl⟩ isSubtype_stop (wpAny_pure ?_))
  exact q _ (((Heap.SameBut.update ..).extBut.push _).push _)
end

section
variable {prog : Program} {w : World} {A : Around} {s₀ : Shared} {env : Env} {h g : Heap} {L : Addr} {ls : Loc} {own ex : List (Addr × Obj)}
theorem Itr.keys {target : Expr} {it d : Addr} {es : Array DictEntry} {ep : Nat} (hh : A.handled = none) (hg : NoGo target) (D : RawD g d es ep) :
    Itr prog w A s₀ target g it es.size (fun i v _ => ∃ e, es[i]? = some e ∧ v = e.key) (fun i o => o.cls = .type "dict_keyiterator" ∧ o.data = .fields #[.ref d, .int i 0, .int es.size 0, .int ep 0]) where
  item := fun i h o hlt kg ho ⟨hc, hd⟩ Q q => W.of fun tk Q' k => by
    refine raw_next (it := it) (d := d) (es := es) (ep := ep) ⟨o, ho, hc, hd⟩ (D.le kg) (Array.getElem?_eq_getElem hlt) fun h' ⟨o', ho', hc', hd'⟩ hs => ?_
    have q' := q _ h' o' ⟨_, Array.getElem?_eq_getElem hlt, rfl⟩ hs.extBut ho' ⟨hc', hd'⟩
    exact k _ _ _ ⟨_, rfl, fun _ _ _ => q', hg _ _ _ it _ o' _ h' _ ho' hc' (.inr (.inr rfl)) q'⟩
  self := fun h o kg ho ⟨hc, hd⟩ Q q => W.of fun tk Q' k => wpAny_pyIter_keyiter (it := it) (d := d) ⟨o, ho, hc, hd⟩ (k _ _ _ q)
  done := fun h o kg ho ⟨hc, hd⟩ Q q => W.of fun tk Q' k => raw_end hh (it := it) (d := d) (es := es) (ep := ep) ⟨o, ho, hc, hd⟩ (D.le kg) (Nat.le_refl _) fun h' he => k _ _ _ ⟨rfl, q h' he⟩
theorem TD.raw {B : Heap} {o : Obj} {d : Addr} {xs : List (List Int × Addr × Value)} (T : TD prog w B o xs) (ho : h.get? d = some o) : ∃ es ep, RawD h d es ep ∧ es.size = xs.length ∧ ∀ (i : Nat) (e : DictEntry), es[i]? = some e → ∃ x, xs[i]? = some x ∧ e.key = .ref x.2.1 := by
  obtain ⟨es, ep, e1, e2⟩ := T.data
  refine ⟨es, ep, ⟨o, ho, T.exact, e1⟩, by have := congrArg List.length e2; simpa using this, fun i e he => ?_⟩
  have : es.toList[i]? = some e := by rw [Array.getElem?_toList]; exact he
  rw [e2, List.getElem?_map] at this
  obtain ⟨x, hx, rfl⟩ := Option.map_eq_some_iff.mp this
  exact ⟨x, hx, rfl⟩
theorem W_compSrc {use : Option (Value → Sem Unit)} {elt iter : Expr} {x : Str} {px : Pos} {ifs : List Expr} {scope : Scope} {pos : Pos} {cl : List (Str × Addr)} {xv : Value} {o0 : Obj} {n : Nat} {P : Nat → Value → Heap → Prop} {O : Nat → Obj → Prop} {Q : Value → Heap → Prop}
    (src : ∀ Q : Value → Heap → Prop, Q (.ref h.objs.size) (h.push o0) → W (model prog w) A s₀ (pyIter xv) Q h) (I : Itr prog w A s₀ (.Name x px) g h.objs.size n P O) (o00 : O 0 o0) (hf : o0.isFreed = false) (S : Fm g L ls (own ++ ex) h) (hsz : n ≤ 1000) (lc0 : Loc) (hlc : ∀ p ∈ lc0, p.2 = none) (nl : (lc0.map (·.1)).Nodup)
    (J : Addr → List (Str × Addr) → Nat → Heap → Loc → List Value → List (Addr × Obj) → Prop)
    (h0 : ∀ B C cs ownC, Laid (cellNames scope.names) cl own cs ownC → (∀ b o', h.get? b = some o' → (∀ p ∈ own ++ ex, p.1 ≠ b) → B.get? b = some o') → Le g B → J C cs 0 B lc0 [] ownC)
    (step : ∀ C cs ownC i v B lc ys own₁ ex h, Laid (cellNames scope.names) cl own cs ownC → i < n → P i v h → Le g B → J C cs i B lc ys own₁ → Fm B C lc (own₁ ++ ex) h →
      W (model prog w) A s₀ (assign (.Name x px) (compEnvC scope cs C env) v) (fun _ h2 => W (model prog w) A s₀ (compTests ifs (compEnvC scope cs C env)) (fun ok h3 =>
        if ok = true then W (model prog w) A s₀ (eval elt (compEnvC scope cs C env)) (fun y h4 => ∃ B' lc' own', Le B B' ∧ Fm B' C lc' (own' ++ ex) h4 ∧ J C cs (i + 1) B' lc' (ys ++ [y]) own') h3
        else ∃ B' lc' own', Le B B' ∧ Fm B' C lc' (own' ++ ex) h3 ∧ J C cs (i + 1) B' lc' ys own') h2) h)
    (done : ∀ C cs B lc ys own₁ D k g' h', Le g B → J C cs n B lc ys own₁ → Le g g' → Out B g' L → (∀ oC m, Fm g' L ls ((C, oC) :: (D, lstO ys k) :: (own₁ ++ ex)) h' → (∀ (h'' : Heap), h''.get? C = some oC → h''.Ns C m) → FinC prog w A s₀ use Q C (.ref D) h')) :
    W (model prog w) A s₀ (pyIter xv) (fun it h2 => CompGo prog w A s₀ env (.ListComp elt [⟨.Name x px, iter, ifs, 0⟩] scope pos) (newList []) scope cl use it Q h2) h :=
  src _ (CompGo.itr I (S.pushMid hf) o00 hsz lc0 hlc nl J
    (fun B C cs ownC l kB kg => h0 B C cs ownC l (fun b o' e no => kB b o' (Heap.get?_push_of_some _ e) fun p hp => by
      rcases List.mem_append.mp hp with hp | hp
      · exact no p (List.mem_append_left _ hp)
      · rcases List.mem_cons.mp hp with rfl | hp
        · exact Nat.ne_of_gt (Heap.lt_size e)
        · exact no p (List.mem_append_right _ hp)) kg)
    (fun C cs ownC i v B lc ys own₁ ex h l hi kB hJ p S => step C cs ownC i v B lc ys own₁ ex h l hi p kB hJ S) done)
theorem W_loopSrc {target : Expr} {body : List Stmt} {xv : Value} {o0 : Obj} {n : Nat} {P : Nat → Value → Heap → Prop} {O : Nat → Obj → Prop} {Q : Flow → Heap → Prop}
    (src : ∀ Q : Value → Heap → Prop, Q (.ref h.objs.size) (h.push o0) → W (model prog w) A s₀ (pyIter xv) Q h) (I : Itr prog w A s₀ target g h.objs.size n P O) (o00 : O 0 o0) (hf : o0.isFreed = false) (S : Fm g L ls (own ++ ex) h)
    (J : Nat → Heap → Loc → List (Addr × Obj) → Prop) (h0 : J 0 g ls own)
    (step : ∀ i v B ls own ex h, i < n → P i v h → Le g B → J i B ls own → Fm B L ls (own ++ ex) h → W (model prog w) A s₀ (assign target env v) (fun _ h2 => W (model prog w) A s₀ (execs body env) (fun f h' =>
      (f = .next ∨ f = .cont) ∧ ∃ B' ls' own', Le B B' ∧ Fm B' L ls' (own' ++ ex) h' ∧ J (i + 1) B' ls' own') h2) h)
    (done : ∀ B ls own h, Le g B → J n B ls own → Fm B L ls (own ++ ex) h → Q .next h) : W (model prog w) A s₀ (pyIter xv) (fun it h2 => WF (model prog w) A s₀ (.forLoop target it body [] env) Q h2) h :=
  src _ (WF_itr I (S.pushMid hf) o00 J h0 (fun i v B ls own ex h hi kB hJ p S => step i v B ls own ex h hi p kB hJ S) done)
theorem W_srcKeys {d : Addr} {es : Array DictEntry} {ep : Nat} (hd : (d == sysModules) = false) (D : RawD h d es ep) (Q : Value → Heap → Prop)
    (q : Q (.ref h.objs.size) (h.push { cls := .type "dict_keyiterator", data := .fields #[.ref d, .int 0 0, .int es.size 0, .int ep 0] })) : W (model prog w) A s₀ (pyIter (.ref d)) Q h :=
  W.of fun tk Q' k => raw_iter hd D (k _ _ _ q)
end
end Mine
namespace Mine
open PySem PySem.Spec PySem.Calls PyProof.Rows PySem.W

section
variable {prog : Program} {w : World} {A : Around} {s₀ : Shared} {env : Env} {h g : Heap} {L : Addr} {ls : Loc} {own own' : List (Addr × Obj)}
theorem ext_le {h h' : Heap} (x : Heap.ExtBut h.objs.size h h') : Le h h' := fun b o e => x b o (Nat.ne_of_lt (Heap.lt_size e)) e
theorem W_isNone {v : Value} {Q : Value → Heap → Prop} (q : Q (.bool (v == .none)) h) : W (model prog w) A s₀ (compareOp .Is v .none) Q h := W.of fun tk Q' k => is_none_gen (k _ _ _ q)
theorem W_isNotNone {v : Value} {Q : Value → Heap → Prop} (q : Q (.bool (!(v == .none))) h) : W (model prog w) A s₀ (compareOp .IsNot v .none) Q h := W.of fun tk Q' k => isnot_none_gen (k _ _ _ q)
theorem W_asTup2 {a b : Expr} {n : Nat} {pos : Pos} {t : Addr} {x y : Value} {Q : Unit → Heap → Prop} (hh : A.handled = none) (S : Fm g L ls own h) (ht : h.IsTuple t #[x, y])
    (z : ∀ h', Fm g L ls own h' → Le h h' → W (model prog w) A s₀ (assign a env x) (fun _ h1 => W (model prog w) A s₀ (assign b env y) (fun _ h2 => Q () h2) h1) h')
    (he : assignEach [a, b] env = [(false, assign a env), (false, assign b env)] := by rfl) : W (model prog w) A s₀ (assign (.Tuple [a, b] n pos) env (.ref t)) Q h :=
  W.of fun tk Q' k => by
    refine wpAny_assign_Tuple (items := #[x, y]) hh ht (by rw [he]; rfl) (by rw [he]; rfl) fun h' hx => ?_
    rw [he]
    show wpAny _ _ (assignInOrder [assign a env, assign b env] [x, y]) _ _ _
    refine assignInOrder_cons ((z h' (S.grown (ext_le hx)) (ext_le hx)).use fun _ h1 tk1 z1 => assignInOrder_cons (z1.use fun _ h2 tk2 q => assignInOrder_nil (k _ _ _ q)))
theorem W_asTup3 {a b c : Expr} {n : Nat} {pos : Pos} {t : Addr} {x y z : Value} {Q : Unit → Heap → Prop} (hh : A.handled = none) (S : Fm g L ls own h) (ht : h.IsTuple t #[x, y, z])
    (u : ∀ h', Fm g L ls own h' → Le h h' → W (model prog w) A s₀ (assign a env x) (fun _ h1 => W (model prog w) A s₀ (assign b env y) (fun _ h2 => W (model prog w) A s₀ (assign c env z) (fun _ h3 => Q () h3) h2) h1) h')
    (he : assignEach [a, b, c] env = [(false, assign a env), (false, assign b env), (false, assign c env)] := by rfl) : W (model prog w) A s₀ (assign (.Tuple [a, b, c] n pos) env (.ref t)) Q h :=
  W.of fun tk Q' k => by
    refine wpAny_assign_Tuple (items := #[x, y, z]) hh ht (by rw [he]; rfl) (by rw [he]; rfl) fun h' hx => ?_
    rw [he]
    show wpAny _ _ (assignInOrder [assign a env, assign b env, assign c env] [x, y, z]) _ _ _
    refine assignInOrder_cons ((u h' (S.grown (ext_le hx)) (ext_le hx)).use fun _ h1 tk1 z1 => assignInOrder_cons (z1.use fun _ h2 tk2 z2 => assignInOrder_cons (z2.use fun _ h3 tk3 q => assignInOrder_nil (k _ _ _ q))))
theorem W_AssignTup {elts k tpos value pos} {Q : Flow → Heap → Prop} (y : W (model prog w) A s₀ (eval value env) (fun v h1 => W (model prog w) A s₀ (assign (.Tuple elts k tpos) env v) (fun _ h2 => Q .next h2) h1) h)
    (hw : swappedStores [.Tuple elts k tpos] value env = pure none) (hs : swapsWithSole [.Tuple elts k tpos] value pos.line env = pure false := by rfl) : W (model prog w) A s₀ (exec (.Assign [.Tuple elts k tpos] value pos) env) Q h :=
  W.of fun tk Q' k => Assign_Tuple (y.use fun _ _ _ z => z.use fun _ _ _ q => k _ _ _ q) hs hw
/-- a, b = x, y in a function: the second is stored first -/
theorem W_AssignSwap {n1 n2 : Str} {k tpos value pos p1 p2} {Q : Flow → Heap → Prop} (hh : A.handled = none)
    (y : W (model prog w) A s₀ (eval value env) (fun v h1 => ∃ t x y, v = .ref t ∧ h1.get? t = some (tupO [x, y]) ∧ ∀ h', (∀ g L ls own, Fm g L ls own h1 → Fm g L ls own h') → Le h1 h' → W (model prog w) A s₀ (storeName env n2 y) (fun _ h2 => W (model prog w) A s₀ (storeName env n1 x) (fun _ h3 => Q .next h3) h2) h') h)
    (hw : swappedStores [.Tuple [.Name n1 p1, .Name n2 p2] k tpos] value env = pure (some [n1, n2])) (hs : swapsWithSole [.Tuple [.Name n1 p1, .Name n2 p2] k tpos] value pos.line env = pure false := by rfl) :
    W (model prog w) A s₀ (exec (.Assign [.Tuple [.Name n1 p1, .Name n2 p2] k tpos] value pos) env) Q h :=
  W.of fun tk Q' k => Assign_Tuple_swapped (names := [n1, n2]) (y.use fun v h1 tk1 ⟨t, x, y, e, ht, z⟩ => by
    subst e
    refine wpAny_unpackItems_tuple (items := #[x, y]) hh ⟨_, ht, rfl, _, rfl⟩ fun h' hx => ?_
    show wpAny _ _ (assignInOrder [bindName env n2, bindName env n1] [y, x]) _ _ _
    exact assignInOrder_cons (bindName_ ((z h' (fun g L ls own S => S.grown (ext_le hx)) (ext_le hx)).use fun _ h2 tk2 u => assignInOrder_cons (bindName_ (u.use fun _ h3 tk3 q => assignInOrder_nil (k _ _ _ q)))))) hs hw
theorem EnvOk.swapped {names : List (Str × NameKind)} {cells : List (Str × Addr)} (E : EnvOk env L names cells) {n1 n2 a b : Str} {k k' : Nat} {tp vp p1 p2 pa pb : Pos} (h1 : (n1, NameKind.local) ∈ names) (h2 : (n2, NameKind.local) ∈ names)
    (hl : (p2.line == p1.line) = true) (hne : ([n1, n2].eraseDups.length != 2) = false) (hc : [Expr.Name a pa, .Name b pb].all (constantsAlone 8) = false) :
    swappedStores [.Tuple [.Name n1 p1, .Name n2 p2] k tp] (.Tuple [.Name a pa, .Name b pb] k' vp) env = pure (some [n1, n2]) := by
  unfold swappedStores
  simp only [E.block, List.length_cons, List.length_nil, List.head?_cons, Option.map_some, Option.getD_some, List.filterMap_cons, List.filterMap_nil, E.kindOf h1, E.kindOf h2, Expr.pos, hl, beq_self_eq_true, Bool.and_self, if_true]
  rw [if_neg (by decide), if_neg (by simp), if_neg (by rw [hne]; decide), if_neg (by simp [foldedForSure]), if_neg (by rw [hc]; decide)]
theorem EnvOk.unswapped {names : List (Str × NameKind)} {cells : List (Str × Addr)} (E : EnvOk env L names cells) {n1 n2 : Str} {k k' : Nat} {tp vp p1 p2 q1 q2 : Pos} {e1 e2 f1 f2 : Expr} (h1 : (n1, NameKind.cell) ∈ names) (h2 : (n2, NameKind.cell) ∈ names) :
    swappedStores [.Tuple [.Name n1 p1, .Name n2 p2] k tp] (.Tuple [.Subscript e1 f1 q1, .Subscript e2 f2 q2] k' vp) env = pure none := by
  unfold swappedStores
  simp only [E.block, List.length_cons, List.length_nil, List.head?_cons, Option.map_some, Option.getD_some, List.filterMap_cons, List.filterMap_nil, E.kindOf h1, E.kindOf h2, Expr.pos]
  rfl

/-- the set of the ints of a list, and how many they are -/
def distinct (ns : List Int) : Nat := (firstMet (fun i => ns.getD i 0) ns.length).length
structure SetN (prog : Program) (w : World) (o : Obj) (n : Nat) : Prop where
  is : ∃ S, o.SetObjOf (intKind prog w) S n
theorem W_setList {l : Addr} {vs : List Value} {ns : List Int} {Q : Value → Heap → Prop} (hh : A.handled = none) (S : Fm g L ls own h) (hl : h.IsList l vs.toArray) (hi : IntsAre vs ns) (hb : ns.length ≤ 1000)
    (q : ∀ a o h', Fm g L ls own h' → h'.get? a = some o → SetN prog w o (distinct ns) → Q (.ref a) h') : W (model prog w) A s₀ (call (.type "set") [.ref l]) Q h :=
  W.of fun tk Q' k => call_set_list hh hl (by simpa using hi) (by have := hi.length; simp; unfold scanBound; omega) fun h' tk' hS hk => by
    obtain ⟨o, ho, hs⟩ := hS.objOf
    have e : vs.toArray.size = ns.length := by simp [hi.length]
    rw [e] at hs
    exact k _ _ _ (q _ o h' (S.grown fun b o e => hk b o (Heap.lt_size e) e) ho ⟨_, hs⟩)
theorem W_lenSet {a : Addr} {o : Obj} {n : Nat} {Q : Value → Heap → Prop} (ho : h.get? a = some o) (hs : SetN prog w o n) (hf : (n : Int) < 2 ^ 63) (q : ∀ t, Q (.int n t) h) : W (model prog w) A s₀ (call (.builtin "len") [.ref a]) Q h :=
  W.of fun tk Q' k => by
    obtain ⟨S, hex, es, ep, t, hd, _, _, hn, hfi⟩ := hs
    subst hn
    exact call_len_set ho hex hd hfi hf (k _ _ _ (q _))
theorem tkey_items {a : Addr} {u v : Int} (x : IsTupleKey (intKind prog w) h [u, v] a) : ∃ t t', h.IsTuple a #[.int u t, .int v t'] := by
  obtain ⟨o, items, n, ho, hc, hd, hi⟩ := x
  obtain ⟨its⟩ := items
  cases hi with
  | cons h1 hi =>
    cases hi with
    | cons h2 hi =>
      cases hi
      obtain ⟨t, rfl⟩ := Value.isInt_shape h1
      obtain ⟨t', rfl⟩ := Value.isInt_shape h2
      exact ⟨t, t', o, ho, hc, n, hd⟩
theorem tuple_le {a : Addr} {items : Array Value} (x : g.IsTuple a items) (k : Le g h) : h.IsTuple a items := let ⟨o, p, q⟩ := x; ⟨o, k _ _ p, q⟩
theorem EnvOk.closure {names : List (Str × NameKind)} {cells cl : List (Str × Addr)} (E : EnvOk env L names cells) {scope : Scope} (hc : (scope.names.all fun p => !(p.2 == .free) || (cells.lookup p.1).isSome) = true) (hcl : freeOf cells scope.names [] = cl) : closureFor scope env = pure cl := by
  rw [closureFor_eq, E.hcells, hcl]
  intro p hp hf
  rw [E.hcells]
  have := List.all_eq_true.mp hc p hp
  rw [hf] at this
  simpa using this
end
end Mine
namespace Mine
open PySem PySem.Spec PySem.Calls PyProof.Rows PySem.W

abbrev Key := Int × Int × Int
abbrev ltK (x y : Key) : Prop := x.1 < y.1 ∨ (x.1 = y.1 ∧ (x.2.1 < y.2.1 ∨ (x.2.1 = y.2.1 ∧ x.2.2 < y.2.2)))
def leK (x y : Key) : Prop := ¬ ltK y x
theorem leK_refl (x : Key) : leK x x := by unfold leK ltK; omega
theorem leK_trans {x y z : Key} (a : leK x y) (b : leK y z) : leK x z := by unfold leK ltK at *; omega
theorem leK_of_lt {x y : Key} (a : ltK x y) : leK x y := by unfold leK ltK at *; omega
theorem leK_fst {x y : Key} (a : leK x y) : x.1 ≤ y.1 := by unfold leK ltK at *; omega

/-- the tuple of three ints at a -/
structure Tri (h : Heap) (a : Addr) (k : Key) : Prop where
  is : ∃ t u v, h.get? a = some (tupO [.int k.1 t, .int k.2.1 u, .int k.2.2 v])
theorem Tri.le {g h : Heap} {a : Addr} {k : Key} (x : Tri g a k) (e : Le g h) : Tri h a k := let ⟨t, u, v, p⟩ := x.is; ⟨t, u, v, e _ _ p⟩

section
variable {prog : Program} {w : World} {A : Around} {s₀ : Shared} {env : Env} {h g : Heap}
theorem tri_lt {a b : Addr} {x y : Key} {E : Value → Shared → Prop} {s : Shared} {Q : Value → Shared → Prop} (hu : A.in1.units < cLine) (ha : Tri s.heap a x) (hb : Tri s.heap b y)
    (q : ∀ tk, Q (.bool (decide (ltK x y))) { s with toks := tk }) : wpAny (model prog w) A (richCompare .Lt (.ref a) (.ref b)) Q E s := by
  obtain ⟨x0, x1, x2⟩ := x
  obtain ⟨y0, y1, y2⟩ := y
  obtain ⟨t0, t1, t2, ea⟩ := ha.is
  obtain ⟨u0, u1, u2, eb⟩ := hb.is
  have Ta : s.TypeIs (.ref a) "tuple" := ⟨_, ea, rfl⟩
  have Tb : s.TypeIs (.ref b) "tuple" := ⟨_, eb, rfl⟩
  refine wpAny_richCompare_same_room Ta Tb F.slot_tuple_lt (wpAny_call_entry F.slot_tuple_lt Ta F.entry_tuple_lt ?_ (F.args_tuple_lt_2 _ _)) (by have : A.units + 1 < cLine := hu; omega)
  show wpAny _ _ (isInstance (.ref b) (.type "tuple") >>= _) _ _ s
  refine wpAny_bind (wpAny_isInstance Tb isSubtype_tuple_tuple ?_)
  simp only [Bool.not_true, Bool.false_eq_true, if_false]
  refine wpAny_bind (wpAny_tupleItemsOf ea rfl ?_)
  refine wpAny_bind (wpAny_tupleItemsOf eb rfl ?_)
  have zip : (List.zip ([Value.int x0 t0, .int x1 t1, .int x2 t2].toArray).toList ([Value.int y0 u0, .int y1 u1, .int y2 u2].toArray).toList) = [(.int x0 t0, .int y0 u0), (.int x1 t1, .int y1 u1), (.int x2 t2, .int y2 u2)] := rfl
  rw [zip]
  have eqI : ∀ {x y : Int} {t u : Tok} {Q : Bool → Shared → Prop} {s : Shared}, Q (decide (x = y)) s → wpAny (model prog w) A.in1 (eqBool (.int x t) (.int y u)) Q E s := fun {x y t u Q s} h => (intKind prog w).eqBool (intKind_is _ _ _ _) (intKind_is _ _ _ _) h
  have ltI : ∀ {x y : Int} {t u : Tok} {Q : Value → Shared → Prop} {s : Shared}, Q (.bool (decide (x < y))) s → wpAny (model prog w) A.in1 (richCompare .Lt (.int x t) (.int y u)) Q E s := fun h => PySem.P.lt_int h
  have fin : ∀ (p : Bool), p = decide (ltK (x0, x1, x2) (y0, y1, y2)) → ∃ v, (Fin.done (.ret (.bool p))) = .done (.ret v) ∧ v ≠ .notImplemented ∧ Q v s := fun p e => ⟨_, rfl, (fun x => by cases x), by have := q s.toks; rw [e]; exact this⟩
  refine wpAny_bind ?_
  rw [List.forIn_cons]
  refine wpAny_bind (wpAny_bind (eqI ?_))
  by_cases e0 : x0 = y0
  · rw [decide_eq_true e0]
    simp only [Bool.not_true, Bool.false_eq_true, if_false]
    refine wpAny_pure ?_
    dsimp only
    rw [List.forIn_cons]
    refine wpAny_bind (wpAny_bind (eqI ?_))
    by_cases e1 : x1 = y1
    · rw [decide_eq_true e1]
      simp only [Bool.not_true, Bool.false_eq_true, if_false]
      refine wpAny_pure ?_
      dsimp only
      rw [List.forIn_cons]
      refine wpAny_bind (wpAny_bind (eqI ?_))
      by_cases e2 : x2 = y2
      · rw [decide_eq_true e2]
        simp only [Bool.not_true, Bool.false_eq_true, if_false]
        refine wpAny_pure ?_
        dsimp only
        rw [List.forIn_nil]
        refine wpAny_pure (wpAny_pure (fin _ ?_))
        show (Nat.blt 3 3 : Bool) = _
        symm; rw [decide_eq_false (by unfold ltK; simp; omega)]; rfl
      · rw [decide_eq_false e2]
        simp only [Bool.not_false, if_true]
        refine wpAny_bind (wpAny_rule (wpAny_bind (ltI (wpAny_bind (wpAny_pure (wpAny_pure (wpAny_pure (wpAny_pure (fin _ ?_)))))))))
        rw [decide_eq_decide]; unfold ltK; simp; omega
    · rw [decide_eq_false e1]
      simp only [Bool.not_false, if_true]
      refine wpAny_bind (wpAny_rule (wpAny_bind (ltI (wpAny_bind (wpAny_pure (wpAny_pure (wpAny_pure (wpAny_pure (fin _ ?_)))))))))
      rw [decide_eq_decide]; unfold ltK; simp; omega
  · rw [decide_eq_false e0]
    simp only [Bool.not_false, if_true]
    refine wpAny_bind (wpAny_rule (wpAny_bind (ltI (wpAny_bind (wpAny_pure (wpAny_pure (wpAny_pure (wpAny_pure (fin _ ?_)))))))))
    rw [decide_eq_decide]; unfold ltK; simp; omega
end
end Mine
namespace Mine
open PySem
/-! the heap's law, in plain terms -/
def HeapN (n : Nat) (f : Nat → Key) : Prop := ∀ i, 0 < i → i < n → leK (f ((i - 1) / 2)) (f i)
structure UpN (n : Nat) (f : Nat → Key) (pos : Nat) : Prop where
  a : ∀ i, 0 < i → i < n → i ≠ pos → leK (f ((i - 1) / 2)) (f i)
  b : ∀ i, 0 < i → i < n → (i - 1) / 2 = pos → 0 < pos → leK (f ((pos - 1) / 2)) (f i)
structure DownN (n : Nat) (f : Nat → Key) (pos : Nat) : Prop where
  a : ∀ i, 0 < i → i < n → i ≠ pos → (i - 1) / 2 ≠ pos → leK (f ((i - 1) / 2)) (f i)
  b : ∀ i, 0 < i → i < n → (i - 1) / 2 = pos → 0 < pos → leK (f ((pos - 1) / 2)) (f i)
def swapF (f : Nat → Key) (i j : Nat) : Nat → Key := fun k => if k = j then f i else if k = i then f j else f k
theorem up_done {n f pos} (h : UpN n f pos) (e : pos = 0 ∨ ¬ ltK (f pos) (f ((pos - 1) / 2))) : HeapN n f := fun i h0 h1 => by
  by_cases hp : i = pos
  · subst hp
    rcases e with e | e
    · omega
    · exact e
  · exact h.a i h0 h1 hp
theorem up_step {n f pos} (h : UpN n f pos) (h0 : 0 < pos) (hn : pos < n) (hl : ltK (f pos) (f ((pos - 1) / 2))) : UpN n (swapF f ((pos - 1) / 2) pos) ((pos - 1) / 2) := by
  have hpp : (pos - 1) / 2 ≠ pos := by omega
  refine ⟨fun i i0 i1 hi => ?_, fun i i0 i1 hi hp => ?_⟩
  · unfold swapF
    by_cases e : i = pos
    · subst e
      rw [if_pos rfl, if_neg hpp, if_pos rfl]
      exact leK_of_lt hl
    · rw [if_neg e, if_neg hi]
      by_cases e2 : (i - 1) / 2 = pos
      · rw [if_pos e2]
        exact h.b i i0 i1 e2 h0
      · rw [if_neg e2]
        by_cases e3 : (i - 1) / 2 = (pos - 1) / 2
        · rw [if_pos e3]
          have := h.a i i0 i1 e
          rw [e3] at this
          exact leK_trans (leK_of_lt hl) this
        · rw [if_neg e3]
          exact h.a i i0 i1 e
  · unfold swapF
    have hpar : leK (f (((pos - 1) / 2 - 1) / 2)) (f ((pos - 1) / 2)) := h.a _ hp (by omega) hpp
    have n1 : ((pos - 1) / 2 - 1) / 2 ≠ pos := by omega
    have n2 : ((pos - 1) / 2 - 1) / 2 ≠ (pos - 1) / 2 := by omega
    rw [if_neg n1, if_neg n2]
    by_cases e : i = pos
    · subst e; rw [if_pos rfl]; exact hpar
    · have n3 : i ≠ (pos - 1) / 2 := by omega
      rw [if_neg e, if_neg n3]
      have := h.a i i0 i1 e
      rw [hi] at this
      exact leK_trans hpar this
theorem down_leaf {n f pos} (h : DownN n f pos) (hp : ¬ pos < n / 2) : UpN n f pos := by
  refine ⟨fun i i0 i1 hi => ?_, fun i i0 i1 hi hp' => h.b i i0 i1 hi hp'⟩
  exact h.a i i0 i1 hi (by omega)
theorem down_step {n f pos c} (h : DownN n f pos) (hc : c = 2 * pos + 1 ∨ c = 2 * pos + 2) (hcn : c < n) (hmin : ∀ i, 0 < i → i < n → (i - 1) / 2 = pos → leK (f c) (f i)) : DownN n (swapF f c pos) c := by
  have hcp : (c - 1) / 2 = pos := by omega
  have hc0 : 0 < c := by omega
  have hne : c ≠ pos := by omega
  refine ⟨fun i i0 i1 hi hpi => ?_, fun i i0 i1 hi hp => ?_⟩
  · unfold swapF
    by_cases e : i = pos
    · subst e
      have n1 : (i - 1) / 2 ≠ i := by omega
      rw [if_neg n1, if_neg hpi, if_pos rfl]
      exact h.b c hc0 hcn hcp i0
    · rw [if_neg e, if_neg hi]
      by_cases e2 : (i - 1) / 2 = pos
      · rw [if_pos e2]; exact hmin i i0 i1 e2
      · rw [if_neg e2, if_neg hpi]; exact h.a i i0 i1 e e2
  · unfold swapF
    have n1 : i ≠ pos := by omega
    have n2 : i ≠ c := by omega
    rw [hcp, if_pos rfl, if_neg n1, if_neg n2]
    have := h.a i i0 i1 n1 (by omega)
    rw [hi] at this
    exact this
theorem heap_min {n f} (h : HeapN n f) : ∀ i, i < n → leK (f 0) (f i) := fun i => by
  induction i using Nat.strongRecOn with
  | _ i ih =>
    intro hi
    by_cases e : i = 0
    · subst e; exact leK_refl _
    · exact leK_trans (ih ((i - 1) / 2) (by omega) (by omega)) (h i (by omega) hi)
theorem UpN.ext {n f g pos} (h : UpN n f pos) (e : ∀ i, i < n → g i = f i) (hp : pos < n) : UpN n g pos :=
  ⟨fun i a b c => by rw [e _ (by omega), e _ b]; exact h.a i a b c, fun i a b c d => by rw [e _ (by omega), e _ b]; exact h.b i a b c d⟩
theorem DownN.ext {n f g pos} (h : DownN n f pos) (e : ∀ i, i < n → g i = f i) (hp : pos < n) : DownN n g pos :=
  ⟨fun i a b c d => by rw [e _ (by omega), e _ b]; exact h.a i a b c d, fun i a b c d => by rw [e _ (by omega), e _ b]; exact h.b i a b c d⟩

abbrev Ent := Addr × Key
def keyAt (l : List Ent) (i : Nat) : Key := (l.getD i (0, 0, 0, 0)).2
def HeapL (l : List Ent) : Prop := HeapN l.length (keyAt l)
def swapL (l : List Ent) (i j : Nat) : List Ent := (l.set i (l.getD j (0, 0, 0, 0))).set j (l.getD i (0, 0, 0, 0))
theorem swapL_length (l : List Ent) (i j : Nat) : (swapL l i j).length = l.length := by simp [swapL]
theorem swapL_key {l : List Ent} {i j : Nat} (hi : i < l.length) (hj : j < l.length) : ∀ k, k < l.length → keyAt (swapL l i j) k = swapF (keyAt l) i j k := fun k hk => by
  unfold keyAt swapL swapF
  rw [List.getD_eq_getElem?_getD, List.getElem?_set]
  by_cases e : j = k
  · subst e; simp [hj, List.getD_eq_getElem?_getD]
  · have e' : ¬ k = j := fun x => e x.symm
    rw [if_neg e, List.getElem?_set, if_neg e']
    by_cases e2 : i = k
    · subst e2; simp [hi, List.getD_eq_getElem?_getD]
    · have e2' : ¬ k = i := fun x => e2 x.symm
      rw [if_neg e2, if_neg e2']; simp [List.getD_eq_getElem?_getD]
theorem swapL_perm {l : List Ent} {i j : Nat} (hi : i < l.length) (hj : j < l.length) : (swapL l i j).Perm l := by
  unfold swapL
  have e1 : l.getD j (0, 0, 0, 0) = l[j] := by simp [List.getD_eq_getElem?_getD, hj]
  have e2 : l.getD i (0, 0, 0, 0) = l[i] := by simp [List.getD_eq_getElem?_getD, hi]
  rw [e1, e2]
  exact List.set_set_perm hi hj
end Mine
namespace Mine
open PySem PySem.Spec PySem.Calls PyProof.Rows PySem.W

theorem entry_sift : entryFor table "_heapq.heapify.sift" = some Builtin.«_heapq.heapify.sift» := entryFor_of_tree (by kernel_rfl)
theorem entry_heappush : entryFor table "_heapq.heappush" = some Builtin.«_heapq.heappush» := entryFor_of_tree (by kernel_rfl)
theorem entry_heappop : entryFor table "_heapq.heappop" = some Builtin.«_heapq.heappop» := entryFor_of_tree (by kernel_rfl)

abbrev refsOf (l : List Ent) : List Value := l.map fun p => .ref p.1
/-- the heap's list at a -/
structure HL (h : Heap) (a : Addr) (l : List Ent) : Prop where
  obj : ∃ n, h.get? a = some (lstO (refsOf l) n)
  keys : ∀ p ∈ l, Tri h p.1 p.2
section
variable {prog : Program} {w : World} {A : Around} {s₀ : Shared} {h : Heap} {a : Addr} {l : List Ent}
theorem HL.size (x : HL h a l) : (refsOf l).toArray.size = l.length := by simp
def siftArgs (a : Addr) (down : Bool) (pos : Nat) (result : Value) : Args := ⟨[.ref a, .bool false, .bool down, rawInt pos, rawInt 0, result, rawInt (-1)], []⟩
section
variable {M : Model} {E : Value → Shared → Prop} {s : Shared}
theorem hq_at {xs : Array Value} {i : Nat} {v : Value} {Q : Value → Shared → Prop} (e : xs[i]? = some v) (q : Q v s) : wpAny M A (match xs[i]? with
  | some v => pure v
  | none => unsupported "internal:_heapq.index") Q E s := by rw [e]; exact wpAny_pure q
theorem hq_items {xs : Array Value} {n : Nat} {Q : Array Value → Shared → Prop} (ho : s.heap.get? a = some { cls := .type "list", data := .seq xs n }) (q : Q xs s) : wpAny M A (do
  let some xs ← seqItems? (.ref a) | unsupported "internal:_heapq"
  return xs) Q E s := wpAny_bind (wpAny_seqItems ho rfl (wpAny_pure q))
end
theorem mapSeq_lst (xs : Array Value) (n : Nat) (f : Array Value → Array Value) : ∃ n', Obj.mapSeq f { cls := .type "list", data := .seq xs n } = ({ cls := .type "list", data := .seq (f xs) n' } : Obj) := ⟨_, by simp only [Obj.mapSeq]; rfl⟩
theorem HL.at {i : Nat} (hi : i < l.length) : (refsOf l).toArray[i]? = some (.ref (l.getD i (0, 0, 0, 0)).1) := by
  simp [List.getD_eq_getElem?_getD, hi]
theorem HL.tri (x : HL h a l) {i : Nat} (hi : i < l.length) : Tri h (l.getD i (0, 0, 0, 0)).1 (keyAt l i) := by
  have e : l.getD i (0, 0, 0, 0) = l[i] := by simp [List.getD_eq_getElem?_getD, hi]
  unfold keyAt
  rw [e]; exact x.keys _ (List.getElem_mem hi)
theorem hq_less {E : Value → Shared → Prop} {s : Shared} {size : Nat} {x y : Addr} {kx ky : Key} {Q : Bool → Shared → Prop} (hu : A.in1.units < cLine) (X : HL s.heap a l) (hs : l.length = size) (hx : Tri s.heap x kx) (hy : Tri s.heap y ky)
    (q : ∀ tk, Q (decide (ltK kx ky)) { s with toks := tk }) : wpAny (model prog w) A (do
      let less ← holding [.ref x, .ref y] (do truthOfDropped (← richCompare .Lt (.ref x) (.ref y)))
      let xs ← (do
        let some xs ← seqItems? (.ref a) | unsupported "internal:_heapq"
        return xs)
      if xs.size != size then rule "_heapq.size-changed"; raiseError "RuntimeError" "list changed size during iteration"
      return less) Q E s := by
  obtain ⟨n, ho⟩ := X.obj
  refine wpAny_bind (wpAny_holding (wpAny_bind (tri_lt hu hx hy fun tk => ?_)))
  show wpAny _ _ (truthy (.bool _)) _ _ _
  refine wpAny_truthy_bool ?_
  refine wpAny_bind (hq_items (n := n) ho ?_)
  rw [if_neg (by simp [hs])]
  exact wpAny_bind (wpAny_pure (wpAny_pure (q _)))
theorem hq_swap {M : Model} {E : Value → Shared → Prop} {s : Shared} {i j : Nat} {Q : Unit → Shared → Prop} (X : HL s.heap a l) (hi : i < l.length) (hj : j < l.length) (hz : l.length ≤ 1000)
    (q : ∀ h', Heap.SameBut a s.heap h' → HL h' a (swapL l i j) → Q () { s with heap := h' }) : wpAny M A (do
      let xs ← (do
        let some xs ← seqItems? (.ref a) | unsupported "internal:_heapq"
        return xs)
      let x ← (match xs[i]? with
        | some v => pure v
        | none => unsupported "internal:_heapq.index")
      let y ← (match xs[j]? with
        | some v => pure v
        | none => unsupported "internal:_heapq.index")
      updateSeq a fun xs => (xs.setIfInBounds i y).setIfInBounds j x) Q E s := by
  obtain ⟨n, ho⟩ := X.obj
  refine wpAny_bind (hq_items (n := n) ho (wpAny_bind (hq_at (HL.at hi) (wpAny_bind (hq_at (HL.at hj) ?_)))))
  have e : ((refsOf l).toArray.setIfInBounds i (.ref (l.getD j (0, 0, 0, 0)).1)).setIfInBounds j (.ref (l.getD i (0, 0, 0, 0)).1) = (refsOf (swapL l i j)).toArray := by
    simp [refsOf, swapL, List.map_set]
  refine wpAny_updateSeq ho rfl (q _ (Heap.SameBut.update ..) ⟨?_, fun p hp => ?_⟩) (by simp [sizeLine_eq]; omega) (by simp [sizeLine_eq]; omega)
  · obtain ⟨n', e'⟩ := mapSeq_lst (refsOf l).toArray n fun xs => (xs.setIfInBounds i (.ref (l.getD j (0, 0, 0, 0)).1)).setIfInBounds j (.ref (l.getD i (0, 0, 0, 0)).1)
    exact ⟨n', by rw [Heap.get?_update_self _ ho rfl, e', e]⟩
  · obtain ⟨t, u, v, ht⟩ := (X.keys p ((swapL_perm hi hj).subset hp)).is
    refine ⟨t, u, v, ((Heap.SameBut.update ..).2 p.1 ?_).trans ht⟩
    rintro rfl; rw [ho] at ht
    have := congrArg (Option.map fun o : Obj => o.cls) ht
    simp at this
theorem quiet_sift (args : Args) : (Code.builtin "_heapq.heapify.sift" args).quiet = true := Code.quiet_builtin _ (by decide +kernel)

theorem sift_up {result : Value} {Q : Value → Heap → Prop} (hu : A.in1.in1.units < cLine) : ∀ (pos : Nat) (l : List Ent) (h : Heap), HL h a l → l.length ≤ 1000 → pos < l.length → UpN l.length (keyAt l) pos →
    (∀ l' h', Heap.SameBut a h h' → HL h' a l' → l'.Perm l → HeapL l' → Q result h') → WC (model prog w) A s₀ (.builtin "_heapq.heapify.sift" (siftArgs a false pos result)) Q h := by
  intro pos
  induction pos using Nat.strongRecOn with
  | _ pos ih =>
    intro l h X hz hp U q
    refine ⟨fun tk => codeAny_builtin entry_sift ?_⟩
    obtain ⟨n, ho⟩ := X.obj
    unfold Builtin.«_heapq.heapify.sift»
    show wpAny _ _ (seqItems? (.ref a) >>= _ >>= _) _ _ _
    refine wpAny_bind (wpAny_bind (wpAny_seqItems ho rfl ?_))
    rw [Around.under_plainId (by decide +kernel)]
    refine wpAny_pure ?_
    simp only [Bool.false_eq_true, if_false, Int.toNat_natCast, Int.toNat_zero, List.size_toArray, List.length_map]
    by_cases h0 : pos = 0
    · subst h0
      rw [if_neg (by decide), if_pos (by decide)]
      refine wpAny_pure ⟨_, _, _, rfl, rfl, q l h (Heap.SameBut.refl ..) X (.refl _) (up_done U (.inl rfl))⟩
    · have hpos : 0 < pos := Nat.pos_of_ne_zero h0
      have hpar : (pos - 1) / 2 < l.length := by omega
      rw [if_pos hpos]
      refine wpAny_bind (hq_at (HL.at hp) (wpAny_bind (hq_at (HL.at hpar) (wpAny_bind (hq_less (A := A.in1) hu X rfl (X.tri hp) (X.tri hpar) fun tk' => ?_)))))
      by_cases hl : ltK (keyAt l pos) (keyAt l ((pos - 1) / 2))
      · rw [if_pos (by simpa using hl)]
        refine wpAny_bind (hq_swap X hpar hp hz fun h' hs X' => ?_)
        have U' := (up_step U hpos hp hl).ext (g := keyAt (swapL l ((pos - 1) / 2) pos)) (fun i hi => swapL_key hpar hp i hi) hpar
        rw [← swapL_length l ((pos - 1) / 2) pos] at U'
        exact wpAny_pure ⟨quiet_sift _, (ih ((pos - 1) / 2) (by omega) (swapL l ((pos - 1) / 2) pos) h' X' (by rw [swapL_length]; exact hz) (by rw [swapL_length]; exact hpar) U'
          (fun l' h'' hs' X'' p hh => q l' h'' (hs.trans hs') X'' (p.trans (swapL_perm hpar hp)) hh)).run _⟩
      · rw [if_neg (by simpa using hl), if_pos (by decide)]
        exact wpAny_pure ⟨_, _, _, rfl, rfl, q l h (Heap.SameBut.refl ..) X (.refl _) (up_done U (.inr hl))⟩
theorem sift_down {result : Value} {Q : Value → Heap → Prop} (hu : A.in1.in1.units < cLine) : ∀ (m : Nat) (pos : Nat) (l : List Ent) (h : Heap), m = l.length - pos → HL h a l → l.length ≤ 1000 → pos < l.length → DownN l.length (keyAt l) pos →
    (∀ l' h', Heap.SameBut a h h' → HL h' a l' → l'.Perm l → HeapL l' → Q result h') → WC (model prog w) A s₀ (.builtin "_heapq.heapify.sift" (siftArgs a true pos result)) Q h := by
  intro m
  induction m using Nat.strongRecOn with
  | _ m ih =>
    intro pos l h hm X hz hp U q
    refine ⟨fun tk => codeAny_builtin entry_sift ?_⟩
    obtain ⟨n, ho⟩ := X.obj
    unfold Builtin.«_heapq.heapify.sift»
    show wpAny _ _ (seqItems? (.ref a) >>= _ >>= _) _ _ _
    refine wpAny_bind (wpAny_bind (wpAny_seqItems ho rfl ?_))
    rw [Around.under_plainId (by decide +kernel)]
    refine wpAny_pure ?_
    simp only [if_true, Int.toNat_natCast, Int.toNat_zero, List.size_toArray, List.length_map]
    by_cases hh : pos < l.length / 2
    · rw [if_pos hh]
      have hl : 2 * pos + 1 < l.length := by omega
      have go : ∀ c, (c = 2 * pos + 1 ∨ c = 2 * pos + 2) → c < l.length → (∀ i, 0 < i → i < l.length → (i - 1) / 2 = pos → leK (keyAt l c) (keyAt l i)) → ∀ h' : Heap, Heap.SameBut a h h' → HL h' a (swapL l c pos) →
          WC (model prog w) A s₀ (.builtin "_heapq.heapify.sift" (siftArgs a true c result)) Q h' := fun c hc hcn hmin h' hs X' => by
        have U' := (down_step U hc hcn hmin).ext (g := keyAt (swapL l c pos)) (fun i hi => swapL_key hcn hp i hi) hcn
        rw [← swapL_length l c pos] at U'
        exact ih (l.length - c) (by omega) c (swapL l c pos) h' (by rw [swapL_length]) X' (by rw [swapL_length]; exact hz) (by rw [swapL_length]; exact hcn) U'
          fun l' h'' hs' X'' p hh => q l' h'' (hs.trans hs') X'' (p.trans (swapL_perm hcn hp)) hh
      by_cases hr : 2 * pos + 1 + 1 < l.length
      · rw [if_pos hr]
        refine wpAny_bind (hq_at (HL.at hl) (wpAny_bind (hq_at (HL.at hr) (wpAny_bind (hq_less (A := A.in1) hu X rfl (X.tri hl) (X.tri hr) fun tk' => ?_)))))
        by_cases hlt : ltK (keyAt l (2 * pos + 1)) (keyAt l (2 * pos + 1 + 1))
        · rw [if_neg (by rw [decide_eq_true hlt]; decide)]
          refine wpAny_bind (hq_swap X hl hp hz fun h' hs X' => ?_)
          refine wpAny_pure ⟨quiet_sift _, (go _ (.inl rfl) hl (fun i i0 i1 hi => ?_) h' hs X').run _⟩
          have : i = 2 * pos + 1 ∨ i = 2 * pos + 1 + 1 := by omega
          rcases this with rfl | rfl
          · exact leK_refl _
          · exact leK_of_lt hlt
        · rw [if_pos (by rw [decide_eq_false hlt]; decide)]
          refine wpAny_bind (hq_swap X hr hp hz fun h' hs X' => ?_)
          refine wpAny_pure ⟨quiet_sift _, (go _ (.inr rfl) hr (fun i i0 i1 hi => ?_) h' hs X').run _⟩
          have : i = 2 * pos + 1 ∨ i = 2 * pos + 1 + 1 := by omega
          rcases this with rfl | rfl
          · exact hlt
          · exact leK_refl _
      · rw [if_neg hr]
        refine wpAny_bind (hq_swap X hl hp hz fun h' hs X' => ?_)
        refine wpAny_pure ⟨quiet_sift _, (go _ (.inl rfl) hl (fun i i0 i1 hi => ?_) h' hs X').run _⟩
        have : i = 2 * pos + 1 := by omega
        subst this
        exact leK_refl _
    · rw [if_neg hh]
      exact wpAny_pure ⟨quiet_sift _, (sift_up hu pos l h X hz hp (down_leaf U hh) q).run _⟩

theorem kind_push : builtinKind "_heapq.heappush" = none := by decide +kernel
theorem args_push (a b : Value) : argsOk "_heapq.heappush" ⟨[a, b], []⟩ := by
  unfold argsOk
  kernel_rfl
theorem kind_pop : builtinKind "_heapq.heappop" = none := by decide +kernel
theorem args_pop (a : Value) : argsOk "_heapq.heappop" ⟨[a], []⟩ := by
  unfold argsOk
  kernel_rfl
/-- a call of a function of the machine's, whose tree may go on as other code -/
theorem W_again {id : String} {b : Builtin} {args : List Value} {Q : Value → Heap → Prop} (hk : builtinKind id = none) (hp : plainId id = true) (hb : entryFor table id = some b) (ha : argsOk id ⟨args, []⟩)
    (y : ∀ tk, wpAny (model prog w) A.in1 (b ⟨args, []⟩) (fun fin s' => match fin with
      | .done f => ∃ v h' tk', (Except.ok f : Result) = .ok (.ret v) ∧ s' = { s₀ with heap := h', toks := tk' } ∧ Q v h'
      | .again c' => c'.quiet = true ∧ codeAny (model prog w) A c' (fun r s' => ∃ v h' tk', r = .ok (.ret v) ∧ s' = { s₀ with heap := h', toks := tk' } ∧ Q v h') s') (fun _ _ => False) { s₀ with heap := h, toks := tk }) :
    W (model prog w) A s₀ (call (.builtin id) args) Q h := by
  refine W_call ⟨fun tk => codeAny_call_builtin hp hb ?_⟩
  have hfin := wpAny_mono (E' := fun e s' => ∃ v h' tk', (Except.error e : Result) = .ok (.ret v) ∧ s' = { s₀ with heap := h', toks := tk' } ∧ Q v h') (y tk) (fun fin s' h' => h') (fun _ _ e => e.elim)
  simp only [checkBuiltinCall, hk]
  cases hsig : Manifest.signature? id with
  | none => exact wpAny_pure hfin
  | some sig =>
    simp only [argsOk, hsig] at ha
    have h2 : Bind.checkArgs id sig ⟨args, []⟩ = pure () := ha
    show wpAny _ A.in1 (Bind.checkArgs id sig ⟨args, []⟩) _ _ _
    rw [h2]; exact wpAny_pure hfin
theorem HL.isList (X : HL h a l) : ∃ o, h.get? a = some o ∧ o.cls = .type "list" := let ⟨n, ho⟩ := X.obj; ⟨_, ho, rfl⟩
theorem W_heappush {x : Addr} {k : Key} {Q : Value → Heap → Prop} (hu : A.in1.in1.units < cLine) (X : HL h a l) (hx : Tri h x k) (hz : l.length ≤ 999) (H : HeapL l)
    (q : ∀ l' h', Heap.SameBut a h h' → HL h' a l' → l'.Perm (l ++ [(x, k)]) → HeapL l' → Q .none h') : W (model prog w) A s₀ (call (.builtin "_heapq.heappush") [.ref a, .ref x]) Q h := by
  refine W_again kind_push (by decide +kernel) entry_heappush (args_push _ _) fun tk => ?_
  obtain ⟨n, ho⟩ := X.obj
  unfold Builtin.«_heapq.heappush»
  have hax : a ≠ x := by
    rintro rfl
    obtain ⟨t, u, v, e⟩ := hx.is
    rw [ho] at e
    have := congrArg (Option.map fun o : Obj => o.cls) e
    simp at this
  refine wpAny_bind ?_
  refine wpAny_bind (m := noKeywords _ _) (wpAny_of_eq (a := ()) rfl ?_)
  refine wpAny_bind (m := checkCount _ _ _ _) (wpAny_of_eq (a := ()) rfl ?_)
  show wpAny _ _ ((isInstance (.ref a) (.type "list") >>= _) >>= _) _ _ _
  refine wpAny_bind (wpAny_bind (wpAny_isInstance (T := "list") (b := true) ⟨_, ho, rfl⟩ (by first | exact isSubtype_list_list | rfl) ?_))
  refine wpAny_pure ?_
  refine wpAny_pure ?_
  dsimp only
  have sz : (refsOf l).toArray.size ≤ sizeLine := by rw [sizeLine_eq]; simp; omega
  refine wpAny_bind (wpAny_updateSeq ho rfl ?_ sz (by rw [sizeLine_eq]; simp; omega))
  obtain ⟨n', e'⟩ := mapSeq_lst (refsOf l).toArray n (fun xs => xs.push (.ref x))
  have e2 : (refsOf l).toArray.push (.ref x) = (refsOf (l ++ [(x, k)])).toArray := by simp
  have hs : Heap.SameBut a h (h.update a (Obj.mapSeq fun xs => xs.push (.ref x))) := Heap.SameBut.update ..
  have X' : HL (h.update a (Obj.mapSeq fun xs => xs.push (.ref x))) a (l ++ [(x, k)]) := by
    refine ⟨⟨n', by rw [Heap.get?_update_self _ ho rfl, e', e2]⟩, fun p hp => ?_⟩
    have : Tri h p.1 p.2 := by
      rcases List.mem_append.mp hp with hp | hp
      · exact X.keys p hp
      · rw [List.mem_singleton.mp hp]; exact hx
    obtain ⟨t, u, v, e⟩ := this.is
    refine ⟨t, u, v, (hs.2 p.1 ?_).trans e⟩
    rintro e3; rw [e3, ho] at e
    have := congrArg (Option.map fun o : Obj => o.cls) e
    simp at this
  obtain ⟨m, hm⟩ := X'.obj
  refine wpAny_bind (hq_items (n := m) hm ?_)
  have e3 : (refsOf (l ++ [(x, k)])).toArray.size - 1 = l.length := by simp
  rw [e3]
  have U : UpN (l ++ [(x, k)]).length (keyAt (l ++ [(x, k)])) l.length := by
    have old : ∀ i, i < l.length → keyAt (l ++ [(x, k)]) i = keyAt l i := fun i hi => by
      unfold keyAt; rw [List.getD_eq_getElem?_getD, List.getElem?_append_left hi, ← List.getD_eq_getElem?_getD]
    refine ⟨fun i i0 i1 hi => ?_, fun i i0 i1 hi hp => ?_⟩
    · simp at i1
      have hi' : i < l.length := by omega
      rw [old _ (by omega), old _ hi']
      exact H i i0 hi'
    · simp at i1; omega
  exact wpAny_pure ⟨quiet_sift _, (sift_up hu l.length _ _ X' (by simp; omega) (by simp) U fun l' h' hs' X'' p hh => q l' h' (hs.trans hs') X'' p hh).run _⟩
theorem W_heappop {Q : Value → Heap → Prop} (hu : A.in1.in1.units < cLine) (X : HL h a l) (hz : l.length ≤ 999) (H : HeapL l) (hne : l ≠ [])
    (q : ∀ x k l' h', Heap.SameBut a h h' → HL h' a l' → l.Perm ((x, k) :: l') → HeapL l' → (∀ p ∈ l, leK k p.2) → Tri h x k → Q (.ref x) h') : W (model prog w) A s₀ (call (.builtin "_heapq.heappop") [.ref a]) Q h := by
  refine W_again kind_pop (by decide +kernel) entry_heappop (args_pop _) fun tk => ?_
  obtain ⟨n, ho⟩ := X.obj
  unfold Builtin.«_heapq.heappop»
  refine wpAny_bind ?_
  refine wpAny_bind ?_
  refine wpAny_bind (m := noKeywords _ _) (wpAny_of_eq (a := ()) rfl ?_)
  refine wpAny_pure ?_
  show wpAny _ _ ((isInstance (.ref a) (.type "list") >>= _) >>= _) _ _ _
  refine wpAny_bind (wpAny_bind (wpAny_isInstance (T := "list") (b := true) ⟨_, ho, rfl⟩ (by first | exact isSubtype_list_list | rfl) ?_))
  refine wpAny_pure ?_
  refine wpAny_pure ?_
  dsimp only
  refine wpAny_bind (hq_items (n := n) ho ?_)
  obtain ⟨ini, last, rfl⟩ : ∃ ini last, l = ini ++ [last] := ⟨l.dropLast, l.getLast hne, (List.dropLast_concat_getLast hne).symm⟩
  have eb : (refsOf (ini ++ [last])).toArray.back? = some (.ref last.1) := by simp
  rw [eb]
  dsimp only
  have notA : ∀ {h : Heap} {o : Obj} {y : Addr} {k : Key}, h.get? a = some o → o.cls = .type "list" → Tri h y k → y ≠ a := fun {h o y k} ho hc ht e => by
    subst e
    obtain ⟨t, u, v, e⟩ := ht.is
    rw [ho] at e
    have := congrArg (Option.map fun o : Obj => o.cls) e
    simp [hc] at this
  have keep : ∀ {h h' : Heap} {o : Obj}, h.get? a = some o → o.cls = .type "list" → Heap.SameBut a h h' → ∀ {y : Addr} {k : Key}, Tri h y k → Tri h' y k := fun {h h' o} ho hc hs {y k} ht => by
    have hne := notA ho hc ht
    obtain ⟨t, u, v, e⟩ := ht.is
    exact ⟨t, u, v, (hs.2 y hne).trans e⟩
  have sz : (refsOf (ini ++ [last])).toArray.size ≤ sizeLine := by rw [sizeLine_eq]; simp at hz ⊢; omega
  refine wpAny_bind (wpAny_updateSeq ho rfl ?_ sz (by rw [sizeLine_eq]; simp at hz ⊢; omega))
  obtain ⟨n', e'⟩ := mapSeq_lst (refsOf (ini ++ [last])).toArray n (fun xs => xs.pop)
  have e2 : (refsOf (ini ++ [last])).toArray.pop = (refsOf ini).toArray := by simp
  have hs : Heap.SameBut a h (h.update a (Obj.mapSeq fun xs => xs.pop)) := Heap.SameBut.update ..
  generalize hh1 : h.update a (Obj.mapSeq fun xs => xs.pop) = h1 at hs ⊢
  have ho1 : h1.get? a = some (lstO (refsOf ini) n') := by rw [← hh1, Heap.get?_update_self _ ho rfl, e', e2]
  have K1 : ∀ p ∈ ini ++ [last], Tri h1 p.1 p.2 := fun p hp => keep ho rfl hs (X.keys p hp)
  have hmin := heap_min H
  have top : ∀ p ∈ ini ++ [last], leK (keyAt (ini ++ [last]) 0) p.2 := fun p hp => by
    obtain ⟨i, hi, rfl⟩ := List.getElem_of_mem hp
    have := hmin i hi
    have e : keyAt (ini ++ [last]) i = (ini ++ [last])[i].2 := by unfold keyAt; rw [List.getD_eq_getElem?_getD, List.getElem?_eq_getElem hi]; rfl
    rw [e] at this; exact this
  cases ini with
  | nil =>
    rw [if_pos (by simp)]
    refine wpAny_pure ⟨_, _, _, rfl, rfl, q last.1 last.2 [] h1 hs ⟨⟨n', ho1⟩, fun p hp => nomatch hp⟩ (.refl _) (fun i _ hi => by simp at hi) (fun p hp => by rw [List.mem_singleton.mp (show p ∈ [last] by simpa using hp)]; exact leK_refl _) (X.keys last (by simp))⟩
  | cons first rest =>
    rw [if_neg (by simp)]
    refine wpAny_bind (hq_at (xs := (refsOf (first :: rest ++ [last])).toArray) (i := 0) (v := .ref first.1) (by rfl) ?_)
    refine wpAny_bind (wpAny_updateSeq ho1 rfl ?_ (by rw [sizeLine_eq]; simp at hz ⊢; omega) (by rw [sizeLine_eq]; simp at hz ⊢; omega))
    obtain ⟨n2, e3⟩ := mapSeq_lst (refsOf (first :: rest)).toArray n' (fun xs => xs.setIfInBounds 0 (.ref last.1))
    have e4 : (refsOf (first :: rest)).toArray.setIfInBounds 0 (.ref last.1) = (refsOf (last :: rest)).toArray := by simp
    have hs2 : Heap.SameBut a h1 (h1.update a (Obj.mapSeq fun xs => xs.setIfInBounds 0 (.ref last.1))) := Heap.SameBut.update ..
    generalize hh2 : h1.update a (Obj.mapSeq fun xs => xs.setIfInBounds 0 (.ref last.1)) = h2 at hs2 ⊢
    have ho2 : h2.get? a = some (lstO (refsOf (last :: rest)) n2) := by rw [← hh2, Heap.get?_update_self _ ho1 rfl, e3, e4]
    have K2 : ∀ p ∈ (first :: rest) ++ [last], Tri h2 p.1 p.2 := fun p hp => keep ho1 rfl hs2 (K1 p hp)
    have X2 : HL h2 a (last :: rest) := ⟨⟨n2, ho2⟩, fun p hp => K2 p (by
      rcases List.mem_cons.mp hp with rfl | hp
      · simp
      · simp [hp])⟩
    have U : DownN (last :: rest).length (keyAt (last :: rest)) 0 := by
      have old : ∀ i, 0 < i → i < (last :: rest).length → keyAt (last :: rest) i = keyAt (first :: rest ++ [last]) i := fun i i0 hi => by
        obtain ⟨j, rfl⟩ : ∃ j, i = j + 1 := ⟨i - 1, by omega⟩
        unfold keyAt
        simp only [List.length_cons, Nat.add_lt_add_iff_right] at hi
        simp [List.getD_eq_getElem?_getD, List.getElem?_append_left hi]
      refine ⟨fun i i0 i1 hi hp => ?_, fun i i0 i1 hi hp => by omega⟩
      rw [old i i0 i1, old _ (by omega) (by omega)]
      exact H i i0 (by simp at i1 ⊢; omega)
    refine wpAny_pure ⟨quiet_sift _, (sift_down hu _ 0 _ _ rfl X2 (by simp at hz ⊢; omega) (by simp) U fun l' h' hs' X'' p hh => ?_).run _⟩
    have hs3 := (hs.trans hs2).trans hs'
    refine q first.1 first.2 l' h' hs3 X'' ?_ hh (fun p hp => ?_) (X.keys first (by simp))
    · have p1 : (first :: rest ++ [last]).Perm (first :: last :: rest) := by
        show (first :: (rest ++ [last])).Perm _
        exact List.Perm.cons _ (List.perm_append_comm (l₁ := rest) (l₂ := [last]))
      exact p1.trans (List.Perm.cons _ p.symm)
    · exact top p hp
end
end Mine
namespace Mine
open PySem PySem.Spec PySem.Calls PyProof.Rows PySem.W
def isTup (h : Heap) (a : Addr) (vs : List Value) : Prop := h.get? a = some (tupO vs)
section
variable {prog : Program} {w : World} {A : Around} {s₀ : Shared} {g h : Heap} {L : Addr} {ls : Loc} {own : List (Addr × Obj)}
theorem law_numbers {a l : Addr} {k : Nat} {vs : List Value} {ns : List Int} {t0 : Tok} {Q : Value → Heap → Prop} (G : FnIs g a (stm 34) .none) (R : Room A k) (hk : k ≤ 10) (S0 : Fm g L ls own h) (lim : g.NoLimit) (glen : Glo g "len" (.builtin "len"))
    (hl : g.IsList l vs.toArray) (hi : IntsAre vs ns) (hn : ns.length ≤ 63)
    (q : ∀ r g' h' ws ms, Le g g' → Fm g' L ls own h' → g'.IsList r ws.toArray → IntsAre ws ms → ms.length = 11 → Q (.ref r) h') : WC (model prog w) A s₀ (.call (.ref a) ⟨[.ref l, .int 11 t0], []⟩) Q h := by
  refine WC_fn [("script", .local), ("many", .local), ("x", .local), ("found", .local), ("last", .local), ("len", .globalImplicit)] [] [("script", none), ("many", none), ("x", none), ("found", none), ("last", none)] [("script", .ref l), ("many", .int 11 t0)] _ G S0 (R.deep (by omega)) lim rfl rfl rfl ?_ (by simp) (by decide) (by decide) (by decide) rfl rfl rfl ?_ (by decide)
  · intro fd tk e1 e2 e3
    refine BindsTo.of_eq ?_
    obtain ⟨fn, fq, fp, fb, fs, fg, fc, fd, fk⟩ := fd
    dsimp only at e1 e2 e3
    subst e1 e2 e3
    rfl
  intro env B C cs own' h' l E _ S kl kB kg
  cases l
  have kb := Le.refl B
  refine W_bindsCons (W_st E S (by walk_at "mem") (by walk_at "put") fun h' S => ?_)
  refine W_bindsCons (W_st E S (by walk_at "mem") (by walk_at "put") fun h' S => ?_)
  refine W_bindsNil ⟨kg.trans S.keep, ?_⟩
  refine W_cons ?_
  refine W_AssignComp (cl := []) (closureFor_none (by decide)) rfl (by decide) ?_ (E.swaps (by walk_at "mem") (by rfl) (by decide))
  walk_at "go"
  refine W_Slice (W_part0 (W_part1 ?_))
  walk_at "go"
  refine W_part0 ?_
  have S := S.push (o := { cls := .type "slice", data := .fields #[.none, .int 11 t0, .none] })
  have hsl := S.get List.mem_cons_self
  have hl' := isList_le hl (kg.trans (kb.trans S.keep))
  refine W_itemSlice hl' hsl .none (.int 11 t0) .none (by simp) (by simp [hi.length]; omega) ?_
  have S := S.push (o := { cls := .type "list", data := .seq (slicePick vs.toArray none (some 11) none) })
  obtain ⟨B1, S, k1, k2⟩ := S.settle1
  obtain ⟨B2, S, k3, _⟩ := S.settle1
  replace kb := kb.trans (k1.trans k3)
  have hms : IntsAre (slicePick vs.toArray none (some 11) none).toList (ns.take 11) := slice_ints_uptoW hi (by decide)
  have len11 : (ns.take 11).length ≤ 11 := by simp; omega
  have lenS : (slicePick vs.toArray none (some 11) none).size ≤ 11 := by have := hms.length; simp at this ⊢; omega
  generalize hit : slicePick vs.toArray none (some 11) none = items at *
  generalize ns.take 11 = ms0 at hms len11
  have k2 := k3 _ _ k2
  refine W_compList (own := []) (ex := own) (items := items) R.hh S ⟨_, k2, rfl, 0, rfl⟩ (by omega) [(".0", none), ("x", none)] (by simp) (by decide)
    (fun C cs i B lc ys o => o = [] ∧ (∃ u, lc = ([(".0", none), ("x", u)] : Loc)) ∧ ys = items.toList.take i) (fun _ C cs own' l _ _ => ?_) ?_ ?_
  · cases l; exact ⟨rfl, ⟨_, rfl⟩, rfl⟩
  · rintro C' cs ownC i v B' lc ys o ex h' l hv kB' ⟨rfl, ⟨u, rfl⟩, rfl⟩ S
    cases l
    refine W_inEnv (names := [(".0", .local), ("x", .local)]) (E.comp rfl rfl (by decide) (by decide) (by decide)) fun E => ?_
    refine W_asName (W_st E S (by walk_at "mem") (by walk_at "put") fun h' S => ?_)
    refine W_testsNil ?_
    rw [if_pos rfl]
    walk_at "go"
    refine ⟨_, _, [], Le.refl _, S, rfl, ⟨_, rfl⟩, ?_⟩
    rw [List.take_add_one, Array.getElem?_toList, hv]
    rfl
  rintro C' cs B' lc ys o D kk g2 h' kB' ⟨rfl, ⟨u, rfl⟩, rfl⟩ k3 k4 oC m S hm
  refine FinC.name E S hm (by walk_at "mem") (by walk_at "put") fun h' S => ?_
  replace kb := kb.trans k3
  walk_at "go"
  refine W_ldG E (by walk_at "mem") glen (kg.trans (kb.trans S.keep)) ?_
  refine W_callWith ?_
  walk_at "go"
  refine ⟨Kept.builtin _ _ _, ?_⟩
  refine W_lenList (isList_le hl (kg.trans (kb.trans S.keep))) (by simp [hi.length]; omega) fun t => ?_
  walk_at "go"
  refine W_For (W_ld E S (by walk_at "mem") (by walk_at "mem") ?_)
  refine W_loopList (own := []) (ex := _ :: own) R.hh (NoGo.name _ _) S (isList_le hl (kg.trans kb)) (fun i B ls o => ∃ v u t, 0 ≤ v ∧ ls = ([("script", some (.ref l)), ("many", some (.int 11 t0)), ("x", u), ("found", some (.ref D)), ("last", some (.int v t))] : Loc) ∧ o = []) ⟨_, _, _, ?_, rfl, rfl⟩ ?_ ?_
  · omega
  · rintro i v B ls o ex h hv kB ⟨la, u, tl, h0, rfl, rfl⟩ S
    obtain ⟨x, tx, rfl⟩ : ∃ x tx, v = .int x tx := by
      have hl := hi.length
      have hlt : i < ns.length := by
        have := (List.getElem?_eq_some_iff.mp (by simpa using hv : vs[i]? = some v)).1
        omega
      obtain ⟨t, e⟩ := hi.get i _ (List.getElem?_eq_getElem hlt)
      have hv' : vs[i]? = some v := by simpa using hv
      rw [hv'] at e
      exact ⟨_, t, Option.some.inj e⟩
    refine W_asName (W_st E S (by walk_at "mem") (by walk_at "put") fun h' S => ?_)
    walk_at "go"
    refine W_mulI ?_ (IntMulOk.of_right (by decide))
    intro t
    walk_at "go"
    refine W_modI (by decide) fun t => ?_
    walk_at "go"
    refine W_nil ?_
    exact ⟨.inl rfl, _, _, _, Le.refl _, S, _, _, _, Int.fmod_nonneg_of_pos _ (by decide), rfl, rfl⟩
  rintro B' ls' o h' kB' ⟨la, u, tl, h0, rfl, rfl⟩ S
  replace kb := kb.trans kB'
  walk_at "go"
  refine W_While (fun n h => ∃ B' la tl u ws ms kk, Le B B' ∧ Fm B' C ([("script", some (.ref l)), ("many", some (.int 11 t0)), ("x", u), ("found", some (.ref D)), ("last", some (.int la tl))] : Loc) ((D, lstO ws kk) :: own) h ∧ 0 ≤ la ∧ IntsAre ws ms ∧ ms.length ≤ 11 ∧ n = 11 - ms.length) ?_ (11 - ms0.length)
    ⟨_, _, _, _, _, ms0, _, kb, S, h0, ?_, ?_, rfl⟩
  · rintro n h ⟨B', la, tl, u, ws, ms, kk, kb, S, h0, hw, hz, rfl⟩
    walk_at "go"
    refine W_ldG E (by walk_at "mem") glen (kg.trans (kb.trans S.keep)) ?_
    refine W_callWith ?_
    walk_at "go"
    refine ⟨Kept.builtin _ _ _, ?_⟩
    refine W_lenList (items := ws.toArray) ⟨_, S.get List.mem_cons_self, rfl, _, rfl⟩ (by simp [hw.length]; omega) fun t => ?_
    walk_at "go"
    by_cases hlt : ((ws.toArray.size : Nat) : Int) < 11
    · rw [decide_eq_true hlt, if_pos rfl]
      have hz' : ms.length < 11 := by simp [hw.length] at hlt; omega
      walk_at "go"
      refine W_mulI ?_ (IntMulOk.of_right (by decide))
      intro t
      walk_at "go"
      refine W_modI (by decide) fun t => ?_
      walk_at "go"
      refine W_Expr ?_ E.inter
      refine W_CallM ?_
      walk_at "go"
      refine W_mAppend (S.get List.mem_cons_self) ?_
      refine W_callWith ?_
      walk_at "go"
      refine W_fdivI (by decide) (by decide) fun t => ?_
      walk_at "go"
      refine ⟨Kept.builtin _ _ _, ?_⟩
      refine W_append S (by walk_at "upd") (by simp [hw.length]; omega) fun h' S => ⟨rfl, ?_⟩
      walk_at "go"
      refine W_nil ?_
      refine ⟨11 - (ms ++ [_]).length, ?_, _, _, _, _, _, ms ++ [_], _, kb, S, Int.fmod_nonneg (by omega) (by decide), hw.append (.cons _ _ .nil), ?_, rfl⟩
      · simp; omega
      · simp; omega
    · rw [decide_eq_false hlt, if_neg (by decide)]
      have hz' : ms.length = 11 := by simp [hw.length] at hlt; omega
      walk_at "go"
      have hDL := S0.ne kB kb S List.mem_cons_self
      obtain ⟨B2, S, k1, k2⟩ := S.settle1
      obtain ⟨g', S', q1, q2, q3⟩ := S0.leave kB (kb.trans k1) S
      exact q D g' _ ws ms q1 S' ⟨_, q2.ne _ _ k2 hDL, rfl, _, rfl⟩ hw hz'
  · simpa [List.take_of_length_le] using hms
  · have := hms.length
    simp at this
    omega
end
end Mine
namespace Mine
open PySem PySem.Spec PySem.Calls PyProof.Rows PySem.W

abbrev XS := List (List Int × Addr × Value)
theorem mem_storedH {xs : XS} {k : List Int} {a : Addr} {v : Value} {x} (h : x ∈ storedH xs k a v) : x ∈ xs ∨ (x.1 = k ∧ x.2.2 = v) := by
  unfold storedH at h
  split at h
  · obtain ⟨y, hy, rfl⟩ := List.mem_map.mp h
    unfold putAt
    split
    · rename_i e; exact .inr ⟨e, rfl⟩
    · exact .inl hy
  · rcases List.mem_append.mp h with h | h
    · exact .inl h
    · rw [List.mem_singleton.mp h]; exact .inr ⟨rfl, rfl⟩
theorem key_storedH {xs : XS} {k k' : List Int} {a : Addr} {v : Value} (h : k' = k ∨ k' ∈ xs.map (·.1)) : k' ∈ (storedH xs k a v).map (·.1) := by
  unfold storedH
  split
  · rename_i hs
    have e : (xs.map (putAt k v)).map (·.1) = xs.map (·.1) := by
      rw [List.map_map]; refine List.map_congr_left fun y _ => ?_
      show (putAt k v y).1 = y.1
      unfold putAt; split <;> rfl
    rw [e]
    rcases h with rfl | h
    · obtain ⟨p, hp⟩ := Option.isSome_iff_exists.mp hs
      unfold atKey at hp
      obtain ⟨y, hy, _⟩ := Option.map_eq_some_iff.mp hp
      have := List.find?_some hy
      exact List.mem_map.mpr ⟨y, List.mem_of_find?_eq_some hy, by simpa using this⟩
    · exact h
  · rcases h with rfl | h
    · simp
    · rw [List.map_append]; exact List.mem_append_left _ h
theorem len_storedH {xs : XS} {k : List Int} {a : Addr} {v : Value} : (storedH xs k a v).length ≤ xs.length + 1 := by
  unfold storedH
  split <;> simp

/-- ties of a graph of n nodes -/
structure TieIn (n : Int) (xs : XS) : Prop where
  all : ∀ x ∈ xs, ∃ u v c t, x.1 = [u, v] ∧ 0 ≤ u ∧ u < v ∧ v < n ∧ x.2.2 = .int c t ∧ 0 ≤ c
theorem TieIn.put {n : Int} {xs : XS} {u v c : Int} {t : Tok} {a : Addr} (T : TieIn n xs) (h0 : 0 ≤ u) (h1 : u < v) (h2 : v < n) (hc : 0 ≤ c) : TieIn n (storedH xs [u, v] a (.int c t)) :=
  ⟨fun x hx => by
    rcases mem_storedH hx with h | ⟨e1, e2⟩
    · exact T.all x h
    · exact ⟨u, v, c, t, e1, h0, h1, h2, e2, hc⟩⟩
def Tied (m : Int) (xs : XS) : Prop := ∀ v : Int, 1 ≤ v → v < m → ∃ u, 0 ≤ u ∧ u < v ∧ [u, v] ∈ xs.map (·.1)

theorem TD.out {prog : Program} {w : World} {B g : Heap} {L : Addr} {o : Obj} {xs : XS} (T : TD prog w B o xs) (k : Out B g L) : TD prog w g o xs :=
  ⟨T.exact, T.data, fun y hy => let ⟨a, b, c, d, e, f, i⟩ := T.keys y hy; ⟨a, b, c, k.nd _ _ d (fun _ _ x => by rw [f] at x; cases x), e, f, i⟩, T.nd⟩
section
variable {prog : Program} {w : World} {A : Around} {s₀ : Shared} {g h : Heap} {L : Addr} {ls : Loc} {own : List (Addr × Obj)}
theorem IntsAre.at' {vs : List Value} {ns : List Int} (hi : IntsAre vs ns) {i : Int} (h0 : 0 ≤ i) (h1 : i < ns.length) : ∃ x t, vs.toArray[i.toNat]? = some (.int x t) := by
  obtain ⟨t, e⟩ := hi.get i.toNat _ (List.getElem?_eq_getElem (by omega))
  exact ⟨_, t, by simpa using e⟩

theorem law_ties {a l : Addr} {k : Nat} {vs : List Value} {ns : List Int} {Q : Value → Heap → Prop} (G : FnIs g a (stm 35) .none) (R : Room A k) (hk : k ≤ 10) (S0 : Fm g L ls own h) (lim : g.NoLimit)
    (grange : Glo g "range" (.type "range")) (gabs : Glo g "abs" (.builtin "abs")) (glen : Glo g "len" (.builtin "len"))
    (hl : g.IsList l vs.toArray) (hi : IntsAre vs ns) (hn : ns.length = 11)
    (q : ∀ r g' h' d o n t xs, Le g g' → Fm g' L ls own h' → g'.get? r = some (tupO [.int n t, .ref d]) → g'.get? d = some o → TD prog w g' o xs → g.get? d = none → 3 ≤ n → n ≤ 5 → xs.length ≤ 7 → TieIn n xs → Tied n xs → Q (.ref r) h') :
    WC (model prog w) A s₀ (.call (.ref a) ⟨[.ref l], []⟩) Q h := by
  refine WC_fn [("found", .local), ("n", .local), ("weights", .local), ("v", .local), ("pairs", .local), ("x", .local), ("tie", .local), ("range", .globalImplicit), ("abs", .globalImplicit), ("len", .globalImplicit)] []
    [("found", none), ("n", none), ("weights", none), ("v", none), ("pairs", none), ("x", none), ("tie", none)] [("found", .ref l)] _ G S0 (R.deep (by omega)) lim rfl rfl rfl ?_ (by simp) (by decide) (by decide) (by decide) rfl rfl rfl ?_ (by decide)
  · intro fd tk e1 e2 e3
    refine BindsTo.of_eq ?_
    obtain ⟨fn, fq, fp, fb, fs, fg, fc, fd, fk⟩ := fd
    dsimp only at e1 e2 e3
    subst e1 e2 e3
    rfl
  intro env B C cs own' h' hL E _ S kl kB kg
  cases hL
  have kb := Le.refl B
  have Rd : A.in1.units < cLine := R.unit (by omega)
  refine W_bindsCons (W_st E S (by walk_at "mem") (by walk_at "put") fun h' S => ?_)
  refine W_bindsNil ⟨kg.trans S.keep, ?_⟩
  have R' := R.deeper env
  have hx := fun (i : Int) h0 h1 => IntsAre.at' hi (i := i) h0 h1
  obtain ⟨f0, t00, e0⟩ := hx 0 (by decide) (by omega)
  refine W_cons ?_
  walk_at "go"
  refine W_itemList (isList_le hl (kg.trans (kb.trans S.keep))) (by decide) e0 (by decide) ?_
  walk_at "go"
  refine W_modI (by decide) fun t => ?_
  refine W_addI (fun tn => ?_)
  walk_at "go"
  have hn3 : 3 ≤ 3 + f0.fmod 3 := by have := Int.fmod_nonneg_of_pos f0 (b := 3) (by decide); omega
  have hn5 : 3 + f0.fmod 3 ≤ 5 := by have := Int.fmod_lt_of_pos f0 (b := 3) (by decide); omega
  generalize 3 + f0.fmod 3 = n at *
  refine W_newDict S fun d h' S hd kd => ?_
  walk_at "go"
  have S1 := S
  refine W_For ?_
  walk_at "go"
  refine (W_ldG E (by walk_at "mem") grange (kg.trans (kb.trans S.keep)) ?_)
  refine W_callWith ?_
  walk_at "go"
  refine ⟨Kept.type _ _ _, ?_⟩
  refine W_range2 S fun r h' t u v S hr => ?_
  refine W_loopRange (own := [(d, dicE)]) (ex := own) R'.hh (NoGo.name _ _) S hr (by decide) (by decide) (by omega) (by omega)
    (fun i B' ls o => ∃ od xs u, Le B B' ∧ ls = ([("found", some (.ref l)), ("n", some (.int n tn)), ("weights", some (.ref d)), ("v", u), ("pairs", none), ("x", none), ("tie", none)] : Loc) ∧ o = [(d, od)] ∧ TD prog w B' od xs ∧ xs.length ≤ i ∧ TieIn n xs ∧ Tied (i + 1) xs)
    ⟨_, _, _, kb, rfl, rfl, TD.new _, Nat.le_refl _, ⟨fun _ h => nomatch h⟩, fun v h1 h2 => by omega⟩ ?_ ?_
  · rintro i tv B' ls o ex h' hi' kB' ⟨od, xs, u, kb, rfl, rfl, T, hlen, hin, htd⟩ S
    refine W_asName (W_st E S (by walk_at "mem") (by walk_at "put") fun h' S => ?_)
    have hv1 : (1 : Int) + i < n := by omega
    obtain ⟨fv, tfv, ev⟩ := hx (1 + i) (by omega) (by omega)
    refine W_cons (W_AssignSub ?_ (by with_unfolding_all rfl))
    refine W.mono (Q := fun v h1 => (∃ c t, v = .int c t ∧ 0 ≤ c) ∧ h1 = h') ?_ ?_
    · walk_at "go"
      refine (W_itemList (isList_le hl (kg.trans (kb.trans S.keep))) (by omega) e0 (by omega) ?_)
      walk_at "go"
      refine W_fdivI (by decide) (by decide) fun t => ?_
      walk_at "go"
      refine W_modI (by decide) fun t => ?_
      walk_at "go"
      split
      · walk_at "go"
        refine (W_ldG E (by walk_at "mem") gabs (kg.trans (kb.trans S.keep)) ?_)
        refine W_callWith ?_
        walk_at "go"
        refine (W_itemList (isList_le hl (kg.trans (kb.trans S.keep))) (by omega) ev (by omega) ?_)
        walk_at "go"
        refine ⟨Kept.builtin _ _ _, W_absI fun t => ?_⟩
        walk_at "go"
        refine W_modI (by decide) fun t => ⟨⟨_, _, rfl, Int.fmod_nonneg_of_pos _ (by decide)⟩, rfl⟩
      · walk_at "go"
        refine (W_ldG E (by walk_at "mem") gabs (kg.trans (kb.trans S.keep)) ?_)
        refine W_callWith ?_
        walk_at "go"
        refine (W_itemList (isList_le hl (kg.trans (kb.trans S.keep))) (by omega) ev (by omega) ?_)
        walk_at "go"
        exact ⟨Kept.builtin _ _ _, W_absI fun t => ⟨⟨_, _, rfl, by split <;> omega⟩, rfl⟩⟩
    rintro v h1 ⟨⟨c, tc, rfl, hc⟩, rfl⟩
    walk_at "go"
    refine (W_itemList (isList_le hl (kg.trans (kb.trans S.keep))) (by omega) ev (by omega) ?_)
    walk_at "go"
    refine W_fdivI (by decide) (by decide) fun t => ?_
    walk_at "go"
    refine W_modI (by omega) fun t => ?_
    walk_at "go"
    refine W_newTuple S (by simp) fun ta h' _ S _ => ?_
    obtain ⟨B2, S, kb2, hta⟩ := S.settle1
    refine W_setT (ks := [_, _]) (xs := xs) S (fun o' => (by walk_at "upd")) (T.mono kb2) (tkey2 hta) (R'.unit (by omega)) (by omega) fun o' h' T' S => ?_
    refine W_nil ⟨.inl rfl, B2, _, [(d, o')], kb2, S, _, _, _, kb.trans kb2, rfl, rfl, T', ?_, ?_, ?_⟩
    · exact Nat.le_trans len_storedH (by omega)
    · exact hin.put (Int.fmod_nonneg_of_pos _ (by omega)) (Int.fmod_lt_of_pos _ (by omega)) hv1 hc
    · intro v h1 h2
      by_cases e : v = 1 + (i : Int)
      · subst e
        exact ⟨_, Int.fmod_nonneg_of_pos _ (by omega), Int.fmod_lt_of_pos _ (by omega), key_storedH (.inl rfl)⟩
      · obtain ⟨u, q1, q2, q3⟩ := htd v h1 (by omega)
        exact ⟨u, q1, q2, key_storedH (.inr q3)⟩
  rintro B' ls' o h' kB' ⟨od, xs, u, kb, rfl, rfl, T, hlen, hin, htd⟩ S
  refine W_cons ?_
  refine W_AssignComp (cl := []) (closureFor_none (by decide)) rfl (by decide) ?_ (E.swaps (by walk_at "mem") (by rfl) (by decide))
  walk_at "go"
  refine (W_ldG E (by walk_at "mem") grange (kg.trans (kb.trans S.keep)) ?_)
  refine W_callWith ?_
  walk_at "go"
  refine ⟨Kept.type _ _ _, ?_⟩
  refine W_range1 S fun r h' t u1 v1 S hr => ?_
  have S2 := S
  have kb2 := kb
  refine W_comp2Range (own := []) (ex := (d, od) :: own) R'.hh S hr (by decide) (by decide) (by omega) (by omega) [(".0", none), ("v", none), ("u", none)] (by simp) (by decide)
    (fun C cs i B lc ys o => o = [] ∧ (∃ u v, lc = ([(".0", none), ("v", u), ("u", v)] : Loc)) ∧ ys.length ≤ 5 * i ∧ (2 ≤ i → ys ≠ []) ∧ ∀ y ∈ ys, ∃ a u v tu tv, y = .ref a ∧ B.get? a = some (tupO [.int u tu, .int v tv]) ∧ 0 ≤ u ∧ u < v ∧ v < n)
    (fun _ C cs own' l _ _ => ?_) ?_ ?_
  · cases l; exact ⟨rfl, ⟨_, _, rfl⟩, by simp, fun h => by omega, fun _ h => nomatch h⟩
  · rintro C' cs ownC D kk i tv B' lc ys o ex h' l hi2 kB' ⟨rfl, ⟨u, v, rfl⟩, hlen2, hne, hall⟩ S
    cases l
    refine W_inEnv (names := [(".0", .local), ("v", .local), ("u", .local), ("range", .globalImplicit)]) (E.comp rfl rfl (by decide) (by decide) (by decide)) fun E => ?_
    refine W_asName (W_st E S (by walk_at "mem") (by walk_at "put") fun h' S => ?_)
    refine W_testsNil ?_
    rw [if_pos rfl]
    have kb := kb2.trans kB'
    walk_at "go"
    refine (W_ldG E (by walk_at "mem") grange (kg.trans (kb.trans S.keep)) ?_)
    refine W_callWith ?_
    walk_at "go"
    refine ⟨Kept.type _ _ _, ?_⟩
    refine W_range1 S fun r h' t u1 v1 S hr => ?_
    refine W_inner (own := []) R'.hh S hr (by decide) (by decide) (by omega) (by omega) (by omega)
      (fun j B lc zs o => o = [] ∧ (∃ tv u, lc = ([(".0", none), ("v", some (.int (0 + i) tv)), ("u", u)] : Loc)) ∧ zs.length = ys.length + j ∧ (1 ≤ j → zs ≠ []) ∧ (2 ≤ i → zs ≠ []) ∧ ∀ y ∈ zs, ∃ a u v tu tv, y = .ref a ∧ B.get? a = some (tupO [.int u tu, .int v tv]) ∧ 0 ≤ u ∧ u < v ∧ v < n)
      ⟨rfl, ⟨_, _, rfl⟩, rfl, fun h => by omega, hne, hall⟩ ?_ ?_
    · rintro j tj B2 lc zs o ex h' hj kB2 ⟨rfl, ⟨tv, u, rfl⟩, hl1, hl2, hl3, hl4⟩ S
      refine W_asName (W_st E S (by walk_at "mem") (by walk_at "put") fun h' S => ?_)
      walk_at "go"
      refine W_newTuple S (by simp) fun ta h' _ S _ => ?_
      obtain ⟨B3, S, kb3, hta⟩ := S.settle1
      refine ⟨B3, _, [], kb3, S, rfl, ⟨_, _, rfl⟩, by simp; omega, by simp, by simp, fun y hy => ?_⟩
      rcases List.mem_append.mp hy with hy | hy
      · obtain ⟨a, u, v, tu, tv, e1, e2, e3⟩ := hl4 y hy
        exact ⟨a, u, v, tu, tv, e1, kb3 _ _ e2, e3⟩
      · rw [List.mem_singleton.mp hy]
        exact ⟨_, _, _, _, _, rfl, hta, by omega, by omega, by omega⟩
    · rintro B2 lc zs o k2 h' kB2 ⟨rfl, ⟨tv, u, rfl⟩, hl1, hl2, hl3, hl4⟩ S
      refine ⟨rfl, B2, _, zs, k2, [], kB2, S, rfl, ⟨_, _, rfl⟩, by omega, fun h => ?_, hl4⟩
      by_cases e : 1 ≤ i
      · exact hl2 (by omega)
      · omega
  rintro C' cs B' lc ys o D kk g2 h' kB' ⟨rfl, ⟨u, v, rfl⟩, hlen2, hne, hall⟩ k3 k4 oC m S hm
  refine FinC.name E S hm (by walk_at "mem") (by walk_at "put") fun h' S => ?_
  have hall : ∀ y ∈ ys, ∃ a u v tu tv, y = .ref a ∧ g2.get? a = some (tupO [.int u tu, .int v tv]) ∧ 0 ≤ u ∧ u < v ∧ v < n := fun y hy => by
    obtain ⟨a, u, v, tu, tv, e1, e2, e3⟩ := hall y hy
    exact ⟨a, u, v, tu, tv, e1, k4.nd _ _ e2 (fun _ _ e => nomatch e), e3⟩
  replace kb := kb2.trans k3
  have hne' : ys ≠ [] := hne (by omega)
  have hlen3 : ys.length ≤ 25 := by omega
  have T := T.mono k3
  obtain ⟨B3, S, kb3, hD⟩ := S.settle1
  replace kb := kb.trans kb3
  have hall : ∀ y ∈ ys, ∃ a u v tu tv, y = .ref a ∧ B3.get? a = some (tupO [.int u tu, .int v tv]) ∧ 0 ≤ u ∧ u < v ∧ v < n := fun y hy => by
    obtain ⟨a, u, v, tu, tv, e1, e2, e3⟩ := hall y hy
    exact ⟨a, u, v, tu, tv, e1, kb3 _ _ e2, e3⟩
  have T := T.mono kb3
  have hDl : B3.IsList D ys.toArray := ⟨_, hD, rfl, _, rfl⟩
  refine W_cons (W_For ?_)
  walk_at "go"
  refine W_Slice (W_part1 (W_int fun t5 => ?_))
  refine W_part1 ?_
  walk_at "go"
  refine (W_itemList (isList_le hl (kg.trans (kb.trans S.keep))) (by omega) e0 (by omega) ?_)
  walk_at "go"
  refine W_fdivI (by decide) (by decide) fun t => ?_
  walk_at "go"
  refine W_modI (by decide) fun t => ?_
  refine W_addI fun tu => ?_
  refine W_part0 ?_
  have hm0 : 0 ≤ (f0.fdiv 9).fmod 4 := Int.fmod_nonneg_of_pos _ (by decide)
  have hm4 : (f0.fdiv 9).fmod 4 < 4 := Int.fmod_lt_of_pos _ (by decide)
  generalize (f0.fdiv 9).fmod 4 = mm at *
  have S := S.push (o := { cls := .type "slice", data := .fields #[.int 5 t5, .int (5 + mm) tu, .none] })
  have hsl := S.get List.mem_cons_self
  refine W_itemSlice (isList_le hl (kg.trans (kb.trans S.keep))) hsl (.int 5 t5) (.int (5 + mm) tu) .none (by simp) (by simp [hi.length]; omega) ?_
  have S := S.push (o := { cls := .type "list", data := .seq (slicePick vs.toArray (some 5) (some (5 + mm)) none) })
  obtain ⟨B4, S, k5, hitl⟩ := S.settle1
  obtain ⟨B5, S, k6, _⟩ := S.settle1
  have hitl := k6 _ _ hitl
  have hms := slice_ints hi (x := 5) (y := 5 + mm) (by decide) (by omega) (by omega)
  have hlm : ((ns.drop (5 : Int).toNat).take (5 + mm - 5).toNat).length ≤ 3 := by rw [List.length_take]; omega
  generalize (ns.drop (5 : Int).toNat).take (5 + mm - 5).toNat = ms at *
  generalize slicePick vs.toArray (some 5) (some (5 + mm)) none = items at *
  have hsz : items.size = ms.length := by have := hms.length; simpa using this
  have kb := kb.trans (k5.trans k6)
  refine W_loopList (own := [(d, od)]) (ex := own) R'.hh (NoGo.name _ _) S ⟨_, hitl, rfl, _, rfl⟩
    (fun i B' ls o => ∃ od xs u u2 v, Le B B' ∧ ls = ([("found", some (.ref l)), ("n", some (.int n tn)), ("weights", some (.ref d)), ("v", v), ("pairs", some (.ref D)), ("x", u), ("tie", u2)] : Loc) ∧ o = [(d, od)] ∧ TD prog w B' od xs ∧ xs.length ≤ 4 + i ∧ TieIn n xs ∧ Tied n xs)
    ⟨_, _, _, _, _, kb, rfl, rfl, T.mono (k5.trans k6), by omega, hin, fun v h1 h2 => htd v h1 (by omega)⟩ ?_ ?_
  · rintro i v B' ls o ex h' hv kB' ⟨od, xs, u, u2, u3, kb, rfl, rfl, T, hlen, hin, htd⟩ S
    obtain ⟨x, tx, rfl⟩ : ∃ x tx, v = .int x tx := by
      have hlt : i < ms.length := by
        have := (Array.getElem?_eq_some_iff.mp hv).1
        omega
      obtain ⟨t, e⟩ := hms.get i _ (List.getElem?_eq_getElem hlt)
      rw [Array.getElem?_toList, hv] at e
      exact ⟨_, t, Option.some.inj e⟩
    refine W_asName (W_st E S (by walk_at "mem") (by walk_at "put") fun h' S => ?_)
    have hi3 : i < 3 := by have := (Array.getElem?_eq_some_iff.mp hv).1; omega
    refine W_cons ?_
    walk_at "go"
    refine (W_ldG E (by walk_at "mem") glen (kg.trans (kb.trans S.keep)) ?_)
    refine W_callWith ?_
    walk_at "go"
    have hDl' := isList_le hDl ((k5.trans k6).trans (kB'.trans S.keep))
    refine ⟨Kept.builtin _ _ _, W_lenList hDl' (by simp; omega) fun t => ?_⟩
    have hpos : 0 < ys.length := List.length_pos_iff.mpr hne'
    refine W_modI (by simp; omega) fun t => ?_
    have i0 := Int.fmod_nonneg_of_pos x (b := ((ys.toArray.size : Nat) : Int)) (by simp; omega)
    have i1 := Int.fmod_lt_of_pos x (b := ((ys.toArray.size : Nat) : Int)) (by simp; omega)
    generalize x.fmod ((ys.toArray.size : Nat) : Int) = jj at i0 i1 ⊢
    have hjj : jj.toNat < ys.length := by simp at i1; omega
    obtain ⟨ta, uu, vv, tu', tv', e1, e2, e3, e4, e5⟩ := hall _ (List.getElem_mem hjj)
    refine W_itemList hDl' i0 (x := .ref ta) (by simp [hjj, e1]) (by simp at i1; omega) ?_
    walk_at "go"
    refine (W_ldG E (by walk_at "mem") gabs (kg.trans (kb.trans S.keep)) ?_)
    refine W_callWith ?_
    walk_at "go"
    refine ⟨Kept.builtin _ _ _, W_absI fun t => ?_⟩
    walk_at "go"
    refine W_fdivI (by decide) (by decide) fun t => ?_
    walk_at "go"
    refine W_modI (by decide) fun t => ?_
    walk_at "go"
    refine W_setT (ks := [_, _]) (xs := xs) S (fun o' => (by walk_at "upd")) T (tkey_le (tkey2 e2) ((k5.trans k6).trans kB')) (R'.unit (by omega)) (by omega) fun o' h' T' S => ?_
    refine W_nil ⟨.inl rfl, B', _, [(d, o')], Le.refl _, S, _, _, _, _, _, kb, rfl, rfl, T', ?_, hin.put e3 e4 e5 (Int.fmod_nonneg_of_pos _ (by decide)), ?_⟩
    · exact Nat.le_trans len_storedH (by omega)
    · intro v h1 h2
      obtain ⟨u, q1, q2, q3⟩ := htd v h1 h2
      exact ⟨u, q1, q2, key_storedH (.inr q3)⟩
  rintro B' ls' o h' kB' ⟨od, xs, u, u2, u3, kb, rfl, rfl, T, hlen, hin, htd⟩ S
  refine W_cons ?_
  walk_at "go"
  refine W_newTuple S (by simp) fun ta h' _ S _ => ?_
  obtain ⟨B6, S, k1, hta⟩ := S.settle1
  have hdL := S0.ne kB (kb.trans k1) S List.mem_cons_self
  have hdg : g.get? d = none := by
    have := S.goff _ List.mem_cons_self
    cases e : g.get? d with
    | none => rfl
    | some o' => rw [k1 _ _ (kb _ _ (kg _ _ e))] at this; cases this
  obtain ⟨B7, S, k2, hd7⟩ := S.settle1
  obtain ⟨g', S', q1, q2, q3⟩ := S0.leave kB (kb.trans (k1.trans k2)) S
  exact q ta g' _ d od n tn xs q1 S' (q2.nd _ _ (k2 _ _ hta) fun _ _ e => nomatch e) (q2.ne _ _ hd7 hdL) ((T.mono (k1.trans k2)).out q2) hdg hn3 hn5 (by omega) hin htd
end
end Mine
namespace Mine
open PySem PySem.Spec PySem.Calls PyProof.Rows PySem.W

def valOf : Value → Int
  | .int i _ => i
  | _ => 0
def edgeOf (x : List Int × Addr × Value) : Int × Int × Int := (x.1.getD 0 0, x.1.getD 1 0, valOf x.2.2)
def edgesOf (xs : XS) : List (Int × Int × Int) := xs.map edgeOf
def Joined (es : List (Int × Int × Int)) (a b c : Int) (m : Nat) : Prop := runF (fun x => x) (selM m es) a = runF (fun x => x) (selM m es) b ∧ runF (fun x => x) (selM m es) a = runF (fun x => x) (selM m es) c
structure LeastTo (es : List (Int × Int × Int)) (a b c : Int) (i : Nat) (v : Value) : Prop where
  is : (v = .none ∧ ∀ m, m < i → ¬ Joined es a b c m) ∨ ∃ x t m, v = .int x t ∧ m < i ∧ Joined es a b c m ∧ wsum (selM m es) = x ∧ ∀ m', m' < i → Joined es a b c m' → x ≤ wsum (selM m' es)

theorem runF_append (p : Int → Int) : ∀ l1 l2, runF p (l1 ++ l2) = runF (runF p l1) l2
  | [], l2 => rfl
  | (u, v, c) :: l1, l2 => runF_append (stepF p u v) l1 l2
theorem selM_take {α : Type} : ∀ (es : List α) (m k : Nat) (e : α), es[k]? = some e → selM m (es.take (k + 1)) = selM m (es.take k) ++ (if m / 2 ^ k % 2 = 1 then [e] else [])
  | [], m, k, e, h => by simp at h
  | x :: es, m, 0, e, h => by
    simp at h; subst h
    simp only [List.take_succ_cons, List.take_zero, selM, Nat.pow_zero, Nat.div_one, List.nil_append]
  | x :: es, m, k + 1, e, h => by
    have ih := selM_take es (m / 2) k e (by simpa using h)
    have e2 : m / 2 ^ (k + 1) = m / 2 / 2 ^ k := by rw [Nat.pow_succ, Nat.mul_comm, Nat.div_div_eq_div_mul]
    rw [List.take_succ_cons, List.take_succ_cons, selM, selM, ih, e2]
    split <;> simp
theorem wsum_append (l1 l2 : List (Int × Int × Int)) : wsum (l1 ++ l2) = wsum l1 + wsum l2 := by unfold wsum; rw [List.map_append, List.sum_append]

theorem distinct3 (x y z : Int) : distinct [x, y, z] = 1 ↔ x = y ∧ x = z := by
  show (step_dedup (step_dedup (step_dedup [] x) y) z).length = 1 ↔ _
  have e1 : step_dedup ([] : List Int) x = [x] := rfl
  rw [e1]
  unfold step_dedup
  by_cases h1 : x = y
  · subst h1
    by_cases h2 : x = z
    · subst h2; simp
    · simp [h2]
  · by_cases h2 : x = z
    · subst h2; simp [h1]
    · simp [h1, h2]; by_cases h3 : y = z <;> simp [h3]

theorem bit_eq (i k : Nat) : (((0 + (i : Int)).fdiv (2 ^ (0 + (k : Int)).toNat)).fmod 2 == 1) = decide (i / 2 ^ k % 2 = 1) := by
  have e1 : (0 + (k : Int)).toNat = k := by omega
  rw [e1, Int.zero_add, Int.fdiv_eq_ediv_of_nonneg _ (by have : (0 : Int) < 2 ^ k := Int.pow_pos (by decide); omega), Int.fmod_eq_emod_of_nonneg _ (by decide)]
  have e2 : ((i : Int) / 2 ^ k) = ((i / 2 ^ k : Nat) : Int) := by rw [Int.natCast_ediv]; simp
  rw [e2]
  rw [Bool.eq_iff_iff]
  simp only [beq_iff_eq, decide_eq_true_eq]
  omega
structure PartIs (n : Int) (p : Int → Int) (ps : List Value) : Prop where
  len : ps.length = n.toNat
  at' : ∀ x : Int, 0 ≤ x → x < n → ∃ t, ps[x.toNat]? = some (.int (p x) t)

section
variable {prog : Program} {w : World} {A : Around} {s₀ : Shared} {g h : Heap} {L : Addr} {ls : Loc} {own : List (Addr × Obj)}
theorem law_least {f d sl : Addr} {o : Obj} {k : Nat} {xs : XS} {n a b c : Int} {tn ta tb tc : Tok} {Q : Value → Heap → Prop} (G : FnIs g f (stm 36) .none) (R : Room A k) (hk : k ≤ 10) (S0 : Fm g L ls own h) (lim : g.NoLimit)
    (grange : Glo g "range" (.type "range")) (gset : Glo g "set" (.type "set")) (glen : Glo g "len" (.builtin "len"))
    (hd : g.get? d = some o) (T : TD prog w g o xs) (hds : (d == sysModules) = false) (hsl : g.IsList sl #[.int a ta, .int b tb, .int c tc])
    (a0 : 0 ≤ a) (a1 : a < n) (b0 : 0 ≤ b) (b1 : b < n) (c0 : 0 ≤ c) (c1 : c < n) (n5 : n ≤ 5) (hin : TieIn n xs) (hlen : xs.length ≤ 7)
    (q : ∀ v g' h', Le g g' → Fm g' L ls own h' → LeastTo (edgesOf xs) a b c (2 ^ xs.length) v → Q v h') :
    WC (model prog w) A s₀ (.call (.ref f) ⟨[.int n tn, .ref d, .ref sl], []⟩) Q h := by
  refine WC_fn [("n", .local), ("weights", .local), ("some", .local), ("ties", .local), ("best", .local), ("mask", .local), ("v", .local), ("part", .cell), ("weight", .local), ("k", .local), ("u", .local), ("old", .cell), ("new", .cell), ("range", .globalImplicit), ("len", .globalImplicit), ("set", .globalImplicit)] ["part", "old", "new"]
    [("n", none), ("weights", none), ("some", none), ("ties", none), ("best", none), ("mask", none), ("v", none), ("weight", none), ("k", none), ("u", none)] [("n", .int n tn), ("weights", .ref d), ("some", .ref sl)] _ G S0 (R.deep (by omega)) lim rfl rfl rfl ?_ (by simp) (by decide) (by decide) (by decide) rfl rfl rfl ?_ (by decide)
  · intro fd tk e1 e2 e3
    refine BindsTo.of_eq ?_
    obtain ⟨fn, fq, fp, fb, fs, fg, fc, fd, fk⟩ := fd
    dsimp only at e1 e2 e3
    subst e1 e2 e3
    rfl
  intro env B C cs own' h' hL E _ S kl kB kg
  cases hL; rename_i cp hL
  cases hL; rename_i co hL
  cases hL; rename_i cn hL
  cases hL
  have kb := Le.refl B
  refine W_bindsCons (W_st E S (by walk_at "mem") (by walk_at "put") fun h' S => ?_)
  refine W_bindsCons (W_st E S (by walk_at "mem") (by walk_at "put") fun h' S => ?_)
  refine W_bindsCons (W_st E S (by walk_at "mem") (by walk_at "put") fun h' S => ?_)
  refine W_bindsNil ⟨kg.trans S.keep, ?_⟩
  have R' := R.deeper env
  have units : (A.deeper env).in1.units < cLine := R'.unit (by omega)
  refine W_cons ?_
  refine W_AssignComp (cl := []) (closureFor_none (by decide)) rfl (by decide) ?_ (E.swaps (by walk_at "mem") (by rfl) (by decide))
  walk_at "go"
  obtain ⟨es, ep, RD, hsz, hkey⟩ := T.raw hd
  refine W_compSrc (own := []) (ex := _ :: _ :: _ :: own) (W_srcKeys hds (RD.le (kg.trans (kb.trans S.keep)))) (Itr.keys R'.hh (NoGo.name _ _) (RD.le (kg.trans kb))) ⟨rfl, rfl⟩ rfl S (by omega) [(".0", none), ("tie", none)] (by simp) (by decide)
    (fun C cs i B lc ys o => o = [] ∧ (∃ u, lc = ([(".0", none), ("tie", u)] : Loc)) ∧ ys = (xs.map fun x => Value.ref x.2.1).take i) (fun _ C cs own' l _ _ => ?_) ?_ ?_
  · cases l; exact ⟨rfl, ⟨_, rfl⟩, rfl⟩
  · rintro C' cs ownC i v B' lc ys o ex h' l hi ⟨e, he, rfl⟩ kB' ⟨rfl, ⟨u, rfl⟩, rfl⟩ S
    cases l
    obtain ⟨x, hx, hkx⟩ := hkey i e he
    refine W_inEnv (names := [(".0", .local), ("tie", .local)]) (E.comp rfl rfl (by decide) (by decide) (by decide)) fun E => ?_
    refine W_asName (W_st E S (by walk_at "mem") (by walk_at "put") fun h' S => ?_)
    refine W_testsNil ?_
    rw [if_pos rfl]
    walk_at "go"
    refine ⟨_, _, [], Le.refl _, S, rfl, ⟨_, rfl⟩, ?_⟩
    rw [List.take_add_one, List.getElem?_map, hx, hkx]
    rfl
  rintro C' cs B' lc ys o D kk g2 h' kB' ⟨rfl, ⟨u, rfl⟩, rfl⟩ k3 k4 oC m S hm
  refine FinC.name E S hm (by walk_at "mem") (by walk_at "put") fun h' S => ?_
  rw [hsz, List.take_of_length_le (by simp)] at S
  obtain ⟨B3, S, kb3, hD⟩ := S.settle1
  replace kb := kb.trans (k3.trans kb3)
  have hDl : B3.IsList D (xs.map fun x => Value.ref x.2.1).toArray := ⟨_, hD, rfl, _, rfl⟩
  walk_at "go"
  refine W_For ?_
  walk_at "go"
  refine (W_ldG E (by walk_at "mem") grange (kg.trans (kb.trans S.keep)) ?_)
  refine W_callWith ?_
  walk_at "go"
  refine (W_ldG E (by walk_at "mem") glen (kg.trans (kb.trans S.keep)) ?_)
  refine W_callWith ?_
  walk_at "go"
  refine ⟨Kept.builtin _ _ _, W_lenList (isList_le hDl S.keep) (by simp; omega) fun t => ?_⟩
  refine W_powI (by simp) (by simp; omega) (by decide) fun t => ?_
  walk_at "go"
  have epow : (2 : Int) ^ (((xs.map fun x => Value.ref x.2.1).toArray.size : Nat) : Int).toNat = ((2 ^ xs.length : Nat) : Int) := by simp
  rw [epow]
  have hp7 : (2 : Nat) ^ xs.length ≤ 2 ^ 7 := Nat.pow_le_pow_right (by decide) hlen
  refine ⟨Kept.type _ _ _, ?_⟩
  refine W_range1 S fun r h' t u1 v1 S hr => ?_
  generalize hN : 2 ^ xs.length = N at *
  have tnat : ((N : Int) - 0).toNat = N := by omega
  refine W_loopRange (own := [(cn, celO none), (co, celO none), (cp, celO none)]) (ex := own) R'.hh (NoGo.name _ _) S hr (by decide) (by decide) (by omega) (by omega)
    (fun i B' ls o => ∃ bv u1 u2 u3 u4 u5 x1 x2 x3, Le B B' ∧ ls = ([("n", some (.int n tn)), ("weights", some (.ref d)), ("some", some (.ref sl)), ("ties", some (.ref D)), ("best", some bv), ("mask", u1), ("v", u2), ("weight", u3), ("k", u4), ("u", u5)] : Loc) ∧
      o = [(cn, celO x1), (co, celO x2), (cp, celO x3)] ∧ LeastTo (edgesOf xs) a b c i bv)
    ⟨.none, _, _, _, _, _, _, _, _, kb, rfl, rfl, ⟨.inl ⟨rfl, fun m hm => by omega⟩⟩⟩ ?_ ?_
  · rintro i tm B' ls o ex h' hi kB' ⟨bv, u1, u2, u3, u4, u5, x1, x2, x3, kb, rfl, rfl, hbest⟩ S
    rw [tnat] at hi
    refine W_asName (W_st E S (by walk_at "mem") (by walk_at "put") fun h' S => ?_)
    refine W_cons (W_Assign ?_ (E.noswap (by walk_at "mem")))
    refine W_ListComp (cl := []) (closureFor_none (by decide)) rfl (by decide) ?_
    walk_at "go"
    refine (W_ldG E (by walk_at "mem") grange (kg.trans (kb.trans S.keep)) ?_)
    refine W_callWith ?_
    walk_at "go"
    refine ⟨Kept.type _ _ _, ?_⟩
    refine W_range1 S fun r h' t u1 v1 S hr => ?_
    refine W_compRange (own := []) (ex := _ :: _ :: _ :: ex) R'.hh S hr (by decide) (by decide) (by omega) (by omega) (by omega) [(".0", none), ("v", none)] (by simp) (by decide)
      (fun C cs i B lc ys o => o = [] ∧ (∃ u, lc = ([(".0", none), ("v", u)] : Loc)) ∧ ys.length = i ∧ ∀ x : Nat, x < i → ∃ t, ys[x]? = some (.int x t)) (fun _ C cs own' l _ _ => ?_) ?_ ?_
    · cases l; exact ⟨rfl, ⟨_, rfl⟩, rfl, fun x h => by omega⟩
    · rintro C' cs ownC i2 t2 B2 lc ys o ex2 h' l hi2 kB2 ⟨rfl, ⟨u, rfl⟩, hy1, hy2⟩ S
      cases l
      refine W_inEnv (names := [(".0", .local), ("v", .local)]) (E.comp rfl rfl (by decide) (by decide) (by decide)) fun E => ?_
      refine W_asName (W_st E S (by walk_at "mem") (by walk_at "put") fun h' S => ?_)
      refine W_testsNil ?_
      rw [if_pos rfl]
      walk_at "go"
      refine ⟨_, _, [], Le.refl _, S, rfl, ⟨_, rfl⟩, by simp [hy1], fun x hx => ?_⟩
      rcases Nat.lt_or_eq_of_le (Nat.lt_succ_iff.mp hx) with h | rfl
      · obtain ⟨t, e⟩ := hy2 x h
        exact ⟨t, by rw [List.getElem?_append_left (by omega)]; exact e⟩
      · exact ⟨t2, by rw [← hy1, List.getElem?_append_right (Nat.le_refl _)]; simp⟩
    rintro C' cs B2 lc ys o D2 kk2 g3 h' kB2 ⟨rfl, ⟨u, rfl⟩, hy1, hy2⟩ k5 k6 oC m S hm
    refine FinC.none S hm fun h' S => ?_
    obtain ⟨B4, S, kb4, hD2⟩ := S.settle1
    have kb := kb.trans (k5.trans kb4)
    have hp0 : PartIs n (runF (fun x => x) (selM i ((edgesOf xs).take 0))) ys := ⟨by rw [hy1]; congr 1; omega, fun x x0 x1 => by
      obtain ⟨t, e⟩ := hy2 x.toNat (by omega)
      refine ⟨t, ?_⟩
      rw [e]
      simp only [List.take_zero, selM, runF]
      congr 2; omega⟩
    (try simp only [List.nil_append, List.cons_append] at S)
    walk_at "go"
    refine W_For ?_
    walk_at "go"
    refine (W_ldG E (by walk_at "mem") grange (kg.trans (kb.trans S.keep)) ?_)
    refine W_callWith ?_
    walk_at "go"
    refine (W_ldG E (by walk_at "mem") glen (kg.trans (kb.trans S.keep)) ?_)
    refine W_callWith ?_
    walk_at "go"
    have kD : Le B3 B4 := kB'.trans (k5.trans kb4)
    refine ⟨Kept.builtin _ _ _, W_lenList (isList_le hDl (kD.trans S.keep)) (by simp; omega) fun t => ?_⟩
    walk_at "go"
    refine ⟨Kept.type _ _ _, ?_⟩
    refine W_range1 S fun r h' t u1 v1 S hr => ?_
    have elen : ((((xs.map fun x => Value.ref x.2.1).toArray.size : Nat) : Int) - 0).toNat = xs.length := by simp
    refine W_loopRange (own := [(cn, celO x1), (co, celO x2), (cp, celO (some (.ref D2)))]) (ex := ex) R'.hh (NoGo.name _ _) S hr (by decide) (by decide) (by simp <;> omega) (by simp <;> omega)
      (fun kk B' ls o => ∃ ps D2 tw u2 u4 u5 x1 x2, Le B4 B' ∧ ls = ([("n", some (.int n tn)), ("weights", some (.ref d)), ("some", some (.ref sl)), ("ties", some (.ref D)), ("best", some bv), ("mask", some (.int (0 + (i : Int)) tm)), ("v", u2), ("weight", some (.int (wsum (selM i ((edgesOf xs).take kk))) tw)), ("k", u4), ("u", u5)] : Loc) ∧
        o = [(cn, celO x1), (co, celO x2), (cp, celO (some (.ref D2)))] ∧ B'.IsList D2 ps.toArray ∧ PartIs n (runF (fun x => x) (selM i ((edgesOf xs).take kk))) ps)
      ⟨ys, D2, _, _, _, _, _, _, Le.refl _, rfl, rfl, ⟨_, hD2, rfl, _, rfl⟩, hp0⟩ ?_ ?_
    · rintro kk tkk B' ls o ex h' hkk kB' ⟨ps, D2, tw, u2, u4, u5, x1, x2, kB4, rfl, rfl, hps, hp⟩ S
      (try simp only [List.nil_append, List.cons_append] at S)
      rw [elen] at hkk
      have kb := kb.trans kB4
      refine W_asName (W_st E S (by walk_at "mem") (by walk_at "put") fun h' S => ?_)
      refine W_cons ?_
      walk_at "go"
      refine W_powI (by omega) (by omega) (by decide) fun t => ?_
      have hpow : (0 : Int) < 2 ^ (0 + (kk : Int)).toNat := Int.pow_pos (by decide)
      refine W_fdivI (by omega) (by
        have e1 : (0 + (kk : Int)).toNat = kk := by omega
        rw [e1, Int.natAbs_pow]
        exact Nat.lt_of_le_of_lt (Nat.pow_le_pow_right (by decide) (by omega : kk ≤ 7)) (by decide)) fun t => ?_
      walk_at "go"
      refine W_modI (by decide) fun t => ?_
      walk_at "go"
      rw [bit_eq]
      obtain ⟨x, hx⟩ : ∃ x, xs[kk]? = some x := ⟨_, List.getElem?_eq_getElem hkk⟩
      have hex : (edgesOf xs)[kk]? = some (edgeOf x) := by unfold edgesOf; rw [List.getElem?_map, hx]; rfl
      have hsel := selM_take (edgesOf xs) i kk _ hex
      by_cases hbit : i / 2 ^ kk % 2 = 1
      · rw [decide_eq_true hbit, if_pos rfl]
        rw [if_pos hbit] at hsel
        obtain ⟨u, v, cw, tcw, ek, hu0, huv, hvn, ew, hcw⟩ := hin.all x (List.mem_of_getElem? hx)
        have ee : edgeOf x = (u, v, cw) := by unfold edgeOf; rw [ek, ew]; rfl
        rw [ee] at hsel
        have hDx := isList_le hDl (kD.trans (kB4.trans S.keep))
        refine W_cons (W_AssignTup ?_ (by with_unfolding_all rfl))
        walk_at "go"
        refine W_itemList hDx (by omega) (x := .ref x.2.1) (by
          have e1 : (0 + (kk : Int)).toNat = kk := by omega
          rw [e1]; simp [hx]) (by omega) ?_
        have hkt := T.keys x (List.mem_of_getElem? hx)
        rw [ek] at hkt
        obtain ⟨tu, tv, hT2⟩ := tkey_items (tkey_le hkt (kg.trans kb))
        refine W_asTup2 R'.hh S (tuple_le hT2 S.keep) fun h' S _ => ?_
        refine W_asName (W_st E S (by walk_at "mem") (by walk_at "put") fun h' S => ?_)
        refine W_asName (W_st E S (by walk_at "mem") (by walk_at "put") fun h' S => ?_)
        walk_at "go"
        have hDx := isList_le hDl (kD.trans (kB4.trans S.keep))
        refine W_itemList hDx (by omega) (x := .ref x.2.1) (by
          have e1 : (0 + (kk : Int)).toNat = kk := by omega
          rw [e1]; simp [hx]) (by omega) ?_
        refine W_itemT (xs := xs) (ks := [u, v]) ((T.mono (kg.trans kb)).heap (S.keep _ _ (kb _ _ (kg _ _ hd))) S.keep) (tkey_le hkt (kg.trans (kb.trans S.keep))) units (p := (x.2.1, .int cw tcw)) (by
          rw [← ek, ← ew]; exact atKey_of_get T.nd hx) ?_
        walk_at "go"
        have hpsh := isList_le hps S.keep
        obtain ⟨tpu, epu⟩ := hp.at' u hu0 (by omega)
        obtain ⟨tpv, epv⟩ := hp.at' v (by omega) hvn
        generalize hP : runF (fun x => x) (selM i ((edgesOf xs).take kk)) = P at *
        refine W_itemList hpsh hu0 (x := .int (P u) tpu) (by simpa using epu) (by omega) ?_
        walk_at "go"
        refine W_itemList (isList_le hps S.keep) (by omega) (x := .int (P v) tpv) (by simpa using epv) (by omega) ?_
        walk_at "go"
        have hrun : runF (fun x => x) (selM i ((edgesOf xs).take (kk + 1))) = stepF P u v := by rw [hsel, runF_append, hP]; rfl
        have hws : wsum (selM i ((edgesOf xs).take (kk + 1))) = wsum (selM i ((edgesOf xs).take kk)) + cw := by rw [hsel, wsum_append]; simp [wsum]
        by_cases hne : P u = P v
        · rw [if_neg (by simp [hne])]
          rw [← hws] at S
          refine W_nil (W_nil (W_nil ⟨.inl rfl, B', _, [_, _, _], Le.refl _, S, ps, D2, _, _, _, _, x1, x2, kB4, rfl, rfl, hps, ?_⟩))
          rw [hrun]; unfold stepF; rw [if_pos hne]; exact hp
        · rw [if_pos (by simp [hne])]
          refine W_cons (W_AssignTup ?_ (E.unswapped (by walk_at "mem") (by walk_at "mem")))
          walk_at "go"
          refine W_itemList (isList_le hps S.keep) hu0 (x := .int (P u) tpu) (by simpa using epu) (by omega) ?_
          walk_at "go"
          refine W_itemList (isList_le hps S.keep) (by omega) (x := .int (P v) tpv) (by simpa using epv) (by omega) ?_
          walk_at "go"
          refine W_newTuple S (by simp) fun tt h' _ S _ => ?_
          obtain ⟨B5, S, kb5, htt⟩ := S.settle1
          refine W_asTup2 R'.hh S ⟨_, S.keep _ _ htt, rfl, _, rfl⟩ fun h' S _ => ?_
          refine W_asName (W_stC E S (by walk_at "mem") (by walk_at "mem") (by walk_at "upd") fun h' S => ?_)
          refine W_asName (W_stC E S (by walk_at "mem") (by walk_at "mem") (by walk_at "upd") fun h' S => ?_)
          refine W_cons (W_Assign ?_ (E.noswap (by walk_at "mem")))
          refine W_ListComp (cl := [("old", co), ("new", cn)]) (E.closure (by rfl) (by rfl)) rfl (by decide) ?_
          walk_at "go"
          have hstep : ∀ x : Int, 0 ≤ x → x < n → stepF P u v x = if P x = P u then P v else P x := fun x _ _ => by unfold stepF; rw [if_neg hne]
          refine W_compList (own := [_, _]) (ex := _ :: ex) R'.hh S (isList_le hps kb5) (by simp [hp.len]; omega) [(".0", none), ("p", none)] (by simp) (by decide)
            (fun C cs i B lc ys o => cs = ([("old", co), ("new", cn)] : List (Str × Addr)) ∧ o = [(cn, celO (some (.int (P v) tpv))), (co, celO (some (.int (P u) tpu)))] ∧ (∃ u, lc = ([(".0", none), ("p", u)] : Loc)) ∧ ys.length = i ∧ ∀ y : Nat, y < i → ∃ t, ys[y]? = some (.int (stepF P u v y) t)) (fun _ C cs own' l _ _ => ?_) ?_ ?_
          · cases l; exact ⟨rfl, rfl, ⟨_, rfl⟩, rfl, fun x h => by omega⟩
          · rintro C' cs ownC i2 v2 B6 lc zs o ex2 h' l hv2 kB6 ⟨rfl, rfl, ⟨u3, rfl⟩, hy1, hy2⟩ S
            (try simp only [List.nil_append, List.cons_append] at S)
            have hi2 : i2 < ps.length := by have := (Array.getElem?_eq_some_iff.mp hv2).1; simpa using this
            have hin2 : (i2 : Int) < n := by rw [hp.len] at hi2; omega
            obtain ⟨tp, ep⟩ := hp.at' i2 (by omega) hin2
            obtain rfl : v2 = .int (P i2) tp := by
              have e1 : ps[i2]? = some v2 := by simpa using hv2
              rw [Int.toNat_natCast, e1] at ep; exact Option.some.inj ep
            refine W_inEnv (names := [(".0", .local), ("p", .local), ("new", .cell), ("old", .cell)]) (E.comp rfl rfl (by decide) (by show (["old", "new"] : List Str).Nodup; decide) (by decide)) fun E => ?_
            refine W_asName (W_st E S (by walk_at "mem") (by walk_at "put") fun h' S => ?_)
            refine W_testsNil ?_
            rw [if_pos rfl]
            walk_at "go"
            have fin : ∀ (y : Int) t, y = stepF P u v i2 → (zs ++ [Value.int y t]).length = i2 + 1 ∧ ∀ z : Nat, z < i2 + 1 → ∃ t', (zs ++ [Value.int y t])[z]? = some (.int (stepF P u v z) t') := fun y t e => by
              refine ⟨by simp [hy1], fun z hz => ?_⟩
              rcases Nat.lt_or_eq_of_le (Nat.lt_succ_iff.mp hz) with h | rfl
              · obtain ⟨t, e⟩ := hy2 z h
                exact ⟨t, by rw [List.getElem?_append_left (by omega)]; exact e⟩
              · exact ⟨t, by rw [← hy1, List.getElem?_append_right (Nat.le_refl _), e, hy1]; simp⟩
            have hst2 := hstep i2 (by omega) hin2
            by_cases hpe : P i2 = P u
            · rw [if_pos (by simp [hpe])]
              walk_at "go"
              rw [if_pos hpe] at hst2
              obtain ⟨q1, q2⟩ := fin _ tpv hst2.symm
              exact ⟨B6, _, [_, _], Le.refl _, S, rfl, rfl, ⟨_, rfl⟩, q1, q2⟩
            · rw [if_neg (by simp [hpe])]
              walk_at "go"
              rw [if_neg hpe] at hst2
              obtain ⟨q1, q2⟩ := fin _ tp hst2.symm
              exact ⟨B6, _, [_, _], Le.refl _, S, rfl, rfl, ⟨_, rfl⟩, q1, q2⟩
          rintro C' cs B6 lc zs o D3 kk3 g6 h' kB6 ⟨rfl, rfl, ⟨u3, rfl⟩, hy1, hy2⟩ k7 k8 oC m S hm
          refine FinC.none S hm fun h' S => ?_
          obtain ⟨B7, S, kb7, hD3⟩ := S.settle1
          (try simp only [List.nil_append, List.cons_append] at S)
          walk_at "go"
          rw [← hws] at S
          have kB7 : Le B' B7 := kb5.trans (k7.trans kb7)
          refine W_nil (W_nil (W_nil ⟨.inl rfl, B7, _, [_, _, _], kB7, S, zs, D3, _, _, _, _, _, _, kB4.trans kB7, rfl, rfl, ⟨_, hD3, rfl, _, rfl⟩, ?_⟩))
          rw [hrun]
          have hps3 : ps.toArray.size = n.toNat := by simp [hp.len]
          refine ⟨by omega, fun y y0 y1 => ?_⟩
          obtain ⟨t, e⟩ := hy2 y.toNat (by omega)
          refine ⟨t, ?_⟩
          rw [e]; congr 3; omega
      · rw [decide_eq_false hbit, if_neg (by decide)]
        rw [if_neg hbit, List.append_nil] at hsel
        rw [← hsel] at S hp
        exact W_nil (W_nil ⟨.inl rfl, B', _, [_, _, _], Le.refl _, S, ps, D2, tw, _, _, _, x1, x2, kB4, rfl, rfl, hps, hp⟩)
    intro B5 ls o h' kB5 hJ S
    rw [elen] at hJ
    obtain ⟨ps, D5, tw, u6, u7, u8, x4, x5, _, rfl, rfl, hps, hp⟩ := hJ
    have etake : (edgesOf xs).take xs.length = edgesOf xs := List.take_of_length_le (by simp [edgesOf])
    rw [etake] at S hp
    (try simp only [List.nil_append, List.cons_append] at S)
    have kb := kb.trans kB5
    refine W_cons (W_If (W_tBoolOp (W_andCons ?_)))
    generalize hW0 : wsum (selM i (edgesOf xs)) = W0 at S
    generalize hP : runF (fun x => x) (selM i (edgesOf xs)) = P at hp
    have next : ∀ bv', LeastTo (edgesOf xs) a b c (i + 1) bv' → ∀ B6 (u9 : Option Value) h1, Le B5 B6 → Fm B6 C ([("n", some (.int n tn)), ("weights", some (.ref d)), ("some", some (.ref sl)), ("ties", some (.ref D)), ("best", some bv'), ("mask", some (.int (0 + (i : Int)) tm)), ("v", u6), ("weight", u9), ("k", u7), ("u", u8)] : Loc) ((cn, celO x4) :: (co, celO x5) :: (cp, celO (some (.ref D5))) :: ex) h1 →
        (Flow.next = Flow.next ∨ Flow.next = Flow.cont) ∧ ∃ B'' ls' own', Le B' B'' ∧ Fm B'' C ls' (own' ++ ex) h1 ∧ ∃ bv u1 u2 u3 u4 u5 x1 x2 x3, Le B B'' ∧ ls' = ([("n", some (.int n tn)), ("weights", some (.ref d)), ("some", some (.ref sl)), ("ties", some (.ref D)), ("best", some bv), ("mask", u1), ("v", u2), ("weight", u3), ("k", u4), ("u", u5)] : Loc) ∧
          own' = [(cn, celO x1), (co, celO x2), (cp, celO x3)] ∧ LeastTo (edgesOf xs) a b c (i + 1) bv := fun bv' hl B6 u9 h1 k6 S =>
      ⟨.inl rfl, B6, _, [_, _, _], (k5.trans kb4).trans (kB5.trans k6), S, bv', _, _, _, _, _, _, _, _, kb.trans k6, rfl, rfl, hl⟩
    refine W.mono (Q := fun bb h1 => (bb = true ↔ (bv = .none ∨ ∃ x t, bv = .int x t ∧ W0 < x)) ∧ h1 = h') ?_ ?_
    · rcases hbest.is with ⟨rfl, _⟩ | ⟨x, t, m, rfl, _⟩
      · walk_at "go"
        refine W_isNone ?_
        walk_at "go"
        rw [if_pos (by rfl)]
        exact ⟨by simp, rfl⟩
      · walk_at "go"
        refine W_isNone ?_
        walk_at "go"
        rw [if_neg (by simp)]
        walk_at "go"
        by_cases hlt : W0 < x
        · rw [if_pos (by simpa using hlt)]
          exact ⟨by simp [hlt], rfl⟩
        · rw [if_neg (by simpa using hlt)]
          walk_at "go"
          exact ⟨by simp [hlt], rfl⟩
    rintro bb h1 ⟨hbb, rfl⟩
    cases bb with
    | false =>
      rw [if_neg (by decide), if_neg (by decide)]
      refine W_nil (W_nil (next bv ⟨?_⟩ B5 _ _ (Le.refl _) S))
      have hno : ¬ (bv = .none ∨ ∃ x t, bv = .int x t ∧ W0 < x) := fun h => by have := hbb.mpr h; cases this
      rcases hbest.is with ⟨rfl, _⟩ | ⟨x, t, m, rfl, h1, h2, h3, h4⟩
      · exact absurd (.inl rfl) hno
      · refine .inr ⟨x, t, m, rfl, by omega, h2, h3, fun m' hm' hj => ?_⟩
        rcases Nat.lt_or_eq_of_le (Nat.lt_succ_iff.mp hm') with h | rfl
        · exact h4 m' h hj
        · rw [hW0]
          have : ¬ W0 < x := fun h => hno (.inr ⟨x, t, rfl, h⟩)
          omega
    | true =>
      rw [if_pos rfl]
      walk_at "go"
      refine (W_ldG E (by walk_at "mem") glen (kg.trans (kb.trans S.keep)) ?_)
      refine W_callWith ?_
      walk_at "go"
      refine (W_ldG E (by walk_at "mem") gset (kg.trans (kb.trans S.keep)) ?_)
      refine W_callWith ?_
      refine W_itemsCons ?_ (by with_unfolding_all rfl)
      refine W_ListComp (cl := [("part", cp)]) (E.closure (by rfl) (by rfl)) rfl (by decide) ?_
      walk_at "go"
      obtain ⟨tpa, epa⟩ := hp.at' a a0 a1
      obtain ⟨tpb, epb⟩ := hp.at' b b0 b1
      obtain ⟨tpc, epc⟩ := hp.at' c c0 c1
      refine W_compList (own := [_, _, _]) (ex := ex) R'.hh S (isList_le hsl (kg.trans kb)) (by simp) [(".0", none), ("v", none)] (by simp) (by decide)
        (fun C cs i B lc ys o => cs = ([("part", cp)] : List (Str × Addr)) ∧ o = [(cn, celO x4), (co, celO x5), (cp, celO (some (.ref D5)))] ∧ (∃ u, lc = ([(".0", none), ("v", u)] : Loc)) ∧ ys = [Value.int (P a) tpa, .int (P b) tpb, .int (P c) tpc].take i) (fun _ C cs own' l _ _ => ?_) ?_ ?_
      · cases l; exact ⟨rfl, rfl, ⟨_, rfl⟩, rfl⟩
      · rintro C' cs ownC i2 v2 B6 lc zs o ex2 h' l hv2 kB6 ⟨rfl, rfl, ⟨u3, rfl⟩, rfl⟩ S
        (try simp only [List.nil_append, List.cons_append] at S)
        refine W_inEnv (names := [(".0", .local), ("v", .local), ("part", .cell)]) (E.comp rfl rfl (by decide) (by show (["part"] : List Str).Nodup; decide) (by decide)) fun E => ?_
        have hps6 := isList_le hps kB6
        have key : ∃ x t y ty, v2 = .int x t ∧ 0 ≤ x ∧ x < n ∧ ps[x.toNat]? = some (.int y ty) ∧ [Value.int (P a) tpa, .int (P b) tpb, .int (P c) tpc].take (i2 + 1) = [Value.int (P a) tpa, .int (P b) tpb, .int (P c) tpc].take i2 ++ [Value.int y ty] := by
          match i2, hv2 with
          | 0, hv2 => simp at hv2; exact ⟨_, _, _, _, hv2.symm, a0, a1, epa, rfl⟩
          | 1, hv2 => simp at hv2; exact ⟨_, _, _, _, hv2.symm, b0, b1, epb, rfl⟩
          | 2, hv2 => simp at hv2; exact ⟨_, _, _, _, hv2.symm, c0, c1, epc, rfl⟩
          | n + 3, hv2 => simp at hv2
        obtain ⟨x, t, y, ty, rfl, x0, x1', ey, etk⟩ := key
        refine W_asName (W_st E S (by walk_at "mem") (by walk_at "put") fun h' S => ?_)
        refine W_testsNil ?_
        rw [if_pos rfl]
        walk_at "go"
        refine W_itemList (isList_le hps6 S.keep) x0 (x := .int y ty) (by simpa using ey) (by omega) ?_
        exact ⟨B6, _, [_, _, _], Le.refl _, S, rfl, rfl, ⟨_, rfl⟩, etk.symm⟩
      rintro C' cs B6 lc zs o D6 kk6 g6 h' kB6 ⟨rfl, rfl, ⟨u3, rfl⟩, rfl⟩ k7 k8 oC m S hm
      refine FinC.none S hm fun h' S => ?_
      obtain ⟨B7, S, kb7, hD6⟩ := S.settle1
      (try simp only [List.nil_append, List.cons_append] at S)
      walk_at "go"
      refine ⟨Kept.type _ _ _, ?_⟩
      refine W_setList (vs := [Value.int (P a) tpa, .int (P b) tpb, .int (P c) tpc]) (ns := [P a, P b, P c]) R'.hh S ⟨_, S.keep _ _ hD6, rfl, _, rfl⟩ (.cons _ _ (.cons _ _ (.cons _ _ .nil))) (by simp) fun sa so h' S hsa hso => ?_
      walk_at "go"
      refine ⟨Kept.builtin _ _ _, ?_⟩
      have hdl : distinct [P a, P b, P c] ≤ 3 := firstMet_length_le _ _
      refine W_lenSet hsa hso (by omega) fun t => ?_
      walk_at "go"
      have hd3 := distinct3 (P a) (P b) (P c)
      have hjo : Joined (edgesOf xs) a b c i ↔ (P a = P b ∧ P a = P c) := by unfold Joined; rw [hP]
      have kB7 := k7.trans kb7
      by_cases hj : P a = P b ∧ P a = P c
      · rw [if_pos (by rw [hd3.mpr hj]; rfl)]
        walk_at "go"
        rw [if_pos rfl]
        walk_at "go"
        refine W_nil (W_nil (next _ ⟨.inr ⟨W0, _, i, rfl, by omega, hjo.mpr hj, hW0, fun m' hm' hj' => ?_⟩⟩ B7 _ _ kB7 S))
        rcases Nat.lt_or_eq_of_le (Nat.lt_succ_iff.mp hm') with h | rfl
        · rcases hbest.is with ⟨rfl, hno⟩ | ⟨x, t, m, rfl, h1, h2, h3, h4⟩
          · exact absurd hj' (hno m' h)
          · have := h4 m' h hj'
            rcases hbb.mp rfl with e | ⟨x', t', e, hlt⟩
            · cases e
            · cases e; omega
        · omega
      · rw [if_neg (by
          intro h
          have : distinct [P a, P b, P c] = 1 := by have := beq_iff_eq.mp h; omega
          exact hj (hd3.mp this))]
        rw [if_neg (by decide)]
        refine W_nil (W_nil (next bv ⟨?_⟩ B7 _ _ kB7 S))
        rcases hbest.is with ⟨rfl, hno⟩ | ⟨x, t, m, rfl, h1, h2, h3, h4⟩
        · refine .inl ⟨rfl, fun m hm => ?_⟩
          rcases Nat.lt_or_eq_of_le (Nat.lt_succ_iff.mp hm) with h | rfl
          · exact hno m h
          · exact fun h => hj (hjo.mp h)
        · refine .inr ⟨x, t, m, rfl, by omega, h2, h3, fun m' hm' hj' => ?_⟩
          rcases Nat.lt_or_eq_of_le (Nat.lt_succ_iff.mp hm') with h | rfl
          · exact h4 m' h hj'
          · exact absurd (hjo.mp hj') hj
  rintro B5 ls' o h' kB5 ⟨bv, u1, u2, u3, u4, u5, x1, x2, x3, kb, rfl, rfl, hbest⟩ S
  rw [tnat] at hbest
  (try simp only [List.nil_append, List.cons_append] at S)
  walk_at "go"
  obtain ⟨B6, S, k1, _⟩ := S.settle1
  obtain ⟨B7, S, k2, _⟩ := S.settle1
  obtain ⟨B8, S, k3', _⟩ := S.settle1
  obtain ⟨g', S', q1, q2, q3⟩ := S0.leave kB (kb.trans (k1.trans (k2.trans k3'))) S
  exact q bv g' _ q1 S' hbest
end
end Mine
namespace Mine
open PySem PySem.Spec PySem.Calls PyProof.Rows PySem.W Builtin Builtin.ObjectAttr

theorem ty_dict : typeOf (.type "dict") = pure (.type "type") := by rfl
section
variable {prog : Program} {w : World} {A : Around} {s₀ : Shared} {h g : Heap} {L : Addr} {ls : Loc} {own : List (Addr × Obj)} {K : Frag} {x C : Addr} {ox : Obj} {od : Option Obj} {name : Str} {T : String}
theorem looks_tyattr {M : Model} (X : K.In h) (I : InstAt h x ox C od) (hty : typeOf (.type T) = pure (.type "type")) (hg : findIn K (.type "type") "__get__" = some none) (ha : findIn K (.ref C) name = some (some (.type T))) (hd : hasDictIn K C = true)
    (hl : od.bind (lookIn name) = some none) (hc : copiedNames.contains name = false) : Looks M h (find (.ref x) (.ref C) name) (.value (.type T)) := by
  obtain ⟨cd, hcd, hdi⟩ := any_some hd
  obtain ⟨o, rfl, hlo⟩ := Option.bind_eq_some_iff.mp hl
  have L1 := looks_findIn (M := M) X ha
  have L2 : Looks M h (specialOf (.type T) "__get__") none := (Looks.of_pure hty).andThen (looks_findIn X hg)
  have hown : PySem.W.ownOf cd (some o) name = some none := by unfold PySem.W.ownOf; rw [if_pos hdi]; exact hlo
  have L3 := looks_own (M := M) X I hcd hown
  have G : Looks M h (copiedAttributeGuard name (.ref x)) () := by
    unfold copiedAttributeGuard
    dsimp only
    split
    · rename_i q2
      have q2 : copiedNames.contains name = true := q2
      rw [hc] at q2; cases q2
    · exact .now
  refine L1.andThen (L2.andThen (Looks.now.andThen (L3.andThen (G.andThen ?_))))
  exact Looks.tag ((Looks.of_pure (handedOut_of rfl)).andThen .now)
theorem get_tyattr {E : Value → Shared → Prop} {s : Shared} {expr : Bool} {Q : Value → Shared → Prop} (X : K.In s.heap) (I : InstAt s.heap x ox C od) (hga : findIn K (.ref C) "__getattribute__" = some (some (.builtin "object.__getattribute__")))
    (hty : typeOf (.type T) = pure (.type "type")) (hg : findIn K (.type "type") "__get__" = some none) (ha : findIn K (.ref C) name = some (some (.type T))) (hd : hasDictIn K C = true)
    (hl : od.bind (lookIn name) = some none) (hc : copiedNames.contains name = false) (q : Q (.type T) { s with toks := s.toks + 1 }) : wpAny (model prog w) A (getAttr (.ref x) name expr) Q E s := by
  refine get_open X I hga ?_
  obtain ⟨hh', g, d, t, os⟩ := s
  have L0 := I.type (M := model prog w)
  have L1 := looks_tyattr (M := model prog w) X I hty hg ha hd hl hc
  refine wpAny_bind (wpAny_pure (wpAny_bind (L0.at (wpAny_bind (L1.at ?_)))))
  refine wpAny_pure ?_
  show wpAny _ _ (handedOut _) _ _ _
  rw [handedOut_of rfl]; exact wpAny_pure q
theorem method_tyattr {E : Value → Shared → Prop} {s : Shared} {pl : Sem Bool} {Q : Value × List Value → Shared → Prop} (X : K.In s.heap) (I : InstAt s.heap x ox C od) (hga : findIn K (.ref C) "__getattribute__" = some (some (.builtin "object.__getattribute__")))
    (hk : findIn K (.ref C) "__getattr__" = some none) (hty : typeOf (.type T) = pure (.type "type")) (ha : findIn K (.ref C) name = some (some (.type T)))
    (y : wpAny (model prog w) A (getAttr (.ref x) name) (fun v => Q (v, [])) E s) : wpAny (model prog w) A (getMethod (.ref x) name pl) Q E s := by
  have hcan := PySem.F.canon_object_ga
  have u : wpAny (model prog w) A (do return (← getAttr (.ref x) name, ([] : List Value))) Q E s := wpAny_bind (wpAny_mono y (fun _ _ z => wpAny_pure z) fun _ _ z => z)
  unfold getMethod specialOf
  refine wpAny_bind (wpAny_bind (I.type.here ((looks_findIn X hga).here ?_)))
  dsimp only
  rw [hcan, if_neg (by decide)]
  refine wpAny_bind (wpAny_bind (I.type.here ((looks_findIn X hk).here ?_)))
  refine wpAny_bind (wpAny_bind (I.type.here ((looks_findIn X ha).here ?_)))
  refine wpAny_bind (wpAny_of_eq hty ?_)
  rw [if_pos (by decide)]; exact u

/-- what a class of the text must be for our rules: plain reading, plain writing -/
structure Cls (K : Frag) (C : Addr) : Prop where
  ga : findIn K (.ref C) "__getattribute__" = some (some (.builtin "object.__getattribute__"))
  gt : findIn K (.ref C) "__getattr__" = some none
  tg : findIn K (.type "type") "__get__" = some none
  sa : findIn K (.ref C) "__setattr__" = some (some (.builtin "object.__setattr__"))
  over : plainOver K C = true
  isc : isClsIn K C = true
theorem W_mType {pl : Sem Bool} {Q : Value × List Value → Heap → Prop} (X : K.In h) (Cl : Cls K C) (I : InstAt h x ox C od) (hd : hasDictIn K C = true) (ha : findIn K (.ref C) name = some (some (.type T))) (hl : od.bind (lookIn name) = some none)
    (q : Q (.type T, []) h) (hc : copiedNames.contains name = false := by decide) (hty : typeOf (.type T) = pure (.type "type") := by rfl) : W (model prog w) A s₀ (getMethod (.ref x) name pl) Q h :=
  W.of fun tk Q' k => method_tyattr X I Cl.ga Cl.gt hty ha (get_tyattr X I Cl.ga hty Cl.tg ha hd hl hc (k _ _ _ q))
theorem W_mFn {pl : Sem Bool} {Q : Value × List Value → Heap → Prop} {f : Addr} (X : K.In h) (Cl : Cls K C) (I : InstAt h x ox C od) (ha : findIn K (.ref C) name = some (some (.ref f))) (ht : isFn K (.ref f) = true) (hl : shadowIn od name = some false)
    (q : Q (.ref f, [.ref x]) h) : W (model prog w) A s₀ (getMethod (.ref x) name pl) Q h :=
  W.of fun tk Q' k => method_fn X I Cl.ga Cl.gt ha (beq_iff_eq.mp ht) hl (k _ _ _ q)
theorem W_getOwn {expr : Bool} {v : Value} {Q : Value → Heap → Prop} {attr : Option Value} {o : Obj} (X : K.In h) (Cl : Cls K C) (I : InstAt h x ox C (some o)) (hd : hasDictIn K C = true) (ha : findIn K (.ref C) name = some attr) (hn : noGet K attr = true) (hl : lookIn name o = some (some v))
    (hv : handedIn v = true) (q : Q v h) : W (model prog w) A s₀ (getAttr (.ref x) name expr) Q h :=
  W.of fun tk Q' k => get_value X I Cl.ga (findObj_own hd ha hn hl) hv (k _ _ _ q)
theorem W_getSlot {expr : Bool} {v : Value} {Q : Value → Heap → Prop} {p i : Nat} {o : Obj} (X : K.In h) (Cl : Cls K C) (I : InstAt h x ox C (some o)) (ha : findIn K (.ref C) name = some (some (.ref p))) (hn : specialIn K (.ref p) "__get__" = some (some (.builtin "member_descriptor.__get__"))) (ht : takesIn K (.ref p) = some true) (hp : slotIn K p C = some i)
    (hv : (ox.slots[i]?).join = some v) (hh : handedIn v = true) (q : Q v h) : W (model prog w) A s₀ (getAttr (.ref x) name expr) Q h :=
  W.of fun tk Q' k => get_bind X I Cl.ga (findObj_data Cl.isc ha hn ht) Cl.gt (wpAny_call (slot_get (s := { s₀ with heap := h, toks := tk + 1 }) X I hp hv (handed_on hh (k _ _ _ q))))
theorem W_AttrN {n attr : Str} {np pos : Pos} {env : Env} {Q : Value → Heap → Prop} (y : W (model prog w) A s₀ (eval (.Name n np) env) (fun o h1 => W (model prog w) A s₀ (getAttr o attr true) Q h1) h) : W (model prog w) A s₀ (eval (.Attribute (.Name n np) attr pos) env) Q h :=
  W.of fun tk Q' k => Attribute_name (y.use fun _ _ _ z => z.use k)
theorem typeCall_dict0 : checkTypeCall "dict" ⟨[], []⟩ = pure () := by kernel_rfl
theorem newCall_dict0 : checkBuiltinCall "dict.__new__" ⟨[.type "dict"], []⟩ = pure () := by kernel_rfl
theorem args_init0 (a : Value) : argsOk "dict.__init__" ⟨[a], []⟩ := by
  unfold argsOk
  kernel_rfl
theorem code_dict0 {E : Value → Shared → Prop} {s : Shared} {Q₁ : Value → Shared → Prop} (q : Q₁ (.ref s.heap.objs.size) { s with heap := s.heap.push { cls := .type "dict", data := .dict #[] } }) :
    codeAny (model prog w) A (.call (.builtin "dict.__new__") ⟨[.type "dict"], []⟩) (wants Q₁ E) s := by
  refine codeAny_call_builtin F.kt_plain_dict_new F.kt_entry_dict_new (wpAny_of_eq newCall_dict0 ?_)
  have hsub := F.kt_sub_dict
  have hmro := F.kt_mro_dict
  obtain ⟨hp, g, d, tk, os⟩ := s
  unfold Builtin.«dict.__new__»
  wp_walk
  exact q
theorem call_dict0 {E : Value → Shared → Prop} {s : Shared} {Q : Value → Shared → Prop} (q : Q (.ref s.heap.objs.size) { s with heap := s.heap.push dicE }) : wpAny (model prog w) A (call (.type "dict") []) Q E s := by
  refine callType_codes (Q₁ := fun obj s₁ => obj = .ref s.heap.objs.size ∧ s₁ = { s with heap := s.heap.push { cls := .type "dict", data := .dict #[] } }) F.kt_called_dict typeCall_dict0 F.entry_dict_init (code_dict0 ⟨rfl, rfl⟩) ?_
  rintro obj s₁ ⟨rfl, rfl⟩
  have ty : Shared.TypeIs { s with heap := s.heap.push { cls := .type "dict", data := .dict #[] } } (.ref s.heap.objs.size) "dict" := ⟨_, Heap.get?_push_size _ rfl, rfl⟩
  refine ⟨ty, args_init0 _, ?_⟩
  unfold Builtin.«dict.__init__»
  refine wpAny_bind ?_
  unfold Builtin.Dict.selfAndRest
  refine wpAny_bind (wpAny_notOrdered_dict ty ?_)
  show wpAny _ _ (pure (s.heap.objs.size, ([] : List Value))) _ _ _
  refine wpAny_pure ?_
  show wpAny _ _ (Builtin.Dict.updateCommon "dict.__init__" "dict" s.heap.objs.size [] []) _ _ _
  unfold Builtin.Dict.updateCommon
  refine wpAny_bind (m := Builtin.Dict.addKeywords s.heap.objs.size []) (wpAny_of_eq (a := ()) (by rfl) ?_)
  exact wpAny_pure ⟨rfl, q⟩
theorem W_dict0 {Q : Value → Heap → Prop} (S : Fm g L ls own h) (q : ∀ a h', Fm g L ls ((a, dicE) :: own) h' → h.get? a = none → Le h h' → Q (.ref a) h') : W (model prog w) A s₀ (call (.type "dict") []) Q h :=
  W.of fun tk Q' k => call_dict0 (k _ _ _ (q _ _ S.push (fresh_none h) fun b o e => Heap.get?_push_of_some _ e))
end
end Mine
namespace Mine
open PySem PySem.Spec PySem.Calls PyProof.Rows PySem.W

abbrev SK (prog : Program) (w : World) := strKind prog w
section
variable {prog : Program} {w : World} {A : Around} {s₀ : Shared} {env : Env} {h g B : Heap} {L d o₂ : Addr} {ls : Loc} {own : List (Addr × Obj)} {o : Obj} {K : Type} [DecidableEq K] {knd : KeyKind prog w K} {kvs more : List (K × Value)} {k : K} {key : Value}
theorem emptyDict_is : (dicE : Obj).IsDictOf knd [] := by
  obtain ⟨o, ho, hd⟩ := Heap.dictOf_iff.mp (Heap.DictOf.new (knd := knd) ({ objs := #[] } : Heap))
  rw [Heap.get?_push_size _ rfl] at ho
  cases ho
  exact hd
theorem dict_at (ho : h.get? d = some o) (T : o.IsDictOf knd kvs) : h.DictOf knd d kvs := Heap.dictOf_iff.mpr ⟨o, ho, T⟩
theorem dict_le (x : g.DictOf knd d kvs) (k : Le g h) : h.DictOf knd d kvs := let ⟨o, es, ep, e, r⟩ := x; ⟨o, es, ep, k _ _ e, r⟩
theorem W_updD {own' : Obj → List (Addr × Obj)} {Q : Value → Heap → Prop} (S : Fm B L ls own h) (U : ∀ o', Upd1 d o o' own (own' o')) (T : o.IsDictOf knd kvs) (T2 : h.DictOf knd o₂ more) (hne : d ≠ o₂) (hs : (o₂ == sysModules) = false) (hz : kvs.length + more.length ≤ 1000)
    (q : ∀ o' h', o'.IsDictOf knd (merged kvs more) → Fm B L ls (own' o') h' → Q .none h') : W (model prog w) A s₀ (call (.builtin "dict.update") [.ref d, .ref o₂]) Q h :=
  W.of fun tk Q' k => by
    have hD : h.DictOf knd d kvs := dict_at (S.get (U o).mem) T
    refine call_meetsIn PySem.F.slot_dict_update (Heap.DictOf.typeIs (s := { s₀ with heap := h, toks := tk }) hD) PySem.F.entry_dict_update (PySem.F.args_dict_update_2 _ _) (meets_dict_update knd d o₂ hne hs)
      ⟨kvs, more, hD, T2, by rw [sizeLine_eq]; omega, fun h' hm _ hsb => ?_⟩
    obtain ⟨o', ho', T'⟩ := Heap.dictOf_iff.mp hm
    exact k _ _ _ (q o' h' T' (S.changed (U o') hsb ho'))
theorem W_getD2 {dflt : Value} {Q : Value → Heap → Prop} (hkey : knd.is k key = true) (hD : h.DictOf knd d kvs) (hs : (d == sysModules) = false) (q : Q ((valueAt kvs k).getD dflt) h) : W (model prog w) A s₀ (call (.builtin "dict.get") [.ref d, key, dflt]) Q h :=
  W.of fun tk Q' kk => call_meetsIn PySem.F.slot_dict_get (Heap.DictOf.typeIs (s := { s₀ with heap := h, toks := tk }) hD) PySem.F.entry_dict_get (PySem.F.args_dict_get_3 _ _ _) (meets_dict_get_default knd d hkey hs dflt) ⟨_, hD.mapOf, kk _ _ _ q⟩
theorem W_itemD {value slice : Expr} {v : Value} {Q : Value → Heap → Prop} (hkey : knd.is k key = true) (hD : h.DictOf knd d kvs) (hv : valueAt kvs k = some v) (q : Q v h)
    (hs : subscripted slice false (.ref d) key = operate [.ref d, key] (getItem (.ref d) key) := by with_unfolding_all rfl) : W (model prog w) A s₀ (subscriptTail value slice (.ref d) key) Q h :=
  W_tail (by obtain ⟨o, _, _, e, c, _⟩ := hD; exact ⟨d, o, rfl, e, c.1⟩) F.slot_dict_getitem.lookup (W.of fun tk Q' kk => wpAny_getItem_of hkey hD.mapOf hv (kk _ _ _ q)) hs
theorem W_inD {Q : Value → Heap → Prop} (hkey : knd.is k key = true) (hD : h.DictOf knd d kvs) (hs : (d == sysModules) = false) (q : Q (.bool (valueAt kvs k).isSome) h) : W (model prog w) A s₀ (compareOp .In key (.ref d)) Q h :=
  W.of fun tk Q' kk => wpAny_in_of hkey hs hD.mapOf (kk _ _ _ q)
theorem W_notInD {Q : Value → Heap → Prop} (hkey : knd.is k key = true) (hD : h.DictOf knd d kvs) (hs : (d == sysModules) = false) (q : Q (.bool (!(valueAt kvs k).isSome)) h) : W (model prog w) A s₀ (compareOp .NotIn key (.ref d)) Q h :=
  W.of fun tk Q' kk => wpAny_notIn_of hkey hs hD.mapOf (kk _ _ _ q)
theorem W_mDict {m id : String} {pl : Sem Bool} {Q : Value × List Value → Heap → Prop} (slot : Slot "dict" m id) (hty : typeOf (.builtin id) = pure (.type "method_descriptor")) (hD : h.DictOf knd d kvs) (q : Q (.builtin id, [.ref d]) h) :
    W (model prog w) A s₀ (getMethod (.ref d) m pl) Q h :=
  W.of fun tk Q' kk => by
    have ty := Heap.DictOf.typeIs (s := { s₀ with heap := h, toks := tk }) hD
    obtain ⟨o, _, _, e, c, _⟩ := hD
    exact getMethod_builtin ty F.plainAttrs_dict slot hty (fun a ha => by cases ha; exact ⟨o, e, c.2.1⟩) (kk _ _ _ q)
end
end Mine
namespace Mine
open PySem PySem.Spec PySem.Calls PyProof.Rows PySem.W Builtin Builtin.ObjectAttr

/-! the own names of an object -/
inductive SEs : List DictEntry → List (Str × Value) → Prop
  | nil : SEs [] []
  | cons {n v es l} (hsh : Int) (t : Tok) : SEs es l → SEs (⟨hsh, .str n t, v⟩ :: es) ((n, v) :: l)
def putA (n : Str) (v : Value) : List (Str × Value) → List (Str × Value)
  | [] => [(n, v)]
  | p :: r => if p.1 == n then (p.1, v) :: r else p :: putA n v r
theorem SEs.len {es l} (x : SEs es l) : es.length = l.length := by
  induction x with
  | nil => rfl
  | cons _ _ _ ih => simp [ih]
theorem SEs.noref {es l} (x : SEs es l) : es.any (·.refKey) = false := by
  induction x with
  | nil => rfl
  | cons _ _ _ ih => simp [ih]; rfl
theorem SEs.find {es l} (x : SEs es l) (y : Str) : (es.find? (·.key.isStr y)).map (·.val) = l.lookup y := by
  induction x with
  | nil => rfl
  | @cons n v es l hsh t x ih =>
    rw [List.find?_cons, List.lookup_cons]
    have e : (Value.str n t).isStr y = (y == n) := by
      show (n == y) = (y == n)
      exact BEq.comm
    rw [e]
    cases y == n with
    | true => rfl
    | false => exact ih
theorem SEs.get {es l} (x : SEs es l) (y : Str) : getL y es = some (l.lookup y) := by
  have := x.find y
  unfold getL
  cases h : es.find? (·.key.isStr y) with
  | some e => rw [h] at this; simp only [Option.map_some] at this; rw [← this]
  | none => rw [h] at this; simp only [Option.map_none] at this; rw [← this]; simp only [x.noref]; rfl
theorem SEs.put {es l} (x : SEs es l) (n : Str) (hsh : Int) (t : Tok) (v : Value) : SEs (putL n hsh (.str n t) v es) (putA n v l) := by
  induction x with
  | nil => exact .cons _ _ .nil
  | @cons m u es l hsh' t' x ih =>
    unfold putL putA
    have e : (Value.str m t').isStr n = (m == n) := rfl
    rw [e]
    cases h : m == n with
    | true => simp only [if_true]; exact .cons _ _ x
    | false => simp only [Bool.false_eq_true, if_false]; exact .cons _ _ ih

/-- a heap, its objects up to m -/
def cut (g : Heap) (m : Nat) : Heap := { g with objs := g.objs.extract 0 m }
theorem cut_le (g : Heap) (m : Nat) : Le (cut g m) g := fun b o e => by
  unfold cut Heap.get? at e
  unfold Heap.get?
  dsimp only at e
  cases h : (g.objs.extract 0 m)[b]? with
  | none => rw [h] at e; cases e
  | some x =>
    have : g.objs[b]? = some x := by
      rw [Array.getElem?_extract] at h
      split at h
      · simpa using h
      · cases h
    rw [this]; rw [h] at e; exact e
theorem cut_get {g : Heap} {m b : Nat} {o : Obj} (e : g.get? b = some o) (hb : b < m) : (cut g m).get? b = some o := by
  have hs := Heap.lt_size e
  unfold cut Heap.get?
  unfold Heap.get? at e
  have : (g.objs.extract 0 m)[b]? = g.objs[b]? := by
    rw [Array.getElem?_extract]
    split
    · simp
    · rename_i q; exfalso; have : b < min m g.objs.size := Nat.lt_min.mpr ⟨hb, hs⟩; omega
  dsimp only
  rw [this]; exact e
theorem cut_size (g : Heap) (m : Nat) : (cut g m).objs.size ≤ m := by unfold cut; simp; omega

theorem upd_of {dx : Addr} {o o' : Obj} : ∀ {l l' : List (Addr × Obj)}, Upd1 dx o o' l l' → (l.map (·.1)).Nodup → ∀ r : List (Addr × Obj), (∀ p ∈ r, p.1 ≠ dx) → Upd dx o o' (l ++ r) (l' ++ r)
  | _, _, .head (r := r0), nd, r, hr => .head fun p hp => by
      rw [List.map_cons, List.nodup_cons] at nd
      rcases List.mem_append.mp hp with h | h
      · exact fun e => nd.1 (List.mem_map.mpr ⟨p, h, e⟩)
      · exact hr p h
  | _, _, .tail (p := p) U, nd, r, hr => by
      rw [List.map_cons, List.nodup_cons] at nd
      exact .tail (fun e => nd.1 (List.mem_map.mpr ⟨_, U.mem, e.symm⟩)) (upd_of U nd.2 r hr)

/-- the kit's fragment K stands in g, below m -/
structure Gd (K : Frag) (m : Nat) (g : Heap) : Prop where
  X : K.In g
  top : ∀ a o, K.lookup a = some o → a < m
  sys : ∃ o, g.get? sysModules = some o
theorem Gd.le {K : Frag} {m : Nat} {g h : Heap} (x : Gd K m g) (k : Le g h) : Gd K m h := ⟨x.X.keeps k, x.top, let ⟨o, e⟩ := x.sys; ⟨o, k _ _ e⟩⟩
theorem Gd.cut {K : Frag} {m : Nat} {g : Heap} (x : Gd K m g) : K.In (cut g m) := fun a o e => cut_get (x.X a o e) (x.top a o e)

section
variable {prog : Program} {w : World} {A : Around} {s₀ : Shared} {h g : Heap} {L : Addr} {ls : Loc} {own : List (Addr × Obj)} {K : Frag} {m : Nat} {x C dx : Addr} {ox : Obj} {name : Str}
theorem W_setOwn {es : List DictEntry} {n : Nat} {l : List (Str × Value)} {v : Value} {own' : Obj → List (Addr × Obj)} {Q : Unit → Heap → Prop} (S : Fm g L ls own h) (D : Gd K m g) (hL : m ≤ L) (Cl : Cls K C) (I : InstAt h x ox C (some (dictOf es n))) (hdx : ox.dict = some dx)
    (ht : takerIn K C name = some none) (hh : hasDictIn K C = true) (T : SEs es l) (hz : l.length ≤ 100) (U : ∀ o', Upd1 dx (dictOf es n) o' own (own' o'))
    (q : ∀ es' n' h', SEs es' (putA name v l) → Fm g L ls (own' (dictOf es' n')) h' → Q () h') : W (model prog w) A s₀ (setAttr (.ref x) name v) Q h :=
  W.of fun tk Q' k => by
    obtain ⟨mm, F, hm, N⟩ := S.fr (cut_le g m) (Nat.le_trans (cut_size g m) hL)
    have hmem := (U (dictOf es n)).mem
    have hlen : (putL name (PyData.keyHash w.params name) (.str name (tk + 1)) v es).length ≤ 1000 := by
      have h1 := (T.put name (PyData.keyHash w.params name) (tk + 1) v).len
      have : (putA name v l).length ≤ l.length + 1 := by
        clear h1 T hz q U I k
        induction l with
        | nil => simp [putA]
        | cons p r ih => unfold putA; split <;> simp; omega
      omega
    have nd' : ∀ o', ((own' o').map (·.1)).Nodup := fun o' => (U o').addrs ▸ S.nd
    refine set_dict (news' := own' _ ++ restOf (cut g m) g) F D.cut N I hdx Cl.sa Cl.over ht hh (by rw [T.get name]; rfl) (es' := putL name (PyData.keyHash w.params name) (.str name (tk + 1)) v es) (n' := putN name es n) rfl
      (upd_of (U _) S.nd _ fun p hp e => ?_) hlen fun h' F' N' => ?_
    · have := (mem_restOf.mp hp).2
      rw [e, S.goff _ hmem] at this; cases this
    · refine k _ _ _ (q _ _ h' (T.put _ _ _ _) (S.back F' hm N' (cut_le g m) (nd' _) fun p hp => ?_))
      have : p.1 ∈ own.map (·.1) := by rw [← (U (dictOf (putL name (PyData.keyHash w.params name) (.str name (tk + 1)) v es) (putN name es n))).addrs]; exact List.mem_map_of_mem hp
      obtain ⟨p', hp', e⟩ := List.mem_map.mp this
      rw [← e]; exact S.goff p' hp'
/-- a class of the text is called -/
theorem W_make {rest : List Value} {kw : List (Str × Value)} {fI : Addr} {Q : Value → Heap → Prop} (S : Fm g L ls own h) (D : Gd K m g) (hm : makesIn K C = true) (hi : findIn K (.ref C) "__init__" = some (some (.ref fI))) (hf : isFn K (.ref fI) = true)
    (y : ∀ x dx h', Fm g L ls ((x, instObj C dx) :: (dx, dicE) :: own) h' → Le h h' → WC (model prog w) (A.under (.builtin "type.__call__" ⟨.ref C :: rest, kw⟩)) s₀ (.call (.ref fI) ⟨.ref x :: rest, kw⟩) (fun v h2 => v = .none ∧ Q (.ref x) h2) h') :
    WC (model prog w) A s₀ (.call (.ref C) ⟨rest, kw⟩) Q h := ⟨fun tk => by
  refine make_core (makes_of (D.le S.keep).X hm) (looks_findIn (D.le S.keep).X hi) (fun self => bind_fn (D.le S.keep).X self (beq_iff_eq.mp hf)) (.inl rfl) ?_
  have S1 := (S.push (o := dicE)).push (o := instObj C h.objs.size)
  rw [Heap.size_push] at S1
  exact codeAny_mono ((y (h.objs.size + 1) h.objs.size _ S1 (fun b o e => Heap.get?_push_of_some _ (Heap.get?_push_of_some _ e))).run tk) fun r s' ⟨v, h', tk', e, e', e2, q⟩ => by
    subst e; subst e'
    exact ⟨e2, _, _, _, rfl, rfl, q⟩⟩
end
end Mine
namespace Mine
open PySem PySem.Spec PySem.Calls PyProof.Rows PySem.W

section
variable {prog : Program} {w : World} {A : Around} {s₀ : Shared} {g h : Heap} {L : Addr} {ls : Loc} {own : List (Addr × Obj)} {K : Frag} {m : Nat}
theorem WC_defB {a : Addr} {o : Obj} {fd : FuncData} {body : List Stmt} {args : Args} {Q : Value → Heap → Prop} (lc : Loc) (S : Fm g L ls own h) (hroom : A.depth < recursionLimit)
    (ho : h.get? a = some o) (hdata : o.data = .func fd) (hlim : g.NoLimit) (hcd : h.CodeRec fd.code fd.qualname) (hbody : fd.body = .stmts body) (hlc : ∀ p ∈ lc, p.2 = none) (nl : (lc.map (·.1)).Nodup)
    (y : W (model prog w) A.in1 s₀ (bindArgs fd args) (fun binds h1 => ∃ own1, Fm g L ls own1 h1 ∧
      ∀ B C cs own' h', Laid (cellNames fd.scope.names) fd.closure own1 cs own' → Fm B C lc own' h' → Le h1 h' → (∀ b o, h1.get? b = some o → (∀ p ∈ own1, p.1 ≠ b) → B.get? b = some o) → Le g B → (∀ b o, h1.get? b = some o → b < C) →
      W (model prog w) A.in1 s₀ (bindsLoop (envF fd C cs a) binds) (fun _ h2 => Le g h2 ∧ W (model prog w) (A.deeper (envF fd C cs a)) s₀ (execs body (envF fd C cs a)) (fun f h3 => Q (retOf f) h3) h2) h') h)
    (hco : fd.scope.isCoroutine = false := by rfl) (hgen : fd.scope.isGenerator = false := by rfl) :
    WC (model prog w) A s₀ (.call (.ref a) args) Q h := ⟨fun tk => by
  refine codeAny_call_function hroom ho hdata hco hgen hbody hcd (y.use fun binds h1 tk1 ⟨own1, S1, q⟩ => ?_)
  refine (W_newEnv (Q := fun env h2 => Le g h2 ∧ W (model prog w) (A.deeper env) s₀ (execs body env) (fun f h3 => Q (retOf f) h3) h2) lc S1 hlc nl fun B C cs own' h' l S' k1 k2 k3 k4 => q B C cs own' h' l S' k1 k2 k3 k4).use fun env h2 tk2 ⟨kk, z⟩ => ?_
  refine ⟨hlim.keeps kk, codeAny_func (z.use fun f h3 tk3 q => ?_)⟩
  exact ⟨_, _, _, by cases f <;> rfl, rfl, q⟩⟩
/-- a call of a function of the text whose binding lays something new -/
theorem WC_fnB {a : Addr} {s : Stmt} {dv : Value} {args : Args} {Q : Value → Heap → Prop} (names : List (Str × NameKind)) (cells : List Str) (lc : Loc) (body : List Stmt) (Pb : List (Str × Value) → Heap → Prop)
    (G : FnIs g a s dv) (S : Fm g L ls own h) (hroom : A.depth < recursionLimit) (hlim : g.NoLimit) (hb : bodyF s = body) (hn : (scopeF s).names = names) (hcn : cellNames names = cells)
    (hbind : ∀ fd, fd.params = argsF s → fd.defaults = dv → fd.kwdefaults = .none → W (model prog w) A.in1 s₀ (bindArgs fd args) Pb h) (hlc : ∀ p ∈ lc, p.2 = none) (nl : (lc.map (·.1)).Nodup)
    (nd : (names.map (·.1)).Nodup) (dbg : ∀ p ∈ names, (p.1 == ("__debug__" : Str)) = false ∧ (p.1 == ("__classdict__" : Str)) = false)
    (hk : (scopeF s).kind = .function) (hco : (scopeF s).isCoroutine = false) (hgen : (scopeF s).isGenerator = false)
    (y : ∀ binds h1, Pb binds h1 → ∃ own1, Fm g L ls own1 h1 ∧ ∀ env B C cs own' h', Laid cells [] own1 cs own' → EnvOk env C names cs → ((∀ b o, h1.get? b = some o → b < C) ∧ ∀ o fd, g.get? a = some o → o.data = .func fd → env.code = fd.code) → Fm B C lc own' h' → Le h1 h' →
      (∀ b o, h1.get? b = some o → (∀ p ∈ own1, p.1 ≠ b) → B.get? b = some o) → Le g B →
      W (model prog w) A.in1 s₀ (bindsLoop env binds) (fun _ h2 => Le g h2 ∧ W (model prog w) (A.deeper env) s₀ (execs body env) (fun f h3 => Q (retOf f) h3) h2) h') (cnd : cells.Nodup) :
    WC (model prog w) A s₀ (.call (.ref a) args) Q h := by
  obtain ⟨o, fd, e1, e2, e3, e4, e5, e6, e7, e8, e9, e10, e11⟩ := G.ex
  refine WC_defB lc S hroom (S.keep _ _ e1) e2 hlim (e11.keeps S.keep) (by rw [e3, hb]) hlc nl ((hbind fd e5 e9 e10).mono fun binds h1 p => ?_) (by rw [e4]; exact hco) (by rw [e4]; exact hgen)
  obtain ⟨own1, S1, z⟩ := y binds h1 p
  refine ⟨own1, S1, fun B C cs own' h' l S' k1 k2 k3 k4 => ?_⟩
  rw [e4, hn, hcn, e8] at l
  refine z _ B C cs own' h' l (EnvOk.call (by rw [e4]; exact hk) (by rw [e4]; exact hn) e6 e7 nd ?_ dbg) ⟨k4, fun o' fd' q1 q2 => by rw [e1] at q1; cases q1; rw [e2] at q2; cases q2; rfl⟩ S' k1 k2 k3
  have : ∀ {cells : List Str} {c0 : List (Str × Addr)} {o1 cs o2}, Laid cells c0 o1 cs o2 → (cs.map (·.1)).Perm (cells ++ c0.map (·.1)) := by
    intro cells c0 o1 cs o2 l
    induction l with
    | nil => exact .refl _
    | cons a l ih => exact ih.trans (by simpa using (List.perm_middle (a := _) (l₁ := _) (l₂ := _)))
  exact (this l).nodup_iff.mpr (by simpa using cnd)

/-- the statement of a class: a method of it -/
abbrev meth (k j : Nat) : Stmt := subF (stm k) j
theorem bind_kw0 {fd : FuncData} {T : Addr} {x : Value} {h : Heap} (hp : fd.params = argsF (meth 32 6)) (hd : fd.defaults = .ref T) (hk : fd.kwdefaults = .none) (hT : h.get? T = some (tupO [.none])) (S : Fm g L ls own h) :
    W (model prog w) A s₀ (bindArgs fd ⟨[x], []⟩) (fun binds h1 => ∃ d, binds = ([("self", x), ("incoming_graph_data", .none), ("attr", .ref d)] : List (Str × Value)) ∧ Fm g L ls ((d, dicE) :: own) h1 ∧ Le h h1) h := by
  refine W.of fun tk Q' k => ?_
  obtain ⟨fn, fq, fp, fb, fs, fg, fc, fdd, fk⟩ := fd
  dsimp only at hp hd hk
  subst hp hd hk
  refine wpAny_bind (m := seqItems? (.ref T)) (wpAny_seqItems hT rfl ?_)
  refine wpAny_bind (m := alloc { cls := .type "dict", data := .dict #[] }) (wpAny_alloc ?_)
  exact wpAny_pure (k _ _ _ ⟨_, rfl, S.push, fun b o e => Heap.get?_push_of_some _ e⟩)
theorem W_AssignAttr {o : Expr} {attr : Str} {pos' pos : Pos} {value : Expr} {env : Env} {Q : Flow → Heap → Prop} (y : W (model prog w) A s₀ (eval value env) (fun v h1 => W (model prog w) A s₀ (eval o env) (fun ov h2 => W (model prog w) A s₀ (setAttr ov attr v) (fun _ h3 => Q .next h3) h2) h1) h)
    (hs : swapsWith value (some (.Attribute o attr pos')) pos.line env = pure false := by rfl) : W (model prog w) A s₀ (exec (.Assign [.Attribute o attr pos'] value pos) env) Q h :=
  W.of fun tk Q' k => plainObj_wpAny_Assign_Attribute (y.use fun _ _ _ z => z.use fun _ _ _ u => u.use fun _ _ _ q => k _ _ _ q) hs
theorem inst_at {x dx C : Addr} {o : Obj} (hx : h.get? x = some (instObj C dx)) (hd : h.get? dx = some o) : InstAt h x (instObj C dx) C (some o) := ⟨hx, rfl, rfl, hd⟩
/-- the class of the graphs, as the kit's fragment shows it -/
structure GrK (K : Frag) (C : Addr) : Prop where
  cls : Cls K C
  dict : hasDictIn K C = true
  f1 : findIn K (.ref C) "graph_attr_dict_factory" = some (some (.type "dict"))
  f2 : findIn K (.ref C) "node_dict_factory" = some (some (.type "dict"))
  f3 : findIn K (.ref C) "adjlist_outer_dict_factory" = some (some (.type "dict"))
  f4 : findIn K (.ref C) "adjlist_inner_dict_factory" = some (some (.type "dict"))
  f5 : findIn K (.ref C) "node_attr_dict_factory" = some (some (.type "dict"))
  f6 : findIn K (.ref C) "edge_attr_dict_factory" = some (some (.type "dict"))
  a1 : findIn K (.ref C) "graph" = some none
  a2 : findIn K (.ref C) "_node" = some none
  a3 : findIn K (.ref C) "_adj" = some none
  t1 : takerIn K C "graph" = some none
  t2 : takerIn K C "_node" = some none
  t3 : takerIn K C "_adj" = some none
theorem Fm.notSys {a : Addr} {o : Obj} (S : Fm g L ls own h) (D : Gd K m g) (hm : (a, o) ∈ own) : (a == sysModules) = false := by
  obtain ⟨os, hs⟩ := D.sys
  rw [beq_eq_false_iff_ne]
  rintro rfl
  have := S.goff _ hm
  rw [hs] at this; cases this
theorem Fm.apart {a b : Addr} {o p : Obj} (S : Fm g L ls own h) (h1 : (a, o) ∈ own) (h2 : (b, p) ∈ own) (hne : o.cls ≠ p.cls ∨ o.data ≠ p.data) : a ≠ b := by
  rintro rfl
  have e1 := S.get h1
  have e2 := S.get h2
  rw [e1] at e2; cases e2
  rcases hne with h | h <;> exact h rfl
theorem Fm.apartHead {a b : Addr} {o p : Obj} {r : List (Addr × Obj)} (S : Fm g L ls ((a, o) :: r) h) (h2 : (b, p) ∈ r) : a ≠ b := by
  have := S.nd
  rw [List.map_cons, List.nodup_cons] at this
  rintro rfl
  exact this.1 (List.mem_map.mpr ⟨_, h2, rfl⟩)
theorem W_Try {env : Env} {body : List Stmt} {h₀ : ExceptHandler} {hs : List ExceptHandler} {pos : Pos} {Q : Flow → Heap → Prop} (y : W (model prog w) A s₀ (execs body env) Q h) : W (model prog w) A s₀ (exec (.Try body (h₀ :: hs) [] [] pos) env) Q h :=
  W.of fun tk Q' k => wpAny_Try_except (y.use fun f h1 tk1 q => by cases f <;> first | exact wpAny_execs_nil (k _ _ _ q) | exact k _ _ _ q)
end
end Mine
namespace Mine
open PySem PySem.Spec PySem.Calls PyProof.Rows PySem.W
section
variable {prog : Program} {w : World} {A : Around} {s₀ : Shared} {env : Env} {h g : Heap} {L : Addr} {ls : Loc} {own ex : List (Addr × Obj)} {K : Type} [DecidableEq K] {knd : KeyKind prog w K} {kvs : List (K × Value)} {d : Addr} {ep : Nat}
abbrev itmO (d : Addr) (i n ep : Nat) (ok ov : Value) : Obj := { cls := .type "dict_itemiterator", dict := none, data := .fields #[.none, .bool false, .ref d, .int i 0, .int n 0, .int ep 0, ok, ov], slots := #[] }
theorem dictAt_le (x : g.DictAt knd d kvs ep) (k : Le g h) : h.DictAt knd d kvs ep := let ⟨o, es, e, r⟩ := x; ⟨o, es, k _ _ e, r⟩
theorem Itr.items {elts : List Expr} {x1 : Nat} {pos : Pos} {it : Addr} (hh : A.handled = none) (D : g.DictAt knd d kvs ep) :
    Itr prog w A s₀ (.Tuple elts x1 pos) g it kvs.length (fun i v h' => ∃ k x T key, kvs[i]? = some (k, x) ∧ v = .ref T ∧ knd.is k key = true ∧ h'.IsTuple T #[key, x]) (fun i o => ∃ ok ov, o = itmO d i kvs.length ep ok ov) where
  item := fun i h o hlt kg ho ⟨ok, ov, hO⟩ Q q => W.of fun tk Q' k => by
    subst hO
    have hit : h.objs.size ≠ it := fun e => Nat.lt_irrefl _ (e ▸ Heap.lt_size ho)
    refine wpAny_pyNext_items_item (it := it) (d := d) (kvs := kvs) (k := kvs[i].1) (v := kvs[i].2) ho (dictAt_le D kg) (List.getElem?_eq_getElem hlt) fun key h1 hk hout htup hsz hkeep => ?_
    refine k _ _ _ ⟨_, rfl, (fun _ _ e => nomatch e), W.of fun tk2 Q2 k2 => ?_⟩
    refine wpAny_letOwnedTupleGo_items hout fun h2 hit2 hs => k2 _ _ _ (q _ h2 _ ⟨kvs[i].1, kvs[i].2, h.objs.size, key, List.getElem?_eq_getElem hlt, rfl, hk, ?_⟩ (fun b o hb e => (hs.2 b hb).trans (hkeep b o hb e)) hit2 ⟨_, _, rfl⟩)
    exact ⟨_, (hs.2 _ hit).trans htup, rfl, _, rfl⟩
  self := fun h o kg ho ⟨ok, ov, hO⟩ Q q => W.of fun tk Q' k => by subst hO; exact kcp_self (it := it) ho (k _ _ _ q)
  done := fun h o kg ho ⟨ok, ov, hO⟩ Q q => W.of fun tk Q' k => by
    subst hO
    exact wpAny_pyNext_items_end hh (it := it) ho (dictAt_le D kg) (by simp) fun h' he => k _ _ _ ⟨rfl, q h' he⟩
theorem W_callItems {Q : Value → Heap → Prop} (S : Fm g L ls own h) (hD : h.DictOf knd d kvs) (hs : (d == sysModules) = false) (q : ∀ vw h', Fm g L ls own h' → Le h h' → h'.IsItemsView vw d → Q (.ref vw) h') : W (model prog w) A s₀ (call (.builtin "dict.items") [.ref d]) Q h :=
  W.of fun tk Q' k => call_meetsIn PySem.F.slot_dict_items (Heap.DictOf.typeIs (s := { s₀ with heap := h, toks := tk }) hD) PySem.F.entry_dict_items (PySem.F.args_dict_items_1 _) (meets_dict_items knd d hs)
    ⟨⟨kvs, hD⟩, k _ _ _ (q _ _ (S.grown fun b o e => Heap.get?_push_of_some _ e) (fun b o e => Heap.get?_push_of_some _ e) ⟨_, Heap.get?_push_size _ rfl, rfl, rfl⟩)⟩
theorem W_srcItems {vw : Addr} (hv : h.IsItemsView vw d) (D : h.DictAt knd d kvs ep) (Q : Value → Heap → Prop) (q : Q (.ref h.objs.size) (h.push (itmO d 0 kvs.length ep .none .none))) : W (model prog w) A s₀ (pyIter (.ref vw)) Q h :=
  W.of fun tk Q' k => wpAny_pyIter_items hv D (k _ _ _ q)
/-- a method called with a keyword -/
theorem W_CallMK {M : Model} {o : Expr} {name : Str} {apos pos : Pos} {args : List Expr} {kws : List Keyword} {Q : Value → Heap → Prop} {pl : Sem Bool}
    (y : W M A s₀ (eval o env) (fun ov h1 => W M A s₀ (getMethod ov name pl) (fun fx h2 => W M A s₀ (callWith pos fx.1 fx.2 (backTo pos (starEach args env)) (backToKw pos (keywordEach kws env))) Q h2) h1) h)
    (he : eval (.Call (.Attribute o name apos) args kws pos) env = (do
      let ov ← eval o env
      standAt apos.atName
      let (f, first) ← holding [ov] (getMethod ov name pl)
      callWith pos f first (backTo pos (starEach args env)) (backToKw pos (keywordEach kws env))) := by rfl) : W M A s₀ (eval (.Call (.Attribute o name apos) args kws pos) env) Q h :=
  W.of fun tk Q' k => methodCall_KW (pl := pl) (y.use fun f h1 tk1 z => z.use fun fx h2 tk2 u => u.use k) he
theorem W_callWithK {M : Model} {pos : Pos} {f : Value} {first : List Value} {e : Expr} {rest : List Expr} {kws : List Keyword} {Q : Value → Heap → Prop} (hall : (backToKw pos (keywordEach kws env)).all (·.1.isSome) = true)
    (y : W M A s₀ (spliced (backTo pos (starEach (e :: rest) env))) (fun vs h2 => W M A s₀ (evalAll ((backToKw pos (keywordEach kws env)).map (·.2))) (fun ks h3 => Kept M h3 f ∧ W M A s₀ (call f (first ++ vs) (((backToKw pos (keywordEach kws env)).filterMap (·.1)).zip ks)) Q h3) h2) h)
    (hp : ((backTo pos (starEach (e :: rest) env)).any (·.1) || (backToKw pos (keywordEach kws env)).any (·.1.isNone)) = false := by rfl) (he : starEach (e :: rest) env = (false, eval e env) :: starEach rest env := by rfl) :
    W M A s₀ (callWith pos f first (backTo pos (starEach (e :: rest) env)) (backToKw pos (keywordEach kws env))) Q h :=
  W.of fun tk Q' k => callWith_of (P := fun h => Kept M h f) hp (fun h X => X) (evalArgs_kw2 hall (y.use fun vs h2 tk2 z => z.use fun ks h3 tk3 u => ⟨u.1, u.2.use k⟩) he)
theorem W_setSlot {F₀ : Frag} {m : Nat} {x C : Addr} {ox o : Obj} {name : Str} {p i : Nat} {v : Value} {own' : Obj → List (Addr × Obj)} {Q : Unit → Heap → Prop} (S : Fm g L ls own h) (D : Gd F₀ m g) (hL : m ≤ L) (Cl : Cls F₀ C) (I : InstAt h x ox C (some o))
    (ht : takerIn F₀ C name = some (some (.ref p))) (hT : typeIn F₀ (.ref p) = some (.type "member_descriptor")) (hi : slotIn F₀ p C = some i) (hz : i < 1000)
    (hf : ({ ox with slots := (ox.slots ++ Array.replicate (i + 1 - ox.slots.size) none).setIfInBounds i (some v) } : Obj).isFreed = false) (U : ∀ o', Upd1 x ox o' own (own' o'))
    (q : ∀ h', Fm g L ls (own' { ox with slots := (ox.slots ++ Array.replicate (i + 1 - ox.slots.size) none).setIfInBounds i (some v) }) h' → Q () h') : W (model prog w) A s₀ (setAttr (.ref x) name v) Q h :=
  W.of fun tk Q' k => by
    obtain ⟨mm, F, hm, N⟩ := S.fr (cut_le g m) (Nat.le_trans (cut_size g m) hL)
    have hmem := (U ox).mem
    refine set_slot (news' := own' _ ++ restOf (cut g m) g) F D.cut N I Cl.sa Cl.over ht hT hi hz rfl hf
      (upd_of (U _) S.nd _ fun p hp e => ?_) fun h' F' N' => ?_
    · have := (mem_restOf.mp hp).2
      rw [e, S.goff _ hmem] at this; cases this
    · refine k _ _ _ (q h' (S.back F' hm N' (cut_le g m) ((U _).addrs ▸ S.nd) fun p hp => ?_))
      have : p.1 ∈ own.map (·.1) := by rw [← (U { ox with slots := (ox.slots ++ Array.replicate (i + 1 - ox.slots.size) none).setIfInBounds i (some v) }).addrs]; exact List.mem_map_of_mem hp
      obtain ⟨p', hp', e⟩ := List.mem_map.mp this
      rw [← e]; exact S.goff p' hp'
theorem W_Bool1 {op e pos} {Q : Value → Heap → Prop} (y : W (model prog w) A s₀ (eval e env) Q h) : W (model prog w) A s₀ (eval (.BoolOp op [e] pos) env) Q h := W.of fun tk Q' k => BoolOp_one (y.use k)
theorem W_BoolAnd {e₁ e₂ rest pos} {Q : Value → Heap → Prop} (y : W (model prog w) A s₀ (eval e₁ env) (fun v h1 => W (model prog w) A s₀ (truthy v) (fun c h2 => if c = true then W (model prog w) A s₀ (eval (.BoolOp .And (e₂ :: rest) pos) env) Q h2 else Q v h2) h1) h) :
    W (model prog w) A s₀ (eval (.BoolOp .And (e₁ :: e₂ :: rest) pos) env) Q h :=
  W.of fun tk Q' k => BoolOp_and (y.use fun v h1 tk1 z => z.use fun c h2 tk2 u => by
    cases c with
    | true => simp only [if_true] at u ⊢; exact u.use k
    | false => simp only [Bool.false_eq_true, if_false] at u ⊢; exact k _ _ _ u)
theorem W_leI {a b : Int} {t u : Tok} {Q : Value → Heap → Prop} (q : Q (.bool (decide (a ≤ b))) h) : W (model prog w) A s₀ (compareOp .LtE (.int a t) (.int b u)) Q h := W.of fun tk Q' k => PySem.P.le_int (k _ _ _ q)
theorem W_geI {a b : Int} {t u : Tok} {Q : Value → Heap → Prop} (q : Q (.bool (decide (a ≥ b))) h) : W (model prog w) A s₀ (compareOp .GtE (.int a t) (.int b u)) Q h := W.of fun tk Q' k => PySem.P.ge_int (k _ _ _ q)
theorem W_evalAll0 {M : Model} {Q : List Value → Heap → Prop} (q : Q [] h) : W M A s₀ (evalAll []) Q h := W.of fun tk Q' k => wpAny_evalAll_nil (k _ _ _ q)
theorem W_evalAll1 {M : Model} {x : Sem Value} {rest : List (Sem Value)} {Q : List Value → Heap → Prop} (y : W M A s₀ x (fun v h1 => W M A s₀ (evalAll rest) (fun vs h2 => Q (v :: vs) h2) h1) h) : W M A s₀ (evalAll (x :: rest)) Q h :=
  W.of fun tk Q' k => wpAny_evalAll_cons (y.use fun v h1 tk1 z => z.use fun vs h2 tk2 q => k _ _ _ q)
end
end Mine
namespace Mine
open PySem PySem.Spec PySem.Calls PyProof.Rows PySem.W
section
variable {prog : Program} {w : World} {A : Around} {s₀ : Shared} {g h : Heap} {L : Addr} {ls : Loc} {own : List (Addr × Obj)} {K : Frag} {m : Nat}
theorem graph_init {f T C x dx : Addr} {k : Nat} {Q : Value → Heap → Prop} (G : FnIs g f (meth 32 6) (.ref T)) (hT : g.get? T = some (tupO [.none])) (GK : GrK K C) (D : Gd K m g) (hm : ∀ b o, g.get? b = some o → b < m → True)
    (hml : ∃ o, g.get? (m - 1) = some o) (R : Room A k) (hk : k ≤ 20) (S0 : Fm g L ls ((x, instObj C dx) :: (dx, dicE) :: own) h) (lim : g.NoLimit)
    (q : ∀ es n gd nd ad g' h', SEs es [("graph", .ref gd), ("_node", .ref nd), ("_adj", .ref ad)] → Le g g' → Fm g' L ls ((ad, dicE) :: (nd, dicE) :: (x, instObj C dx) :: (dx, dictOf es n) :: own) h' → Q .none h') :
    WC (model prog w) A s₀ (.call (.ref f) ⟨[.ref x], []⟩) Q h := by
  refine WC_fnB [("self", .local), ("incoming_graph_data", .local), ("attr", .local)] [] [("self", none), ("incoming_graph_data", none), ("attr", none)] _
    (fun binds h1 => ∃ d, binds = ([("self", .ref x), ("incoming_graph_data", .none), ("attr", .ref d)] : List (Str × Value)) ∧ Fm g L ls ((d, dicE) :: (x, instObj C dx) :: (dx, dicE) :: own) h1 ∧ Le h h1)
    G S0 (R.deep (by omega)) lim rfl rfl rfl (fun fd e1 e2 e3 => bind_kw0 e1 e2 e3 (S0.keep _ _ hT) S0) (by simp) (by decide) (by decide) (by decide) rfl rfl rfl ?_ (by decide)
  rintro binds h1 ⟨da, rfl, S1, k01⟩
  refine ⟨_, S1, ?_⟩
  intro env B C' cs own' h' hL E ⟨hC, _⟩ S kl kB kg
  cases hL
  have kb := Le.refl B
  obtain ⟨om, hom⟩ := hml
  have hmC : m ≤ C' := by have : (m - 1 : Nat) < C' := hC _ _ (S1.keep _ _ hom); exact Nat.le_of_pred_lt this
  refine W_bindsCons (W_st E S (by walk_at "mem") (by walk_at "put") fun h' S => ?_)
  refine W_bindsCons (W_st E S (by walk_at "mem") (by walk_at "put") fun h' S => ?_)
  refine W_bindsCons (W_st E S (by walk_at "mem") (by walk_at "put") fun h' S => ?_)
  refine W_bindsNil ⟨kg.trans S.keep, ?_⟩
  have R' := R.deeper env
  refine W_cons (W_AssignAttr ?_)
  refine W_CallM ?_
  walk_at "go"
  refine W_mType (D.le (kg.trans S.keep)).X GK.cls (inst_at (S.get (by walk_at "mem")) (S.get (by walk_at "mem"))) GK.dict GK.f1 (by rfl) ?_
  refine W_callWith ?_
  walk_at "go"
  refine ⟨Kept.type _ _ _, ?_⟩
  refine W_dict0 S fun gd h' S _ _ => ?_
  walk_at "go"
  refine W_setOwn (es := []) (n := 0) S (D.le kg) hmC GK.cls (inst_at (S.get (by walk_at "mem")) (S.get (by walk_at "mem"))) rfl GK.t1 GK.dict .nil (by simp) (fun o' => (by walk_at "upd")) fun es1 n1 h' T1 S => ?_
  refine W_cons (W_AssignAttr ?_)
  refine W_CallM ?_
  walk_at "go"
  refine W_mType (D.le (kg.trans S.keep)).X GK.cls (inst_at (S.get (by walk_at "mem")) (S.get (by walk_at "mem"))) GK.dict GK.f2 (by show getL _ _ = _; rw [T1.get]; rfl) ?_
  refine W_callWith ?_
  walk_at "go"
  refine ⟨Kept.type _ _ _, ?_⟩
  refine W_dict0 S fun nd h' S _ _ => ?_
  walk_at "go"
  refine W_setOwn S (D.le kg) hmC GK.cls (inst_at (S.get (by walk_at "mem")) (S.get (by walk_at "mem"))) rfl GK.t2 GK.dict T1 (Nat.le_of_ble_eq_true (by rfl)) (fun o' => (by walk_at "upd")) fun es2 n2 h' T2 S => ?_
  refine W_cons (W_AssignAttr ?_)
  refine W_CallM ?_
  walk_at "go"
  refine W_mType (D.le (kg.trans S.keep)).X GK.cls (inst_at (S.get (by walk_at "mem")) (S.get (by walk_at "mem"))) GK.dict GK.f3 (by show getL _ _ = _; rw [T2.get]; rfl) ?_
  refine W_callWith ?_
  walk_at "go"
  refine ⟨Kept.type _ _ _, ?_⟩
  refine W_dict0 S fun ad h' S _ _ => ?_
  walk_at "go"
  refine W_setOwn S (D.le kg) hmC GK.cls (inst_at (S.get (by walk_at "mem")) (S.get (by walk_at "mem"))) rfl GK.t3 GK.dict T2 (Nat.le_of_ble_eq_true (by rfl)) (fun o' => (by walk_at "upd")) fun es3 n3 h' T3 S => ?_
  refine W_cons (W_If ?_)
  walk_at "go"
  refine W_isNotNone ?_
  walk_at "go"
  rw [if_neg (by decide)]
  refine W_nil ?_
  refine W_cons (W_Expr ?_ E.inter)
  refine W_CallM ?_
  refine W_AttrN ?_
  walk_at "go"
  refine W_getOwn (D.le (kg.trans S.keep)).X GK.cls (inst_at (S.get (by walk_at "mem")) (S.get (by walk_at "mem"))) GK.dict GK.a1 (by rfl) (by show getL _ _ = _; rw [T3.get]; rfl) (by rfl) ?_
  refine W_mDict (knd := IK prog w) (kvs := []) F.slot_dict_update F.type_dict_update (dict_at (S.get (a := gd) (by walk_at "mem")) emptyDict_is) ?_
  refine W_callWith ?_
  walk_at "go"
  refine ⟨Kept.builtin _ _ _, ?_⟩
  refine W_updD (knd := IK prog w) (kvs := []) (more := []) S (fun o' => (by walk_at "upd")) emptyDict_is (dict_at (S.get (a := da) (by walk_at "mem")) emptyDict_is) (by
    have := S.nd
    simp only [List.map_cons, List.nodup_cons, List.mem_cons, not_or] at this
    exact this.2.2.1.1) (S.notSys (D.le kg) (a := da) (by walk_at "mem")) (by simp) fun o' h' _ S => ⟨rfl, ?_⟩
  refine W_nil ?_
  have S := S.forget (own' := (ad, dicE) :: (nd, dicE) :: (x, instObj C dx) :: (dx, dictOf es3 n3) :: own) (.cons₂ _ (.cons₂ _ (.cons _ (.cons _ (List.Sublist.refl _)))))
  obtain ⟨g', S', q1, q2, q3⟩ := S1.leave kB (Le.refl B) S
  exact q es3 n3 gd nd ad g' _ T3 q1 S'
end
end Mine
namespace Mine
open PySem PySem.Spec PySem.Calls PyProof.Rows PySem.W

/-- a node of a graph under way: its dict of neighbours -/
structure Row where
  node : Int
  addr : Addr
  obj : Obj
  ents : List (Int × Addr × Int)
def rowsOwn (rs : List Row) : List (Addr × Obj) := rs.map fun r => (r.addr, r.obj)
def adjL (rs : List Row) : List (Int × Value) := rs.map fun r => (r.node, .ref r.addr)
def entL (es : List (Int × Addr × Int)) : List (Int × Value) := es.map fun e => (e.1, .ref e.2.1)
structure RowOk (prog : Program) (w : World) (B : Heap) (r : Row) : Prop where
  is : r.obj.IsDictOf (IK prog w) (entL r.ents)
  ents : ∀ e ∈ r.ents, (∃ t, B.DictOf (SK prog w) e.2.1 [("weight", .int e.2.2 t)]) ∧ (e.2.1 == sysModules) = false
theorem RowOk.le {prog : Program} {w : World} {B B' : Heap} {r : Row} (x : RowOk prog w B r) (k : Le B B') : RowOk prog w B' r := ⟨x.is, fun e he => let ⟨⟨t, d⟩, z⟩ := x.ents e he; ⟨⟨t, dict_le d k⟩, z⟩⟩
theorem stored_new {K : Type} [DecidableEq K] {kvs : List (K × Value)} {k : K} (h : valueAt kvs k = none) (v : Value) : stored kvs k v = kvs ++ [(k, v)] := by
  unfold stored
  rw [if_neg]
  intro ha
  obtain ⟨x, hx, e⟩ := List.any_eq_true.mp ha
  unfold valueAt at h
  rw [Option.map_eq_none_iff, List.find?_eq_none] at h
  exact h x hx (by simpa using e)
theorem valueAt_none {K : Type} [DecidableEq K] {kvs : List (K × Value)} {k : K} (h : k ∉ kvs.map (·.1)) : valueAt kvs k = none := by
  unfold valueAt
  rw [Option.map_eq_none_iff, List.find?_eq_none]
  intro x hx e
  exact h (List.mem_map.mpr ⟨x, hx, by simpa using e⟩)
theorem valueAt_some {K : Type} [DecidableEq K] {kvs : List (K × Value)} {k : K} {v : Value} (nd : (kvs.map (·.1)).Nodup) (h : (k, v) ∈ kvs) : valueAt kvs k = some v := by
  induction kvs with
  | nil => cases h
  | cons p r ih =>
    rw [List.map_cons, List.nodup_cons] at nd
    unfold valueAt
    rw [List.find?_cons]
    rcases List.mem_cons.mp h with rfl | h
    · simp
    · have : ¬ p.1 = k := fun e => nd.1 (List.mem_map.mpr ⟨_, h, e.symm⟩)
      simp only [this, decide_false]
      exact ih nd.2 h

section
variable {prog : Program} {w : World} {A : Around} {s₀ : Shared} {g h : Heap} {L : Addr} {ls : Loc} {own : List (Addr × Obj)} {K : Frag} {m : Nat}
theorem bind_nodes {fd : FuncData} {x l : Value} {h : Heap} (hp : fd.params = argsF (meth 32 13)) (hd : fd.defaults = .none) (hk : fd.kwdefaults = .none) (S : Fm g L ls own h) :
    W (model prog w) A s₀ (bindArgs fd ⟨[x, l], []⟩) (fun binds h1 => ∃ d, binds = ([("self", x), ("nodes_for_adding", l), ("attr", .ref d)] : List (Str × Value)) ∧ Fm g L ls ((d, dicE) :: own) h1 ∧ Le h h1) h := by
  refine W.of fun tk Q' k => ?_
  obtain ⟨fn, fq, fp, fb, fs, fg, fc, fdd, fk⟩ := fd
  dsimp only at hp hd hk
  subst hp hd hk
  refine wpAny_bind (m := alloc { cls := .type "dict", data := .dict #[] }) (wpAny_alloc ?_)
  exact wpAny_pure (k _ _ _ ⟨_, rfl, S.push, fun b o e => Heap.get?_push_of_some _ e⟩)

theorem add_nodes {f C x dx l gd nd ad : Addr} {k n : Nat} {es : List DictEntry} {vs : List Value} {ns : List Int} {Q : Value → Heap → Prop} (G : FnIs g f (meth 32 13) .none) (GK : GrK K C) (D : Gd K m g)
    (hml : ∃ o, g.get? (m - 1) = some o) (R : Room A k) (hk : k ≤ 20) (S0 : Fm g L ls ((ad, dicE) :: (nd, dicE) :: (x, instObj C dx) :: (dx, dictOf es n) :: own) h) (lim : g.NoLimit)
    (T : SEs es [("graph", .ref gd), ("_node", .ref nd), ("_adj", .ref ad)]) (hl : g.IsList l vs.toArray) (hi : IntsAre vs ns) (hnd : ns.Nodup) (hz : ns.length ≤ 10)
    (q : ∀ rs oad ond kn g' h', rs.map Row.node = ns → (∀ r ∈ rs, RowOk prog w g' r ∧ r.ents = []) → oad.IsDictOf (IK prog w) (adjL rs) → ond.IsDictOf (IK prog w) kn → kn.map (·.1) = ns → Le g g' →
      Fm g' L ls ((ad, oad) :: (nd, ond) :: (x, instObj C dx) :: (dx, dictOf es n) :: (rowsOwn rs ++ own)) h' → Q .none h') :
    WC (model prog w) A s₀ (.call (.ref f) ⟨[.ref x, .ref l], []⟩) Q h := by
  refine WC_fnB [("self", .local), ("nodes_for_adding", .local), ("attr", .local), ("n", .local), ("newnode", .local), ("newdict", .local), ("ndict", .local), ("TypeError", .globalImplicit), ("ValueError", .globalImplicit)] []
    [("self", none), ("nodes_for_adding", none), ("attr", none), ("n", none), ("newnode", none), ("newdict", none), ("ndict", none)] _
    (fun binds h1 => ∃ d, binds = ([("self", .ref x), ("nodes_for_adding", .ref l), ("attr", .ref d)] : List (Str × Value)) ∧ Fm g L ls ((d, dicE) :: (ad, dicE) :: (nd, dicE) :: (x, instObj C dx) :: (dx, dictOf es n) :: own) h1 ∧ Le h h1)
    G S0 (R.deep (by omega)) lim rfl rfl rfl (fun fd e1 e2 e3 => bind_nodes e1 e2 e3 S0) (by simp) (by decide) (by decide) (by decide) rfl rfl rfl ?_ (by decide)
  rintro binds h1 ⟨da, rfl, S1, k01⟩
  refine ⟨_, S1, ?_⟩
  intro env B C' cs own' h' hL E ⟨hC, _⟩ S kl kB kg
  cases hL
  have kb := Le.refl B
  obtain ⟨om, hom⟩ := hml
  have hmC : m ≤ C' := by have : (m - 1 : Nat) < C' := hC _ _ (S1.keep _ _ hom); exact Nat.le_of_pred_lt this
  refine W_bindsCons (W_st E S (by walk_at "mem") (by walk_at "put") fun h' S => ?_)
  refine W_bindsCons (W_st E S (by walk_at "mem") (by walk_at "put") fun h' S => ?_)
  refine W_bindsCons (W_st E S (by walk_at "mem") (by walk_at "put") fun h' S => ?_)
  refine W_bindsNil ⟨kg.trans S.keep, ?_⟩
  have R' := R.deeper env
  obtain ⟨B0, S, kb0, hda⟩ := S.settle1
  have hds : (da == sysModules) = false := S1.notSys D List.mem_cons_self
  refine W_cons (W_For (W_ld E S (by walk_at "mem") (by walk_at "mem") ?_))
  refine W_loopList (own := (ad, dicE) :: (nd, dicE) :: (x, instObj C dx) :: (dx, dictOf es n) :: []) (ex := own) R'.hh (NoGo.name _ _) S (isList_le hl (kg.trans kb0))
    (fun i B' ls o => ∃ rs oad ond kn u1 u2 u3 u4, Le B0 B' ∧ ls = ([("self", some (.ref x)), ("nodes_for_adding", some (.ref l)), ("attr", some (.ref da)), ("n", u1), ("newnode", u2), ("newdict", u3), ("ndict", u4)] : Loc) ∧
      o = (ad, oad) :: (nd, ond) :: (x, instObj C dx) :: (dx, dictOf es n) :: rowsOwn rs ∧ rs.map Row.node = ns.take i ∧ (∀ r ∈ rs, RowOk prog w B' r ∧ r.ents = []) ∧ oad.IsDictOf (IK prog w) (adjL rs) ∧ ond.IsDictOf (IK prog w) kn ∧ kn.map (·.1) = ns.take i)
    ⟨[], dicE, dicE, [], _, _, _, _, Le.refl _, rfl, rfl, rfl, (fun _ h => nomatch h), emptyDict_is, emptyDict_is, rfl⟩ ?_ ?_
  · rintro i v B' ls o ex h' hv kB' ⟨rs, oad, ond, kn, u1, u2, u3, u4, kb1, rfl, rfl, hrs, hok, hoad, hond, hkn⟩ S
    (try simp only [List.nil_append, List.cons_append] at S)
    have hilt : i < ns.length := by
      have := (Array.getElem?_eq_some_iff.mp hv).1
      have := hi.length
      simp at *; omega
    obtain ⟨t, e⟩ := hi.get i _ (List.getElem?_eq_getElem hilt)
    have hv' : vs[i]? = some v := by simpa using hv
    rw [hv'] at e
    obtain rfl := Option.some.inj e
    generalize hni : ns[i] = z at *
    have hfresh : z ∉ ns.take i := by
      rw [← hni]
      intro hm
      obtain ⟨j, hj, e⟩ := List.getElem_of_mem hm
      rw [List.getElem_take] at e
      have hj' : j < i := by simp at hj; omega
      exact absurd ((List.getElem_inj hnd).mp e) (by omega)
    have hnil : kn.length ≤ 10 := by have := congrArg List.length hkn; simp at this; omega
    have hrl : rs.length ≤ 10 := by have := congrArg List.length hrs; simp at this; omega
    have kg1 := kg.trans (kb0.trans kb1)
    have hDn := dict_at (S.get (a := nd) (by walk_at "mem")) hond
    refine W_asName (W_st E S (by walk_at "mem") (by walk_at "put") fun h' S => ?_)
    refine W_cons (W_Try ?_)
    refine W_cons ?_
    walk_at "go"
    refine W_AttrN ?_
    walk_at "go"
    refine W_getOwn (D.le (kg1.trans S.keep)).X GK.cls (inst_at (S.get (by walk_at "mem")) (S.get (by walk_at "mem"))) GK.dict GK.a2 (by rfl) (by show getL _ _ = _; rw [T.get]; rfl) (by rfl) ?_
    refine W_notInD (knd := IK prog w) (intKind_is _ _ _ _) (dict_at (S.get (a := nd) (by walk_at "mem")) hond) (S.notSys (D.le kg1) (a := nd) (by walk_at "mem")) ?_
    rw [valueAt_none (by rw [hkn]; exact hfresh)]
    walk_at "go"
    refine W_nil ?_
    refine W_cons (W_If (W_tVal ?_ (by with_unfolding_all rfl)))
    walk_at "go"
    rw [if_pos (by rfl)]
    refine W_cons (W_If ?_)
    walk_at "go"
    refine W_isNone ?_
    walk_at "go"
    rw [if_neg (by simp)]
    refine W_nil ?_
    refine W_cons (W_AssignSub ?_ (by with_unfolding_all rfl))
    refine W_CallM ?_
    walk_at "go"
    refine W_mType (D.le (kg1.trans S.keep)).X GK.cls (inst_at (S.get (by walk_at "mem")) (S.get (by walk_at "mem"))) GK.dict GK.f4 (by show getL _ _ = _; rw [T.get]; rfl) ?_
    refine W_callWith ?_
    walk_at "go"
    refine ⟨Kept.type _ _ _, ?_⟩
    refine W_dict0 S fun ia h' S _ _ => ?_
    refine W_AttrN ?_
    walk_at "go"
    refine W_getOwn (D.le (kg1.trans S.keep)).X GK.cls (inst_at (S.get (by walk_at "mem")) (S.get (by walk_at "mem"))) GK.dict GK.a3 (by rfl) (by show getL _ _ = _; rw [T.get]; rfl) (by rfl) ?_
    walk_at "go"
    have nadj : valueAt (adjL rs) z = none := valueAt_none (by
      have : (adjL rs).map (·.1) = rs.map Row.node := by unfold adjL; rw [List.map_map]; rfl
      rw [this, hrs]; exact hfresh)
    refine W_setD (o := oad) S (fun o' => (by walk_at "upd")) hoad (by unfold adjL; simp; omega) fun oad' h' hoad' S => ?_
    rw [stored_new nadj] at hoad'
    refine W_cons (W_AssignSub ?_ (by with_unfolding_all rfl))
    refine W_CallM ?_
    walk_at "go"
    refine W_mType (D.le (kg1.trans S.keep)).X GK.cls (inst_at (S.get (by walk_at "mem")) (S.get (by walk_at "mem"))) GK.dict GK.f5 (by show getL _ _ = _; rw [T.get]; rfl) ?_
    refine W_callWith ?_
    walk_at "go"
    refine ⟨Kept.type _ _ _, ?_⟩
    refine W_dict0 S fun na h' S _ _ => ?_
    refine W_AttrN ?_
    walk_at "go"
    refine W_getOwn (D.le (kg1.trans S.keep)).X GK.cls (inst_at (S.get (by walk_at "mem")) (S.get (by walk_at "mem"))) GK.dict GK.a2 (by rfl) (by show getL _ _ = _; rw [T.get]; rfl) (by rfl) ?_
    walk_at "go"
    have nnode : valueAt kn z = none := valueAt_none (by rw [hkn]; exact hfresh)
    refine W_setD (o := ond) S (fun o' => (by walk_at "upd")) hond (by omega) fun ond' h' hond' S => ?_
    rw [stored_new nnode] at hond'
    refine W_nil ?_
    refine W_cons (W_Expr ?_ E.inter)
    refine W_CallM ?_
    refine W_Subscript ?_
    refine W_AttrN ?_
    walk_at "go"
    refine W_getOwn (D.le (kg1.trans S.keep)).X GK.cls (inst_at (S.get (by walk_at "mem")) (S.get (by walk_at "mem"))) GK.dict GK.a2 (by rfl) (by show getL _ _ = _; rw [T.get]; rfl) (by rfl) ?_
    walk_at "go"
    have ndk : ((kn ++ [(z, Value.ref na)]).map (·.1)).Nodup := by
      rw [List.map_append, hkn, List.nodup_append]
      exact ⟨hnd.sublist (List.take_sublist _ _), by simp, fun a ha b hb => by simp at hb; subst hb; rintro rfl; exact hfresh ha⟩
    refine W_itemD (knd := IK prog w) (intKind_is _ _ _ _) (dict_at (S.get (a := nd) (by walk_at "mem")) hond') (v := .ref na) (valueAt_some ndk (by simp)) ?_
    refine W_mDict (knd := IK prog w) (kvs := []) F.slot_dict_update F.type_dict_update (dict_at (S.get (a := na) (by walk_at "mem")) emptyDict_is) ?_
    refine W_callWith ?_
    walk_at "go"
    refine ⟨Kept.builtin _ _ _, ?_⟩
    have hda1 := kb1 _ _ hda
    refine W_updD (knd := IK prog w) (kvs := []) (more := []) S (fun o' => (by walk_at "upd")) emptyDict_is (dict_at (S.keep _ _ hda1) emptyDict_is) (by
      rintro rfl
      have := S.goff _ List.mem_cons_self
      rw [hda1] at this; cases this) hds (by simp) fun o' h' _ S => ⟨rfl, ?_⟩
    have S := S.forget (own' := (ia, dicE) :: (ad, oad') :: (nd, ond') :: (x, instObj C dx) :: (dx, dictOf es n) :: (rowsOwn rs ++ ex)) (.cons _ (List.Sublist.refl _))
    have S := S.perm (List.perm_middle (a := (ia, dicE)) (l₁ := (ad, oad') :: (nd, ond') :: (x, instObj C dx) :: (dx, dictOf es n) :: rowsOwn rs) (l₂ := ex)).symm
    refine W_nil ⟨.inl rfl, B', _, (ad, oad') :: (nd, ond') :: (x, instObj C dx) :: (dx, dictOf es n) :: rowsOwn (rs ++ [⟨z, ia, dicE, []⟩]), Le.refl _, by simpa [rowsOwn] using S, rs ++ [⟨z, ia, dicE, []⟩], oad', ond', _, _, _, _, _, kb1, rfl, rfl, ?_, fun r hr => ?_, by simpa [adjL] using hoad', hond', ?_⟩
    · rw [List.map_append, hrs, List.take_add_one, List.getElem?_eq_getElem hilt, hni]; rfl
    · rcases List.mem_append.mp hr with hr | hr
      · exact hok r hr
      · rw [List.mem_singleton.mp hr]; exact ⟨⟨emptyDict_is, fun _ h => nomatch h⟩, rfl⟩
    · rw [List.map_append, hkn, List.take_add_one, List.getElem?_eq_getElem hilt, hni]; rfl
  rintro B' ls' o h' kB' ⟨rs, oad, ond, kn, u1, u2, u3, u4, kb1, rfl, rfl, hrs, hok, hoad, hond, hkn⟩ S
  have hsz : vs.toArray.size = ns.length := by simp [hi.length]
  rw [hsz, List.take_of_length_le (Nat.le_refl _)] at hrs hkn
  (try simp only [List.nil_append, List.cons_append] at S)
  refine W_nil ?_
  obtain ⟨g', S', q1, q2, q3⟩ := S1.leave kB (kb0.trans kb1) S
  refine q rs oad ond kn g' _ hrs (fun r hr => ?_) hoad hond hkn q1 S'
  obtain ⟨h1, h2⟩ := hok r hr
  exact ⟨⟨h1.is, fun e he => by rw [h2] at he; cases he⟩, h2⟩
end
end Mine
namespace Mine
open PySem PySem.Spec PySem.Calls PyProof.Rows PySem.W
section
variable {prog : Program} {w : World} {A : Around} {s₀ : Shared} {g h : Heap} {L : Addr} {ls : Loc} {own : List (Addr × Obj)} {K : Frag} {m : Nat}
theorem kw1_is {name : Str} {t : Tok} {v : Value} : (dictOf [⟨PyData.keyHash w.params name, .str name t, v⟩] 1).IsDictOf (SK prog w) [(name, v)] := by
  refine ⟨#[⟨PyData.keyHash w.params name, .str name t, v⟩], 1, ⟨rfl, rfl, rfl⟩, rfl, ?_, .cons (by show Value.isStrOf name (.str name t) = true; simp [Value.isStrOf, Value.isStr]) rfl .nil, by simp⟩
  intro e he
  simp at he
  subst he
  exact ⟨name, by show Value.isStrOf name (.str name t) = true; simp [Value.isStrOf, Value.isStr], rfl⟩
theorem nsSet_new {d : Addr} {name : Str} {v : Value} {E : Value → Shared → Prop} {s : Shared} {Q : Unit → Shared → Prop} (hd : s.heap.get? d = some dicE)
    (q : ∀ h' t tk, Heap.SameBut d s.heap h' → h'.get? d = some (dictOf [⟨PyData.keyHash w.params name, .str name t, v⟩] 1) → Q () { s with heap := h', toks := tk }) : wpAny (model prog w) A (nsSet d name v) Q E s := by
  unfold nsSet
  refine wpAny_bind (wpAny_bind (wpAny_askSetting (wpAny_pure (wpAny_bind (wpAny_mkText (wpAny_bind (wpAny_loadPart hd ?_)))))))
  dsimp only
  rw [aRefKeyMayBeTheName_at, if_neg (by simp)]
  have e : (s.heap.update d (Obj.putName name (PyData.keyHash w.params name) (.str name s.toks) v)).get? d = some (dictOf [⟨PyData.keyHash w.params name, .str name s.toks, v⟩] 1) := by
    rw [Heap.get?_update_self _ hd (by show (Obj.putName _ _ _ _ (dictOf [] 0)).isFreed = false; rw [putName_dict]; rfl)]
    show some (Obj.putName _ _ _ _ (dictOf [] 0)) = _
    rw [putName_dict]; rfl
  exact wpAny_updatePart hd (q _ _ _ (Heap.SameBut.update ..) e)
theorem bind_edge {fd : FuncData} {x u v c : Value} {h : Heap} (hp : fd.params = argsF (meth 32 18)) (hd : fd.defaults = .none) (hk : fd.kwdefaults = .none) (S : Fm g L ls own h) :
    W (model prog w) A s₀ (bindArgs fd ⟨[x, u, v], [("weight", c)]⟩) (fun binds h1 => ∃ d t, binds = ([("self", x), ("u_of_edge", u), ("v_of_edge", v), ("attr", .ref d)] : List (Str × Value)) ∧ Fm g L ls ((d, dictOf [⟨PyData.keyHash w.params "weight", .str "weight" t, c⟩] 1) :: own) h1 ∧ Le h h1) h := by
  refine W.of fun tk Q' k => ?_
  obtain ⟨fn, fq, fp, fb, fs, fg, fc, fdd, fk⟩ := fd
  dsimp only at hp hd hk
  subst hp hd hk
  refine wpAny_bind (m := alloc { cls := .type "dict", data := .dict #[] }) (wpAny_alloc ?_)
  have S1 := S.push (o := dicE)
  refine wpAny_bind (m := (forIn [(("weight" : Str), c)] PUnit.unit fun p _ => do nsSet h.objs.size p.1 p.2; pure (ForInStep.yield ⟨⟩) : Sem PUnit)) ?_
  rw [List.forIn_cons]
  refine wpAny_bind (wpAny_bind (nsSet_new (s := { s₀ with heap := h.push dicE, toks := tk }) (S1.get List.mem_cons_self) fun h' t tk' hs ho => wpAny_pure ?_))
  dsimp only
  rw [List.forIn_nil]
  refine wpAny_pure (wpAny_pure (k _ _ _ ⟨_, t, rfl, S1.changed .head hs ho, fun b o e => (hs.2 b (Nat.ne_of_lt (Heap.lt_size e))).trans (Heap.get?_push_of_some _ e)⟩))
theorem rows_append (a b : List Row) : rowsOwn (a ++ b) = rowsOwn a ++ rowsOwn b := by unfold rowsOwn; rw [List.map_append]
/-- one row has got an entry -/
structure RowPut (rs rs' : List Row) (z : Int) (e : Int × Addr × Int) : Prop where
  ex : ∃ r1 r o' r2, rs = r1 ++ r :: r2 ∧ r.node = z ∧ rs' = r1 ++ ⟨r.node, r.addr, o', r.ents ++ [e]⟩ :: r2
theorem RowPut.nodes {rs rs' z e} (x : RowPut rs rs' z e) : rs'.map Row.node = rs.map Row.node ∧ adjL rs' = adjL rs ∧ rs'.length = rs.length := by
  obtain ⟨r1, r, o', r2, rfl, _, rfl⟩ := x.ex
  refine ⟨by simp, by simp [adjL], by simp⟩
theorem W_setRow {B : Heap} {pre ex : List (Addr × Obj)} {r1 r2 : List Row} {r : Row} {v : Int} {t : Tok} {dd : Addr} {c : Int} {Q : Unit → Heap → Prop} (S : Fm B L ls (pre ++ (rowsOwn (r1 ++ r :: r2) ++ ex)) h) (ok : RowOk prog w B r) (hf : v ∉ r.ents.map (·.1)) (hz : r.ents.length ≤ 100)
    (q : ∀ o' h', o'.IsDictOf (IK prog w) (entL (r.ents ++ [(v, dd, c)])) → Fm B L ls (pre ++ (rowsOwn (r1 ++ ⟨r.node, r.addr, o', r.ents ++ [(v, dd, c)]⟩ :: r2) ++ ex)) h' → Q () h') : W (model prog w) A s₀ (setItem (.ref r.addr) (.int v t) (.ref dd)) Q h := by
  have form : ∀ (o : Obj) (es : List (Int × Addr × Int)), pre ++ (rowsOwn (r1 ++ ⟨r.node, r.addr, o, es⟩ :: r2) ++ ex) = (pre ++ rowsOwn r1) ++ (r.addr, o) :: (rowsOwn r2 ++ ex) := fun o es => by
    rw [rows_append]; simp [rowsOwn]
  have S : Fm B L ls ((pre ++ rowsOwn r1) ++ (r.addr, r.obj) :: (rowsOwn r2 ++ ex)) h := by rw [← form r.obj r.ents]; exact S
  have hn : valueAt (entL r.ents) v = none := valueAt_none (by
    have : (entL r.ents).map (·.1) = r.ents.map (·.1) := by unfold entL; rw [List.map_map]; rfl
    rw [this]; exact hf)
  refine W_setD (o := r.obj) (own' := fun o' => (pre ++ rowsOwn r1) ++ (r.addr, o') :: (rowsOwn r2 ++ ex)) S (fun o' => Fm.Upd1_mid _) ok.is (by unfold entL; simp; omega) fun o' h' hd S => ?_
  rw [stored_new hn] at hd
  refine q o' h' (by simpa [entL] using hd) ?_
  rw [form]; exact S

theorem add_edge {f C x dx nd ad gd : Addr} {k n : Nat} {es : List DictEntry} {rs : List Row} {oad ond : Obj} {kn : List (Int × Value)} {u v c : Int} {tu tv tc : Tok} {Q : Value → Heap → Prop} (G : FnIs g f (meth 32 18) .none) (GK : GrK K C) (D : Gd K m g)
    (hml : ∃ o, g.get? (m - 1) = some o) (R : Room A k) (hk : k ≤ 20) (S0 : Fm g L ls ((ad, oad) :: (nd, ond) :: (x, instObj C dx) :: (dx, dictOf es n) :: (rowsOwn rs ++ own)) h) (lim : g.NoLimit)
    (T : SEs es [("graph", .ref gd), ("_node", .ref nd), ("_adj", .ref ad)]) (hok : ∀ r ∈ rs, RowOk prog w g r) (hoad : oad.IsDictOf (IK prog w) (adjL rs)) (hond : ond.IsDictOf (IK prog w) kn) (hkn : kn.map (·.1) = rs.map Row.node)
    (hnd : (rs.map Row.node).Nodup) (hu : u ∈ rs.map Row.node) (hv : v ∈ rs.map Row.node) (huv : u ≠ v) (hfu : ∀ r ∈ rs, r.node = u → v ∉ r.ents.map (·.1) ∧ r.ents.length ≤ 50) (hfv : ∀ r ∈ rs, r.node = v → u ∉ r.ents.map (·.1) ∧ r.ents.length ≤ 50)
    (q : ∀ dd rs1 rs' g' h', RowPut rs rs1 u (v, dd, c) → RowPut rs1 rs' v (u, dd, c) → (∀ r ∈ rs', RowOk prog w g' r) → Le g g' → Fm g' L ls ((ad, oad) :: (nd, ond) :: (x, instObj C dx) :: (dx, dictOf es n) :: (rowsOwn rs' ++ own)) h' → Q .none h') :
    WC (model prog w) A s₀ (.call (.ref f) ⟨[.ref x, .int u tu, .int v tv], [("weight", .int c tc)]⟩) Q h := by
  refine WC_fnB [("self", .local), ("u_of_edge", .local), ("v_of_edge", .local), ("attr", .local), ("u", .local), ("v", .local), ("datadict", .local), ("ValueError", .globalImplicit)] []
    [("self", none), ("u_of_edge", none), ("v_of_edge", none), ("attr", none), ("u", none), ("v", none), ("datadict", none)] _
    (fun binds h1 => ∃ d t, binds = ([("self", .ref x), ("u_of_edge", .int u tu), ("v_of_edge", .int v tv), ("attr", .ref d)] : List (Str × Value)) ∧ Fm g L ls ((d, dictOf [⟨PyData.keyHash w.params "weight", .str "weight" t, .int c tc⟩] 1) :: (ad, oad) :: (nd, ond) :: (x, instObj C dx) :: (dx, dictOf es n) :: (rowsOwn rs ++ own)) h1 ∧ Le h h1)
    G S0 (R.deep (by omega)) lim rfl rfl rfl (fun fd e1 e2 e3 => bind_edge e1 e2 e3 S0) (by simp) (by decide) (by decide) (by decide) rfl rfl rfl ?_ (by decide)
  rintro binds h1 ⟨da, tda, rfl, S1, k01⟩
  refine ⟨_, S1, ?_⟩
  intro env B C' cs own' h' hL E ⟨hC, _⟩ S kl kB kg
  cases hL
  obtain ⟨om, hom⟩ := hml
  have hmC : m ≤ C' := by have : (m - 1 : Nat) < C' := hC _ _ (S1.keep _ _ hom); exact Nat.le_of_pred_lt this
  refine W_bindsCons (W_st E S (by walk_at "mem") (by walk_at "put") fun h' S => ?_)
  refine W_bindsCons (W_st E S (by walk_at "mem") (by walk_at "put") fun h' S => ?_)
  refine W_bindsCons (W_st E S (by walk_at "mem") (by walk_at "put") fun h' S => ?_)
  refine W_bindsCons (W_st E S (by walk_at "mem") (by walk_at "put") fun h' S => ?_)
  refine W_bindsNil ⟨kg.trans S.keep, ?_⟩
  have R' := R.deeper env
  obtain ⟨B0, S, kb0, hda⟩ := S.settle1
  have hds : (da == sysModules) = false := S1.notSys D List.mem_cons_self
  have D0 := D.le (kg.trans kb0)
  have hKn : ∀ z, z ∈ rs.map Row.node → (valueAt kn z).isSome = true := fun z hz => by
    rw [← hkn] at hz
    obtain ⟨p, hp, e⟩ := List.mem_map.mp hz
    rw [valueAt_some (v := p.2) (by rw [hkn]; exact hnd) (by rw [← e]; exact hp)]; rfl
  refine W_cons (W_AssignSwap R'.hh ?_ (E.swapped (by walk_at "mem") (by walk_at "mem") (by rfl) (by decide) (by decide)))
  walk_at "go"
  refine W_newTuple S (by simp) fun tt h' _ S kk => ?_
  refine ⟨tt, _, _, rfl, S.get List.mem_cons_self, fun h' Sx _ => ?_⟩
  have S := (Sx _ _ _ _ S).forget (List.sublist_cons_self _ _)
  walk_at "go"
  refine W_AttrN ?_
  walk_at "go"
  refine W_getOwn (D0.le S.keep).X GK.cls (inst_at (S.get (by walk_at "mem")) (S.get (by walk_at "mem"))) GK.dict GK.a2 (by rfl) (by show getL _ _ = _; rw [T.get]; rfl) (by rfl) ?_
  refine W_notInD (knd := IK prog w) (intKind_is _ _ _ _) (dict_at (S.get (a := nd) (by walk_at "mem")) hond) (S.notSys D0 (a := nd) (by walk_at "mem")) ?_
  rw [hKn u hu]
  walk_at "go"
  rw [if_neg (by decide)]
  refine W_nil ?_
  walk_at "go"
  refine W_AttrN ?_
  walk_at "go"
  refine W_getOwn (D0.le S.keep).X GK.cls (inst_at (S.get (by walk_at "mem")) (S.get (by walk_at "mem"))) GK.dict GK.a2 (by rfl) (by show getL _ _ = _; rw [T.get]; rfl) (by rfl) ?_
  refine W_notInD (knd := IK prog w) (intKind_is _ _ _ _) (dict_at (S.get (a := nd) (by walk_at "mem")) hond) (S.notSys D0 (a := nd) (by walk_at "mem")) ?_
  rw [hKn v hv]
  walk_at "go"
  rw [if_neg (by decide)]
  refine W_nil ?_
  have hAd : ∀ r ∈ rs, valueAt (adjL rs) r.node = some (.ref r.addr) := fun r hr => valueAt_some (by
    have : (adjL rs).map (·.1) = rs.map Row.node := by unfold adjL; rw [List.map_map]; rfl
    rw [this]; exact hnd) (List.mem_map.mpr ⟨r, hr, rfl⟩)
  obtain ⟨ru, hru, eu⟩ := List.mem_map.mp hu
  obtain ⟨rv, hrv, ev⟩ := List.mem_map.mp hv
  have hAu := hAd ru hru
  have hAv := hAd rv hrv
  rw [eu] at hAu
  rw [ev] at hAv
  refine W_cons (W_Assign ?_ (by with_unfolding_all rfl))
  refine W_CallM ?_
  refine W_Subscript ?_
  refine W_AttrN ?_
  walk_at "go"
  refine W_getOwn (D0.le S.keep).X GK.cls (inst_at (S.get (by walk_at "mem")) (S.get (by walk_at "mem"))) GK.dict GK.a3 (by rfl) (by show getL _ _ = _; rw [T.get]; rfl) (by rfl) ?_
  walk_at "go"
  refine W_itemD (knd := IK prog w) (intKind_is _ _ _ _) (dict_at (S.get (a := ad) (by walk_at "mem")) hoad) (v := .ref ru.addr) hAu ?_
  have memR : ∀ r ∈ rs, (r.addr, r.obj) ∈ (ad, oad) :: (nd, ond) :: (x, instObj C dx) :: (dx, dictOf es n) :: (rowsOwn rs ++ own) := fun r hr => by
    refine List.mem_cons_of_mem _ (List.mem_cons_of_mem _ (List.mem_cons_of_mem _ (List.mem_cons_of_mem _ (List.mem_append_left _ ?_))))
    exact List.mem_map.mpr ⟨r, hr, rfl⟩
  refine W_mDict (knd := IK prog w) F.slot_dict_get F.type_dict_get (dict_at (S.get (memR ru hru)) (hok ru hru).is) ?_
  refine W_callWith ?_
  walk_at "go"
  refine W_CallM ?_
  walk_at "go"
  refine W_mType (D0.le S.keep).X GK.cls (inst_at (S.get (by walk_at "mem")) (S.get (by walk_at "mem"))) GK.dict GK.f6 (by show getL _ _ = _; rw [T.get]; rfl) ?_
  refine W_callWith ?_
  walk_at "go"
  refine ⟨Kept.type _ _ _, ?_⟩
  refine W_dict0 S fun dd h' S _ _ => ?_
  walk_at "go"
  refine ⟨Kept.builtin _ _ _, ?_⟩
  refine W_getD2 (knd := IK prog w) (k := v) (kvs := entL ru.ents) (intKind_is _ _ _ _) (dict_at (S.get (List.mem_cons_of_mem _ (memR ru hru))) (hok ru hru).is) (S.notSys D0 (List.mem_cons_of_mem _ (memR ru hru))) ?_
  rw [valueAt_none (by
    have : (entL ru.ents).map (·.1) = ru.ents.map (·.1) := by unfold entL; rw [List.map_map]; rfl
    rw [this]; exact (hfu ru hru eu).1)]
  dsimp only [Option.getD_none]
  walk_at "go"
  refine W_Expr ?_ E.inter
  refine W_CallM ?_
  walk_at "go"
  refine W_mDict (knd := SK prog w) (kvs := []) F.slot_dict_update F.type_dict_update (dict_at (S.get (a := dd) (by walk_at "mem")) emptyDict_is) ?_
  refine W_callWith ?_
  walk_at "go"
  refine ⟨Kept.builtin _ _ _, ?_⟩
  refine W_updD (knd := SK prog w) (kvs := []) (more := [("weight", .int c tc)]) S (fun o' => (by walk_at "upd")) emptyDict_is (dict_at (S.keep _ _ hda) kw1_is) (by
      rintro rfl
      have := S.goff _ List.mem_cons_self
      rw [hda] at this; cases this) hds (by simp) fun odd h' hodd S => ⟨rfl, ?_⟩
  have hddL := S1.ne kB kb0 S List.mem_cons_self
  have hdds : (dd == sysModules) = false := S.notSys D0 List.mem_cons_self
  obtain ⟨B1, S, kb1, hdd⟩ := S.settle1
  have hddD : B1.DictOf (SK prog w) dd [("weight", .int c tc)] := dict_at hdd hodd
  have D1 := D0.le kb1
  have hok1 : ∀ r ∈ rs, RowOk prog w B1 r := fun r hr => (hok r hr).le (kg.trans (kb0.trans kb1))
  obtain ⟨r1, r2, ers⟩ := List.append_of_mem hru
  refine W_cons (W_AssignSub ?_ (by with_unfolding_all rfl))
  walk_at "go"
  refine W_AttrN ?_
  walk_at "go"
  refine W_getOwn (D1.le S.keep).X GK.cls (inst_at (S.get (by walk_at "mem")) (S.get (by walk_at "mem"))) GK.dict GK.a3 (by rfl) (by show getL _ _ = _; rw [T.get]; rfl) (by rfl) ?_
  walk_at "go"
  refine W_itemD (knd := IK prog w) (intKind_is _ _ _ _) (dict_at (S.get (a := ad) (by walk_at "mem")) hoad) (v := .ref ru.addr) hAu ?_
  walk_at "go"
  rw [ers] at S
  refine W_setRow (pre := [(ad, oad), (nd, ond), (x, instObj C dx), (dx, dictOf es n)]) (ex := own) (dd := dd) (c := c) S (hok1 ru hru) (hfu ru hru eu).1 (by have := (hfu ru hru eu).2; omega) fun ou h' hou S => ?_
  (try simp only [List.nil_append, List.cons_append] at S)
  have P1 : RowPut rs (r1 ++ ⟨ru.node, ru.addr, ou, ru.ents ++ [(v, dd, c)]⟩ :: r2) u (v, dd, c) := ⟨r1, ru, ou, r2, ers, eu, rfl⟩
  generalize hrs1 : r1 ++ ⟨ru.node, ru.addr, ou, ru.ents ++ [(v, dd, c)]⟩ :: r2 = rs1 at S P1
  obtain ⟨n1, n2, n3⟩ := P1.nodes
  have hrv1 : rv ∈ rs1 := by
    rw [← hrs1]
    rw [ers] at hrv
    rcases List.mem_append.mp hrv with h | h
    · exact List.mem_append_left _ h
    · rcases List.mem_cons.mp h with rfl | h
      · exact absurd (eu.symm.trans ev) huv
      · exact List.mem_append_right _ (List.mem_cons_of_mem _ h)
  obtain ⟨p1, p2, ers1⟩ := List.append_of_mem hrv1
  refine W_cons (W_AssignSub ?_ (by with_unfolding_all rfl))
  walk_at "go"
  refine W_AttrN ?_
  walk_at "go"
  refine W_getOwn (D1.le S.keep).X GK.cls (inst_at (S.get (by walk_at "mem")) (S.get (by walk_at "mem"))) GK.dict GK.a3 (by rfl) (by show getL _ _ = _; rw [T.get]; rfl) (by rfl) ?_
  walk_at "go"
  refine W_itemD (knd := IK prog w) (intKind_is _ _ _ _) (dict_at (S.get (a := ad) (by walk_at "mem")) hoad) (v := .ref rv.addr) hAv ?_
  walk_at "go"
  rw [ers1] at S
  refine W_setRow (pre := [(ad, oad), (nd, ond), (x, instObj C dx), (dx, dictOf es n)]) (ex := own) (dd := dd) (c := c) S (hok1 rv hrv) (hfv rv hrv ev).1 (by have := (hfv rv hrv ev).2; omega) fun ov h' hov S => ?_
  (try simp only [List.nil_append, List.cons_append] at S)
  have P2 : RowPut rs1 (p1 ++ ⟨rv.node, rv.addr, ov, rv.ents ++ [(u, dd, c)]⟩ :: p2) v (u, dd, c) := ⟨p1, rv, ov, p2, ers1, ev, rfl⟩
  refine W_nil ?_
  obtain ⟨g', S', q1, q2, q3⟩ := S1.leave kB (kb0.trans kb1) S
  refine q dd rs1 _ g' _ P1 P2 (fun r hr => ?_) q1 S'
  obtain ⟨tt', hdt⟩ : ∃ t, g'.DictOf (SK prog w) dd [("weight", .int c t)] := by
    obtain ⟨o, es', ep, e1, e2⟩ := hddD
    exact ⟨tc, o, es', ep, q2.ne _ _ e1 hddL, e2⟩
  have old : ∀ r ∈ rs, RowOk prog w g' r := fun r hr => (hok r hr).le q1
  have new : ∀ (r : Row) (o' : Obj) (z : Int), r ∈ rs → o'.IsDictOf (IK prog w) (entL (r.ents ++ [(z, dd, c)])) → RowOk prog w g' ⟨r.node, r.addr, o', r.ents ++ [(z, dd, c)]⟩ := fun r o' z hr hd => ⟨hd, fun e he => by
    rcases List.mem_append.mp he with he | he
    · exact (old r hr).ents e he
    · rw [List.mem_singleton.mp he]; exact ⟨⟨tt', hdt⟩, hdds⟩⟩
  have in1 : ∀ r ∈ rs1, RowOk prog w g' r := fun r hr => by
    rw [← hrs1] at hr
    rcases List.mem_append.mp hr with h | h
    · exact old r (by rw [ers]; exact List.mem_append_left _ h)
    · rcases List.mem_cons.mp h with rfl | h
      · exact new ru ou v hru hou
      · exact old r (by rw [ers]; exact List.mem_append_right _ (List.mem_cons_of_mem _ h))
  rcases List.mem_append.mp hr with h | h
  · exact in1 r (by rw [ers1]; exact List.mem_append_left _ h)
  · rcases List.mem_cons.mp h with rfl | h
    · exact new rv ov u hrv hov
    · exact in1 r (by rw [ers1]; exact List.mem_append_right _ (List.mem_cons_of_mem _ h))
end
end Mine
namespace Mine
open PySem PySem.Spec PySem.Calls PyProof.Rows PySem.W
section
variable {prog : Program} {w : World} {A : Around} {s₀ : Shared} {g h : Heap} {L : Addr} {ls : Loc} {own : List (Addr × Obj)} {K : Frag} {m : Nat}
theorem W_typeInt {i : Int} {t : Tok} {Q : Value → Heap → Prop} (q : Q (.type "int") h) : W (model prog w) A s₀ (call (.type "type") [.int i t]) Q h :=
  W.of fun tk Q' k => call_type_of (typeIs_int _ i t) (by decide) (k _ _ _ q)
theorem W_isPlain {a b : Value} {Q : Value → Heap → Prop} (hp : plainIs a b = true) (q : Q (.bool (a == b)) h) : W (model prog w) A s₀ (compareOp .Is a b) Q h := W.of fun tk Q' k => wpAny_is_plain hp (k _ _ _ q)
theorem count_kind {f : Addr} {k : Nat} {i : Int} {t : Tok} {Q : Value → Heap → Prop} (G : FnIs g f (stm 14) .none) (R : Room A k) (hk : k ≤ 30) (S0 : Fm g L ls own h) (lim : g.NoLimit) (gtype : Glo g "type" (.type "type")) (gint : Glo g "int" (.type "int"))
    (q : ∀ g' h' t, Le g g' → Fm g' L ls own h' → Q (.int 0 t) h') : WC (model prog w) A s₀ (.call (.ref f) ⟨[.int i t], []⟩) Q h := by
  refine WC_fn [("x", .local), ("t", .local), ("type", .globalImplicit), ("int", .globalImplicit), ("bool", .globalImplicit), ("float", .globalImplicit), ("str", .globalImplicit), ("bytes", .globalImplicit), ("list", .globalImplicit), ("tuple", .globalImplicit), ("dict", .globalImplicit), ("set", .globalImplicit), ("frozenset", .globalImplicit), ("_wall", .globalImplicit)] []
    [("x", none), ("t", none)] [("x", .int i t)] _ G S0 (R.deep (by omega)) lim rfl rfl rfl ?_ (by simp) (by decide) (by decide) (by decide) rfl rfl rfl ?_ (by decide)
  · intro fd tk e1 e2 e3
    refine BindsTo.of_eq ?_
    obtain ⟨fn, fq, fp, fb, fs, fg, fc, fd, fk⟩ := fd
    dsimp only at e1 e2 e3
    subst e1 e2 e3
    rfl
  intro env B C cs own' h' hL E _ S kl kB kg
  cases hL
  have kb := Le.refl B
  refine W_bindsCons (W_st E S (by walk_at "mem") (by walk_at "put") fun h' S => ?_)
  refine W_bindsNil ⟨kg.trans S.keep, ?_⟩
  refine W_cons ?_
  walk_at "go"
  refine (W_ldG E (by walk_at "mem") gtype (kg.trans (kb.trans S.keep)) ?_)
  refine W_callWith ?_
  walk_at "go"
  refine ⟨Kept.type _ _ _, W_typeInt ?_⟩
  walk_at "go"
  refine (W_ldG E (by walk_at "mem") gint (kg.trans (kb.trans S.keep)) ?_)
  refine W_isPlain (by rfl) ?_
  walk_at "go"
  rw [if_pos (by rfl)]
  rw [if_pos (by rfl)]
  walk_at "go"
  obtain ⟨g', S', q1, q2, q3⟩ := S0.leave kB kb S
  exact q g' _ _ q1 S'
end
end Mine
namespace Mine
open PySem PySem.Spec PySem.Calls PyProof.Rows PySem.W
/-- the class count, as the kit's fragment shows it -/
structure CtK (K : Frag) (C p0 p1 p2 : Addr) : Prop where
  cls : Cls K C
  t0 : takerIn K C "_fast" = some (some (.ref p0))
  t1 : takerIn K C "_cnt" = some (some (.ref p1))
  t2 : takerIn K C "_step" = some (some (.ref p2))
  m0 : typeIn K (.ref p0) = some (.type "member_descriptor")
  m1 : typeIn K (.ref p1) = some (.type "member_descriptor")
  m2 : typeIn K (.ref p2) = some (.type "member_descriptor")
  s0 : slotIn K p0 C = some 1
  s1 : slotIn K p1 C = some 0
  s2 : slotIn K p2 C = some 2
  f1 : findIn K (.ref C) "_cnt" = some (some (.ref p1))
  f2 : findIn K (.ref C) "_step" = some (some (.ref p2))
  g1 : specialIn K (.ref p1) "__get__" = some (some (.builtin "member_descriptor.__get__"))
  g2 : specialIn K (.ref p2) "__get__" = some (some (.builtin "member_descriptor.__get__"))
  k1 : takesIn K (.ref p1) = some true
  k2 : takesIn K (.ref p2) = some true
/-- an object whose slots are filled -/
abbrev slO (C dx : Addr) (l : List (Option Value)) : Obj := { cls := .ref C, dict := some dx, data := .plain, slots := l.toArray }
theorem slO_push (C dx : Addr) (l : List (Option Value)) (v : Value) : ({ slO C dx l with slots := ((slO C dx l).slots ++ Array.replicate (l.length + 1 - (slO C dx l).slots.size) none).setIfInBounds l.length (some v) } : Obj) = slO C dx (l ++ [some v]) := by
  have : (l.toArray ++ Array.replicate (l.length + 1 - l.toArray.size) none).setIfInBounds l.length (some v) = (l ++ [some v]).toArray := by
    apply Array.toList_inj.mp
    simp
  show Obj.mk _ _ _ _ = Obj.mk _ _ _ _
  rw [this]
theorem slO_put (C dx : Addr) (l : List (Option Value)) (i : Nat) (v : Value) (hi : i < l.length) : ({ slO C dx l with slots := ((slO C dx l).slots ++ Array.replicate (i + 1 - (slO C dx l).slots.size) none).setIfInBounds i (some v) } : Obj) = slO C dx (l.set i (some v)) := by
  have : (l.toArray ++ Array.replicate (i + 1 - l.toArray.size) none).setIfInBounds i (some v) = (l.set i (some v)).toArray := by
    have e : i + 1 - l.toArray.size = 0 := by simp; omega
    apply Array.toList_inj.mp
    rw [e]
    simp
  show Obj.mk _ _ _ _ = Obj.mk _ _ _ _
  rw [this]
/-- a counter -/
abbrev cntO (C dx : Addr) (n : Int) (t u : Tok) : Obj := slO C dx [some (.int n t), some (.bool true), some (.int 1 u)]
section
variable {prog : Program} {w : World} {A : Around} {s₀ : Shared} {g h : Heap} {L : Addr} {ls : Loc} {own : List (Addr × Obj)} {K : Frag} {m : Nat}
theorem W_pushSlot {x C dx : Addr} {o : Obj} {l : List (Option Value)} {name : Str} {p i : Nat} {v : Value} {own' : Obj → List (Addr × Obj)} {Q : Unit → Heap → Prop} (S : Fm g L ls own h) (D : Gd K m g) (hL : m ≤ L) (Cl : Cls K C) (hdx : h.get? dx = some o)
    (ht : takerIn K C name = some (some (.ref p))) (hT : typeIn K (.ref p) = some (.type "member_descriptor")) (hs : slotIn K p C = some i) (hi : i = l.length) (hz : i < 1000) (U : ∀ o', Upd1 x (slO C dx l) o' own (own' o'))
    (q : ∀ h', Fm g L ls (own' (slO C dx (l ++ [some v]))) h' → Q () h') : W (model prog w) A s₀ (setAttr (.ref x) name v) Q h := by
  subst hi
  refine W_setSlot S D hL Cl ⟨S.get (U (slO C dx l)).mem, rfl, rfl, hdx⟩ ht hT hs hz rfl U fun h' S => q h' ?_
  rw [slO_push] at S; exact S
theorem W_gapSlot {x C dx : Addr} {o : Obj} {name : Str} {p : Nat} {v : Value} {own' : Obj → List (Addr × Obj)} {Q : Unit → Heap → Prop} (S : Fm g L ls own h) (D : Gd K m g) (hL : m ≤ L) (Cl : Cls K C) (hdx : h.get? dx = some o)
    (ht : takerIn K C name = some (some (.ref p))) (hT : typeIn K (.ref p) = some (.type "member_descriptor")) (hs : slotIn K p C = some 1) (U : ∀ o', Upd1 x (slO C dx []) o' own (own' o'))
    (q : ∀ h', Fm g L ls (own' (slO C dx [none, some v])) h' → Q () h') : W (model prog w) A s₀ (setAttr (.ref x) name v) Q h := by
  have e : ({ slO C dx [] with slots := ((slO C dx []).slots ++ Array.replicate (1 + 1 - (slO C dx []).slots.size) none).setIfInBounds 1 (some v) } : Obj) = slO C dx [none, some v] := by rfl
  refine W_setSlot S D hL Cl ⟨S.get (U (slO C dx [])).mem, rfl, rfl, hdx⟩ ht hT hs (by decide) rfl U fun h' S => q h' ?_
  rw [e] at S; exact S
theorem W_putSlot {x C dx : Addr} {o : Obj} {l : List (Option Value)} {name : Str} {p i : Nat} {v : Value} {own' : Obj → List (Addr × Obj)} {Q : Unit → Heap → Prop} (S : Fm g L ls own h) (D : Gd K m g) (hL : m ≤ L) (Cl : Cls K C) (hdx : h.get? dx = some o)
    (ht : takerIn K C name = some (some (.ref p))) (hT : typeIn K (.ref p) = some (.type "member_descriptor")) (hs : slotIn K p C = some i) (hi : i < l.length) (hz : i < 1000) (U : ∀ o', Upd1 x (slO C dx l) o' own (own' o'))
    (q : ∀ h', Fm g L ls (own' (slO C dx (l.set i (some v)))) h' → Q () h') : W (model prog w) A s₀ (setAttr (.ref x) name v) Q h := by
  refine W_setSlot S D hL Cl ⟨S.get (U (slO C dx l)).mem, rfl, rfl, hdx⟩ ht hT hs hz rfl U fun h' S => q h' ?_
  rw [slO_put _ _ _ _ _ hi] at S; exact S
end
section
variable {prog : Program} {w : World} {A : Around} {s₀ : Shared} {g h : Heap} {L : Addr} {ls : Loc} {own : List (Addr × Obj)} {K : Frag} {m : Nat}
theorem count_init {f fk T C x dx p0 p1 p2 : Addr} {k : Nat} {t0 t1 : Tok} {Q : Value → Heap → Prop} (G : FnIs g f (meth 15 1) (.ref T)) (G2 : FnIs g fk (stm 14) .none) (hT : g.get? T = some (tupO [.int 0 t0, .int 1 t1])) (CK : CtK K C p0 p1 p2) (D : Gd K m g)
    (hml : ∃ o, g.get? (m - 1) = some o) (R : Room A k) (hk : k ≤ 20) (S0 : Fm g L ls ((x, instObj C dx) :: (dx, dicE) :: own) h) (lim : g.NoLimit)
    (gkind : Glo g "_count_kind" (.ref fk)) (gtype : Glo g "type" (.type "type")) (gint : Glo g "int" (.type "int")) (tmx : Tok) (gmax : Glo g "_MAXSIZE" (.int 9223372036854775807 tmx))
    (q : ∀ t u g' h', Le g g' → Fm g' L ls ((x, cntO C dx 0 t u) :: (dx, dicE) :: own) h' → Q .none h') :
    WC (model prog w) A s₀ (.call (.ref f) ⟨[.ref x], []⟩) Q h := by
  refine WC_fn [("self", .local), ("start", .local), ("step", .local), ("k_start", .local), ("k_step", .local), ("fast", .local), ("_count_kind", .globalImplicit), ("TypeError", .globalImplicit), ("_MAXSIZE", .globalImplicit)] []
    [("self", none), ("start", none), ("step", none), ("k_start", none), ("k_step", none), ("fast", none)] [("self", .ref x), ("start", .int 0 t0), ("step", .int 1 t1)] _ G S0 (R.deep (by omega)) lim rfl rfl rfl ?_ (by simp) (by decide) (by decide) (by decide) rfl rfl rfl ?_ (by decide)
  · intro fd tk e1 e2 e3
    obtain ⟨fn, fq, fp, fb, fs, fg, fc, fd, fk⟩ := fd
    dsimp only at e1 e2 e3
    subst e1 e2 e3
    exact BindsTo.of_defaults rfl (S0.keep _ _ hT) rfl rfl rfl
  intro env B C' cs own' h' hL E ⟨hC, _⟩ S kl kB kg
  cases hL
  have kb := Le.refl B
  obtain ⟨om, hom⟩ := hml
  have hmC : m ≤ C' := by have : (m - 1 : Nat) < C' := hC _ _ (S0.keep _ _ hom); exact Nat.le_of_pred_lt this
  refine W_bindsCons (W_st E S (by walk_at "mem") (by walk_at "put") fun h' S => ?_)
  refine W_bindsCons (W_st E S (by walk_at "mem") (by walk_at "put") fun h' S => ?_)
  refine W_bindsCons (W_st E S (by walk_at "mem") (by walk_at "put") fun h' S => ?_)
  refine W_bindsNil ⟨kg.trans S.keep, ?_⟩
  have R' := R.deeper env
  refine W_cons ?_
  walk_at "go"
  refine (W_ldG E (by walk_at "mem") gkind (kg.trans (kb.trans S.keep)) ?_)
  refine W_callWith ?_
  walk_at "go"
  have kept : ∀ h', Le B h' → Kept (model prog w) h' (.ref fk) := fun h' k => by
    obtain ⟨o, fd, e1, e2, _⟩ := G2.ex
    exact Kept.func _ (k _ _ (kg _ _ e1)) e2
  refine ⟨kept _ (kb.trans S.keep), W_call ?_⟩
  refine count_kind (G2.mono (kg.trans kb)) R' (by omega) S (lim.keeps (kg.trans kb)) (gtype.mono (kg.trans kb)) (gint.mono (kg.trans kb)) fun g1 h' t k1 S => ?_
  replace kb := kb.trans k1
  walk_at "go"
  refine (W_ldG E (by walk_at "mem") gkind (kg.trans (kb.trans S.keep)) ?_)
  refine W_callWith ?_
  walk_at "go"
  refine ⟨kept _ (kb.trans S.keep), W_call ?_⟩
  refine count_kind (G2.mono (kg.trans kb)) R' (by omega) S (lim.keeps (kg.trans kb)) (gtype.mono (kg.trans kb)) (gint.mono (kg.trans kb)) fun g2 h' t k2 S => ?_
  replace kb := kb.trans k2
  walk_at "go"
  rw [if_neg (by decide)]
  walk_at "go"
  rw [if_neg (by decide)]
  walk_at "go"
  rw [if_neg (by decide)]
  refine W_nil ?_
  walk_at "go"
  rw [if_pos (by decide)]
  walk_at "go"
  rw [if_pos (by decide)]
  walk_at "go"
  rw [if_pos (by decide)]
  walk_at "go"
  refine (W_ldG E (by walk_at "mem") gmax (kg.trans (kb.trans S.keep)) ?_)
  refine W_negI fun t => ?_
  walk_at "go"
  rw [if_pos (by decide)]
  walk_at "go"
  refine (W_ldG E (by walk_at "mem") gmax (kg.trans (kb.trans S.keep)) ?_)
  walk_at "go"
  refine W_tVal ?_ (by with_unfolding_all rfl)
  walk_at "go"
  rw [if_pos (by decide)]
  walk_at "go"
  refine W_nil ?_
  have D2 := D.le (kg.trans kb)
  have S : Fm _ C' _ ((x, slO C dx []) :: (dx, dicE) :: own) _ := S
  refine W_cons (W_AssignAttr ?_)
  walk_at "go"
  refine W_gapSlot S D2 hmC CK.cls (S.get (a := dx) (o := dicE) (by walk_at "mem")) CK.t0 CK.m0 CK.s0 (fun o' => (by walk_at "upd")) fun h' S => ?_
  refine W_cons (W_AssignAttr ?_)
  walk_at "go"
  refine W_putSlot (l := [none, _]) S D2 hmC CK.cls (S.get (a := dx) (o := dicE) (by walk_at "mem")) CK.t1 CK.m1 CK.s1 (by simp) (by decide) (fun o' => (by walk_at "upd")) fun h' S => ?_
  rw [List.set_cons_zero] at S
  refine W_cons (W_AssignAttr ?_)
  walk_at "go"
  refine W_pushSlot S D2 hmC CK.cls (S.get (a := dx) (o := dicE) (by walk_at "mem")) CK.t2 CK.m2 CK.s2 rfl (by decide) (fun o' => (by walk_at "upd")) fun h' S => ?_
  refine W_nil ?_
  obtain ⟨g', S', q1, q2, q3⟩ := S0.leave kB kb S
  rw [decide_eq_true (by decide), Int.zero_add] at S'
  exact q _ _ g' _ q1 S'
end
end Mine
namespace Mine
open PySem PySem.Spec PySem.Calls PyProof.Rows PySem.W
section
variable {prog : Program} {w : World} {A : Around} {s₀ : Shared} {g h : Heap} {L : Addr} {ls : Loc} {own : List (Addr × Obj)} {K : Frag} {m : Nat}
theorem Room.in1 {A : Around} {k : Nat} (R : Room A k) : Room A.in1 (k + 1) := ⟨R.hh, by have := R.depth; show A.depth + 10 * 0 ≤ _; omega, by have := R.units; show A.units + 1 ≤ _; omega⟩
theorem count_next {f C x dx p0 p1 p2 : Addr} {k : Nat} {n : Int} {t u : Tok} {own' : Obj → List (Addr × Obj)} {Q : Value → Heap → Prop} (G : FnIs g f (meth 15 3) .none) (CK : CtK K C p0 p1 p2) (D : Gd K m g)
    (hml : ∃ o, g.get? (m - 1) = some o) (R : Room A k) (hk : k ≤ 20) (S0 : Fm g L ls own h) (lim : g.NoLimit) (hdx : (dx, dicE) ∈ own) (U : ∀ o', Upd1 x (cntO C dx n t u) o' own (own' o'))
    (q : ∀ t' g' h', Le g g' → Fm g' L ls (own' (cntO C dx (n + 1) t' u)) h' → Q (.int n t) h') :
    WC (model prog w) A s₀ (.call (.ref f) ⟨[.ref x], []⟩) Q h := by
  refine WC_fn [("self", .local), ("value", .local)] [] [("self", none), ("value", none)] [("self", .ref x)] _ G S0 (R.deep (by omega)) lim rfl rfl rfl ?_ (by simp) (by decide) (by decide) (by decide) rfl rfl rfl ?_ (by decide)
  · intro fd tk e1 e2 e3
    refine BindsTo.of_eq ?_
    obtain ⟨fn, fq, fp, fb, fs, fg, fc, fd, fk⟩ := fd
    dsimp only at e1 e2 e3
    subst e1 e2 e3
    rfl
  intro env B C' cs own1 h' hL E ⟨hC, _⟩ S kl kB kg
  cases hL
  have kb := Le.refl B
  obtain ⟨om, hom⟩ := hml
  have hmC : m ≤ C' := by have : (m - 1 : Nat) < C' := hC _ _ (S0.keep _ _ hom); exact Nat.le_of_pred_lt this
  refine W_bindsCons (W_st E S (by walk_at "mem") (by walk_at "put") fun h' S => ?_)
  refine W_bindsNil ⟨kg.trans S.keep, ?_⟩
  have D2 := D.le kg
  have hx := (U (cntO C dx n t u)).mem
  have I : ∀ {lc h}, Fm B C' lc own h → InstAt h x (cntO C dx n t u) C (some dicE) := fun S => ⟨S.get hx, rfl, rfl, S.get hdx⟩
  refine W_cons (W_Assign ?_ (by with_unfolding_all rfl))
  refine W_AttrN ?_
  walk_at "go"
  refine W_getSlot (D2.le S.keep).X CK.cls (I S) CK.f1 CK.g1 CK.k1 CK.s1 (v := .int n t) (by rfl) (by rfl) ?_
  walk_at "go"
  refine W_AssignAttr ?_
  walk_at "go"
  refine W_AttrN ?_
  walk_at "go"
  refine W_getSlot (D2.le S.keep).X CK.cls (I S) CK.f2 CK.g2 CK.k2 CK.s2 (v := .int 1 u) (by rfl) (by rfl) ?_
  walk_at "go"
  refine W_putSlot S D2 hmC CK.cls (S.get hdx) CK.t1 CK.m1 CK.s1 (by simp) (by decide) U fun h' S => ?_
  walk_at "go"
  obtain ⟨g', S', q1, q2, q3⟩ := S0.leave kB kb S
  exact q _ g' _ q1 S'
theorem call_next_own {x C f : Addr} {ox : Obj} {od : Option Obj} {Q : Value → Shared → Prop} {E : Value → Shared → Prop} {s : Shared} (X : K.In s.heap) (I : InstAt s.heap x ox C od) (hs : findIn K (.ref C) "__next__" = some (some (.ref f))) (hf : isFn K (.ref f) = true)
    (y : wpAny (model prog w) A.in1 (call (.ref f) [.ref x]) Q E s) : wpAny (model prog w) A (call (.builtin "next") [.ref x]) Q E s := by
  refine call_function_entry (by decide +kernel) (by decide +kernel) kdk_entry_next (kdk_args_next _) ?_
  unfold Builtin.«next»
  refine wpAny_bind (m := someArgs "next" 1 2 _) (wpAny_of_eq (a := [Value.ref x]) (by first | rfl | kernel_rfl!) ?_)
  dsimp only
  refine wpAny_bind (m := specialOf (.ref x) (Str.ofString "__next__")) (wpAny_bind (I.type.here ((looks_findIn X hs).here ?_)))
  refine wpAny_ite_split (fun hab => absurd hab (by simp)) (fun _ => ?_)
  refine wpAny_bind (special_fn (name := "__next__") (args := []) X I hs (beq_iff_eq.mp hf) (wpAny_mono y (fun v s' hq => ?_) fun _ _ z => z))
  exact wpAny_pure ⟨_, rfl, hq⟩
theorem W_next {x C f : Addr} {ox : Obj} {od : Option Obj} {Q : Value → Heap → Prop} (X : K.In h) (I : InstAt h x ox C od) (hs : findIn K (.ref C) "__next__" = some (some (.ref f))) (hf : isFn K (.ref f) = true)
    (y : WC (model prog w) A.in1 s₀ (.call (.ref f) ⟨[.ref x], []⟩) Q h) : W (model prog w) A s₀ (call (.builtin "next") [.ref x]) Q h :=
  W.of fun tk Q' k => call_next_own (s := { s₀ with heap := h, toks := tk }) X I hs hf ((W_call y).use k)
end
end Mine
namespace Mine
open PySem PySem.Spec PySem.Calls PyProof.Rows PySem.W
structure Mk (g : Heap) (c P : Addr) : Prop where
  ex : ∃ mg, g.Ns mainGlobals mg ∧ g.BuiltinsAt mg P
  code : CodeHd g c P
  ne : mainGlobals ≠ P
theorem Mk.le {g h : Heap} {c P : Addr} (x : Mk g c P) (k : Le g h) : Mk h c P := ⟨let ⟨mg, a, b⟩ := x.ex; ⟨mg, a.keeps k, b.keeps k⟩, x.code.keeps k, x.ne⟩
/-- the table of a code: the piece at pos has been made, or not yet -/
structure Tab (g : Heap) (qual : Str) (pos : Pos) (ps : Array Value) : Prop where
  ok : TriplesOk ps.toList
  st : codeAmong pos ps.toList = none ∨ ∃ c', codeAmong pos ps.toList = some (.ref c') ∧ g.CodeRec (.ref c') qual
theorem Tab.le {g h : Heap} {qual : Str} {pos : Pos} {ps : Array Value} (x : Tab g qual pos ps) (k : Le g h) : Tab h qual pos ps :=
  ⟨x.ok, x.st.imp_right fun ⟨c, a, b⟩ => ⟨c, a, b.keeps k⟩⟩
theorem codeRec_out {B g : Heap} {L : Addr} {cd : Value} {q : Str} (x : B.CodeRec cd q) (o : Out B g L) : g.CodeRec cd q := by
  obtain ⟨c, oc, vs, t, e1, e2, e3, e4⟩ := x
  exact ⟨c, oc, vs, t, e1, o.nd _ _ e2 (fun es ep e => by rw [e3] at e; cases e), e3, e4⟩
theorem Tab.out {B g : Heap} {L : Addr} {qual : Str} {pos : Pos} {ps : Array Value} (x : Tab B qual pos ps) (o : Out B g L) : Tab g qual pos ps :=
  ⟨x.ok, x.st.imp_right fun ⟨c, a, b⟩ => ⟨c, a, codeRec_out b o⟩⟩
/-- a function that a function of the text made -/
structure Made (g : Heap) (f : Addr) (params : Arguments) (body : FuncBody) (scope : Scope) (cl : List (Str × Addr)) : Prop where
  ex : ∃ o fd, g.get? f = some o ∧ o.data = .func fd ∧ fd.body = body ∧ fd.scope = scope ∧ fd.params = params ∧ fd.globals = mainGlobals ∧ fd.builtins = builtinsNs ∧ fd.closure = cl ∧ fd.defaults = .none ∧ fd.kwdefaults = .none ∧ g.CodeRec fd.code fd.qualname
theorem Made.le {g h : Heap} {f : Addr} {params : Arguments} {body : FuncBody} {scope : Scope} {cl : List (Str × Addr)} (x : Made g f params body scope cl) (k : Le g h) : Made h f params body scope cl := by
  obtain ⟨o, fd, e1, e2, e3, e4, e5, e6, e7, e8, e9, e10, e11⟩ := x.ex
  exact ⟨o, fd, k _ _ e1, e2, e3, e4, e5, e6, e7, e8, e9, e10, e11.keeps k⟩
theorem Made.out {B g : Heap} {L f : Addr} {params : Arguments} {body : FuncBody} {scope : Scope} {cl : List (Str × Addr)} (x : Made B f params body scope cl) (o : Out B g L) : Made g f params body scope cl := by
  obtain ⟨ob, fd, e1, e2, e3, e4, e5, e6, e7, e8, e9, e10, e11⟩ := x.ex
  exact ⟨ob, fd, o.nd _ _ e1 (fun es ep e => by rw [e2] at e; cases e), e2, e3, e4, e5, e6, e7, e8, e9, e10, codeRec_out e11 o⟩
section
variable {g h h' : Heap} {L : Addr} {ls : Loc} {own own' : List (Addr × Obj)}
theorem Fm.ext1 {it : Addr} {o o' : Obj} (S : Fm g L ls own h) (U : Upd1 it o o' own own') (k : Heap.ExtBut it h h') (ho : h'.get? it = some o') : Fm g L ls own' h' := by
  obtain ⟨m, n1, n2⟩ := S.ns
  have hi := U.mem
  have hL : L ≠ it := fun e => S.offL _ hi e.symm
  refine ⟨⟨m, n1.extBut k hL, n2⟩, S.nl, fun b x e => k b x ?_ (S.keep b x e), ?_, U.addrs ▸ S.nd, ?_, S.gL, ?_⟩
  · rintro rfl; rw [S.goff _ hi] at e; cases e
  · intro p hp
    rcases U.vals S.nd p hp with rfl | ⟨e, hp⟩
    · exact ho
    · exact k _ _ e (S.has p hp)
  · intro p hp
    rcases U.vals S.nd p hp with rfl | ⟨e, hp⟩
    · exact S.offL (it, o) hi
    · exact S.offL _ hp
  · intro p hp
    rcases U.vals S.nd p hp with rfl | ⟨e, hp⟩
    · exact S.goff (it, o) hi
    · exact S.goff _ hp
theorem Fm.freshAll {it : Addr} {o o' : Obj} (S : Fm g L ls own h) (U : Upd1 it o o' own own') (k : Heap.ExtBut it h h') (ho : h'.get? it = some o') :
    ∃ B, Fm B L ls own' h' ∧ Le g B ∧ ∀ b ob, h.objs.size ≤ b → h'.get? b = some ob → B.get? b = some ob := by
  obtain ⟨B, S', k1, k2⟩ := (S.ext1 U k ho).ground
  refine ⟨B, S', k2, fun b ob hb e => k1 b ob e ?_ fun p hp q => ?_⟩
  · rintro rfl
    obtain ⟨m, n1, _⟩ := S.ns
    exact absurd n1.lt (Nat.not_lt.mpr hb)
  · have hp' : p.1 ∈ own.map (·.1) := by rw [← U.addrs]; exact List.mem_map_of_mem hp
    obtain ⟨p', hp', e'⟩ := List.mem_map.mp hp'
    have := Heap.lt_size (S.has p' hp')
    rw [e', q] at this
    exact absurd this (Nat.not_lt.mpr hb)
end
section
variable {M : Model} {A : Around} {s₀ : Shared} {g h : Heap} {L : Addr} {ls : Loc} {own : List (Addr × Obj)} {env : Env} {names : List (Str × NameKind)} {cells : List (Str × Addr)}
theorem W_mkLam {params : Arguments} {body : Expr} {scope : Scope} {pos : Pos} {c P : Addr} {ps : Array Value} {cl : List (Str × Addr)} {qual : Str} {own' : Obj → List (Addr × Obj)} {Q : Value → Heap → Prop} (S : Fm g L ls own h) (E : EnvOk env L names cells) (MK : Mk g c P)
    (hcode : env.code = .ref c) (hq : env.qual = qual) (hcl : closureFor scope env = pure cl) (T : Tab g (qual ++ "<lambda>") pos ps) (U : ∀ o', Upd1 P (tabObj ps) o' own (own' o'))
    (q : ∀ f B' ps' h', Le g B' → Fm B' L ls (own' (tabObj ps')) h' → Tab B' (qual ++ "<lambda>") pos ps' → Made B' f params (.expr body) scope cl → Q (.ref f) h') (hd : defaultsOf params env = ([], []) := by rfl) : W M A s₀ (eval (.Lambda params body scope pos) env) Q h := by
  subst hq
  refine W.of fun tk Q' k => ?_
  obtain ⟨mg, hg, hb⟩ := MK.ex
  have hP := S.get (U (tabObj ps)).mem
  refine kla_eval hd ?_
  rcases T.st with hn | ⟨c', hc, hr⟩
  · refine kla_makeFunction (s := { s₀ with heap := h, toks := tk }) (mg := mg) hcl E.globals (hg.keeps S.keep) hcode (MK.code.keeps S.keep) hP T.ok hn MK.ne (hb.keeps S.keep) fun c' ctv h' tk' hx hge hlt hrec htb => ?_
    obtain ⟨B, S', k1, k2⟩ := S.freshAll (U _) (hx.push _) (Heap.get?_push_of_some (kla_obj "<lambda>" (env.qual ++ "<lambda>") params body scope cl ((mg "__name__").getD .none) c' ctv) htb)
    have hrec' : B.CodeRec (.ref c') (env.qual ++ "<lambda>") := by
      obtain ⟨c2, oc, vs, t, e1, e2, e3, e4⟩ := hrec
      cases e1
      exact ⟨c', oc, vs, t, rfl, k2 _ _ hge (Heap.get?_push_of_some _ e2), e3, e4⟩
    refine k _ _ _ (q _ B _ _ k1 S' ⟨by rw [Array.toList_append]; exact TriplesOk_snoc _ _ _ _ T.ok, .inr ⟨c', by rw [Array.toList_append]; exact codeAmong_snoc _ T.ok hn, hrec'⟩⟩
      ⟨_, _, k2 _ _ (Nat.le_trans hge (Nat.le_of_lt hlt)) (Heap.get?_push_size _ rfl), rfl, rfl, rfl, rfl, rfl, rfl, rfl, rfl, rfl, hrec'⟩)
  · refine kla_makeFunctionHit (s := { s₀ with heap := h, toks := tk }) (mg := mg) hcl E.globals (hg.keeps S.keep) hcode (MK.code.keeps S.keep) hP T.ok hc (hb.keeps S.keep) fun ctv h' tk' hk hsz => ?_
    have hx : Heap.ExtBut P h (h'.push { cls := .type "function", data := .func (kla_fn "<lambda>" (env.qual ++ "<lambda>") params body scope cl ((mg "__name__").getD .none) (.ref c') ctv) }) := fun b o _ e => Heap.get?_push_of_some _ (hk _ _ e)
    obtain ⟨B, S', k1, k2⟩ := S.freshAll (U (tabObj ps)) hx (Heap.get?_push_of_some _ (hk _ _ hP))
    refine k _ _ _ (q _ B _ _ k1 S' (T.le k1) ⟨_, _, k2 _ _ hsz (Heap.get?_push_size _ rfl), rfl, rfl, rfl, rfl, rfl, rfl, rfl, rfl, rfl, hr.keeps k1⟩)
theorem W_mkDef {name : Str} {params : Arguments} {body : List Stmt} {scope : Scope} {pos : Pos} {c P : Addr} {ps : Array Value} {cl : List (Str × Addr)} {qual : Str} {own' : Obj → List (Addr × Obj)} {Q : Flow → Heap → Prop} (S : Fm g L ls own h) (E : EnvOk env L names cells) (MK : Mk g c P)
    (hcode : env.code = .ref c) (hq : env.qual = qual) (hk : (name, NameKind.local) ∈ names) (hcl : closureFor scope env = pure cl) (T : Tab g (qual ++ name) pos ps) (U : ∀ o', Upd1 P (tabObj ps) o' own (own' o'))
    (q : ∀ f B' ps' h', Le g B' → Fm B' L ls (own' (tabObj ps')) h' → Tab B' (qual ++ name) pos ps' → Made B' f params (.stmts body) scope cl → W M A s₀ (storeName env name (.ref f)) (fun _ h2 => Q .next h2) h')
    (hd0 : params.defaults = [] := by rfl) (hk0 : params.kw_defaults = [] := by rfl) (ha : annTrees params none env = [] := by rfl) : W M A s₀ (exec (.FunctionDef name params body [] none [] scope none name pos) env) Q h := by
  subst hq
  refine W.of fun tk Q' k => ?_
  obtain ⟨mg, hg, hb⟩ := MK.ex
  have hP := S.get (U (tabObj ps)).mem
  refine nestDef_K hd0 hk0 ha ?_
  have hqn : qualnameIn env name name = env.qual ++ name := by
    unfold qualnameIn
    rw [E.kindOf hk]; rfl
  rw [hqn]
  rcases T.st with hn | ⟨c', hc, hr⟩
  · refine makeFunction_K (s := { s₀ with heap := h, toks := tk }) (mg := mg) hcl E.globals (hg.keeps S.keep) hcode (MK.code.keeps S.keep) hP T.ok hn MK.ne (hb.keeps S.keep) fun c' ctv doc h' tk' hx hge hlt hrec htb => ?_
    obtain ⟨B, S', k1, k2⟩ := S.freshAll (U _) (hx.push _) (Heap.get?_push_of_some (fnMade name (env.qual ++ name) params body scope cl doc ((mg "__name__").getD .none) c' ctv) htb)
    have hrec' : B.CodeRec (.ref c') (env.qual ++ name) := by
      obtain ⟨c2, oc, vs, t, e1, e2, e3, e4⟩ := hrec
      cases e1
      exact ⟨c', oc, vs, t, rfl, k2 _ _ hge (Heap.get?_push_of_some _ e2), e3, e4⟩
    exact (q _ B _ _ k1 S' ⟨by rw [Array.toList_append]; exact TriplesOk_snoc _ _ _ _ T.ok, .inr ⟨c', by rw [Array.toList_append]; exact codeAmong_snoc _ T.ok hn, hrec'⟩⟩
      ⟨_, _, k2 _ _ (Nat.le_trans hge (Nat.le_of_lt hlt)) (Heap.get?_push_size _ rfl), rfl, rfl, rfl, rfl, rfl, rfl, rfl, rfl, rfl, hrec'⟩).use fun _ h2 tk2 q2 => k _ _ _ q2
  · refine makeFunction_hit (s := { s₀ with heap := h, toks := tk }) (mg := mg) hcl E.globals (hg.keeps S.keep) hcode (MK.code.keeps S.keep) hP T.ok hc (hb.keeps S.keep) fun ctv doc h' tk' hk hsz => ?_
    have hx : Heap.ExtBut P h (h'.push { cls := .type "function", data := .func (fnX name (env.qual ++ name) params body scope cl .none .none doc ((mg "__name__").getD .none) none (.ref c') ctv) }) := fun b o _ e => Heap.get?_push_of_some _ (hk _ _ e)
    obtain ⟨B, S', k1, k2⟩ := S.freshAll (U (tabObj ps)) hx (Heap.get?_push_of_some _ (hk _ _ hP))
    exact (q _ B _ _ k1 S' (T.le k1) ⟨_, _, k2 _ _ hsz (Heap.get?_push_size _ rfl), rfl, rfl, rfl, rfl, rfl, rfl, rfl, rfl, rfl, hr.keeps k1⟩).use fun _ h2 tk2 q2 => k _ _ _ q2
end
section
variable {prog : Program} {w : World} {A : Around} {s₀ : Shared} {g h : Heap} {L : Addr} {ls : Loc} {own : List (Addr × Obj)}
/-- a call of a function that was made -/
theorem WC_made {f : Addr} {params : Arguments} {scope : Scope} {body : List Stmt} {cl : List (Str × Addr)} {args : Args} {Q : Value → Heap → Prop} (names : List (Str × NameKind)) (lc : Loc) (binds : List (Str × Value))
    (G : Made g f params (.stmts body) scope cl) (S : Fm g L ls own h) (hroom : A.depth < recursionLimit) (hlim : g.NoLimit) (hn : scope.names = names) (hcn : cellNames names = [])
    (hbind : ∀ fd tk, fd.params = params → fd.defaults = .none → fd.kwdefaults = .none → BindsTo { s₀ with heap := h, toks := tk } fd args binds) (hlc : ∀ p ∈ lc, p.2 = none) (nl : (lc.map (·.1)).Nodup)
    (nd : (names.map (·.1)).Nodup) (dbg : ∀ p ∈ names, (p.1 == ("__debug__" : Str)) = false ∧ (p.1 == ("__classdict__" : Str)) = false)
    (hk : scope.kind = .function) (hco : scope.isCoroutine = false) (hgen : scope.isGenerator = false)
    (y : ∀ env B C h', EnvOk env C names cl → Fm B C lc own h' → Le h h' → (∀ b o, h.get? b = some o → (∀ p ∈ own, p.1 ≠ b) → B.get? b = some o) → Le g B →
      W (model prog w) A.in1 s₀ (bindsLoop env binds) (fun _ h2 => Le g h2 ∧ W (model prog w) (A.deeper env) s₀ (execs body env) (fun f h3 => Q (retOf f) h3) h2) h') (cnd : (cl.map (·.1)).Nodup) :
    WC (model prog w) A s₀ (.call (.ref f) args) Q h := by
  obtain ⟨o, fd, e1, e2, e3, e4, e5, e6, e7, e8, e9, e10, e11⟩ := G.ex
  refine WC_def lc S hroom (S.keep _ _ e1) e2 hlim (e11.keeps S.keep) e3 (hbind fd · e5 e9 e10) hlc nl ?_ (by rw [e4]; exact hco) (by rw [e4]; exact hgen)
  intro B C cs own' h' l S' k1 k2 k3 k4
  rw [e4, hn, hcn, e8] at l
  cases l
  exact y _ B C h' (EnvOk.call (by rw [e4]; exact hk) (by rw [e4]; exact hn) e6 e7 nd cnd dbg) S' k1 k2 k3
theorem WC_madeE {f : Addr} {params : Arguments} {scope : Scope} {body : Expr} {cl : List (Str × Addr)} {args : Args} {Q : Value → Heap → Prop} (names : List (Str × NameKind)) (lc : Loc) (binds : List (Str × Value))
    (G : Made g f params (.expr body) scope cl) (S : Fm g L ls own h) (hroom : A.depth < recursionLimit) (hlim : g.NoLimit) (hn : scope.names = names) (hcn : cellNames names = [])
    (hbind : ∀ fd tk, fd.params = params → fd.defaults = .none → fd.kwdefaults = .none → BindsTo { s₀ with heap := h, toks := tk } fd args binds) (hlc : ∀ p ∈ lc, p.2 = none) (nl : (lc.map (·.1)).Nodup)
    (nd : (names.map (·.1)).Nodup) (dbg : ∀ p ∈ names, (p.1 == ("__debug__" : Str)) = false ∧ (p.1 == ("__classdict__" : Str)) = false)
    (hk : scope.kind = .function) (hco : scope.isCoroutine = false) (hgen : scope.isGenerator = false)
    (y : ∀ env B C h', EnvOk env C names cl → Fm B C lc own h' → Le h h' → (∀ b o, h.get? b = some o → (∀ p ∈ own, p.1 ≠ b) → B.get? b = some o) → Le g B →
      W (model prog w) A.in1 s₀ (bindsLoop env binds) (fun _ h2 => Le g h2 ∧ W (model prog w) (A.deeper env) s₀ (eval body env) Q h2) h') (cnd : (cl.map (·.1)).Nodup) :
    WC (model prog w) A s₀ (.call (.ref f) args) Q h := by
  obtain ⟨o, fd, e1, e2, e3, e4, e5, e6, e7, e8, e9, e10, e11⟩ := G.ex
  refine WC_lam lc S hroom (S.keep _ _ e1) e2 hlim (e11.keeps S.keep) e3 (hbind fd · e5 e9 e10) hlc nl ?_ (by rw [e4]; exact hco) (by rw [e4]; exact hgen)
  intro B C cs own' h' l S' k1 k2 k3 k4
  rw [e4, hn, hcn, e8] at l
  cases l
  exact y _ B C h' (EnvOk.call (by rw [e4]; exact hk) (by rw [e4]; exact hn) e6 e7 nd cnd dbg) S' k1 k2 k3
end
end Mine
namespace Mine
open PySem PySem.Spec PySem.Calls PyProof.Rows PySem.W
/-- the graph stands in the ground -/
structure GraphAt (prog : Program) (w : World) (C : Addr) (g : Heap) (x : Addr) (rs : List Row) : Prop where
  ex : ∃ dx es n gd nd ad oad ond kn, g.get? x = some (instObj C dx) ∧ g.get? dx = some (dictOf es n) ∧ SEs es [("graph", .ref gd), ("_node", .ref nd), ("_adj", .ref ad)] ∧ g.get? ad = some oad ∧ g.get? nd = some ond ∧
    oad.IsDictOf (IK prog w) (adjL rs) ∧ ond.IsDictOf (IK prog w) kn ∧ kn.map (·.1) = rs.map Row.node ∧ (ad == sysModules) = false ∧ (nd == sysModules) = false
  rows : ∀ r ∈ rs, RowOk prog w g r ∧ g.get? r.addr = some r.obj ∧ (r.addr == sysModules) = false
  nd : (rs.map Row.node).Nodup
theorem GraphAt.le {prog : Program} {w : World} {C : Addr} {g h : Heap} {x : Addr} {rs : List Row} (y : GraphAt prog w C g x rs) (k : Le g h) : GraphAt prog w C h x rs := by
  obtain ⟨dx, es, n, gd, nd, ad, oad, ond, kn, e1, e2, e3, e4, e5, r⟩ := y.ex
  exact ⟨⟨dx, es, n, gd, nd, ad, oad, ond, kn, k _ _ e1, k _ _ e2, e3, k _ _ e4, k _ _ e5, r⟩, fun r hr => let ⟨a, b, c⟩ := y.rows r hr; ⟨a.le k, k _ _ b, c⟩, y.nd⟩
/-- the methods of the graphs that are read while a way is sought -/
structure GrM (K : Frag) (C fm fdir fin : Addr) : Prop where
  m : findIn K (.ref C) "is_multigraph" = some (some (.ref fm))
  mf : isFn K (.ref fm) = true
  d : findIn K (.ref C) "is_directed" = some (some (.ref fdir))
  df : isFn K (.ref fdir) = true
  c : findIn K (.ref C) "__contains__" = some (some (.ref fin))
  cf : isFn K (.ref fin) = true
theorem FnIs.kept {g h : Heap} {a : Addr} {s : Stmt} {dv : Value} {M : Model} (G : FnIs g a s dv) (k : Le g h) : Kept M h (.ref a) := by
  obtain ⟨o, fd, e1, e2, _⟩ := G.ex
  exact Kept.func _ (k _ _ e1) e2
theorem Made.kept {g h : Heap} {f : Addr} {params : Arguments} {body : FuncBody} {scope : Scope} {cl : List (Str × Addr)} {M : Model} (G : Made g f params body scope cl) (k : Le g h) : Kept M h (.ref f) := by
  obtain ⟨o, fd, e1, e2, _⟩ := G.ex
  exact Kept.func _ (k _ _ e1) e2
theorem callable_str : typeLookup (.type "str") "__call__" = pure none := by rw [typeLookup_type, builtinLookup_eq_fast]; kernel_rfl
theorem entry_callable : entryFor table "callable" = some Builtin.«callable» := entryFor_of_fast (by kernel_rfl)
theorem args_callable (a : Value) : argsOk "callable" ⟨[a], []⟩ := by unfold argsOk; kernel_rfl
def lamE : Expr := match (bodyF (stm 10))[2]? with
  | some (Stmt.Return (some e) _) => e
  | _ => Expr.Constant .none 0 ⟨0, 0, 0, 0⟩
def lamArgs : Arguments := match lamE with
  | .Lambda a .. => a
  | _ => default
def lamBody : Expr := match lamE with
  | .Lambda _ b .. => b
  | e => e
def lamScope : Scope := match lamE with
  | .Lambda _ _ s _ => s
  | _ => default
def lamPos : Pos := match lamE with
  | .Lambda _ _ _ p => p
  | _ => ⟨0, 0, 0, 0⟩
section
variable {prog : Program} {w : World} {A : Around} {s₀ : Shared} {g h : Heap} {L : Addr} {ls : Loc} {own : List (Addr × Obj)} {K : Frag} {m : Nat}
theorem W_callableStr {x : Str} {t : Tok} {Q : Value → Heap → Prop} (q : Q (.bool false) h) : W (model prog w) A s₀ (call (.builtin "callable") [.str x t]) Q h :=
  W.of fun tk Q' k => by
    refine call_function_entry (by decide +kernel) (by decide +kernel) entry_callable (args_callable _) ?_
    unfold Builtin.«callable»
    refine wpAny_bind (m := oneArg "callable" _) (wpAny_of_eq (a := Value.str x t) (by first | rfl | kernel_rfl!) ?_)
    refine wpAny_bind (wpAny_specialOf (name := Str.ofString "__call__") (typeIs_str _ _ _) callable_str ?_)
    exact wpAny_pure ⟨_, rfl, k _ _ _ q⟩
theorem ret_false {f x : Addr} {j k : Nat} {Q : Value → Heap → Prop} (hj : j = 25 ∨ j = 26) (G : FnIs g f (meth 32 j) .none) (R : Room A k) (hk : k ≤ 30) (S0 : Fm g L ls own h) (lim : g.NoLimit)
    (q : ∀ g' h', Le g g' → Fm g' L ls own h' → Q (.bool false) h') : WC (model prog w) A s₀ (.call (.ref f) ⟨[.ref x], []⟩) Q h := by
  rcases hj with rfl | rfl
  all_goals
    refine WC_fn [("self", .local)] [] [("self", none)] [("self", .ref x)] _ G S0 (R.deep (by omega)) lim rfl rfl rfl ?_ (by simp) (by decide) (by decide) (by decide) rfl rfl rfl ?_ (by decide)
    · intro fd tk e1 e2 e3
      refine BindsTo.of_eq ?_
      obtain ⟨fn, fq, fp, fb, fs, fg, fc, fd, fk⟩ := fd
      dsimp only at e1 e2 e3
      subst e1 e2 e3
      rfl
    intro env B C' cs own1 h' hL E _ S kl kB kg
    cases hL
    refine W_bindsCons (W_st E S (by walk_at "mem") (by walk_at "put") fun h' S => ?_)
    refine W_bindsNil ⟨kg.trans S.keep, ?_⟩
    refine W_cons ?_
    walk_at "go"
    obtain ⟨g', S', q1, q2, q3⟩ := S0.leave kB (Le.refl B) S
    exact q g' _ q1 S'
theorem weight_function {f fm fdir fin C x P c : Addr} {k : Nat} {tw : Tok} {qn : Str} {ps : Array Value} {rs : List Row} {own' : Obj → List (Addr × Obj)} {Q : Value → Heap → Prop} (G : FnIs g f (stm 10) .none)
    (hfc : ∃ o fd, g.get? f = some o ∧ o.data = .func fd ∧ fd.code = .ref c ∧ fd.qualname = qn) (MK : Mk g c P) (Gm : FnIs g fm (meth 32 25) .none) (GK : GrK K C) (GM : GrM K C fm fdir fin) (D : Gd K m g)
    (R : Room A k) (hk : k ≤ 20) (S0 : Fm g L ls own h) (lim : g.NoLimit) (T : Tab g (qn ++ ".<locals>." ++ "<lambda>") lamPos ps) (U : ∀ o', Upd1 P (tabObj ps) o' own (own' o')) (X : GraphAt prog w C g x rs) (gcall : Glo g "callable" (.builtin "callable"))
    (q : ∀ fl cw ps' g' h', Le g g' → Fm g' L ls (own' (tabObj ps')) h' → Tab g' (qn ++ ".<locals>." ++ "<lambda>") lamPos ps' → Made g' fl lamArgs (.expr lamBody) lamScope [("weight", cw)] → g'.get? cw = some (celO (some (.str "weight" tw))) → Q (.ref fl) h') :
    WC (model prog w) A s₀ (.call (.ref f) ⟨[.ref x, .str "weight" tw], []⟩) Q h := by
  refine WC_fn [("G", .local), ("weight", .cell), ("callable", .globalImplicit)] ["weight"] [("G", none)] [("G", .ref x), ("weight", .str "weight" tw)] _ G S0 (R.deep (by omega)) lim rfl rfl rfl ?_ (by simp) (by decide) (by decide) (by decide) rfl rfl rfl ?_ (by decide)
  · intro fd tk e1 e2 e3
    refine BindsTo.of_eq ?_
    obtain ⟨fn, fq, fp, fb, fs, fg, fc, fd, fk⟩ := fd
    dsimp only at e1 e2 e3
    subst e1 e2 e3
    rfl
  intro env B C' cs own1 h' hL E ⟨hC, hcode⟩ S kl kB kg
  obtain ⟨of, fdf, hof1, hof2, hof3, hof4⟩ := hfc
  obtain ⟨hc1, hc2⟩ := hcode _ _ hof1 hof2
  rw [hof3] at hc1
  rw [hof4] at hc2
  cases hL with
  | cons aw hL =>
  cases hL
  have kb := Le.refl B
  refine W_bindsCons (W_st E S (by walk_at "mem") (by walk_at "put") fun h' S => ?_)
  refine W_bindsCons (W_stC E S (by walk_at "mem") (by walk_at "mem") (by walk_at "upd") fun h' S => ?_)
  refine W_bindsNil ⟨kg.trans S.keep, ?_⟩
  have R' := R.deeper env
  refine W_cons (W_If (W_tVal ?_ (by with_unfolding_all rfl)))
  walk_at "go"
  refine (W_ldG E (by walk_at "mem") gcall (kg.trans (kb.trans S.keep)) ?_)
  refine W_callWith ?_
  walk_at "go"
  refine ⟨Kept.builtin _ _ _, W_callableStr ?_⟩
  walk_at "go"
  rw [if_neg (by decide)]
  refine W_nil ?_
  refine W_cons (W_If (W_tVal ?_ (by with_unfolding_all rfl)))
  obtain ⟨dx, es, n, gd, nd, ad, oad, ond, kn, x1, x2, x3, _⟩ := X.ex
  refine W_CallM ?_
  walk_at "go"
  refine W_mFn (D.le (kg.trans (kb.trans S.keep))).X GK.cls (inst_at (S.keep _ _ (kg _ _ x1)) (S.keep _ _ (kg _ _ x2))) GM.m GM.mf (by show (getL _ _).map _ = _; rw [x3.get]; rfl) ?_
  refine W_callWith ?_
  walk_at "go"
  refine ⟨Gm.kept (kg.trans (kb.trans S.keep)), W_call ?_⟩
  refine ret_false (.inl rfl) (Gm.mono (kg.trans kb)) R' (by omega) S (lim.keeps (kg.trans kb)) fun g1 h' k1 S => ?_
  replace kb := kb.trans k1
  walk_at "go"
  rw [if_neg (by decide)]
  refine W_nil ?_
  walk_at "go"
  obtain ⟨B1, S, k2, hcw⟩ := S.settle1
  replace kb := kb.trans k2
  refine W_mkLam (own' := own') S E (MK.le (kg.trans kb)) hc1 hc2 (E.closure (cl := [("weight", aw)]) (by rfl) (by rfl)) (T.le (kg.trans kb)) U fun fl B2 ps' h' k3 S T' Md => ?_
  obtain ⟨g', S', q1, q2, q3⟩ := S0.leave kB (kb.trans k3) S
  exact q fl aw ps' g' _ q1 S' (T'.out q2) (Md.out q2) (q2.nd _ _ (k3 _ _ hcw) (fun es ep e => by cases e))
end
end Mine
namespace Mine
open PySem PySem.Spec PySem.Calls PyProof.Rows PySem.W
theorem IntsAre.rev {vs : List Value} {ns : List Int} (x : IntsAre vs ns) : IntsAre vs.reverse ns.reverse := by
  induction x with
  | nil => exact .nil
  | cons i t r ih => rw [List.reverse_cons, List.reverse_cons]; exact ih.append (.cons _ _ .nil)
def CurV : Option Int → Value → Prop
  | none, v => v = .none
  | some x, v => ∃ t, v = .int x t
def RepP (kp : List (Int × Value)) (p : Int → Option (Option Int)) : Prop := ∀ x nx, p x = some nx → ∃ v, valueAt kp x = some v ∧ CurV nx v
abbrev pathS : Stmt := subF (stm 17) 6
def posF : Stmt → Pos
  | .FunctionDef _ _ _ _ _ _ _ _ _ p => p
  | _ => ⟨0, 0, 0, 0⟩
section
variable {prog : Program} {w : World} {A : Around} {s₀ : Shared} {g h B : Heap} {L : Addr} {ls : Loc} {own : List (Addr × Obj)} {K : Frag} {m : Nat}
theorem W_tList {l : Addr} {items : Array Value} {Q : Bool → Heap → Prop} (hl : h.IsList l items) (hz : items.size ≤ 1000) (q : Q (!items.isEmpty) h) : W (model prog w) A s₀ (truthy (.ref l)) Q h :=
  W.of fun tk Q' k => wpAny_truthy_list hl (by omega) (k _ _ _ q)
theorem W_addL {a b : Addr} {xs ys : List Value} {n m : Nat} {Q : Value → Heap → Prop} (S : Fm g L ls own h) (ha : h.get? a = some (lstO xs n)) (hb : h.get? b = some (lstO ys m)) (hz : xs.length + ys.length ≤ 1000)
    (q : ∀ r h', Fm g L ls ((r, lstO (xs ++ ys)) :: own) h' → Q (.ref r) h') : W (model prog w) A s₀ (binaryOp .Add (.ref a) (.ref b)) Q h :=
  W.of fun tk Q' k => P.add_list ha hb (k _ _ _ (q _ _ (by
    have := S.push (o := lstO (xs ++ ys))
    rw [show (lstO (xs ++ ys) : Obj) = { cls := .type "list", data := .seq (xs.toArray ++ ys.toArray) } by simp [lstO]] at this ⊢
    exact this))) (by rw [List.size_toArray, List.size_toArray, sizeLine_eq]; omega)
theorem W_hpush {a x : Addr} {l : List Ent} {n : Nat} {k : Key} {own' : Obj → List (Addr × Obj)} {Q : Value → Heap → Prop} (hu : A.in1.in1.units < cLine) (S : Fm B L ls own h) (U : ∀ o', Upd1 a (lstO (refsOf l) n) o' own (own' o')) (hk : ∀ p ∈ l, Tri B p.1 p.2) (hx : Tri B x k) (hz : l.length ≤ 999) (H : HeapL l)
    (q : ∀ l' n' h', l'.Perm (l ++ [(x, k)]) → HeapL l' → (∀ p ∈ l', Tri B p.1 p.2) → Fm B L ls (own' (lstO (refsOf l') n')) h' → Q .none h') : W (model prog w) A s₀ (call (.builtin "_heapq.heappush") [.ref a, .ref x]) Q h := by
  refine W_heappush hu ⟨⟨n, S.get (U (lstO (refsOf l) n)).mem⟩, fun p hp => (hk p hp).le S.keep⟩ (hx.le S.keep) hz H fun l' h' hs X hp H' => ?_
  obtain ⟨n', ho⟩ := X.obj
  refine q l' n' h' hp H' (fun p hp' => ?_) (S.changed (U _) hs ho)
  rcases List.mem_append.mp (hp.mem_iff.mp hp') with h | h
  · exact hk p h
  · rw [List.mem_singleton.mp h]; exact hx
theorem W_hpop {a : Addr} {l : List Ent} {n : Nat} {own' : Obj → List (Addr × Obj)} {Q : Value → Heap → Prop} (hu : A.in1.in1.units < cLine) (S : Fm B L ls own h) (U : ∀ o', Upd1 a (lstO (refsOf l) n) o' own (own' o')) (hk : ∀ p ∈ l, Tri B p.1 p.2) (hz : l.length ≤ 999) (H : HeapL l) (hne : l ≠ [])
    (q : ∀ x k l' n' h', l.Perm ((x, k) :: l') → HeapL l' → (∀ p ∈ l, leK k p.2) → Tri B x k → (∀ p ∈ l', Tri B p.1 p.2) → Fm B L ls (own' (lstO (refsOf l') n')) h' → Q (.ref x) h') : W (model prog w) A s₀ (call (.builtin "_heapq.heappop") [.ref a]) Q h := by
  refine W_heappop hu ⟨⟨n, S.get (U (lstO (refsOf l) n)).mem⟩, fun p hp => (hk p hp).le S.keep⟩ hz H hne fun x k l' h' hs X hp H' hl hx => ?_
  obtain ⟨n', ho⟩ := X.obj
  exact q x k l' n' h' hp H' hl (hk (x, k) (hp.mem_iff.mpr List.mem_cons_self)) (fun p hp' => hk p (hp.mem_iff.mpr (List.mem_cons_of_mem _ hp'))) (S.changed (U _) hs ho)
theorem W_notInOwn {x C f : Addr} {ox : Obj} {od : Option Obj} {v : Value} {Q : Value → Heap → Prop} (X : K.In h) (I : InstAt h x ox C od) (hs : findIn K (.ref C) "__contains__" = some (some (.ref f))) (hf : isFn K (.ref f) = true)
    (y : WC (model prog w) A s₀ (.call (.ref f) ⟨[.ref x, v], []⟩) (fun r h1 => W (model prog w) A s₀ (truthy r) (fun b h2 => Q (.bool (!b)) h2) h1) h) : W (model prog w) A s₀ (compareOp .NotIn v (.ref x)) Q h :=
  W.of fun tk Q' k => by
    refine wpAny_bind (m := contains (.ref x) v) ?_
    unfold contains
    refine wpAny_holding (wpAny_bind (wpAny_bind (I.type.here ((looks_findIn X hs).here ?_))))
    rw [if_neg (by simp)]
    refine wpAny_bind (unlessNone_K (s := { s₀ with heap := h, toks := tk }) X I hs hf ((W_call y).use fun r h1 tk1 z => z.use fun b h2 tk2 q => wpAny_pure (k _ _ _ q)))
theorem graph_contains {f x C : Addr} {k : Nat} {i : Int} {t : Tok} {rs : List Row} {Q : Value → Heap → Prop} (G : FnIs g f (meth 32 9) .none) (GK : GrK K C) (D : Gd K m g) (X : GraphAt prog w C g x rs) (R : Room A k) (hk : k ≤ 30) (S0 : Fm g L ls own h) (lim : g.NoLimit) (hi : i ∈ rs.map Row.node)
    (q : ∀ g' h', Le g g' → Fm g' L ls own h' → Q (.bool true) h') : WC (model prog w) A s₀ (.call (.ref f) ⟨[.ref x, .int i t], []⟩) Q h := by
  refine WC_fn [("self", .local), ("n", .local), ("TypeError", .globalImplicit)] [] [("self", none), ("n", none)] [("self", .ref x), ("n", .int i t)] _ G S0 (R.deep (by omega)) lim rfl rfl rfl ?_ (by simp) (by decide) (by decide) (by decide) rfl rfl rfl ?_ (by decide)
  · intro fd tk e1 e2 e3
    refine BindsTo.of_eq ?_
    obtain ⟨fn, fq, fp, fb, fs, fg, fc, fd, fk⟩ := fd
    dsimp only at e1 e2 e3
    subst e1 e2 e3
    rfl
  intro env B C' cs own1 h' hL E _ S kl kB kg
  cases hL
  refine W_bindsCons (W_st E S (by walk_at "mem") (by walk_at "put") fun h' S => ?_)
  refine W_bindsCons (W_st E S (by walk_at "mem") (by walk_at "put") fun h' S => ?_)
  refine W_bindsNil ⟨kg.trans S.keep, ?_⟩
  obtain ⟨dx, es, n, gd, nd, ad, oad, ond, kn, x1, x2, x3, x4, x5, x6, x7, x8, x9, x10⟩ := X.ex
  have kh := kg.trans S.keep
  refine W_cons (W_Try (W_cons ?_))
  refine W_Return (W_Compare ?_)
  walk_at "go"
  refine W_AttrN ?_
  walk_at "go"
  refine W_getOwn (D.le kh).X GK.cls (inst_at (kh _ _ x1) (kh _ _ x2)) GK.dict GK.a2 (by rfl) (by show getL _ _ = _; rw [x3.get]; rfl) (by rfl) ?_
  refine W_inD (knd := IK prog w) (intKind_is _ _ _ _) (dict_at (kh _ _ x5) x7) x10 ?_
  have : (valueAt kn i).isSome = true := by
    rw [← x8] at hi
    obtain ⟨p, hp, e⟩ := List.mem_map.mp hi
    rw [valueAt_some (v := p.2) (by rw [x8]; exact X.nd) (by rw [← e]; exact hp)]; rfl
  rw [this]
  obtain ⟨g', S', q1, q2, q3⟩ := S0.leave kB (Le.refl B) S
  exact q g' _ q1 S'
theorem weigh {fl cw d : Addr} {k : Nat} {u v c : Int} {tu tv tc tw : Tok} {Q : Value → Heap → Prop} (G : Made g fl lamArgs (.expr lamBody) lamScope [("weight", cw)]) (hcw : g.get? cw = some (celO (some (.str "weight" tw)))) (R : Room A k) (hk : k ≤ 30) (S0 : Fm g L ls own h) (lim : g.NoLimit)
    (hd : g.DictOf (SK prog w) d [("weight", .int c tc)]) (hds : (d == sysModules) = false) (q : ∀ g' h', Le g g' → Fm g' L ls own h' → Q (.int c tc) h') : WC (model prog w) A s₀ (.call (.ref fl) ⟨[.int u tu, .int v tv, .ref d], []⟩) Q h := by
  refine WC_madeE [("u", .local), ("v", .local), ("data", .local), ("weight", .free)] [("u", none), ("v", none), ("data", none)] [("u", .int u tu), ("v", .int v tv), ("data", .ref d)] G S0 (R.deep (by omega)) lim rfl rfl ?_ (by simp) (by decide) (by decide) (by decide) rfl rfl rfl ?_ (by simp)
  · intro fd tk e1 e2 e3
    refine BindsTo.of_eq ?_
    obtain ⟨fn, fq, fp, fb, fs, fg, fc, fd, fk⟩ := fd
    dsimp only at e1 e2 e3
    subst e1 e2 e3
    rfl
  intro env B C' h' E S kl kB kg
  refine W_bindsCons (W_st E S (by walk_at "mem") (by walk_at "put") fun h' S => ?_)
  refine W_bindsCons (W_st E S (by walk_at "mem") (by walk_at "put") fun h' S => ?_)
  refine W_bindsCons (W_st E S (by walk_at "mem") (by walk_at "put") fun h' S => ?_)
  refine W_bindsNil ⟨kg.trans S.keep, ?_⟩
  have kh := kg.trans S.keep
  refine W_CallM ?_
  walk_at "go"
  refine W_mDict (knd := SK prog w) F.slot_dict_get F.type_dict_get (dict_le hd kh) ?_
  refine W_callWith ?_
  walk_at "go"
  refine W_ldF E (by walk_at "mem") (by walk_at "mem") (kh _ _ hcw) rfl ?_
  walk_at "go"
  refine ⟨Kept.builtin _ _ _, ?_⟩
  refine W_getD2 (knd := SK prog w) (k := "weight") (kvs := [("weight", .int c tc)]) (by show Value.isStrOf "weight" (.str "weight" tw) = true; simp [Value.isStrOf, Value.isStr]) (dict_le hd kh) hds ?_
  obtain ⟨g', S', q1, q2, q3⟩ := S0.leave kB (Le.refl B) S
  have := q g' _ q1 S'
  simpa [valueAt] using this
theorem path_run {f cp pl pa : Addr} {k : Nat} {dir : Int} {td : Tok} {items : Array Value} {oa : Obj} {kp : List (Int × Value)} {p : Int → Option (Option Int)} {cur : Option Int} {cv : Value} {l : List Int} {Q : Value → Heap → Prop}
    (G : Made g f (argsF pathS) (.stmts (bodyF pathS)) (scopeF pathS) [("preds", cp)]) (hcp : g.get? cp = some (celO (some (.ref pl)))) (hpl : g.IsList pl items) (hit : items[dir.toNat]? = some (.ref pa)) (hdir : dir = 0 ∨ dir = 1) (R : Room A k) (hk : k ≤ 30) (S0 : Fm g L ls own h) (lim : g.NoLimit)
    (hpa : (pa, oa) ∈ own) (hD : oa.IsDictOf (IK prog w) kp) (RP : RepP kp p) (tr : Trail p cur l) (hcv : CurV cur cv) (hl : l.length ≤ 100)
    (q : ∀ r ws n g' h', Le g g' → Fm g' L ls ((r, lstO ws n) :: own) h' → IntsAre ws (if dir = 0 then l.reverse else l) → Q (.ref r) h') : WC (model prog w) A s₀ (.call (.ref f) ⟨[cv, .int dir td], []⟩) Q h := by
  refine WC_made [("curr", .local), ("direction", .local), ("ret", .local), ("preds", .free)] [("curr", none), ("direction", none), ("ret", none)] [("curr", cv), ("direction", .int dir td)] G S0 (R.deep (by omega)) lim rfl rfl ?_ (by simp) (by decide) (by decide) (by decide) rfl rfl rfl ?_ (by simp)
  · intro fd tk e1 e2 e3
    refine BindsTo.of_eq ?_
    obtain ⟨fn, fq, fp, fb, fs, fg, fc, fd, fk⟩ := fd
    dsimp only at e1 e2 e3
    subst e1 e2 e3
    rfl
  intro env B C' h' E S kl kB kg
  refine W_bindsCons (W_st E S (by walk_at "mem") (by walk_at "put") fun h' S => ?_)
  refine W_bindsCons (W_st E S (by walk_at "mem") (by walk_at "put") fun h' S => ?_)
  refine W_bindsNil ⟨kg.trans S.keep, ?_⟩
  refine W_cons (W_Assign ?_ (by with_unfolding_all rfl))
  refine W_List (W_itemsNil ?_)
  refine W_newList S (by simp) fun rl h' _ S _ => ?_
  walk_at "go"
  refine W_While (fun m h => ∃ cur cv rest ws nn don, m = rest.length ∧ Fm B C' [("curr", some cv), ("direction", some (.int dir td)), ("ret", some (.ref rl))] ((rl, lstO ws nn) :: own) h ∧ Trail p cur rest ∧ CurV cur cv ∧ IntsAre ws don ∧ don ++ rest = l)
    ?_ l.length ⟨cur, cv, l, [], 0, [], rfl, S, tr, hcv, .nil, rfl⟩
  rintro m' h ⟨cur, cv, rest, ws, nn, don, rfl, S, tr, hcv, hw, hdl⟩
  have kh := kg.trans S.keep
  have hwl : ws.length ≤ 100 := by rw [hw.length]; have := congrArg List.length hdl; simp at this; omega
  refine W_tCompare ?_
  walk_at "go"
  refine W_isNotNone ?_
  walk_at "go"
  cases tr with
  | nil =>
    rw [show cv = .none from hcv]
    rw [if_neg (by decide)]
    refine W_cons (W_Return (W_IfExp ?_))
    walk_at "go"
    rw [List.append_nil] at hdl
    subst hdl
    rcases hdir with rfl | rfl
    · rw [if_pos (by rfl)]
      refine W_Subscript ?_
      walk_at "go"
      refine W_Slice (W_part0 (W_part0 (W_part1 ?_)))
      walk_at "go"
      refine W_negI fun t => ?_
      have S := S.push (o := { cls := .type "slice", data := .fields #[.none, .none, .int (-1) t] })
      have hsl := S.get List.mem_cons_self
      refine W_itemSlice (lo := none) (hi := none) (st := some (-1)) ⟨_, S.get (a := rl) (by walk_at "mem"), rfl, _, rfl⟩ hsl .none .none (.int (-1) t) (by simp) (by simp; omega) ?_
      rw [krv_pick]
      have S := S.push (o := lstO ws.reverse)
      have S := S.forget (own' := (_, lstO ws.reverse) :: own) (.cons₂ _ (.cons _ (.cons _ (List.Sublist.refl _))))
      obtain ⟨g', S', q1, q2, q3⟩ := S0.leave kB (Le.refl B) S
      exact q _ _ _ g' _ q1 S' (by rw [if_pos rfl]; exact IntsAre.rev hw)
    · rw [if_neg (by decide)]
      walk_at "go"
      obtain ⟨g', S', q1, q2, q3⟩ := S0.leave kB (Le.refl B) S
      exact q _ _ _ g' _ q1 S' (by rw [if_neg (by decide)]; exact hw)
  | @cons x nx l' hpx tr =>
    obtain ⟨tx, rfl⟩ := hcv
    obtain ⟨nv, hnv, hcur⟩ := RP x nx hpx
    rw [if_pos (by rfl)]
    refine W_cons (W_Expr ?_ E.inter)
    refine W_CallM ?_
    walk_at "go"
    refine W_mAppend (S.get (a := rl) (by walk_at "mem")) ?_
    refine W_callWith ?_
    walk_at "go"
    refine ⟨Kept.builtin _ _ _, ?_⟩
    refine W_append S (by walk_at "upd") (by omega) fun h' S => ⟨rfl, ?_⟩
    refine W_cons (W_Assign ?_ (by with_unfolding_all rfl))
    refine W_Subscript (W_Subscript ?_)
    have kh := kg.trans S.keep
    refine W_ldF E (by walk_at "mem") (by walk_at "mem") (kh _ _ hcp) rfl ?_
    walk_at "go"
    refine W_itemList (isList_le hpl kh) (by omega) hit (by omega) ?_
    walk_at "go"
    refine W_itemD (knd := IK prog w) (intKind_is _ _ _ _) (dict_at (S.get (List.mem_cons_of_mem _ hpa)) hD) hnv ?_
    walk_at "go"
    refine W_nil ⟨l'.length, by simp, nx, nv, l', ws ++ [_], _, don ++ [x], rfl, S, tr, hcur, hw.append (.cons _ _ .nil), by rw [← hdl]; simp⟩
end
end Mine
namespace Mine
open PySem PySem.Spec PySem.Calls PyProof.Rows PySem.W
theorem valueAt_stored {kvs : List (Int × Value)} {w x : Int} {v : Value} : valueAt (stored kvs w v) x = if x = w then some v else valueAt kvs x := by
  unfold stored
  split
  · rename_i h
    induction kvs with
    | nil => simp at h
    | cons p r ih =>
      obtain ⟨a, b⟩ := p
      simp only [List.map_cons]
      unfold valueAt
      simp only [List.find?_cons]
      by_cases ha : a = w
      · subst ha
        by_cases hx : x = a
        · subst hx; simp
        · have hx' : ¬ a = x := fun e => hx e.symm
          simp only [if_true, hx, hx', decide_false, Bool.false_eq_true, if_false]
          have : ∀ r : List (Int × Value), ((r.map fun kv => if kv.1 = a then (kv.1, v) else kv).find? fun kv => kv.1 = x).map (·.2) = (r.find? fun kv => kv.1 = x).map (·.2) := by
            intro r
            induction r with
            | nil => rfl
            | cons q s ih2 =>
              obtain ⟨c, d⟩ := q
              simp only [List.map_cons, List.find?_cons]
              by_cases hc : c = a
              · subst hc; simp only [if_true, hx', decide_false]; exact ih2
              · simp only [hc, if_false]
                by_cases hcx : c = x
                · subst hcx; simp
                · simp only [hcx, decide_false]; exact ih2
          exact this r
      · have hr : (r.any fun kv => decide (kv.1 = w)) = true := by simpa [ha] using h
        have := ih hr
        simp only [ha, if_false]
        by_cases hax : a = x
        · subst hax; simp [ha]
        · simp only [hax, decide_false]
          exact this
  · rename_i h
    unfold valueAt
    rw [List.find?_append]
    by_cases hx : x = w
    · subst hx
      have : kvs.find? (fun kv => decide (kv.1 = x)) = none := by
        rw [List.find?_eq_none]
        intro p hp
        simp only [List.any_eq_true, not_exists, not_and] at h
        exact h p hp
      rw [this]; simp
    · have hx' : ¬ w = x := fun e => hx e.symm
      simp [hx, hx']
theorem stored_keys {kvs : List (Int × Value)} {w : Int} {v : Value} : ∀ e ∈ stored kvs w v, e.1 = w ∨ e.1 ∈ kvs.map (·.1) := fun e he => by
  unfold stored at he
  split at he
  · obtain ⟨p, hp, rfl⟩ := List.mem_map.mp he
    split
    · rename_i h; exact .inl h
    · exact .inr (List.mem_map_of_mem hp)
  · rcases List.mem_append.mp he with h | h
    · exact .inr (List.mem_map_of_mem h)
    · rw [List.mem_singleton.mp h]; exact .inl rfl
/-- a dict of ints, its keys nodes -/
structure MapO (prog : Program) (w : World) (n : Int) (o : Obj) (k : List (Int × Value)) : Prop where
  is : o.IsDictOf (IK prog w) k
  rng : ∀ e ∈ k, 0 ≤ e.1 ∧ e.1 < n
theorem MapO.len {prog : Program} {w : World} {n : Int} {o : Obj} {k : List (Int × Value)} (x : MapO prog w n o k) (hn : n ≤ 5) : k.length ≤ 5 := by
  obtain ⟨es, ep, _, _, _, _, nd⟩ := x.is
  have := nodup_len n.toNat nd fun y hy => by
    obtain ⟨p, hp, rfl⟩ := List.mem_map.mp hy
    have := x.rng p hp
    omega
  simp at this; omega
theorem MapO.put {prog : Program} {w : World} {n z : Int} {o o' : Obj} {k : List (Int × Value)} {v : Value} (x : MapO prog w n o k) (h : o'.IsDictOf (IK prog w) (stored k z v)) (hz : 0 ≤ z ∧ z < n) : MapO prog w n o' (stored k z v) :=
  ⟨h, fun e he => by
    rcases stored_keys e he with q | q
    · rw [q]; exact hz
    · obtain ⟨p, hp, e2⟩ := List.mem_map.mp q
      rw [← e2]; exact x.rng p hp⟩
structure RepI (k : List (Int × Value)) (f : Int → Option Int) : Prop where
  no : ∀ x, f x = none → valueAt k x = none
  yes : ∀ x y, f x = some y → ∃ t, valueAt k x = some (.int y t)
theorem RepI.put {k : List (Int × Value)} {f : Int → Option Int} {z y : Int} {t : Tok} (x : RepI k f) : RepI (stored k z (.int y t)) (upd f z y) where
  no := fun a h => by
    rw [valueAt_stored]
    unfold upd at h
    split at h
    · cases h
    · rename_i q; rw [if_neg q]; exact x.no a h
  yes := fun a b h => by
    rw [valueAt_stored]
    unfold upd at h
    split at h
    · rename_i q; cases h; rw [if_pos q]; exact ⟨t, rfl⟩
    · rename_i q; rw [if_neg q]; exact x.yes a b h
theorem RepI.isSome {k : List (Int × Value)} {f : Int → Option Int} (x : RepI k f) (z : Int) : (valueAt k z).isSome = (f z).isSome := by
  cases q : f z with
  | none => rw [x.no z q]; rfl
  | some y => obtain ⟨t, e⟩ := x.yes z y q; rw [e]; rfl
theorem RepP.put {k : List (Int × Value)} {p : Int → Option (Option Int)} {z y : Int} {t : Tok} (x : RepP k p) : RepP (stored k z (.int y t)) (upd p z (some y)) := fun a nx h => by
  rw [valueAt_stored]
  unfold upd at h
  split at h
  · rename_i q; cases h; rw [if_pos q]; exact ⟨_, rfl, t, rfl⟩
  · rename_i q; rw [if_neg q]; exact x a nx h
/-- one side, as it stands in the heap -/
structure SideRep (prog : Program) (w : World) (n : Int) (B : Heap) (S : Side) (od os op : Obj) (kd : List (Int × Value)) (lh : List Ent) : Prop where
  d : MapO prog w n od kd
  dr : RepI kd S.d
  s : ∃ ks, MapO prog w n os ks ∧ RepI ks S.s
  p : ∃ kp, MapO prog w n op kp ∧ RepP kp S.p
  f : S.f = lh.map (·.2)
  tri : ∀ e ∈ lh, Tri B e.1 e.2
  heap : HeapL lh
theorem SideRep.le {prog : Program} {w : World} {n : Int} {B B' : Heap} {S : Side} {od os op : Obj} {kd : List (Int × Value)} {lh : List Ent} (x : SideRep prog w n B S od os op kd lh) (k : Le B B') : SideRep prog w n B' S od os op kd lh :=
  ⟨x.d, x.dr, x.s, x.p, x.f, fun e he => (x.tri e he).le k, x.heap⟩
/-- a list of two, seen from one side -/
structure Two (g : Heap) (l : Addr) (dir : Int) (T O : Addr) : Prop where
  ex : ∃ items, g.IsList l items ∧ items[dir.toNat]? = some (.ref T) ∧ items[(1 - dir).toNat]? = some (.ref O)
theorem Two.le {g h : Heap} {l : Addr} {dir : Int} {T O : Addr} (x : Two g l dir T O) (k : Le g h) : Two h l dir T O := let ⟨i, a, b⟩ := x.ex; ⟨i, isList_le a k, b⟩
theorem Two.flip {g : Heap} {l : Addr} {dir : Int} {T O : Addr} (x : Two g l dir T O) : Two g l (1 - dir) O T := by
  obtain ⟨i, a, b, c⟩ := x.ex
  refine ⟨i, a, c, ?_⟩
  rw [show 1 - (1 - dir) = dir by omega]; exact b
def FinV (fin : Option (Int × Int)) (vf vm : Value) : Prop := match fin with
  | none => vf = .none
  | some (f, m) => (∃ t, vf = .int f t) ∧ ∃ t, vm = .int m t
/-- what the search leans on, all of it unchanged -/
structure DG (prog : Program) (w : World) (K : Frag) (m : Nat) (C1 p0 p1 p2 fnx ld lp lf lse ln dT dO sT sO pT pO fT fO ad cp fl cw fp : Addr) (tw : Tok) (dir : Int) (g : Heap) : Prop where
  D : Gd K m g
  lim : g.NoLimit
  ck : CtK K C1 p0 p1 p2
  hml : ∃ o, g.get? (m - 1) = some o
  nx : findIn K (.ref C1) "__next__" = some (some (.ref fnx))
  nxf : isFn K (.ref fnx) = true
  gnx : FnIs g fnx (meth 15 3) .none
  td : Two g ld dir dT dO
  tp : Two g lp dir pT pO
  tf : Two g lf dir fT fO
  ts : Two g lse dir sT sO
  tn : Two g ln dir ad ad
  cell : g.get? cp = some (celO (some (.ref lp)))
  gl : Made g fl lamArgs (.expr lamBody) lamScope [("weight", cw)]
  gcw : g.get? cw = some (celO (some (.str "weight" tw)))
  gp : Made g fp (argsF pathS) (.stmts (bodyF pathS)) (scopeF pathS) [("preds", cp)]
  push : Glo g "heappush" (.builtin "_heapq.heappush")
  pop : Glo g "heappop" (.builtin "_heapq.heappop")
  next : Glo g "next" (.builtin "next")
theorem DG.le {prog : Program} {w : World} {K : Frag} {m : Nat} {C1 p0 p1 p2 fnx ld lp lf lse ln dT dO sT sO pT pO fT fO ad cp fl cw fp : Addr} {tw : Tok} {dir : Int} {g h : Heap}
    (x : DG prog w K m C1 p0 p1 p2 fnx ld lp lf lse ln dT dO sT sO pT pO fT fO ad cp fl cw fp tw dir g) (k : Le g h) : DG prog w K m C1 p0 p1 p2 fnx ld lp lf lse ln dT dO sT sO pT pO fT fO ad cp fl cw fp tw dir h :=
  ⟨x.D.le k, x.lim.keeps k, x.ck, let ⟨o, e⟩ := x.hml; ⟨o, k _ _ e⟩, x.nx, x.nxf, x.gnx.mono k, x.td.le k, x.tp.le k, x.tf.le k, x.ts.le k, x.tn.le k, k _ _ x.cell, x.gl.le k, k _ _ x.gcw, x.gp.le k, x.push.mono k, x.pop.mono k, x.next.mono k⟩
theorem DG.flip {prog : Program} {w : World} {K : Frag} {m : Nat} {C1 p0 p1 p2 fnx ld lp lf lse ln dT dO sT sO pT pO fT fO ad cp fl cw fp : Addr} {tw : Tok} {dir : Int} {g : Heap}
    (x : DG prog w K m C1 p0 p1 p2 fnx ld lp lf lse ln dT dO sT sO pT pO fT fO ad cp fl cw fp tw dir g) : DG prog w K m C1 p0 p1 p2 fnx ld lp lf lse ln dO dT sO sT pO pT fO fT ad cp fl cw fp tw (1 - dir) g :=
  ⟨x.D, x.lim, x.ck, x.hml, x.nx, x.nxf, x.gnx, x.td.flip, x.tp.flip, x.tf.flip, x.ts.flip, x.tn.flip, x.cell, x.gl, x.gcw, x.gp, x.push, x.pop, x.next⟩
section
variable {prog : Program} {w : World} {A : Around} {s₀ : Shared} {g h B : Heap} {L : Addr} {ls : Loc} {own : List (Addr × Obj)}
theorem W_itemTwo {value slice : Expr} {l T O : Addr} {dir : Int} {t : Tok} {Q : Value → Heap → Prop} (x : Two g l dir T O) (k : Le g h) (hd : dir = 0 ∨ dir = 1) (q : Q (.ref T) h)
    (hs : subscripted slice false (.ref l) (.int dir t) = operate [.ref l, .int dir t] (getItem (.ref l) (.int dir t)) := by with_unfolding_all rfl) : W (model prog w) A s₀ (subscriptTail value slice (.ref l) (.int dir t)) Q h := by
  obtain ⟨i, a, b, c⟩ := x.ex
  exact W_itemList (isList_le a k) (by omega) b (by omega) q hs
theorem W_itemOth {value slice : Expr} {l T O : Addr} {dir : Int} {t : Tok} {Q : Value → Heap → Prop} (x : Two g l dir T O) (k : Le g h) (hd : dir = 0 ∨ dir = 1) (q : Q (.ref O) h)
    (hs : subscripted slice false (.ref l) (.int (1 - dir) t) = operate [.ref l, .int (1 - dir) t] (getItem (.ref l) (.int (1 - dir) t)) := by with_unfolding_all rfl) : W (model prog w) A s₀ (subscriptTail value slice (.ref l) (.int (1 - dir) t)) Q h := by
  obtain ⟨i, a, b, c⟩ := x.ex
  exact W_itemList (isList_le a k) (by omega) c (by omega) q hs
end
def whB : Stmt → List Stmt
  | .While _ b _ _ => b
  | _ => []
def forB : Stmt → List Stmt
  | .For _ _ b _ _ => b
  | _ => []
def ifB : Stmt → List Stmt
  | .If _ b _ _ => b
  | _ => []
def ifO : Stmt → List Stmt
  | .If _ _ b _ => b
  | _ => []
def sAt (l : List Stmt) (k : Nat) : Stmt := match l[k]? with
  | some s => s
  | none => .Pass ⟨0, 0, 0, 0⟩
abbrev turnB : List Stmt := whB (subF (stm 17) 16)
abbrev tieB : List Stmt := forB (sAt turnB 5)
abbrev betterB : List Stmt := ifB (sAt (ifO (sAt tieB 3)) 0)
end Mine
namespace Mine
open PySem PySem.Spec PySem.Calls PyProof.Rows PySem.W
section
variable {prog : Program} {w₀ : World} {A : Around} {s₀ : Shared} {h : Heap} {L : Addr} {own : List (Addr × Obj)} {K : Frag} {m : Nat}
theorem better {C1 p0 p1 p2 fnx ld lp lf lse ln dT dO sT sO pT pO fT fO ad cp fl cw fp x xc dxc dd : Addr} {tw tsrc ttgt td tk tv tww tc tc1 tu1 t2 : Tok} {dir src tgt n k v w c cn : Int} {kk : Nat} {B : Heap} {env : Env} {adj : Adj} {rT rO : Int} {todo : List (Int × Int × Int)} {T O : Side} {fin : Option (Int × Int)}
    {odT osT opT odO osO opO : Obj} {kdT kdO : List (Int × Value)} {lT lO : List Ent} {nT nO : Nat} {vf vm : Value} {u_ uf : Option Value} {Q : Flow → Heap → Prop}
    (E : EnvOk env L [("G", .local), ("source", .local), ("target", .local), ("weight", .local), ("dists", .local), ("path", .local), ("fringe", .local), ("seen", .local), ("c", .local), ("neighbors", .local), ("finaldist", .local), ("meetnode", .local), ("direction", .local), ("dist", .local), ("_", .local), ("v", .local), ("w", .local), ("d", .local), ("cost", .local), ("vwLength", .local), ("finaldist_w", .local), ("preds", .cell), ("NodeNotFound", .globalImplicit), ("_weight_function", .globalImplicit), ("count", .globalImplicit), ("heappush", .globalImplicit), ("next", .globalImplicit), ("heappop", .globalImplicit), ("ValueError", .globalImplicit), ("NetworkXNoPath", .globalImplicit)] [("preds", cp)]) (R : Room A kk) (hk : kk ≤ 15) (hdir : dir = 0 ∨ dir = 1) (hmL : m ≤ L)
    (X : DG prog w₀ K m C1 p0 p1 p2 fnx ld lp lf lse ln dT dO sT sO pT pO fT fO ad cp fl cw fp tw dir B)
    (S : Fm B L [("G", some (.ref x)), ("source", some (.int src tsrc)), ("target", some (.int tgt ttgt)), ("weight", some (.ref fl)), ("dists", some (.ref ld)), ("path", some (.ref fp)), ("fringe", some (.ref lf)), ("seen", some (.ref lse)), ("c", some (.ref xc)), ("neighbors", some (.ref ln)), ("finaldist", some vf), ("meetnode", some vm), ("direction", some (.int dir td)), ("dist", some (.int k tk)), ("_", u_), ("v", some (.int v tv)), ("w", some (.int w tww)), ("d", some (.ref dd)), ("cost", some (.int c tc)), ("vwLength", some (.int (k + c) t2)), ("finaldist_w", uf)] ((dT, odT) :: (sT, osT) :: (pT, opT) :: (fT, lstO (refsOf lT) nT) :: (dO, odO) :: (sO, osO) :: (pO, opO) :: (fO, lstO (refsOf lO) nO) :: (xc, cntO C1 dxc cn tc1 tu1) :: (dxc, dicE) :: own) h)
    (RT : SideRep prog w₀ n B T odT osT opT kdT lT) (RO : SideRep prog w₀ n B O odO osO opO kdO lO) (G : GraphOk n adj) (hn5 : n ≤ 5)
    (M : MidOk n adj rT rO v k ((v, w, c) :: todo) T O fin) (he : (w, c) ∈ adj v) (hfin : FinV fin vf vm) (hlT : lT.length ≤ 900) (hw : T.d w = none) (hb : ∀ kw, T.s w = some kw → k + c < kw)
    (q : ∀ B' h' T' fin' vf' vm' uf' osT' opT' lT' nT' cn' tc1' tu1', Le B B' → Fm B' L [("G", some (.ref x)), ("source", some (.int src tsrc)), ("target", some (.int tgt ttgt)), ("weight", some (.ref fl)), ("dists", some (.ref ld)), ("path", some (.ref fp)), ("fringe", some (.ref lf)), ("seen", some (.ref lse)), ("c", some (.ref xc)), ("neighbors", some (.ref ln)), ("finaldist", some vf'), ("meetnode", some vm'), ("direction", some (.int dir td)), ("dist", some (.int k tk)), ("_", u_), ("v", some (.int v tv)), ("w", some (.int w tww)), ("d", some (.ref dd)), ("cost", some (.int c tc)), ("vwLength", some (.int (k + c) t2)), ("finaldist_w", uf')] ((dT, odT) :: (sT, osT') :: (pT, opT') :: (fT, lstO (refsOf lT') nT') :: (dO, odO) :: (sO, osO) :: (pO, opO) :: (fO, lstO (refsOf lO) nO) :: (xc, cntO C1 dxc cn' tc1' tu1') :: (dxc, dicE) :: own) h' →
      SideRep prog w₀ n B' T' odT osT' opT' kdT lT' → MidOk n adj rT rO v k todo T' O fin' → FinV fin' vf' vm' → lT'.length ≤ lT.length + 1 → Q .next h') :
    W (model prog w₀) A s₀ (execs betterB env) Q h := by
  have kb := Le.refl B
  have hwn := (G.node _ _ _ he).2.2
  obtain ⟨ks, hs, rs⟩ := RT.s
  obtain ⟨kp, hp, rp⟩ := RT.p
  refine W_cons (W_AssignSub ?_ (by with_unfolding_all rfl))
  walk_at "go"
  refine W_itemTwo X.ts (kb.trans S.keep) hdir ?_
  walk_at "go"
  refine W_setD (o := osT) S (fun o' => (by walk_at "upd")) hs.is (by have := hs.len hn5; omega) fun osT' h' hos S => ?_
  have hs' := hs.put hos hwn
  have rs' : RepI (stored ks w (.int (k + c) t2)) (upd T.s w (k + c)) := rs.put
  refine W_cons (W_Expr ?_ E.inter)
  refine W_CallN ?_
  refine W_ldG E (by walk_at "mem") X.push (kb.trans S.keep) ?_
  refine W_callWith ?_
  walk_at "go"
  refine W_itemTwo X.tf (kb.trans S.keep) hdir ?_
  walk_at "go"
  refine W_ldG E (by walk_at "mem") X.next (kb.trans S.keep) ?_
  refine W_callWith ?_
  walk_at "go"
  refine ⟨Kept.builtin _ _ _, ?_⟩
  refine W_next (X.D.le (kb.trans S.keep)).X (show InstAt _ xc (cntO C1 dxc cn tc1 tu1) C1 (some dicE) from ⟨S.get (by walk_at "mem"), rfl, rfl, S.get (a := dxc) (by walk_at "mem")⟩) X.nx X.nxf ?_
  refine count_next X.gnx X.ck X.D X.hml R.in1 (by omega) S X.lim (dx := dxc) (by walk_at "mem") (fun o' => (by walk_at "upd")) fun tc1' B1 h' k1 S => ?_
  replace kb := kb.trans k1
  walk_at "go"
  refine W_newTuple S (by simp) fun tt h' _ S kk => ?_
  walk_at "go"
  refine ⟨Kept.builtin _ _ _, ?_⟩
  obtain ⟨B2, S, k2, htt⟩ := S.settle1
  replace kb := kb.trans k2
  refine W_hpush (l := lT) (n := nT) (k := (k + c, cn, w)) (R.in1.in1.unit0 (by omega)) S (fun o' => (by walk_at "upd")) (fun p hp => (RT.tri p hp).le kb) ⟨_, _, _, htt⟩ (by omega) RT.heap fun lT' nT' h' hpm hH htri S => ⟨rfl, ?_⟩
  refine W_cons (W_AssignSub ?_ (by with_unfolding_all rfl))
  walk_at "go"
  refine W_ldC E (by walk_at "mem") (by walk_at "mem") (kb.trans S.keep _ _ X.cell) rfl ?_
  walk_at "go"
  refine W_itemTwo X.tp (kb.trans S.keep) hdir ?_
  walk_at "go"
  refine W_setD (o := opT) S (fun o' => (by walk_at "upd")) hp.is (by have := hp.len hn5; omega) fun opT' h' hop S => ?_
  have hp' := hp.put hop hwn
  have rp' : RepP (stored kp w (.int v tv)) (upd T.p w (some v)) := rp.put
  have hf' : (lT'.map (·.2)).Perm ((k + c, cn, w) :: T.f) := by
    rw [RT.f]
    have := hpm.map (·.2)
    simp only [List.map_append, List.map_cons, List.map_nil] at this
    exact this.trans (List.perm_append_comm (l₁ := lT.map (·.2)) (l₂ := [(k + c, cn, w)]))
  have M' := M.improve G he hw hb hf'
  have RT' : SideRep prog w₀ n B2 ⟨T.d, upd T.s w (k + c), upd T.p w (some v), lT'.map (·.2)⟩ odT osT' opT' kdT lT' := ⟨RT.d, RT.dr, ⟨_, hs', rs'⟩, ⟨_, hp', rp'⟩, rfl, htri, hH⟩
  have hlen : lT'.length ≤ lT.length + 1 := by have := hpm.length_eq; simp at this; omega
  refine W_cons (W_If (W_tCompare ?_))
  walk_at "go"
  refine W_itemOth X.ts (kb.trans S.keep) hdir ?_
  obtain ⟨kso, hso, rso⟩ := RO.s
  refine W_inD (knd := IK prog w₀) (intKind_is _ _ _ _) (dict_at (S.get (a := sO) (by walk_at "mem")) hso.is) (S.notSys (X.D.le kb) (a := sO) (by walk_at "mem")) ?_
  rw [rso.isSome]
  walk_at "go"
  cases ho : O.s w with
  | none =>
    rw [if_neg (by simp)]
    refine W_nil (W_nil ?_)
    rw [ho] at M'
    exact q B2 _ _ fin vf vm uf osT' opT' lT' nT' _ _ _ kb S RT' M' hfin hlen
  | some b =>
    rw [if_pos (by rfl)]
    obtain ⟨tb, hvb⟩ := rso.yes w b ho
    rw [ho] at M'
    refine W_cons (W_Assign ?_ (by with_unfolding_all rfl))
    walk_at "go"
    refine W_itemOth X.ts (kb.trans S.keep) hdir ?_
    walk_at "go"
    refine W_itemD (knd := IK prog w₀) (intKind_is _ _ _ _) (dict_at (S.get (a := sO) (by walk_at "mem")) hso.is) hvb ?_
    walk_at "go"
    refine W_isNone ?_
    walk_at "go"
    have store : ∀ h' uf', Fm B2 L [("G", some (.ref x)), ("source", some (.int src tsrc)), ("target", some (.int tgt ttgt)), ("weight", some (.ref fl)), ("dists", some (.ref ld)), ("path", some (.ref fp)), ("fringe", some (.ref lf)), ("seen", some (.ref lse)), ("c", some (.ref xc)), ("neighbors", some (.ref ln)), ("finaldist", some vf), ("meetnode", some vm), ("direction", some (.int dir td)), ("dist", some (.int k tk)), ("_", u_), ("v", some (.int v tv)), ("w", some (.int w tww)), ("d", some (.ref dd)), ("cost", some (.int c tc)), ("vwLength", some (.int (k + c) t2)), ("finaldist_w", some (.int (k + c + b) uf'))] ((dT, odT) :: (sT, osT') :: (pT, opT') :: (fT, lstO (refsOf lT') nT') :: (dO, odO) :: (sO, osO) :: (pO, opO) :: (fO, lstO (refsOf lO) nO) :: (xc, cntO C1 dxc (cn + 1) tc1' tu1) :: (dxc, dicE) :: own) h' →
        finStep fin (some b) (k + c) w = some (k + c + b, w) → W (model prog w₀) A s₀ (execs (ifB (sAt (ifB (sAt betterB 3)) 1)) env) (fun f h2 => f = .next ∧ Q .next h2) h' := fun h' uf' S hfs => by
      refine W_cons (W_AssignSwap R.hh ?_ (E.swapped (by walk_at "mem") (by walk_at "mem") (by rfl) (by decide) (by decide)))
      walk_at "go"
      refine W_newTuple S (by simp) fun tt h' _ S kk => ?_
      refine ⟨tt, _, _, rfl, S.get List.mem_cons_self, fun h' Sx _ => ?_⟩
      have S := (Sx _ _ _ _ S).forget (List.sublist_cons_self _ _)
      walk_at "go"
      refine W_nil ⟨rfl, ?_⟩
      rw [hfs] at M'
      exact q B2 _ _ _ _ _ _ osT' opT' lT' nT' _ _ _ kb S RT' M' ⟨⟨_, rfl⟩, ⟨_, rfl⟩⟩ hlen
    cases fin with
    | none =>
      rw [show vf = .none from hfin] at S ⊢
      rw [if_pos (by rfl), if_pos (by rfl)]
      rw [show vf = .none from hfin] at store
      refine (store _ _ S rfl).mono fun f h2 ⟨e, z⟩ => ?_
      subst e
      exact W_nil (W_nil z)
    | some z =>
      obtain ⟨f0, m0⟩ := z
      obtain ⟨⟨tf0, e1⟩, tm0, e2⟩ := hfin
      subst e1
      subst e2
      rw [if_neg (by simp)]
      refine W_orCons (W_tCompare ?_)
      walk_at "go"
      by_cases hgt : f0 > k + c + b
      · rw [decide_eq_true hgt, if_pos (by rfl), if_pos (by rfl)]
        refine (store _ _ S (by simp only [finStep, finNew]; rw [if_pos hgt])).mono fun f h2 ⟨e, z⟩ => ?_
        subst e
        exact W_nil (W_nil z)
      · rw [decide_eq_false hgt, if_neg (by decide)]
        refine W_orNil ?_
        rw [if_neg (by decide)]
        refine W_nil (W_nil (W_nil ?_))
        have hfs : finStep (some (f0, m0)) (some b) (k + c) w = some (f0, m0) := by simp only [finStep, finNew]; rw [if_neg hgt]
        rw [hfs] at M'
        exact q B2 _ _ _ _ _ _ osT' opT' lT' nT' _ _ _ kb S RT' M' ⟨⟨_, rfl⟩, ⟨_, rfl⟩⟩ hlen
end
end Mine
namespace Mine
open PySem PySem.Spec PySem.Calls PyProof.Rows PySem.W
section
variable {prog : Program} {w₀ : World} {A : Around} {s₀ : Shared} {h : Heap} {L : Addr} {own : List (Addr × Obj)} {K : Frag} {m : Nat}
theorem tie_turn {C1 p0 p1 p2 fnx ld lp lf lse ln dT dO sT sO pT pO fT fO ad cp fl cw fp x xc dxc dd : Addr} {tw tsrc ttgt td tk tv tww tc tc1 tu1 : Tok} {dir src tgt n k v w c cn : Int} {kk : Nat} {B : Heap} {env : Env} {adj : Adj} {rT rO : Int} {todo : List (Int × Int × Int)} {T O : Side} {fin : Option (Int × Int)}
    {odT osT opT odO osO opO : Obj} {kdT kdO : List (Int × Value)} {lT lO : List Ent} {nT nO : Nat} {vf vm : Value} {u_ u1 u2 uf : Option Value} {Q : Flow → Heap → Prop}
    (E : EnvOk env L [("G", .local), ("source", .local), ("target", .local), ("weight", .local), ("dists", .local), ("path", .local), ("fringe", .local), ("seen", .local), ("c", .local), ("neighbors", .local), ("finaldist", .local), ("meetnode", .local), ("direction", .local), ("dist", .local), ("_", .local), ("v", .local), ("w", .local), ("d", .local), ("cost", .local), ("vwLength", .local), ("finaldist_w", .local), ("preds", .cell), ("NodeNotFound", .globalImplicit), ("_weight_function", .globalImplicit), ("count", .globalImplicit), ("heappush", .globalImplicit), ("next", .globalImplicit), ("heappop", .globalImplicit), ("ValueError", .globalImplicit), ("NetworkXNoPath", .globalImplicit)] [("preds", cp)]) (R : Room A kk) (hk : kk ≤ 15) (hdir : dir = 0 ∨ dir = 1) (hmL : m ≤ L)
    (X : DG prog w₀ K m C1 p0 p1 p2 fnx ld lp lf lse ln dT dO sT sO pT pO fT fO ad cp fl cw fp tw dir B)
    (S : Fm B L [("G", some (.ref x)), ("source", some (.int src tsrc)), ("target", some (.int tgt ttgt)), ("weight", some (.ref fl)), ("dists", some (.ref ld)), ("path", some (.ref fp)), ("fringe", some (.ref lf)), ("seen", some (.ref lse)), ("c", some (.ref xc)), ("neighbors", some (.ref ln)), ("finaldist", some vf), ("meetnode", some vm), ("direction", some (.int dir td)), ("dist", some (.int k tk)), ("_", u_), ("v", some (.int v tv)), ("w", some (.int w tww)), ("d", some (.ref dd)), ("cost", u1), ("vwLength", u2), ("finaldist_w", uf)] ((dT, odT) :: (sT, osT) :: (pT, opT) :: (fT, lstO (refsOf lT) nT) :: (dO, odO) :: (sO, osO) :: (pO, opO) :: (fO, lstO (refsOf lO) nO) :: (xc, cntO C1 dxc cn tc1 tu1) :: (dxc, dicE) :: own) h)
    (RT : SideRep prog w₀ n B T odT osT opT kdT lT) (RO : SideRep prog w₀ n B O odO osO opO kdO lO) (G : GraphOk n adj) (hn5 : n ≤ 5)
    (M : MidOk n adj rT rO v k ((v, w, c) :: todo) T O fin) (he : (w, c) ∈ adj v) (hfin : FinV fin vf vm) (hlT : lT.length ≤ 900)
    (hdd : B.DictOf (SK prog w₀) dd [("weight", .int c tc)]) (hds : (dd == sysModules) = false)
    (q : ∀ B' h' T' fin' vf' vm' u1' u2' uf' osT' opT' lT' nT' cn' tc1' tu1', Le B B' → Fm B' L [("G", some (.ref x)), ("source", some (.int src tsrc)), ("target", some (.int tgt ttgt)), ("weight", some (.ref fl)), ("dists", some (.ref ld)), ("path", some (.ref fp)), ("fringe", some (.ref lf)), ("seen", some (.ref lse)), ("c", some (.ref xc)), ("neighbors", some (.ref ln)), ("finaldist", some vf'), ("meetnode", some vm'), ("direction", some (.int dir td)), ("dist", some (.int k tk)), ("_", u_), ("v", some (.int v tv)), ("w", some (.int w tww)), ("d", some (.ref dd)), ("cost", u1'), ("vwLength", u2'), ("finaldist_w", uf')] ((dT, odT) :: (sT, osT') :: (pT, opT') :: (fT, lstO (refsOf lT') nT') :: (dO, odO) :: (sO, osO) :: (pO, opO) :: (fO, lstO (refsOf lO) nO) :: (xc, cntO C1 dxc cn' tc1' tu1') :: (dxc, dicE) :: own) h' →
      SideRep prog w₀ n B' T' odT osT' opT' kdT lT' → MidOk n adj rT rO v k todo T' O fin' → FinV fin' vf' vm' → lT'.length ≤ lT.length + 1 → Q .next h') :
    W (model prog w₀) A s₀ (execs tieB env) Q h := by
  have kb := Le.refl B
  refine W_cons (W.mono (Q := fun f h1 => f = .next ∧ ∃ B1, Le B B1 ∧ Fm B1 L [("G", some (.ref x)), ("source", some (.int src tsrc)), ("target", some (.int tgt ttgt)), ("weight", some (.ref fl)), ("dists", some (.ref ld)), ("path", some (.ref fp)), ("fringe", some (.ref lf)), ("seen", some (.ref lse)), ("c", some (.ref xc)), ("neighbors", some (.ref ln)), ("finaldist", some vf), ("meetnode", some vm), ("direction", some (.int dir td)), ("dist", some (.int k tk)), ("_", u_), ("v", some (.int v tv)), ("w", some (.int w tww)), ("d", some (.ref dd)), ("cost", some (.int c tc)), ("vwLength", u2), ("finaldist_w", uf)] ((dT, odT) :: (sT, osT) :: (pT, opT) :: (fT, lstO (refsOf lT) nT) :: (dO, odO) :: (sO, osO) :: (pO, opO) :: (fO, lstO (refsOf lO) nO) :: (xc, cntO C1 dxc cn tc1 tu1) :: (dxc, dicE) :: own) h1) ?_ ?_)
  · refine W_Assign ?_ (by with_unfolding_all rfl)
    refine W_IfExp ?_
    walk_at "go"
    rcases hdir with rfl | rfl
    · rw [if_pos (by rfl)]
      walk_at "go"
      refine W_callWith ?_
      walk_at "go"
      refine ⟨X.gl.kept (kb.trans S.keep), W_call ?_⟩
      refine weigh X.gl X.gcw R (by omega) S X.lim hdd hds fun B1 h' k1 S => ?_
      walk_at "go"
      exact ⟨rfl, B1, k1, S⟩
    · rw [if_neg (by decide)]
      walk_at "go"
      refine W_callWith ?_
      walk_at "go"
      refine ⟨X.gl.kept (kb.trans S.keep), W_call ?_⟩
      refine weigh X.gl X.gcw R (by omega) S X.lim hdd hds fun B1 h' k1 S => ?_
      walk_at "go"
      exact ⟨rfl, B1, k1, S⟩
  rintro f h1 ⟨rfl, B1, k1, S⟩
  replace kb := kb.trans k1
  have X1 := X.le k1
  refine W_cons (W_If (W_tCompare ?_))
  walk_at "go"
  refine W_isNone ?_
  walk_at "go"
  rw [if_neg (by simp)]
  refine W_nil ?_
  refine W_cons (W_Assign ?_ (by with_unfolding_all rfl))
  refine W_BinOp ?_
  walk_at "go"
  refine W_itemTwo X.td (kb.trans S.keep) hdir ?_
  refine W_inD (knd := IK prog w₀) (intKind_is _ _ _ _) (dict_at (S.get (a := dT) (by walk_at "mem")) RT.d.is) (S.notSys X1.D (a := dT) (by walk_at "mem")) ?_
  rw [RT.dr.isSome]
  walk_at "go"
  cases hTd : T.d w with
  | some kw =>
    obtain ⟨hle, M'⟩ := M.settled G he hTd
    obtain ⟨tkw, hkw⟩ := RT.dr.yes w kw hTd
    rw [if_pos (by rfl)]
    refine W_cons (W_If (W_tCompare ?_))
    walk_at "go"
    refine W_itemTwo X.td (kb.trans S.keep) hdir ?_
    walk_at "go"
    refine W_itemD (knd := IK prog w₀) (intKind_is _ _ _ _) (dict_at (S.get (a := dT) (by walk_at "mem")) RT.d.is) hkw ?_
    walk_at "go"
    rw [decide_eq_false (by omega), if_neg (by decide)]
    refine W_nil (W_nil (W_nil ?_))
    exact q B1 _ T fin vf vm _ _ _ osT opT lT nT cn tc1 tu1 kb S (RT.le kb) M' hfin (by omega)
  | none =>
    rw [if_neg (by simp)]
    obtain ⟨ks, hs, rs⟩ := RT.s
    have body : ∀ (h' : Heap) (t2 : Tok), Fm B1 L [("G", some (.ref x)), ("source", some (.int src tsrc)), ("target", some (.int tgt ttgt)), ("weight", some (.ref fl)), ("dists", some (.ref ld)), ("path", some (.ref fp)), ("fringe", some (.ref lf)), ("seen", some (.ref lse)), ("c", some (.ref xc)), ("neighbors", some (.ref ln)), ("finaldist", some vf), ("meetnode", some vm), ("direction", some (.int dir td)), ("dist", some (.int k tk)), ("_", u_), ("v", some (.int v tv)), ("w", some (.int w tww)), ("d", some (.ref dd)), ("cost", some (.int c tc)), ("vwLength", some (.int (k + c) t2)), ("finaldist_w", uf)] ((dT, odT) :: (sT, osT) :: (pT, opT) :: (fT, lstO (refsOf lT) nT) :: (dO, odO) :: (sO, osO) :: (pO, opO) :: (fO, lstO (refsOf lO) nO) :: (xc, cntO C1 dxc cn tc1 tu1) :: (dxc, dicE) :: own) h' →
        (∀ kw, T.s w = some kw → k + c < kw) → W (model prog w₀) A s₀ (execs betterB env) (fun f h2 => f = .next ∧ Q .next h2) h' := fun h' t2 S hb =>
      better (Q := fun f h2 => f = .next ∧ Q .next h2) E R hk hdir hmL X1 S (RT.le kb) (RO.le kb) G hn5 M he hfin hlT hTd hb fun B' h' T' fin' vf' vm' uf' osT' opT' lT' nT' cn' tc1' tu1' k2 S RT' M' hf' hl' =>
        ⟨rfl, q B' h' T' fin' vf' vm' _ _ _ osT' opT' lT' nT' cn' tc1' tu1' (kb.trans k2) S RT' M' hf' hl'⟩
    refine W_cons (W_If (W_tBoolOp (W_orCons (W_tCompare ?_))))
    walk_at "go"
    refine W_itemTwo X.ts (kb.trans S.keep) hdir ?_
    refine W_notInD (knd := IK prog w₀) (intKind_is _ _ _ _) (dict_at (S.get (a := sT) (by walk_at "mem")) hs.is) (S.notSys X1.D (a := sT) (by walk_at "mem")) ?_
    rw [rs.isSome]
    walk_at "go"
    cases hTs : T.s w with
    | none =>
      rw [if_pos (by rfl), if_pos (by rfl)]
      refine (body _ _ S (fun kw e => by rw [hTs] at e; cases e)).mono fun f h2 ⟨e, z⟩ => ?_
      subst e
      exact W_nil (W_nil z)
    | some kw =>
      obtain ⟨tkw, hkw⟩ := rs.yes w kw hTs
      rw [if_neg (by simp)]
      refine W_orCons (W_tCompare ?_)
      walk_at "go"
      refine W_itemTwo X.ts (kb.trans S.keep) hdir ?_
      walk_at "go"
      refine W_itemD (knd := IK prog w₀) (intKind_is _ _ _ _) (dict_at (S.get (a := sT) (by walk_at "mem")) hs.is) hkw ?_
      walk_at "go"
      by_cases hlt : k + c < kw
      · rw [decide_eq_true hlt, if_pos (by rfl), if_pos (by rfl)]
        refine (body _ _ S (fun kw' e => by rw [hTs] at e; cases e; exact hlt)).mono fun f h2 ⟨e, z⟩ => ?_
        subst e
        exact W_nil (W_nil z)
      · rw [decide_eq_false hlt, if_neg (by decide)]
        refine W_orNil ?_
        rw [if_neg (by decide)]
        refine W_nil (W_nil (W_nil ?_))
        exact q B1 _ T fin vf vm _ _ _ osT opT lT nT cn tc1 tu1 kb S (RT.le kb) (M.skip hTs (by omega)) hfin (by omega)
end
end Mine
namespace Mine
open PySem PySem.Spec PySem.Calls PyProof.Rows PySem.W
/-- what is told -/
structure Told (g : Heap) (adj : Adj) (src tgt : Int) (v : Value) : Prop where
  ex : ∃ tr r f t ws way, v = .ref tr ∧ g.get? tr = some (tupO [.int f t, .ref r]) ∧ g.IsList r ws.toArray ∧ IntsAre ws way ∧ Way adj src tgt f way ∧ way.length ≤ 100
structure Done (g : Heap) (L : Addr) (own : List (Addr × Obj)) (adj : Adj) (src tgt : Int) (v : Value) (h : Heap) : Prop where
  ex : ∃ B ls, Le g B ∧ Fm B L ls own h ∧ Told B adj src tgt v
section
variable {prog : Program} {w₀ : World} {A : Around} {s₀ : Shared} {h : Heap} {L : Addr} {own : List (Addr × Obj)} {K : Frag} {m : Nat}
theorem ret_way {lp ld lf lse ln fl cp fp x xc pA pB : Addr} {own1 : List (Addr × Obj)} {u3 u4 u5 u6 u7 u8 u9 u10 u11 : Option Value} {tsrc ttgt tf tm : Tok} {src tgt f mm : Int} {kk : Nat} {B : Heap} {env : Env} {adj : Adj} {items : Array Value}
    {opA opB : Obj} {kA kB : List (Int × Value)} {fA fB : Int → Option (Option Int)} {lA lB : List Int}
    (E : EnvOk env L [("G", .local), ("source", .local), ("target", .local), ("weight", .local), ("dists", .local), ("path", .local), ("fringe", .local), ("seen", .local), ("c", .local), ("neighbors", .local), ("finaldist", .local), ("meetnode", .local), ("direction", .local), ("dist", .local), ("_", .local), ("v", .local), ("w", .local), ("d", .local), ("cost", .local), ("vwLength", .local), ("finaldist_w", .local), ("preds", .cell), ("NodeNotFound", .globalImplicit), ("_weight_function", .globalImplicit), ("count", .globalImplicit), ("heappush", .globalImplicit), ("next", .globalImplicit), ("heappop", .globalImplicit), ("ValueError", .globalImplicit), ("NetworkXNoPath", .globalImplicit)] [("preds", cp)]) (R : Room A kk) (hk : kk ≤ 15) (lim : B.NoLimit) (gp : Made B fp (argsF pathS) (.stmts (bodyF pathS)) (scopeF pathS) [("preds", cp)]) (hcp : B.get? cp = some (celO (some (.ref lp)))) (hpl : B.IsList lp items)
    (i0 : items[0]? = some (.ref pA)) (i1 : items[1]? = some (.ref pB))
    (S : Fm B L [("G", some (.ref x)), ("source", some (.int src tsrc)), ("target", some (.int tgt ttgt)), ("weight", some (.ref fl)), ("dists", some (.ref ld)), ("path", some (.ref fp)), ("fringe", some (.ref lf)), ("seen", some (.ref lse)), ("c", some (.ref xc)), ("neighbors", some (.ref ln)), ("finaldist", some (.int f tf)), ("meetnode", some (.int mm tm)), ("direction", u3), ("dist", u4), ("_", u5), ("v", u6), ("w", u7), ("d", u8), ("cost", u9), ("vwLength", u10), ("finaldist_w", u11)] own1 h) (hs : own.Sublist own1)
    (hA : (pA, opA) ∈ own1) (hB : (pB, opB) ∈ own1) (mA : opA.IsDictOf (IK prog w₀) kA) (mB : opB.IsDictOf (IK prog w₀) kB) (rA : RepP kA fA) (rB : RepP kB fB)
    (tA : Trail fA (some mm) lA) (tB : Trail fB (some mm) lB) (nA : lA.length ≤ 40) (nB : lB.length ≤ 40) (hw : Way adj src tgt f (lA.reverse ++ lB.tail)) :
    W (model prog w₀) A s₀ (execs (ifB (sAt turnB 4)) env) (fun r h2 => ∃ v, r = .ret v ∧ Done B L own adj src tgt v h2) h := by
  have kb := Le.refl B
  refine W_cons (W_Return (W_Tuple ?_))
  walk_at "go"
  refine W_callWith ?_
  walk_at "go"
  refine ⟨gp.kept (kb.trans S.keep), W_call ?_⟩
  refine path_run (dir := 0) gp hcp hpl i0 (.inl rfl) R (by omega) S lim hA mA rA tA ⟨tm, rfl⟩ (by omega) fun r1 ws1 n1 B1 h' k1 S hi1 => ?_
  replace kb := kb.trans k1
  rw [if_pos rfl] at hi1
  walk_at "go"
  refine W_callWith ?_
  walk_at "go"
  refine W_ldC E (by walk_at "mem") (by walk_at "mem") (kb.trans S.keep _ _ hcp) rfl ?_
  walk_at "go"
  refine W_itemList (isList_le hpl (kb.trans S.keep)) (by decide) i1 (by decide) ?_
  walk_at "go"
  obtain ⟨nx, hnx, tB'⟩ := tB.tail
  obtain ⟨nv, hnv, hcur⟩ := rB mm nx hnx
  refine W_itemD (knd := IK prog w₀) (intKind_is _ _ _ _) (dict_at (S.get (List.mem_cons_of_mem _ hB)) mB) hnv ?_
  walk_at "go"
  refine ⟨gp.kept (kb.trans S.keep), W_call ?_⟩
  refine path_run (dir := 1) (gp.le kb) (kb _ _ hcp) (isList_le hpl kb) i1 (.inr rfl) R (by omega) S (lim.keeps kb) (List.mem_cons_of_mem _ hB) mB rB tB' hcur (by simp; omega) fun r2 ws2 n2 B2 h' k2 S hi2 => ?_
  replace kb := kb.trans k2
  rw [if_neg (by decide)] at hi2
  walk_at "go"
  have hl1 := hi1.length
  have hl2 := hi2.length
  simp at hl1 hl2
  refine W_addL S (S.get (a := r1) (by walk_at "mem")) (S.get (a := r2) (by walk_at "mem")) (by omega) fun r3 h' S => ?_
  walk_at "go"
  obtain ⟨B3, S, k3, h3⟩ := S.settle1
  refine W_newTuple S (by simp) fun tt h' _ S _ => ?_
  obtain ⟨B4, S, k4, h4⟩ := S.settle1
  refine ⟨_, rfl, B4, _, kb.trans (k3.trans k4), S.forget (.cons _ (.cons _ hs)), tt, r3, f, tf, _, _, rfl, h4, ⟨_, k4 _ _ h3, rfl, _, rfl⟩, hi1.append hi2, hw, ?_⟩
  simp; omega
end
end Mine
namespace Mine
open PySem PySem.Spec PySem.Calls PyProof.Rows PySem.W
def mu (l : List Ent) (k : List (Int × Value)) : Nat := l.length + 60 * (5 - k.length)
section
variable {prog : Program} {w₀ : World} {A : Around} {s₀ : Shared} {h : Heap} {L : Addr} {own : List (Addr × Obj)} {K : Frag} {m : Nat}
/-- between two turns -/
structure Head (prog : Program) (w₀ : World) (K : Frag) (m : Nat) (g : Heap) (L : Addr) (own : List (Addr × Obj)) (C1 p0 p1 p2 fnx ld lp lf lse ln ad cp fl cw fp x xc dxc : Addr) (tw tsrc ttgt : Tok) (src tgt n : Int) (adj : Adj) (mm : Nat) (h : Heap) : Prop where
  ex : ∃ (dir : Int) (dT dO sT sO pT pO fT fO : Addr) (td : Tok) (B : Heap) (vf vm : Value) (u1 u2 u3 u4 u5 u6 u7 u8 : Option Value) (odT osT opT odO osO opO : Obj) (kdT kdO : List (Int × Value)) (lT lO : List Ent) (nT nO : Nat) (cn : Int) (tc1 tu1 : Tok) (T O : Side) (fin : Option (Int × Int)) (rT rO : Int),
    (dir = 0 ∨ dir = 1) ∧ Le g B ∧ DG prog w₀ K m C1 p0 p1 p2 fnx ld lp lf lse ln dT dO sT sO pT pO fT fO ad cp fl cw fp tw dir B ∧
    Fm B L [("G", some (.ref x)), ("source", some (.int src tsrc)), ("target", some (.int tgt ttgt)), ("weight", some (.ref fl)), ("dists", some (.ref ld)), ("path", some (.ref fp)), ("fringe", some (.ref lf)), ("seen", some (.ref lse)), ("c", some (.ref xc)), ("neighbors", some (.ref ln)), ("finaldist", some vf), ("meetnode", some vm), ("direction", some (.int (1 - dir) td)), ("dist", u1), ("_", u2), ("v", u3), ("w", u4), ("d", u5), ("cost", u6), ("vwLength", u7), ("finaldist_w", u8)] ((dT, odT) :: (sT, osT) :: (pT, opT) :: (fT, lstO (refsOf lT) nT) :: (dO, odO) :: (sO, osO) :: (pO, opO) :: (fO, lstO (refsOf lO) nO) :: (xc, cntO C1 dxc cn tc1 tu1) :: (dxc, dicE) :: own) h ∧
    SideRep prog w₀ n B T odT osT opT kdT lT ∧ SideRep prog w₀ n B O odO osO opO kdO lO ∧ PairOk n adj rT rO T O fin ∧ FinV fin vf vm ∧ (dir = 0 → rT = src ∧ rO = tgt) ∧ (dir = 1 → rT = tgt ∧ rO = src) ∧ mm = mu lT kdT + mu lO kdO ∧ mm ≤ 700
theorem turn {C1 p0 p1 p2 fnx ld lp lf lse ln ad cp fl cw fp x xc dxc C : Addr} {tw tsrc ttgt : Tok} {src tgt n : Int} {kk : Nat} {g : Heap} {env : Env} {adj : Adj} {rs : List Row} {mm : Nat}
    (E : EnvOk env L [("G", .local), ("source", .local), ("target", .local), ("weight", .local), ("dists", .local), ("path", .local), ("fringe", .local), ("seen", .local), ("c", .local), ("neighbors", .local), ("finaldist", .local), ("meetnode", .local), ("direction", .local), ("dist", .local), ("_", .local), ("v", .local), ("w", .local), ("d", .local), ("cost", .local), ("vwLength", .local), ("finaldist_w", .local), ("preds", .cell), ("NodeNotFound", .globalImplicit), ("_weight_function", .globalImplicit), ("count", .globalImplicit), ("heappush", .globalImplicit), ("next", .globalImplicit), ("heappop", .globalImplicit), ("ValueError", .globalImplicit), ("NetworkXNoPath", .globalImplicit)] [("preds", cp)]) (R : Room A kk) (hk : kk ≤ 15) (hmL : m ≤ L) (G : GraphOk n adj) (hn5 : n ≤ 5)
    (GA : GraphAt prog w₀ C g x rs) (hnodes : ∀ z, 0 ≤ z → z < n → z ∈ rs.map Row.node) (hadj : ∀ r ∈ rs, adj r.node = r.ents.map fun e => (e.1, e.2.2)) (hrl : ∀ r ∈ rs, r.ents.length ≤ 50) (had : ∃ oad, g.get? ad = some oad ∧ oad.IsDictOf (IK prog w₀) (adjL rs))
    (H : Head prog w₀ K m g L own C1 p0 p1 p2 fnx ld lp lf lse ln ad cp fl cw fp x xc dxc tw tsrc ttgt src tgt n adj mm h) :
    W (model prog w₀) A s₀ (execs turnB env) (fun r h2 => match r with
      | .next | .cont => ∃ m', m' < mm ∧ Head prog w₀ K m g L own C1 p0 p1 p2 fnx ld lp lf lse ln ad cp fl cw fp x xc dxc tw tsrc ttgt src tgt n adj m' h2
      | .brk => False
      | .ret v => Done g L own adj src tgt v h2) h := by
  obtain ⟨dir, dT, dO, sT, sO, pT, pO, fT, fO, td, B, vf, vm, u1, u2, u3, u4, u5, u6, u7, u8, odT, osT, opT, odO, osO, opO, kdT, kdO, lT, lO, nT, nO, cn, tc1, tu1, T, O, fin, rT, rO, hdir, kg, X, S, RT, RO, P, hfin, hd0, hd1, hmm, hmx⟩ := H.ex
  have kb := Le.refl B
  have hl900 : lT.length ≤ 700 := by unfold mu at hmm; omega
  have hkT5 := RT.d.len hn5
  have hkO5 := RO.d.len hn5
  refine W_cons (W_Assign ?_ (by with_unfolding_all rfl))
  walk_at "go"
  rw [show 1 - (1 - dir) = dir by omega] at S
  refine W_AssignTup ?_ (by rfl)
  refine W_CallN ?_
  refine W_ldG E (by walk_at "mem") X.pop (kb.trans S.keep) ?_
  refine W_callWith ?_
  walk_at "go"
  refine W_itemTwo X.tf (kb.trans S.keep) hdir ?_
  walk_at "go"
  refine ⟨Kept.builtin _ _ _, ?_⟩
  have hne : lT ≠ [] := by rintro rfl; exact P.fT G (by rw [RT.f]; rfl)
  refine W_hpop (l := lT) (n := nT) (R.in1.in1.unit0 (by omega)) S (fun o' => (by walk_at "upd")) RT.tri (by omega) RT.heap hne fun tt key lT' nT' h' hpm hH hleast htt htri S => ?_
  obtain ⟨k, c, v⟩ := key
  obtain ⟨tk, tcc, tv, htt⟩ := htt
  dsimp only at htt
  refine W_asTup3 R.hh S ⟨_, S.keep _ _ htt, rfl, _, rfl⟩ fun h' S kk' => ?_
  refine W_asName (W_st E S (by walk_at "mem") (by walk_at "put") fun h' S => ?_)
  refine W_asName (W_st E S (by walk_at "mem") (by walk_at "put") fun h' S => ?_)
  refine W_asName (W_st E S (by walk_at "mem") (by walk_at "put") fun h' S => ?_)
  have hlen' : lT'.length + 1 = lT.length := by have := hpm.length_eq; simp at this; omega
  have pop : Pop T k c v (lT'.map (·.2)) := ⟨by rw [RT.f]; simpa using hpm.map (·.2), fun k' c' x' hx => by
    rw [RT.f] at hx
    obtain ⟨e, he, e2⟩ := List.mem_map.mp hx
    have := leK_fst (hleast e he)
    rw [e2] at this; exact this⟩
  have hvn : 0 ≤ v ∧ v < n := by
    obtain ⟨k', hk', _⟩ := P.hT.fs _ _ _ pop.mem
    exact P.hT.nd _ _ hk'
  refine W_cons (W_If (W_tCompare ?_))
  walk_at "go"
  refine W_itemTwo X.td (kb.trans S.keep) hdir ?_
  refine W_inD (knd := IK prog w₀) (intKind_is _ _ _ _) (dict_at (S.get (a := dT) (by walk_at "mem")) RT.d.is) (S.notSys X.D (a := dT) (by walk_at "mem")) ?_
  rw [RT.dr.isSome]
  walk_at "go"
  cases hTd : T.d v with
  | some kv =>
    rw [if_pos (by rfl)]
    walk_at "go"
    have P' := P.stale pop hTd
    have S := S.perm (List.Perm.append_right ((xc, cntO C1 dxc cn tc1 tu1) :: (dxc, dicE) :: own) (List.perm_append_comm (l₁ := [(dT, odT), (sT, osT), (pT, opT), (fT, lstO (refsOf lT') nT')]) (l₂ := [(dO, odO), (sO, osO), (pO, opO), (fO, lstO (refsOf lO) nO)])))
    refine ⟨mu lO kdO + mu lT' kdT, by unfold mu at *; omega, 1 - dir, dO, dT, sO, sT, pO, pT, fO, fT, _, B, vf, vm, _, _, _, _, _, _, _, _, odO, osO, opO, odT, osT, opT, kdO, kdT, lO, lT', nO, nT', cn, tc1, tu1, O, { T with f := lT'.map (·.2) }, fin, rO, rT, by omega, kg, X.flip,
      by rw [show 1 - (1 - dir) = dir by omega]; exact S, RO, ⟨RT.d, RT.dr, RT.s, RT.p, rfl, htri, hH⟩, P', hfin, fun e => ?_, fun e => ?_, rfl, by unfold mu at *; omega⟩
    · have := hd1 (by omega); exact ⟨this.2, this.1⟩
    · have := hd0 (by omega); exact ⟨this.2, this.1⟩
  | none =>
    rw [if_neg (by simp)]
    refine W_nil ?_
    refine W_cons (W_AssignSub ?_ (by with_unfolding_all rfl))
    walk_at "go"
    refine W_itemTwo X.td (kb.trans S.keep) hdir ?_
    walk_at "go"
    refine W_setD (o := odT) S (fun o' => (by walk_at "upd")) RT.d.is (by omega) fun odT' h' hod S => ?_
    have hd' := RT.d.put hod hvn
    have dr' : RepI (stored kdT v (.int k tk)) (upd T.d v k) := RT.dr.put
    have hk5 := hd'.len hn5
    have hklen : (stored kdT v (.int k tk)).length = kdT.length + 1 := by rw [stored_new (RT.dr.no v hTd)]; simp
    generalize hkd' : stored kdT v (.int k tk) = kdT' at hod hd' dr' hk5 hklen
    refine W_cons (W_If (W_tCompare ?_))
    walk_at "go"
    refine W_itemOth X.td (kb.trans S.keep) hdir ?_
    refine W_inD (knd := IK prog w₀) (intKind_is _ _ _ _) (dict_at (S.get (a := dO) (by walk_at "mem")) RO.d.is) (S.notSys X.D (a := dO) (by walk_at "mem")) ?_
    rw [RO.dr.isSome]
    walk_at "go"
    cases hOd : O.d v with
    | some kb0 =>
      rw [if_pos (by rfl)]
      obtain ⟨f, mt, lA, lB, e1, tA, tB, w1, w2, n1, n2⟩ := P.meet G pop hTd (by rw [hOd]; rfl)
      subst e1
      obtain ⟨⟨tf, rfl⟩, tm, rfl⟩ := hfin
      obtain ⟨kpT, hpT, rpT⟩ := RT.p
      obtain ⟨kpO, hpO, rpO⟩ := RO.p
      obtain ⟨items, il, ia, ib⟩ := X.tp.ex
      have sub : own.Sublist ((dT, odT') :: (sT, osT) :: (pT, opT) :: (fT, lstO (refsOf lT') nT') :: (dO, odO) :: (sO, osO) :: (pO, opO) :: (fO, lstO (refsOf lO) nO) :: (xc, cntO C1 dxc cn tc1 tu1) :: (dxc, dicE) :: own) := by
        refine .cons _ (.cons _ (.cons _ (.cons _ (.cons _ (.cons _ (.cons _ (.cons _ (.cons _ (.cons _ (List.Sublist.refl _))))))))))
      have fin : ∀ v h2, Done B L own adj src tgt v h2 → Done g L own adj src tgt v h2 := fun v h2 ⟨B', ls', k1, S', t⟩ => ⟨B', ls', kg.trans k1, S', t⟩
      rcases hdir with rfl | rfl
      · obtain ⟨rfl, rfl⟩ := hd0 rfl
        refine ((ret_way E R hk X.lim X.gp X.cell il ia ib S sub (by walk_at "mem") (by walk_at "mem") hpT.is hpO.is rpT rpO tA tB (by omega) (by omega) w1).mono fun r h2 ⟨v, e, z⟩ => ?_)
        subst e
        exact fin _ _ z
      · obtain ⟨rfl, rfl⟩ := hd1 rfl
        refine ((ret_way E R hk X.lim X.gp X.cell il ib ia S sub (by walk_at "mem") (by walk_at "mem") hpO.is hpT.is rpO rpT tB tA (by omega) (by omega) w2).mono fun r h2 ⟨v, e, z⟩ => ?_)
        subst e
        exact fin _ _ z
    | none =>
      rw [if_neg (by simp)]
      refine W_nil ?_
      have M0 := P.settle pop hTd hOd
      obtain ⟨r, hr, er⟩ := List.mem_map.mp (hnodes v hvn.1 hvn.2)
      have hadjv : adj v = r.ents.map fun e => (e.1, e.2.2) := by rw [← er]; exact hadj r hr
      obtain ⟨rok, rget, rsys⟩ := GA.rows r hr
      obtain ⟨oad, hoad1, hoad2⟩ := had
      have hAv : valueAt (adjL rs) v = some (.ref r.addr) := valueAt_some (by
        have : (adjL rs).map (·.1) = rs.map Row.node := by unfold adjL; rw [List.map_map]; rfl
        rw [this]; exact GA.nd) (List.mem_map.mpr ⟨r, hr, by rw [er]⟩)
      have hrl' := hrl r hr
      refine W_cons (W_For ?_)
      refine W_CallM ?_
      refine W_Subscript (W_Subscript ?_)
      walk_at "go"
      refine W_itemTwo X.tn (kb.trans S.keep) hdir ?_
      walk_at "go"
      have kh := kg.trans (kb.trans S.keep)
      refine W_itemD (knd := IK prog w₀) (intKind_is _ _ _ _) (dict_at (kh _ _ hoad1) hoad2) hAv ?_
      refine W_mDict (knd := IK prog w₀) F.slot_dict_items F.type_dict_items (dict_at (kh _ _ rget) rok.is) ?_
      refine W_callWith ?_
      walk_at "go"
      refine ⟨Kept.builtin _ _ _, ?_⟩
      refine W_callItems (knd := IK prog w₀) S (dict_at (kh _ _ rget) rok.is) rsys fun vw h' S kk2 hvw => ?_
      have hDA : ∃ ep, g.DictAt (IK prog w₀) r.addr (entL r.ents) ep := by
        obtain ⟨es, ep, z⟩ := rok.is
        exact ⟨ep, r.obj, es, rget, z⟩
      obtain ⟨ep, hDA⟩ := hDA
      have hDB := dictAt_le hDA kg
      have M0 : MidOk n adj rT rO v k ((r.ents.drop 0).map fun e => (v, e.1, e.2.2)) { T with d := upd T.d v k, f := lT'.map (·.2) } O fin := by
        rw [hadjv, List.map_map] at M0
        exact M0
      have hel : (entL r.ents).length = r.ents.length := by unfold entL; simp
      refine W_loopSrc (g := B) (own := ((dT, odT') :: (sT, osT) :: (pT, opT) :: (fT, lstO (refsOf lT') nT') :: (dO, odO) :: (sO, osO) :: (pO, opO) :: (fO, lstO (refsOf lO) nO) :: (xc, cntO C1 dxc cn tc1 tu1) :: (dxc, dicE) :: [])) (ex := own) (n := (entL r.ents).length) (o0 := itmO r.addr 0 (entL r.ents).length ep .none .none)
        (fun Q q => W_srcItems hvw (dictAt_le hDB S.keep) Q q) (Itr.items R.hh hDB) ⟨_, _, rfl⟩ rfl S
        (fun i B' ls' o' => ∃ T' fin' vf' vm' uw ud uc ul uf osT' opT' lT'' nT'' cn' tc' tu' tdd, ls' = ([("G", some (.ref x)), ("source", some (.int src tsrc)), ("target", some (.int tgt ttgt)), ("weight", some (.ref fl)), ("dists", some (.ref ld)), ("path", some (.ref fp)), ("fringe", some (.ref lf)), ("seen", some (.ref lse)), ("c", some (.ref xc)), ("neighbors", some (.ref ln)), ("finaldist", some vf'), ("meetnode", some vm'), ("direction", some (.int dir tdd)), ("dist", some (.int k tk)), ("_", some (.int c tcc)), ("v", some (.int v tv)), ("w", uw), ("d", ud), ("cost", uc), ("vwLength", ul), ("finaldist_w", uf)] : Loc) ∧ o' = ((dT, odT') :: (sT, osT') :: (pT, opT') :: (fT, lstO (refsOf lT'') nT'') :: (dO, odO) :: (sO, osO) :: (pO, opO) :: (fO, lstO (refsOf lO) nO) :: (xc, cntO C1 dxc cn' tc' tu') :: (dxc, dicE) :: []) ∧
          SideRep prog w₀ n B' T' odT' osT' opT' kdT' lT'' ∧ MidOk n adj rT rO v k ((r.ents.drop i).map fun e => (v, e.1, e.2.2)) T' O fin' ∧ FinV fin' vf' vm' ∧ lT''.length ≤ lT'.length + i)
        ⟨{ T with d := upd T.d v k, f := lT'.map (·.2) }, fin, vf, vm, _, _, _, _, _, osT, opT, lT', nT', cn, tc1, tu1, _, rfl, rfl, ⟨hd', dr', RT.s, RT.p, rfl, htri, hH⟩, M0, hfin, by omega⟩ ?_ ?_
      · rintro i vv B' ls' own' own h' hi ⟨k0, x0, Tt, key, hkv, rfl, hkey, htup⟩ kB' ⟨T', fin', vf', vm', uw, ud, uc, ul, uf, osT', opT', lT'', nT'', cn', tc', tu', tdd, rfl, rfl, RT', M', hfin', hl'⟩ S
        (try simp only [List.nil_append, List.cons_append] at S)
        have hi' : i < r.ents.length := by omega
        have hkv2 : (entL r.ents)[i]? = some (r.ents[i].1, .ref r.ents[i].2.1) := by unfold entL; rw [List.getElem?_map, List.getElem?_eq_getElem hi']; rfl
        rw [hkv2] at hkv
        have hkv := Option.some.inj hkv
        have hk1 : k0 = r.ents[i].1 := (congrArg Prod.fst hkv).symm
        have hk2 : x0 = .ref r.ents[i].2.1 := (congrArg Prod.snd hkv).symm
        subst hk1
        subst hk2
        obtain ⟨tw2, rfl⟩ := Value.isInt_shape hkey
        have hmem : r.ents[i] ∈ r.ents := List.getElem_mem hi'
        obtain ⟨⟨td2, hdd⟩, hds⟩ := rok.ents _ hmem
        rw [List.drop_eq_getElem_cons hi', List.map_cons] at M'
        have hadje : (r.ents[i].1, r.ents[i].2.2) ∈ adj v := by rw [hadjv]; exact List.mem_map.mpr ⟨_, hmem, rfl⟩
        generalize r.ents[i] = ent at *
        obtain ⟨w, dd, cc⟩ := ent
        dsimp only at *
        refine W_asTup2 R.hh S htup fun h' S kk3 => ?_
        refine W_asName (W_st E S (by walk_at "mem") (by walk_at "put") fun h' S => ?_)
        refine W_asName (W_st E S (by walk_at "mem") (by walk_at "put") fun h' S => ?_)
        refine tie_turn E R hk hdir hmL (X.le kB') S RT' (RO.le kB') G hn5 M' hadje hfin' (by omega) (dict_le hdd (kg.trans kB')) hds fun B2 h2 T2 fin2 vf2 vm2 uc2 ul2 uf2 osT2 opT2 lT2 nT2 cn2 tc2 tu2 k2 S RT2 M2 hf2 hl2 =>
          ⟨.inl rfl, B2, _, ((dT, odT') :: (sT, osT2) :: (pT, opT2) :: (fT, lstO (refsOf lT2) nT2) :: (dO, odO) :: (sO, osO) :: (pO, opO) :: (fO, lstO (refsOf lO) nO) :: (xc, cntO C1 dxc cn2 tc2 tu2) :: (dxc, dicE) :: []), k2, S, T2, fin2, vf2, vm2, _, _, _, _, _, osT2, opT2, lT2, nT2, cn2, tc2, tu2, _, rfl, rfl, RT2, M2, hf2, by omega⟩
      · rintro B' ls' own' h' kB' ⟨T', fin', vf', vm', uw, ud, uc, ul, uf, osT', opT', lT'', nT'', cn', tc', tu', tdd, rfl, rfl, RT', M', hfin', hl'⟩ S
        (try simp only [List.nil_append, List.cons_append] at S)
        rw [hel, List.drop_of_length_le (Nat.le_refl _), List.map_nil] at M'
        have P' := M'.over
        have S := S.perm (List.Perm.append_right ((xc, cntO C1 dxc cn' tc' tu') :: (dxc, dicE) :: own) (List.perm_append_comm (l₁ := [(dT, odT'), (sT, osT'), (pT, opT'), (fT, lstO (refsOf lT'') nT'')]) (l₂ := [(dO, odO), (sO, osO), (pO, opO), (fO, lstO (refsOf lO) nO)])))
        refine W_nil ?_
        refine ⟨mu lO kdO + mu lT'' kdT', by unfold mu at *; omega, 1 - dir, dO, dT, sO, sT, pO, pT, fO, fT, _, B', vf', vm', _, _, _, _, _, _, _, _, odO, osO, opO, odT', osT', opT', kdO, kdT', lO, lT'', nO, nT'', cn', tc', tu', O, T', fin', rO, rT, by omega, kg.trans kB', (X.le kB').flip,
          by rw [show 1 - (1 - dir) = dir by omega]; exact S, RO.le kB', RT', P', hfin', fun e => ?_, fun e => ?_, rfl, by unfold mu at *; omega⟩
        · have := hd1 (by omega); exact ⟨this.2, this.1⟩
        · have := hd0 (by omega); exact ⟨this.2, this.1⟩
end
end Mine
namespace Mine
open PySem PySem.Spec PySem.Calls PyProof.Rows PySem.W
/-- where the text's pieces stand -/
structure Ad where
  fw : Addr
  fk : Addr
  fci : Addr
  fcn : Addr
  fbd : Addr
  C1 : Addr
  p0 : Addr
  p1 : Addr
  p2 : Addr
  C : Addr
  fgi : Addr
  fin : Addr
  fan : Addr
  fae : Addr
  fm : Addr
  fdir : Addr
  fnum : Addr
  fti : Addr
  fle : Addr
  c1 : Addr
  P1 : Addr
  c2 : Addr
  P2 : Addr
  Ti : Addr
  Tg : Addr
  Td : Addr
  q1 : Str
  q2 : Str
  t0 : Tok
  t1 : Tok
  tmx : Tok
  tw : Tok
/-- all that the law leans on -/
structure Lib (K : Frag) (m : Nat) (a : Ad) (g : Heap) : Prop where
  D : Gd K m g
  lim : g.NoLimit
  hml : ∃ o, g.get? (m - 1) = some o
  gw : FnIs g a.fw (stm 10) .none
  gk : FnIs g a.fk (stm 14) .none
  gci : FnIs g a.fci (meth 15 1) (.ref a.Ti)
  gcn : FnIs g a.fcn (meth 15 3) .none
  gbd : FnIs g a.fbd (stm 17) (.ref a.Td)
  ggi : FnIs g a.fgi (meth 32 6) (.ref a.Tg)
  gin : FnIs g a.fin (meth 32 9) .none
  gan : FnIs g a.fan (meth 32 13) .none
  gae : FnIs g a.fae (meth 32 18) .none
  gm : FnIs g a.fm (meth 32 25) .none
  gdir : FnIs g a.fdir (meth 32 26) .none
  gnum : FnIs g a.fnum (stm 34) .none
  gti : FnIs g a.fti (stm 35) .none
  gle : FnIs g a.fle (stm 36) .none
  hTi : g.get? a.Ti = some (tupO [.int 0 a.t0, .int 1 a.t1])
  hTg : g.get? a.Tg = some (tupO [.none])
  hTd : g.get? a.Td = some (tupO [.str "weight" a.tw])
  ck : CtK K a.C1 a.p0 a.p1 a.p2
  cmk : makesIn K a.C1 = true
  cin : findIn K (.ref a.C1) "__init__" = some (some (.ref a.fci))
  cif : isFn K (.ref a.fci) = true
  nx : findIn K (.ref a.C1) "__next__" = some (some (.ref a.fcn))
  nxf : isFn K (.ref a.fcn) = true
  ckp : keepIn K (.ref a.C1) = true
  gK : GrK K a.C
  gM : GrM K a.C a.fm a.fdir a.fin
  gmk : makesIn K a.C = true
  gii : findIn K (.ref a.C) "__init__" = some (some (.ref a.fgi))
  gif : isFn K (.ref a.fgi) = true
  gia : findIn K (.ref a.C) "add_nodes_from" = some (some (.ref a.fan))
  gfa : isFn K (.ref a.fan) = true
  gie : findIn K (.ref a.C) "add_edge" = some (some (.ref a.fae))
  gfe : isFn K (.ref a.fae) = true
  gkp : keepIn K (.ref a.C) = true
  cd1 : ∃ o fd, g.get? a.fw = some o ∧ o.data = .func fd ∧ fd.code = .ref a.c1 ∧ fd.qualname = a.q1
  cd2 : ∃ o fd, g.get? a.fbd = some o ∧ o.data = .func fd ∧ fd.code = .ref a.c2 ∧ fd.qualname = a.q2
  mk1 : Mk g a.c1 a.P1
  mk2 : Mk g a.c2 a.P2
  n_w : Glo g "_weight_function" (.ref a.fw)
  n_k : Glo g "_count_kind" (.ref a.fk)
  n_count : Glo g "count" (.ref a.C1)
  n_bd : Glo g "bidirectional_dijkstra" (.ref a.fbd)
  n_G : Glo g "Graph" (.ref a.C)
  n_num : Glo g "_law_numbers" (.ref a.fnum)
  n_ti : Glo g "_law_ties" (.ref a.fti)
  n_le : Glo g "_law_least" (.ref a.fle)
  n_max : Glo g "_MAXSIZE" (.int 9223372036854775807 a.tmx)
  n_push : Glo g "heappush" (.builtin "_heapq.heappush")
  n_pop : Glo g "heappop" (.builtin "_heapq.heappop")
  n_next : Glo g "next" (.builtin "next")
  n_call : Glo g "callable" (.builtin "callable")
  n_type : Glo g "type" (.type "type")
  n_int : Glo g "int" (.type "int")
  n_range : Glo g "range" (.type "range")
  n_abs : Glo g "abs" (.builtin "abs")
  n_len : Glo g "len" (.builtin "len")
  n_set : Glo g "set" (.type "set")
  n_min : Glo g "min" (.builtin "min")
  n_max' : Glo g "max" (.builtin "max")
  n_sum : Glo g "sum" (.builtin "sum")
theorem Lib.le {K : Frag} {m : Nat} {a : Ad} {g h : Heap} (x : Lib K m a g) (k : Le g h) : Lib K m a h where
  D := x.D.le k
  lim := x.lim.keeps k
  hml := let ⟨o, e⟩ := x.hml; ⟨o, k _ _ e⟩
  gw := x.gw.mono k
  gk := x.gk.mono k
  gci := x.gci.mono k
  gcn := x.gcn.mono k
  gbd := x.gbd.mono k
  ggi := x.ggi.mono k
  gin := x.gin.mono k
  gan := x.gan.mono k
  gae := x.gae.mono k
  gm := x.gm.mono k
  gdir := x.gdir.mono k
  gnum := x.gnum.mono k
  gti := x.gti.mono k
  gle := x.gle.mono k
  hTi := k _ _ x.hTi
  hTg := k _ _ x.hTg
  hTd := k _ _ x.hTd
  ck := x.ck
  cmk := x.cmk
  cin := x.cin
  cif := x.cif
  nx := x.nx
  nxf := x.nxf
  ckp := x.ckp
  gK := x.gK
  gM := x.gM
  gmk := x.gmk
  gii := x.gii
  gif := x.gif
  gia := x.gia
  gfa := x.gfa
  gie := x.gie
  gfe := x.gfe
  gkp := x.gkp
  cd1 := let ⟨o, fd, e, r⟩ := x.cd1; ⟨o, fd, k _ _ e, r⟩
  cd2 := let ⟨o, fd, e, r⟩ := x.cd2; ⟨o, fd, k _ _ e, r⟩
  mk1 := x.mk1.le k
  mk2 := x.mk2.le k
  n_w := x.n_w.mono k
  n_k := x.n_k.mono k
  n_count := x.n_count.mono k
  n_bd := x.n_bd.mono k
  n_G := x.n_G.mono k
  n_num := x.n_num.mono k
  n_ti := x.n_ti.mono k
  n_le := x.n_le.mono k
  n_max := x.n_max.mono k
  n_push := x.n_push.mono k
  n_pop := x.n_pop.mono k
  n_next := x.n_next.mono k
  n_call := x.n_call.mono k
  n_type := x.n_type.mono k
  n_int := x.n_int.mono k
  n_range := x.n_range.mono k
  n_abs := x.n_abs.mono k
  n_len := x.n_len.mono k
  n_set := x.n_set.mono k
  n_min := x.n_min.mono k
  n_max' := x.n_max'.mono k
  n_sum := x.n_sum.mono k
theorem Room.make {A : Around} {k : Nat} {C : Addr} {rest : List Value} {kw : List (Str × Value)} (R : Room A k) : Room (A.under (.builtin "type.__call__" ⟨.ref C :: rest, kw⟩)) (k + 1) :=
  ⟨R.hh, by
    have := R.depth
    have e : Code.weight (.builtin "type.__call__" ⟨.ref C :: rest, kw⟩) = 1 := by rfl
    show A.depth + Code.weight _ + 10 * 0 ≤ _
    omega, by
    have := R.units
    have e : Code.cUnits (.builtin "type.__call__" ⟨.ref C :: rest, kw⟩) = 1 := by rfl
    show A.units + Code.cUnits _ ≤ _
    omega⟩
section
variable {prog : Program} {w : World} {A : Around} {s₀ : Shared} {g h : Heap} {L : Addr} {ls : Loc} {own : List (Addr × Obj)} {env : Env}
theorem W_dict1 {k v : Expr} {pos : Pos} {Q : Value → Heap → Prop} (S : Fm g L ls own h)
    (y : ∀ a h', Fm g L ls ((a, dicE) :: own) h' → W (model prog w) A s₀ (eval k env) (fun kv h1 => W (model prog w) A s₀ (eval v env) (fun vv h2 => ∃ i, (IK prog w).is i kv = true ∧ Fm g L ls ((a, dicE) :: own) h2 ∧
      ∀ o' h', o'.IsDictOf (IK prog w) [(i, vv)] → Fm g L ls ((a, o') :: own) h' → Q (.ref a) h') h1) h') : W (model prog w) A s₀ (eval (.Dict [some k] [v] pos) env) Q h :=
  W.of fun tk Q' kk => wpAny_Dict_walk (knd := IK prog w) rfl rfl (by simp) (by simp) (pairTrees_cons_walk ((y _ _ S.push).use fun kv h1 tk1 z => z.use fun vv h2 tk2 ⟨i, hk, S2, q⟩ =>
    pairTrees_nil_walk ⟨[(i, vv)], ⟨hk, rfl, trivial⟩, dict_at (S2.get List.mem_cons_self) emptyDict_is, fun h' hd hs => by
      obtain ⟨o', ho', hd'⟩ := Heap.dictOf_iff.mp hd
      exact kk _ _ _ (q o' h' (by simpa [merged, stored] using hd') (S2.changed .head hs ho'))⟩))
end
theorem Told.out {B g : Heap} {L : Addr} {adj : Adj} {s t : Int} {v : Value} (x : Told B adj s t v) (o : Out B g L) : Told g adj s t v := by
  obtain ⟨tr, r, f, tf, ws, way, e1, e2, ⟨ol, e3, e4, nn, e5⟩, e6⟩ := x.ex
  exact ⟨tr, r, f, tf, ws, way, e1, o.nd _ _ e2 (fun _ _ e => nomatch e), ⟨ol, o.nd _ _ e3 (fun es ep e => by rw [e5] at e; cases e), e4, nn, e5⟩, e6⟩
theorem Way.self {n : Int} {adj : Adj} {s : Int} (G : GraphOk n adj) : Way adj s s 0 [s] :=
  ⟨rfl, rfl, by simp, .one s, fun L w => w.nonneg G⟩
end Mine
namespace Mine
open PySem PySem.Spec PySem.Calls PyProof.Rows PySem.W
section
variable {prog : Program} {w₀ : World} {A : Around} {s₀ : Shared} {h : Heap} {L : Addr} {own : List (Addr × Obj)} {K : Frag} {m : Nat}
theorem search {C1 p0 p1 p2 fnx ld lp lf lse ln ad cp fl cw fp x xc dxc C : Addr} {tw tsrc ttgt : Tok} {src tgt n : Int} {kk : Nat} {g : Heap} {env : Env} {adj : Adj} {rs : List Row} {mm : Nat} {Q : Flow → Heap → Prop}
    (E : EnvOk env L [("G", .local), ("source", .local), ("target", .local), ("weight", .local), ("dists", .local), ("path", .local), ("fringe", .local), ("seen", .local), ("c", .local), ("neighbors", .local), ("finaldist", .local), ("meetnode", .local), ("direction", .local), ("dist", .local), ("_", .local), ("v", .local), ("w", .local), ("d", .local), ("cost", .local), ("vwLength", .local), ("finaldist_w", .local), ("preds", .cell), ("NodeNotFound", .globalImplicit), ("_weight_function", .globalImplicit), ("count", .globalImplicit), ("heappush", .globalImplicit), ("next", .globalImplicit), ("heappop", .globalImplicit), ("ValueError", .globalImplicit), ("NetworkXNoPath", .globalImplicit)] [("preds", cp)]) (R : Room A kk) (hk : kk ≤ 15) (hmL : m ≤ L) (G : GraphOk n adj) (hn5 : n ≤ 5)
    (GA : GraphAt prog w₀ C g x rs) (hnodes : ∀ z, 0 ≤ z → z < n → z ∈ rs.map Row.node) (hadj : ∀ r ∈ rs, adj r.node = r.ents.map fun e => (e.1, e.2.2)) (hrl : ∀ r ∈ rs, r.ents.length ≤ 50) (had : ∃ oad, g.get? ad = some oad ∧ oad.IsDictOf (IK prog w₀) (adjL rs))
    (H0 : Head prog w₀ K m g L own C1 p0 p1 p2 fnx ld lp lf lse ln ad cp fl cw fp x xc dxc tw tsrc ttgt src tgt n adj mm h)
    (q : ∀ v h2, Done g L own adj src tgt v h2 → Q (.ret v) h2) : W (model prog w₀) A s₀ (exec (subF (stm 17) 16) env) Q h := by
  refine W_While (fun mm h => Head prog w₀ K m g L own C1 p0 p1 p2 fnx ld lp lf lse ln ad cp fl cw fp x xc dxc tw tsrc ttgt src tgt n adj mm h) ?_ mm H0
  intro mm h H
  have fin : W (model prog w₀) A s₀ (execs turnB env) (fun f h2 => match f with
      | .next | .cont => ∃ m', m' < mm ∧ Head prog w₀ K m g L own C1 p0 p1 p2 fnx ld lp lf lse ln ad cp fl cw fp x xc dxc tw tsrc ttgt src tgt n adj m' h2
      | .brk => Q .next h2
      | .ret v => Q (.ret v) h2) h :=
    (turn E R hk hmL G hn5 GA hnodes hadj hrl had H).mono fun f h2 z => by
      cases f with
      | next => exact z
      | cont => exact z
      | brk => exact z.elim
      | ret v => exact q v h2 z
  obtain ⟨dir, dT, dO, sT, sO, pT, pO, fT, fO, td, B, vf, vm, u1, u2, u3, u4, u5, u6, u7, u8, odT, osT, opT, odO, osO, opO, kdT, kdO, lT, lO, nT, nO, cn, tc1, tu1, T, O, fin0, rT, rO, hdir, kg, X, S, RT, RO, P, hfin, hd0, hd1, hmm, hmx⟩ := H.ex
  obtain ⟨items, il, ia, ib⟩ := X.tf.ex
  have nT' : lT ≠ [] := by rintro rfl; exact P.fT G (by rw [RT.f]; rfl)
  have nO' : lO ≠ [] := by rintro rfl; exact P.fO G (by rw [RO.f]; rfl)
  have hlen : lT.length ≤ 700 ∧ lO.length ≤ 700 := by unfold mu at hmm; omega
  have hT : h.get? fT = some (lstO (refsOf lT) nT) := S.get (by walk_at "mem")
  have hO : h.get? fO = some (lstO (refsOf lO) nO) := S.get (by walk_at "mem")
  obtain ⟨f0, f1, l0, l1, c0, c1, i0, i1, g0, g1, n0, n1, z0, z1⟩ : ∃ f0 f1 l0 l1 c0 c1, items[0]? = some (.ref f0) ∧ items[1]? = some (.ref f1) ∧ h.get? f0 = some (lstO (refsOf l0) c0) ∧ h.get? f1 = some (lstO (refsOf l1) c1) ∧ l0 ≠ [] ∧ l1 ≠ [] ∧ l0.length ≤ 700 ∧ l1.length ≤ 700 := by
    rcases hdir with rfl | rfl
    · exact ⟨fT, fO, lT, lO, nT, nO, ia, ib, hT, hO, nT', nO', hlen.1, hlen.2⟩
    · exact ⟨fO, fT, lO, lT, nO, nT, ib, ia, hO, hT, nO', nT', hlen.2, hlen.1⟩
  have em : ∀ l : List Ent, l ≠ [] → (!(refsOf l).toArray.isEmpty) = true := fun l hl => by
    cases l with
    | nil => exact absurd rfl hl
    | cons p r => rfl
  refine W_tBoolOp (W_andCons (W_tVal ?_ (by with_unfolding_all rfl)))
  walk_at "go"
  refine W_itemList (isList_le il S.keep) (by decide) i0 (by decide) ?_
  refine W_tList ⟨_, g0, rfl, _, rfl⟩ (by simp; omega) ?_
  rw [em l0 n0, if_pos rfl]
  refine W_andCons (W_tVal ?_ (by with_unfolding_all rfl))
  walk_at "go"
  refine W_itemList (isList_le il S.keep) (by decide) i1 (by decide) ?_
  refine W_tList ⟨_, g1, rfl, _, rfl⟩ (by simp; omega) ?_
  rw [em l1 n1, if_pos rfl]
  refine W_andNil ?_
  rw [if_pos rfl]
  exact fin
end
end Mine
namespace Mine
open PySem PySem.Spec PySem.Calls PyProof.Rows PySem.W
section
variable {prog : Program} {w₀ : World} {A : Around} {s₀ : Shared} {g h : Heap} {L : Addr} {ls : Loc} {own : List (Addr × Obj)} {K : Frag} {m : Nat}
theorem heapL_nil : HeapL [] := fun i _ h => absurd h (Nat.not_lt_zero _)
theorem rng1' {z n : Int} {v : Value} (h0 : 0 ≤ z) (h1 : z < n) : ∀ e ∈ ([(z, v)] : List (Int × Value)), 0 ≤ e.1 ∧ e.1 < n := fun e he => by rw [List.mem_singleton.mp he]; exact ⟨h0, h1⟩
theorem rep1 {z y : Int} {t : Tok} : RepI [(z, .int y t)] (upd (fun _ => none) z y) := RepI.put (k := []) (f := fun _ => none) ⟨fun _ _ => rfl, fun _ _ h => nomatch h⟩
theorem repP1 {z : Int} : RepP [(z, .none)] (upd (fun _ => none) z none) := fun a nx h => by
  unfold upd at h
  split at h
  · rename_i q; cases h; subst q; exact ⟨.none, by simp [valueAt], rfl⟩
  · cases h
abbrev lamQ (a : Ad) : Str := a.q1 ++ ".<locals>." ++ "<lambda>"
abbrev pathQ (a : Ad) : Str := a.q2 ++ ".<locals>." ++ "path"
theorem dijkstra {a : Ad} {x : Addr} {src tgt n : Int} {tsrc ttgt : Tok} {k : Nat} {ps1 ps2 : Array Value} {rs : List Row} {adj : Adj} {Q : Value → Heap → Prop} (Y : Lib K m a g) (R : Room A k) (hk : k ≤ 10)
    (S0 : Fm g L ls ((a.P1, tabObj ps1) :: (a.P2, tabObj ps2) :: own) h) (T1 : Tab g (lamQ a) lamPos ps1) (T2 : Tab g (pathQ a) (posF pathS) ps2)
    (GA : GraphAt prog w₀ a.C g x rs) (G : GraphOk n adj) (hn5 : n ≤ 5) (hnodes : ∀ z, 0 ≤ z → z < n → z ∈ rs.map Row.node) (hadj : ∀ r ∈ rs, adj r.node = r.ents.map fun e => (e.1, e.2.2)) (hrl : ∀ r ∈ rs, r.ents.length ≤ 50)
    (s1 : 0 ≤ src) (s2 : src < n) (g1 : 0 ≤ tgt) (g2 : tgt < n)
    (q : ∀ v ps1' ps2' g' h', Le g g' → Fm g' L ls ((a.P1, tabObj ps1') :: (a.P2, tabObj ps2') :: own) h' → Tab g' (lamQ a) lamPos ps1' → Tab g' (pathQ a) (posF pathS) ps2' → Told g' adj src tgt v → Q v h') :
    WC (model prog w₀) A s₀ (.call (.ref a.fbd) ⟨[.ref x, .int src tsrc, .int tgt ttgt], []⟩) Q h := by
  refine WC_fn [("G", .local), ("source", .local), ("target", .local), ("weight", .local), ("dists", .local), ("path", .local), ("fringe", .local), ("seen", .local), ("c", .local), ("neighbors", .local), ("finaldist", .local), ("meetnode", .local), ("direction", .local), ("dist", .local), ("_", .local), ("v", .local), ("w", .local), ("d", .local), ("cost", .local), ("vwLength", .local), ("finaldist_w", .local), ("preds", .cell), ("NodeNotFound", .globalImplicit), ("_weight_function", .globalImplicit), ("count", .globalImplicit), ("heappush", .globalImplicit), ("next", .globalImplicit), ("heappop", .globalImplicit), ("ValueError", .globalImplicit), ("NetworkXNoPath", .globalImplicit)] ["preds"] [("G", none), ("source", none), ("target", none), ("weight", none), ("dists", none), ("path", none), ("fringe", none), ("seen", none), ("c", none), ("neighbors", none), ("finaldist", none), ("meetnode", none), ("direction", none), ("dist", none), ("_", none), ("v", none), ("w", none), ("d", none), ("cost", none), ("vwLength", none), ("finaldist_w", none)] [("G", .ref x), ("source", .int src tsrc), ("target", .int tgt ttgt), ("weight", .str "weight" a.tw)] _ Y.gbd S0 (R.deep (by omega)) Y.lim rfl rfl rfl ?_ (by simp) (by decide) (by decide) (by decide) rfl rfl rfl ?_ (by decide)
  · intro fd tk e1 e2 e3
    obtain ⟨fn, fq, fp, fb, fs, fg, fc, fd, fk⟩ := fd
    dsimp only at e1 e2 e3
    subst e1 e2 e3
    exact BindsTo.of_defaults rfl (S0.keep _ _ Y.hTd) rfl rfl rfl
  intro env B C' cs own1 h' hL E ⟨hC, hcode⟩ S kl kB kg
  obtain ⟨of, fdf, hof1, hof2, hof3, hof4⟩ := Y.cd2
  obtain ⟨hc1, hc2⟩ := hcode _ _ hof1 hof2
  rw [hof3] at hc1
  rw [hof4] at hc2
  obtain ⟨om, hom⟩ := Y.hml
  have hmC : m ≤ C' := by have : (m - 1 : Nat) < C' := hC _ _ (S0.keep _ _ hom); exact Nat.le_of_pred_lt this
  cases hL with
  | cons cp hL =>
  cases hL
  have kb := Le.refl B
  obtain ⟨dx, es, nn, gd, nd, ad, oad, ond, kn, x1, x2, x3, x4, x5, x6, x7, x8, x9, x10⟩ := GA.ex
  have inst : ∀ h', Le g h' → InstAt h' x (instObj a.C dx) a.C (some (dictOf es nn)) := fun h' k => inst_at (k _ _ x1) (k _ _ x2)
  refine W_bindsCons (W_st E S (by walk_at "mem") (by walk_at "put") fun h' S => ?_)
  refine W_bindsCons (W_st E S (by walk_at "mem") (by walk_at "put") fun h' S => ?_)
  refine W_bindsCons (W_st E S (by walk_at "mem") (by walk_at "put") fun h' S => ?_)
  refine W_bindsCons (W_st E S (by walk_at "mem") (by walk_at "put") fun h' S => ?_)
  refine W_bindsNil ⟨kg.trans S.keep, ?_⟩
  have R' := R.deeper env
  refine W_cons (W_If (W_tCompare ?_))
  walk_at "go"
  refine W_notInOwn (Y.D.le (kg.trans (kb.trans S.keep))).X (inst _ (kg.trans (kb.trans S.keep))) Y.gM.c Y.gM.cf ?_
  refine graph_contains (Y.gin.mono (kg.trans kb)) Y.gK (Y.D.le (kg.trans kb)) (GA.le (kg.trans kb)) R' (by omega) S (Y.lim.keeps (kg.trans kb)) (hnodes _ s1 s2) fun gx h' k1 S => ?_
  replace kb := kb.trans k1
  walk_at "go"
  rw [if_neg (by decide)]
  refine W_nil ?_
  refine W_cons (W_If (W_tCompare ?_))
  walk_at "go"
  refine W_notInOwn (Y.D.le (kg.trans (kb.trans S.keep))).X (inst _ (kg.trans (kb.trans S.keep))) Y.gM.c Y.gM.cf ?_
  refine graph_contains (Y.gin.mono (kg.trans kb)) Y.gK (Y.D.le (kg.trans kb)) (GA.le (kg.trans kb)) R' (by omega) S (Y.lim.keeps (kg.trans kb)) (hnodes _ g1 g2) fun gx h' k1 S => ?_
  replace kb := kb.trans k1
  walk_at "go"
  rw [if_neg (by decide)]
  refine W_nil ?_
  refine W_cons (W_If (W_tCompare ?_))
  walk_at "go"
  by_cases hst : src = tgt
  · subst hst
    rw [if_pos (by simp)]
    refine W_cons (W_Return (W_Tuple ?_))
    walk_at "go"
    refine W_newList S (by simp) fun rl h' _ S _ => ?_
    walk_at "go"
    obtain ⟨B1, S, k1, hrl1⟩ := S.settle1
    refine W_newTuple S (by simp) fun tt h' _ S _ => ?_
    obtain ⟨B2, S, k2, htt⟩ := S.settle1
    replace kb := kb.trans (k1.trans k2)
    obtain ⟨g', S', q1, q2, q3⟩ := S0.leave kB kb (S.forget (.cons _ (List.Sublist.refl _)))
    exact q _ ps1 ps2 g' _ q1 S' (T1.le q1) (T2.le q1) (Told.out ⟨tt, rl, 0, _, _, [src], rfl, htt, ⟨_, k2 _ _ hrl1, rfl, _, rfl⟩, .cons _ _ .nil, Way.self G, by simp⟩ q2)
  rw [if_neg (by simpa using hst)]
  refine W_nil ?_
  refine W_cons (W_Assign ?_ (by with_unfolding_all rfl))
  walk_at "go"
  refine W_ldG E (by walk_at "mem") Y.n_w (kg.trans (kb.trans S.keep)) ?_
  refine W_callWith ?_
  walk_at "go"
  refine ⟨Y.gw.kept (kg.trans (kb.trans S.keep)), W_call ?_⟩
  have Y1 := Y.le (kg.trans kb)
  refine weight_function (own' := fun o => (cp, celO none) :: (a.P1, o) :: (a.P2, tabObj ps2) :: own) Y1.gw Y1.cd1 Y1.mk1 Y1.gm Y1.gK Y1.gM Y1.D R' (by omega) S Y1.lim (T1.le (kg.trans kb)) (fun o' => (by walk_at "upd")) (GA.le (kg.trans kb)) Y1.n_call fun fl cw ps1' g3 h' k3 S T1' Md hcw => ?_
  replace kb := kb.trans k3
  have kc := Le.refl g3
  walk_at "go"
  refine W_newDict S fun d0 h' S _ _ => ?_
  walk_at "go"
  refine W_newDict S fun d1 h' S _ _ => ?_
  walk_at "go"
  refine W_newList S (by simp) fun ld h' _ S _ => ?_
  obtain ⟨B5, S, k5, hld⟩ := S.settle1
  replace kb := kb.trans k5
  replace kc := kc.trans k5
  have ke5 := Le.refl B5
  walk_at "go"
  refine W_dict1 S fun p0 h' S => ?_
  walk_at "go"
  refine ⟨src, intKind_is _ _ _ _, S, fun op0 h' hp0 S => ?_⟩
  walk_at "go"
  refine W_dict1 S fun p1 h' S => ?_
  walk_at "go"
  refine ⟨tgt, intKind_is _ _ _ _, S, fun op1 h' hp1 S => ?_⟩
  walk_at "go"
  refine W_newList S (by simp) fun lp h' _ S _ => ?_
  obtain ⟨B6, S, k6, hlp⟩ := S.settle1
  replace kb := kb.trans k6
  replace kc := kc.trans k6
  walk_at "go"
  have S := S.perm (List.perm_middle (a := (cp, celO (some (.ref lp)))) (l₁ := [(p1, op1), (p0, op0), (d1, dicE), (d0, dicE)]) (l₂ := (a.P1, tabObj ps1') :: (a.P2, tabObj ps2) :: own))
  obtain ⟨B7, S, k7, hcell⟩ := S.settle1
  (try simp only [List.nil_append, List.cons_append] at S)
  replace kb := kb.trans k7
  replace kc := kc.trans k7
  refine W_mkDef (own' := fun o => (p1, op1) :: (p0, op0) :: (d1, dicE) :: (d0, dicE) :: (a.P1, tabObj ps1') :: (a.P2, o) :: own) S E (Y.mk2.le (kg.trans kb)) hc1 hc2 (by walk_at "mem") (E.closure (cl := [("preds", cp)]) (by rfl) (by rfl)) (T2.le (kg.trans kb)) (fun o' => (by walk_at "upd")) fun fp B8 ps2' h' k8 S T2' MdP => ?_
  replace kb := kb.trans k8
  replace kc := kc.trans k8
  have kd := Le.refl B8
  walk_at "go"
  refine W_newList S (by simp) fun f0 h' _ S _ => ?_
  walk_at "go"
  refine W_newList S (by simp) fun f1 h' _ S _ => ?_
  walk_at "go"
  refine W_newList S (by simp) fun lf h' _ S _ => ?_
  obtain ⟨B9, S, k9, hlf⟩ := S.settle1
  replace kb := kb.trans k9
  replace kc := kc.trans k9
  replace kd := kd.trans k9
  have ke := Le.refl B9
  walk_at "go"
  refine W_dict1 S fun s0 h' S => ?_
  walk_at "go"
  refine ⟨src, intKind_is _ _ _ _, S, fun os0 h' hs0 S => ?_⟩
  walk_at "go"
  refine W_dict1 S fun s1' h' S => ?_
  walk_at "go"
  refine ⟨tgt, intKind_is _ _ _ _, S, fun os1 h' hs1 S => ?_⟩
  walk_at "go"
  refine W_newList S (by simp) fun lse h' _ S _ => ?_
  obtain ⟨B10, S, k10, hlse⟩ := S.settle1
  replace kb := kb.trans k10
  replace kc := kc.trans k10
  replace kd := kd.trans k10
  replace ke := ke.trans k10
  have kf := Le.refl B10
  walk_at "go"
  refine W_ldG E (by walk_at "mem") Y.n_count (kg.trans (kb.trans S.keep)) ?_
  refine W_callWith ?_
  walk_at "go"
  refine ⟨Kept.frag _ (Y.D.le (kg.trans (kb.trans S.keep))).X Y.ckp, W_call ?_⟩
  have Y2 := Y.le (kg.trans kb)
  refine W_make S Y2.D Y2.cmk Y2.cin Y2.cif fun xc dxc h' S kk => ?_
  refine count_init Y2.gci Y2.gk Y2.hTi Y2.ck Y2.D Y2.hml R'.make (by omega) S Y2.lim Y2.n_k Y2.n_type Y2.n_int a.tmx Y2.n_max fun tc tu B11 h' k11 S => ⟨rfl, ?_⟩
  replace kb := kb.trans k11
  replace kc := kc.trans k11
  replace kd := kd.trans k11
  replace ke := ke.trans k11
  replace kf := kf.trans k11
  walk_at "go"
  have Y3 := Y.le (kg.trans kb)
  have kz := Le.refl B11
  refine W_Expr ?_ E.inter
  refine W_CallN ?_
  refine W_ldG E (by walk_at "mem") Y3.n_push (kz.trans S.keep) ?_
  refine W_callWith ?_
  walk_at "go"
  refine W_itemList (items := #[.ref f0, .ref f1]) ⟨_, (ke.trans S.keep) _ _ hlf, rfl, _, rfl⟩ (by decide) rfl (by decide) ?_
  walk_at "go"
  refine W_ldG E (by walk_at "mem") Y3.n_next (kz.trans S.keep) ?_
  refine W_callWith ?_
  walk_at "go"
  refine ⟨Kept.builtin _ _ _, ?_⟩
  refine W_next (Y3.D.le (kz.trans S.keep)).X (show InstAt _ xc (cntO a.C1 dxc 0 tc tu) a.C1 (some dicE) from ⟨S.get (by walk_at "mem"), rfl, rfl, S.get (a := dxc) (by walk_at "mem")⟩) Y3.nx Y3.nxf ?_
  refine count_next Y3.gcn Y3.ck Y3.D Y3.hml R'.in1 (by omega) S Y3.lim (dx := dxc) (by walk_at "mem") (fun o' => (by walk_at "upd")) fun tc1 B12 h' k12 S => ?_
  replace kz := kz.trans k12
  walk_at "go"
  refine W_newTuple S (by simp) fun ta h' _ S _ => ?_
  walk_at "go"
  refine ⟨Kept.builtin _ _ _, ?_⟩
  obtain ⟨B13, S, k13, hta⟩ := S.settle1
  replace kz := kz.trans k13
  have kta := Le.refl B13
  refine W_hpush (l := []) (n := 0) (k := (0, 0, src)) (R'.in1.in1.unit0 (by omega)) S (fun o' => (by walk_at "upd")) (fun _ h => nomatch h) ⟨_, _, _, hta⟩ (by simp) heapL_nil fun l0 n0 h' hq0 hh0 ht0 S => ⟨rfl, ?_⟩
  refine W_cons ?_
  refine W_Expr ?_ E.inter
  refine W_CallN ?_
  refine W_ldG E (by walk_at "mem") Y3.n_push (kz.trans S.keep) ?_
  refine W_callWith ?_
  walk_at "go"
  refine W_itemList (items := #[.ref f0, .ref f1]) ⟨_, (ke.trans (kz.trans S.keep)) _ _ hlf, rfl, _, rfl⟩ (by decide) rfl (by decide) ?_
  walk_at "go"
  refine W_ldG E (by walk_at "mem") Y3.n_next (kz.trans S.keep) ?_
  refine W_callWith ?_
  walk_at "go"
  refine ⟨Kept.builtin _ _ _, ?_⟩
  have Y4 := Y3.le kz
  refine W_next (Y4.D.le S.keep).X (show InstAt _ xc (cntO a.C1 dxc (0 + 1) tc1 tu) a.C1 (some dicE) from ⟨S.get (by walk_at "mem"), rfl, rfl, S.get (a := dxc) (by walk_at "mem")⟩) Y4.nx Y4.nxf ?_
  refine count_next Y4.gcn Y4.ck Y4.D Y4.hml R'.in1 (by omega) S Y4.lim (dx := dxc) (by walk_at "mem") (fun o' => (by walk_at "upd")) fun tc2 B14 h' k14 S => ?_
  replace kz := kz.trans k14
  replace kta := kta.trans k14
  walk_at "go"
  refine W_newTuple S (by simp) fun tb h' _ S _ => ?_
  walk_at "go"
  refine ⟨Kept.builtin _ _ _, ?_⟩
  obtain ⟨B15, S, k15, htb⟩ := S.settle1
  replace kz := kz.trans k15
  replace kta := kta.trans k15
  have ktb := Le.refl B15
  refine W_hpush (l := []) (n := 0) (k := (0, 0 + 1, tgt)) (R'.in1.in1.unit0 (by omega)) S (fun o' => (by walk_at "upd")) (fun _ h => nomatch h) ⟨_, _, _, htb⟩ (by simp) heapL_nil fun l1 n1 h' hq1 hh1 ht1 S => ⟨rfl, ?_⟩
  refine W_cons ?_
  refine W_If (W_tVal ?_ (by with_unfolding_all rfl))
  refine W_CallM ?_
  walk_at "go"
  have Y5 := Y3.le kz
  have kgz : Le g B15 := kg.trans (kb.trans kz)
  refine W_mFn (Y5.D.le S.keep).X Y5.gK.cls (inst _ (kgz.trans S.keep)) Y5.gM.d Y5.gM.df (by show (getL _ _).map _ = _; rw [x3.get]; rfl) ?_
  refine W_callWith ?_
  walk_at "go"
  refine ⟨Y5.gdir.kept S.keep, W_call ?_⟩
  refine ret_false (.inr rfl) Y5.gdir R' (by omega) S Y5.lim fun B16 h' k16 S => ?_
  replace kz := kz.trans k16
  replace kta := kta.trans k16
  replace ktb := ktb.trans k16
  replace kgz := kgz.trans k16
  walk_at "go"
  rw [if_neg (by decide)]
  have Y6 := Y.le kgz
  refine W_cons (W_Assign ?_ (by with_unfolding_all rfl))
  walk_at "go"
  refine W_AttrN ?_
  walk_at "go"
  refine W_getOwn (Y6.D.le S.keep).X Y6.gK.cls (inst _ (kgz.trans S.keep)) Y6.gK.dict Y6.gK.a3 (by rfl) (by show getL _ _ = _; rw [x3.get]; rfl) (by rfl) ?_
  walk_at "go"
  refine W_AttrN ?_
  walk_at "go"
  refine W_getOwn (Y6.D.le S.keep).X Y6.gK.cls (inst _ (kgz.trans S.keep)) Y6.gK.dict Y6.gK.a3 (by rfl) (by show getL _ _ = _; rw [x3.get]; rfl) (by rfl) ?_
  walk_at "go"
  refine W_newList S (by simp) fun ln h' _ S _ => ?_
  obtain ⟨B17, S, k17, hln⟩ := S.settle1
  replace kz := kz.trans k17
  replace kta := kta.trans k17
  replace ktb := ktb.trans k17
  replace kgz := kgz.trans k17
  walk_at "go"
  refine W_nil ?_
  walk_at "go"
  have z11 : Le B11 B17 := kz
  have z10 := k11.trans z11
  have z9 := k10.trans z10
  have z8 := k9.trans z9
  have z7 := k8.trans z8
  have z6 := k7.trans z7
  have z5 := k6.trans z6
  have z3 := k5.trans z5
  have Y7 := Y.le kgz
  have e0 : l0 = [(ta, (0, 0, src))] := List.perm_singleton.mp hq0
  have e1 : l1 = [(tb, (0, 0 + 1, tgt))] := List.perm_singleton.mp hq1
  have S := S.perm ((((by decide : ([0, 1, 2, 3, 4, 5, 6, 7, 8, 9] : List Nat).Perm [9, 3, 7, 5, 8, 2, 6, 4, 0, 1]).map fun i => ([(xc, cntO a.C1 dxc (0 + 1 + 1) tc2 tu), (dxc, dicE), (s1', os1), (s0, os0), (f1, lstO (refsOf l1) n1), (f0, lstO (refsOf l0) n0), (p1, op1), (p0, op0), (d1, dicE), (d0, dicE)] : List (Addr × Obj)).getD i (0, dicE))).append_right ((a.P1, tabObj ps1') :: (a.P2, tabObj ps2') :: own))
  refine search (K := K) (tw := a.tw) (cw := cw) (lp := lp) (p0 := a.p0) (p1 := a.p1) (p2 := a.p2) (fnx := a.fcn) (fl := fl) (mm := mu l0 [] + mu l1 []) (own := (a.P1, tabObj ps1') :: (a.P2, tabObj ps2') :: own) E R' (by omega) hmC G hn5 (GA.le kgz) hnodes hadj hrl ⟨oad, kgz _ _ x4, x6⟩
    ⟨0, d0, d1, s0, s1', p0, p1, f0, f1, _, B17, .none, .none, _, _, _, _, _, _, _, _, dicE, os0, op0, dicE, os1, op1, [], [], l0, l1, n0, n1, 0 + 1 + 1, tc2, tu,
      ⟨fun _ => none, upd (fun _ => none) src 0, upd (fun _ => none) src none, [(0, 0, src)]⟩, ⟨fun _ => none, upd (fun _ => none) tgt 0, upd (fun _ => none) tgt none, [(0, 0 + 1, tgt)]⟩, none, src, tgt, .inl rfl, Le.refl _, ?_, S, ?_, ?_, PairOk.init s1 s2 g1 g2 hst, rfl, fun _ => ⟨rfl, rfl⟩, fun e => absurd e (by decide), rfl, ?_⟩ ?_
  · exact ⟨Y7.D, Y7.lim, Y7.ck, Y7.hml, Y7.nx, Y7.nxf, Y7.gcn, ⟨#[.ref d0, .ref d1], ⟨_, z5 _ _ hld, rfl, _, rfl⟩, rfl, rfl⟩, ⟨#[.ref p0, .ref p1], ⟨_, z6 _ _ hlp, rfl, _, rfl⟩, rfl, rfl⟩, ⟨#[.ref f0, .ref f1], ⟨_, z9 _ _ hlf, rfl, _, rfl⟩, rfl, rfl⟩,
      ⟨#[.ref s0, .ref s1'], ⟨_, z10 _ _ hlse, rfl, _, rfl⟩, rfl, rfl⟩, ⟨#[.ref ad, .ref ad], ⟨_, hln, rfl, _, rfl⟩, rfl, rfl⟩, z7 _ _ hcell, Md.le z3, z3 _ _ hcw, MdP.le z8, Y7.n_push, Y7.n_pop, Y7.n_next⟩
  · exact ⟨⟨emptyDict_is, fun _ h => nomatch h⟩, ⟨fun _ _ => rfl, fun _ _ h => nomatch h⟩, ⟨_, ⟨hs0, rng1' s1 s2⟩, rep1⟩, ⟨_, ⟨hp0, rng1' s1 s2⟩, repP1⟩, by rw [e0]; rfl, fun e he => (ht0 e he).le kta, hh0⟩
  · exact ⟨⟨emptyDict_is, fun _ h => nomatch h⟩, ⟨fun _ _ => rfl, fun _ _ h => nomatch h⟩, ⟨_, ⟨hs1, rng1' g1 g2⟩, rep1⟩, ⟨_, ⟨hp1, rng1' g1 g2⟩, repP1⟩, by rw [e1]; rfl, fun e he => (ht1 e he).le ktb, hh1⟩
  · rw [e0, e1]; simp [mu]
  · rintro v h2 ⟨B', ls', k', S', told⟩
    obtain ⟨g', S'', q1, q2, q3⟩ := S0.leave kB ((kb.trans kz).trans k') S'
    exact q v ps1' ps2' g' h2 q1 S'' ((T1'.le (z3.trans k')).out q2) ((T2'.le (z8.trans k')).out q2) (told.out q2)
end
end Mine
namespace Mine
open PySem PySem.Spec PySem.Calls PyProof.Rows PySem.W
theorem exists_least (P : Nat → Prop) (h : ∃ k, P k) : ∃ k, P k ∧ ∀ j, P j → k ≤ j := by
  obtain ⟨k, hk⟩ := h
  induction k using Nat.strongRecOn with
  | _ k ih =>
    by_cases q : ∃ j, j < k ∧ P j
    · obtain ⟨j, hj, hp⟩ := q; exact ih j hj hp
    · exact ⟨k, hk, fun j hj => Nat.le_of_not_lt fun h => q ⟨j, h, hj⟩⟩
structure DistOk (n : Int) (adj : Adj) (D : Int → Int → Int) : Prop where
  walk : ∀ x y, 0 ≤ x → x < n → 0 ≤ y → y < n → Walk adj x y (D x y)
  least : ∀ x y k, 0 ≤ x → x < n → 0 ≤ y → y < n → Walk adj x y k → D x y ≤ k
theorem dist_exists {n : Int} {adj : Adj} (G : GraphOk n adj) : ∃ D, DistOk n adj D := by
  have one : ∀ x y, ∃ d : Int, (0 ≤ x → x < n → 0 ≤ y → y < n → Walk adj x y d ∧ ∀ k, Walk adj x y k → d ≤ k) := fun x y => by
    by_cases hx : 0 ≤ x ∧ x < n ∧ 0 ≤ y ∧ y < n
    · obtain ⟨k, hk⟩ := G.conn x y hx.1 hx.2.1 hx.2.2.1 hx.2.2.2
      have h0 := hk.nonneg G
      obtain ⟨d, hd, hl⟩ := exists_least (fun j => Walk adj x y (j : Int)) ⟨k.toNat, by show Walk adj x y (k.toNat : Int); rw [Int.toNat_of_nonneg h0]; exact hk⟩
      refine ⟨d, fun _ _ _ _ => ⟨hd, fun k' hk' => ?_⟩⟩
      have h1 := hk'.nonneg G
      have := hl k'.toNat (by show Walk adj x y (k'.toNat : Int); rw [Int.toNat_of_nonneg h1]; exact hk')
      omega
    · exact ⟨0, fun a b c d => absurd ⟨a, b, c, d⟩ hx⟩
  refine ⟨fun x y => Classical.choose (one x y), ⟨fun x y a b c d => ?_, fun x y k a b c d w => ?_⟩⟩
  · exact (Classical.choose_spec (one x y) a b c d).1
  · exact (Classical.choose_spec (one x y) a b c d).2 k w
theorem DistOk.way {n : Int} {adj : Adj} {D : Int → Int → Int} (H : DistOk n adj D) {u v told : Int} {way : List Int} (W : Way adj u v told way) (u0 : 0 ≤ u) (u1 : u < n) (v0 : 0 ≤ v) (v1 : v < n) : told = D u v := by
  have h1 := H.least u v told u0 u1 v0 v1 (W.path.walk W.first W.last)
  have h2 := W.least _ (H.walk u v u0 u1 v0 v1)
  omega
theorem DistOk.sym {n : Int} {adj : Adj} {D : Int → Int → Int} (G : GraphOk n adj) (H : DistOk n adj D) {u v : Int} (u0 : 0 ≤ u) (u1 : u < n) (v0 : 0 ≤ v) (v1 : v < n) : D u v = D v u := by
  have h1 := H.least u v _ u0 u1 v0 v1 ((H.walk v u v0 v1 u0 u1).rev G)
  have h2 := H.least v u _ v0 v1 u0 u1 ((H.walk u v u0 u1 v0 v1).rev G)
  omega
theorem DistOk.tri {n : Int} {adj : Adj} {D : Int → Int → Int} (H : DistOk n adj D) {u w v : Int} (u0 : 0 ≤ u) (u1 : u < n) (w0 : 0 ≤ w) (w1 : w < n) (v0 : 0 ≤ v) (v1 : v < n) : D u v ≤ D u w + D w v :=
  H.least u v _ u0 u1 v0 v1 ((H.walk u w u0 u1 w0 w1).append (H.walk w v w0 w1 v0 v1))
theorem DistOk.metric {n : Int} {adj : Adj} {D : Int → Int → Int} {es : List (Int × Int × Int)} (G : GraphOk n adj) (H : DistOk n adj D) (A : AdjOf es adj) (hn : ∀ u v w, (u, v, w) ∈ es → 0 ≤ u ∧ u < n ∧ 0 ≤ v ∧ v < n ∧ 0 ≤ w) (n0 : 0 ≤ n) : Metric n.toNat es D where
  self := fun x x0 x1 => by
    have h1 := H.least x x 0 x0 (by omega) x0 (by omega) (.nil x)
    have h2 := (H.walk x x x0 (by omega) x0 (by omega)).nonneg G
    omega
  tri := fun x y z a b c d e f => H.tri a (by omega) c (by omega) e (by omega)
  sym := fun x y a b c d => H.sym G a (by omega) c (by omega)
  edge := fun u v w h => by
    have q := hn u v w h
    exact H.least u v w q.1 q.2.1 q.2.2.1 q.2.2.2.1 (Walk.one ((A u v w).mpr (.inl h)))
  node := fun u v w h => by have := hn u v w h; omega
theorem TieIn.edge {n : Int} {xs : XS} (T : TieIn n xs) : ∀ u v w, (u, v, w) ∈ edgesOf xs → 0 ≤ u ∧ u < v ∧ v < n ∧ 0 ≤ w := fun u v w h => by
  obtain ⟨x, hx, e⟩ := List.mem_map.mp h
  obtain ⟨u', v', c, t, e1, h0, h1, h2, e2, h3⟩ := T.all x hx
  unfold edgeOf at e
  rw [e1, e2] at e
  simp [valOf] at e
  omega
theorem edges_nodup {n : Int} {xs : XS} (T : TieIn n xs) (nd : (xs.map (·.1)).Nodup) : (edgesOf xs).Nodup := by
  unfold edgesOf
  rw [List.nodup_iff_pairwise_ne, List.pairwise_map] at nd ⊢
  refine nd.imp_of_mem fun {x y} hx hy hne e => hne ?_
  obtain ⟨u, v, c, t, e1, _, _, _, e2, _⟩ := T.all x hx
  obtain ⟨u', v', c', t', f1, _, _, _, f2, _⟩ := T.all y hy
  unfold edgeOf at e
  rw [e1, f1] at e
  simp at e
  rw [e1, f1, e.1, e.2.1]
theorem graph_ok {n : Int} {xs : XS} {adj : Adj} (T : TieIn n xs) (H : Tied n xs) (A : AdjOf (edgesOf xs) adj) : GraphOk n adj := by
  have pos : ∀ u v c, (v, c) ∈ adj u → 0 ≤ c := fun u v c h => by
    rcases (A u v c).mp h with h | h <;> exact (T.edge _ _ _ h).2.2.2
  have symm : ∀ u v c, (v, c) ∈ adj u → (u, c) ∈ adj v := fun u v c h => (A v u c).mpr ((A u v c).mp h).symm
  have toZero : ∀ k : Nat, (k : Int) < n → ∃ d, Walk adj (k : Int) 0 d ∧ ∃ d, Walk adj 0 (k : Int) d := by
    intro k
    induction k using Nat.strongRecOn with
    | _ k ih =>
      intro hk
      by_cases h0 : k = 0
      · subst h0; exact ⟨0, .nil _, 0, .nil _⟩
      · obtain ⟨u, u0, u1, hm⟩ := H k (by omega) hk
        obtain ⟨x, hx, e⟩ := List.mem_map.mp hm
        obtain ⟨u', v', c, t, e1, h1, h2, h3, e2, h4⟩ := T.all x hx
        have he : (u, (k : Int), c) ∈ edgesOf xs := List.mem_map.mpr ⟨x, hx, by unfold edgeOf; rw [e2, e]; simp [valOf]⟩
        obtain ⟨d, w1, d', w2⟩ := ih u.toNat (by omega) (by omega)
        rw [Int.toNat_of_nonneg u0] at w1 w2
        exact ⟨c + d, .cons ((A _ _ _).mpr (.inr he)) w1, d' + c, w2.append (Walk.one ((A _ _ _).mpr (.inl he)))⟩
  refine ⟨fun u v c h => ?_, pos, symm, fun u v u0 u1 v0 v1 => ?_⟩
  · rcases (A u v c).mp h with h | h <;> have := T.edge _ _ _ h <;> omega
  · obtain ⟨d, w1, _⟩ := toZero u.toNat (by omega)
    obtain ⟨_, _, d', w2⟩ := toZero v.toNat (by omega)
    rw [Int.toNat_of_nonneg u0] at w1
    rw [Int.toNat_of_nonneg v0] at w2
    exact ⟨d + d', w1.append w2⟩
/-- the rows of the graph, as the ties make them -/
structure RowsOf (rs : List Row) (es : List (Int × Int × Int)) : Prop where
  nd : (rs.map Row.node).Nodup
  ent : ∀ r ∈ rs, ∀ y c, (∃ dd, (y, dd, c) ∈ r.ents) ↔ (r.node, y, c) ∈ es ∨ (y, r.node, c) ∈ es
  len : ∀ r ∈ rs, r.ents.length ≤ es.length
theorem RowsOf.start {rs : List Row} (nd : (rs.map Row.node).Nodup) (h : ∀ r ∈ rs, r.ents = []) : RowsOf rs [] :=
  ⟨nd, fun r hr y c => by rw [h r hr]; simp, fun r hr => by rw [h r hr]; simp⟩
theorem RowPut.at' {rs rs' : List Row} {z : Int} {e : Int × Addr × Int} (x : RowPut rs rs' z e) (nd : (rs.map Row.node).Nodup) :
    ∀ r' ∈ rs', ∃ r ∈ rs, r'.node = r.node ∧ ((r.node = z ∧ r'.ents = r.ents ++ [e]) ∨ (r.node ≠ z ∧ r'.ents = r.ents)) := by
  obtain ⟨r1, r, o', r2, rfl, hz, rfl⟩ := x.ex
  rw [List.map_append, List.map_cons, List.nodup_append, List.nodup_cons] at nd
  obtain ⟨n1, ⟨n2, n3⟩, n4⟩ := nd
  intro r' hr'
  rcases List.mem_append.mp hr' with h | h
  · refine ⟨r', List.mem_append_left _ h, rfl, .inr ⟨fun e => ?_, rfl⟩⟩
    exact n4 r'.node (List.mem_map_of_mem h) r.node (by simp) (e.trans hz.symm)
  · rcases List.mem_cons.mp h with rfl | h
    · exact ⟨r, by simp, rfl, .inl ⟨hz, rfl⟩⟩
    · refine ⟨r', by simp [h], rfl, .inr ⟨fun e => ?_, rfl⟩⟩
      exact n2 (List.mem_map.mpr ⟨r', h, e.trans hz.symm⟩)
theorem RowsOf.put {rs rs1 rs' : List Row} {es : List (Int × Int × Int)} {u v c : Int} {dd : Addr} (x : RowsOf rs es) (h1 : RowPut rs rs1 u (v, dd, c)) (h2 : RowPut rs1 rs' v (u, dd, c)) (hne : u ≠ v) : RowsOf rs' (es ++ [(u, v, c)]) := by
  have nd1 : (rs1.map Row.node).Nodup := by rw [h1.nodes.1]; exact x.nd
  have key : ∀ r' ∈ rs', ∃ r ∈ rs, r'.node = r.node ∧ ((r.node = u ∧ r'.ents = r.ents ++ [(v, dd, c)]) ∨ (r.node = v ∧ r'.ents = r.ents ++ [(u, dd, c)]) ∨ (r.node ≠ u ∧ r.node ≠ v ∧ r'.ents = r.ents)) := by
    intro r' hr'
    obtain ⟨ra, ha, e1, q1⟩ := h2.at' nd1 r' hr'
    obtain ⟨r, hr, e2, q2⟩ := h1.at' x.nd ra ha
    refine ⟨r, hr, e1.trans e2, ?_⟩
    rcases q1 with ⟨a1, a2⟩ | ⟨a1, a2⟩
    · rcases q2 with ⟨b1, b2⟩ | ⟨b1, b2⟩
      · exact absurd (b1.symm.trans (e2.symm.trans a1)) hne
      · exact .inr (.inl ⟨e2.symm.trans a1, by rw [a2, b2]⟩)
    · rcases q2 with ⟨b1, b2⟩ | ⟨b1, b2⟩
      · exact .inl ⟨b1, by rw [a2, b2]⟩
      · exact .inr (.inr ⟨b1, fun e => a1 (e2.trans e), by rw [a2, b2]⟩)
  refine ⟨by rw [h2.nodes.1]; exact nd1, fun r' hr' y c' => ?_, fun r' hr' => ?_⟩
  · obtain ⟨r, hr, e, q⟩ := key r' hr'
    have old := x.ent r hr y c'
    rw [e]
    simp only [List.mem_append, List.mem_singleton, Prod.mk.injEq]
    rcases q with ⟨a1, a2⟩ | ⟨a1, a2⟩ | ⟨a0, a1, a2⟩
    · rw [a2]
      simp only [List.mem_append, List.mem_singleton, Prod.mk.injEq]
      constructor
      · rintro ⟨dd', h | ⟨rfl, _, rfl⟩⟩
        · rcases old.mp ⟨dd', h⟩ with h | h
          · exact .inl (.inl h)
          · exact .inr (.inl h)
        · exact .inl (.inr ⟨a1, rfl, rfl⟩)
      · rintro ((h | ⟨_, rfl, rfl⟩) | (h | ⟨rfl, z2, rfl⟩))
        · obtain ⟨d, hd⟩ := old.mpr (.inl h); exact ⟨d, .inl hd⟩
        · exact ⟨dd, .inr ⟨rfl, rfl, rfl⟩⟩
        · obtain ⟨d, hd⟩ := old.mpr (.inr h); exact ⟨d, .inl hd⟩
        · exact absurd (a1.symm.trans z2) hne
    · rw [a2]
      simp only [List.mem_append, List.mem_singleton, Prod.mk.injEq]
      constructor
      · rintro ⟨dd', h | ⟨rfl, _, rfl⟩⟩
        · rcases old.mp ⟨dd', h⟩ with h | h
          · exact .inl (.inl h)
          · exact .inr (.inl h)
        · exact .inr (.inr ⟨rfl, a1, rfl⟩)
      · rintro ((h | ⟨z1, rfl, rfl⟩) | (h | ⟨rfl, z2, rfl⟩))
        · obtain ⟨d, hd⟩ := old.mpr (.inl h); exact ⟨d, .inl hd⟩
        · exact absurd (z1.symm.trans a1) hne
        · obtain ⟨d, hd⟩ := old.mpr (.inr h); exact ⟨d, .inl hd⟩
        · exact ⟨dd, .inr ⟨rfl, rfl, rfl⟩⟩
    · rw [a2]
      constructor
      · rintro h
        rcases old.mp h with h | h
        · exact .inl (.inl h)
        · exact .inr (.inl h)
      · rintro ((h | ⟨z1, rfl, rfl⟩) | (h | ⟨rfl, z2, rfl⟩))
        · exact old.mpr (.inl h)
        · exact absurd z1 a0
        · exact old.mpr (.inr h)
        · exact absurd z2 a1
  · obtain ⟨r, hr, e, q⟩ := key r' hr'
    have old := x.len r hr
    rcases q with ⟨_, a2⟩ | ⟨_, a2⟩ | ⟨_, _, a2⟩ <;> rw [a2] <;> simp <;> omega
def adjR (rs : List Row) : Adj := fun x => match rs.find? (fun r => r.node == x) with
  | some r => r.ents.map fun e => (e.1, e.2.2)
  | none => []
theorem adjR_at {rs : List Row} (nd : (rs.map Row.node).Nodup) : ∀ r ∈ rs, adjR rs r.node = r.ents.map fun e => (e.1, e.2.2) := fun r hr => by
  have : rs.find? (fun q => q.node == r.node) = some r := by
    induction rs with
    | nil => cases hr
    | cons p rest ih =>
      rw [List.map_cons, List.nodup_cons] at nd
      rw [List.find?_cons]
      rcases List.mem_cons.mp hr with rfl | h
      · simp
      · have : (p.node == r.node) = false := by
          rw [beq_eq_false_iff_ne]
          intro e
          exact nd.1 (List.mem_map.mpr ⟨r, h, e.symm⟩)
        rw [this]; exact ih nd.2 h
  unfold adjR
  rw [this]
theorem adjR_of {rs : List Row} {es : List (Int × Int × Int)} (x : RowsOf rs es) (hn : ∀ u v w, (u, v, w) ∈ es → u ∈ rs.map Row.node ∧ v ∈ rs.map Row.node) : AdjOf es (adjR rs) := fun a y c => by
  by_cases h : a ∈ rs.map Row.node
  · obtain ⟨r, hr, rfl⟩ := List.mem_map.mp h
    rw [adjR_at x.nd r hr, ← x.ent r hr y c]
    simp only [List.mem_map, Prod.mk.injEq]
    constructor
    · rintro ⟨⟨e1, e2, e3⟩, he, rfl, rfl⟩; exact ⟨_, he⟩
    · rintro ⟨dd, he⟩; exact ⟨_, he, rfl, rfl⟩
  · have e : adjR rs a = [] := by
      unfold adjR
      have : rs.find? (fun r => r.node == a) = none := by
        rw [List.find?_eq_none]
        intro r hr q
        exact h (List.mem_map.mpr ⟨r, hr, by simpa using q⟩)
      rw [this]
    rw [e]
    constructor
    · intro q; cases q
    · rintro (q | q)
      · exact absurd (hn _ _ _ q).1 h
      · exact absurd (hn _ _ _ q).2 h
/-- the end of the law -/
theorem law_end {n : Int} {xs : XS} {adj : Adj} {D : Int → Int → Int} {a b c M : Int} {v : Value} (T : TieIn n xs) (nd : (xs.map (·.1)).Nodup) (G : GraphOk n adj) (A : AdjOf (edgesOf xs) adj) (H : DistOk n adj D) (n0 : 3 ≤ n)
    (hw : ∀ u w, 0 ≤ u → u < n → (w = a ∨ w = b ∨ w = c) → ∃ way, Way adj u w (D u w) way) (a0 : 0 ≤ a) (a1 : a < n) (b0 : 0 ≤ b) (b1 : b < n) (c0 : 0 ≤ c) (c1 : c < n)
    (hM : (∃ u, 0 ≤ u ∧ u < n ∧ M = D u a + D u b + D u c) ∧ ∀ u, 0 ≤ u → u < n → M ≤ D u a + D u b + D u c) (L : LeastTo (edgesOf xs) a b c (2 ^ xs.length) v) : ∃ t, v = .int M t := by
  have hlen : (edgesOf xs).length = xs.length := by simp [edgesOf]
  have hpos : ∀ e ∈ edgesOf xs, 0 ≤ e.2.2 := fun e he => (T.edge _ _ _ he).2.2.2
  have join : ∀ u, 0 ≤ u → u < n → ∃ m, m < 2 ^ xs.length ∧ Joined (edgesOf xs) a b c m ∧ wsum (selM m (edgesOf xs)) ≤ D u a + D u b + D u c := fun u u0 u1 => by
    obtain ⟨w1, h1⟩ := hw u a u0 u1 (.inl rfl)
    obtain ⟨w2, h2⟩ := hw u b u0 u1 (.inr (.inl rfl))
    obtain ⟨w3, h3⟩ := hw u c u0 u1 (.inr (.inr rfl))
    obtain ⟨m, q1, q2, q3, q4⟩ := mask_of_ways A hpos (edges_nodup T nd) h1 h2 h3
    exact ⟨m, by rw [← hlen]; exact q1, ⟨q3, q4⟩, q2⟩
  rcases L.is with ⟨_, hno⟩ | ⟨x, t, m, e, hm, hj, hs, hl⟩
  · obtain ⟨m, q1, q2, _⟩ := join 0 (by omega) (by omega)
    exact absurd q2 (hno m q1)
  · refine ⟨t, ?_⟩
    obtain ⟨⟨u, u0, u1, eM⟩, hMl⟩ := hM
    have le1 : x ≤ M := by
      obtain ⟨m', q1, q2, q3⟩ := join u u0 u1
      have := hl m' q1 q2
      omega
    have MT : Metric n.toNat (edgesOf xs) D := H.metric G A (fun u v w h => by have := T.edge u v w h; omega) (by omega)
    obtain ⟨u', v0, v1, hu⟩ := near_of_joined (n := n.toNat) MT (sel := selM m (edgesOf xs)) (fun e he => selM_sub he) a0 (by omega) b0 (by omega) c0 (by omega) hj.1 hj.2
    have le2 := hMl u' v0 (by omega)
    have : x = M := by omega
    rw [e, this]
end Mine
namespace Mine
open PySem PySem.Spec PySem.Calls PyProof.Rows PySem.W
theorem le_empty (g : Heap) : Le ({ objs := #[] } : Heap) g := fun b o e => by simp [Heap.get?] at e
section
variable {prog : Program} {w : World} {A : Around} {s₀ : Shared} {g h : Heap} {L : Addr} {ls : Loc} {own : List (Addr × Obj)} {env : Env} {l : Addr} {vs : List Value} {ns : List Int}
theorem W_minL {Q : Value → Heap → Prop} (hh : A.handled = none) (S : Fm g L ls own h) (hl : h.IsList l vs.toArray) (hi : IntsAre vs ns) (hne : 0 < ns.length)
    (q : ∀ M t h', Fm g L ls own h' → M ∈ ns → (∀ a ∈ ns, M ≤ a) → Q (.int M t) h') : W (model prog w) A s₀ (call (.builtin "min") [.ref l]) Q h :=
  W.of fun tk Q' k => by
    obtain ⟨mm, F, hm, N⟩ := S.fr (le_empty g) (Nat.zero_le _)
    exact min_list_N hh F N hl hi hne fun h' M t tk F' N' hmem hle => k _ _ _ (q M t h' (S.back F' hm N' (le_empty g) S.nd S.goff) hmem hle)
theorem W_sumL {Q : Value → Heap → Prop} (hh : A.handled = none) (S : Fm g L ls own h) (hl : h.IsList l vs.toArray) (hi : IntsAre vs ns)
    (q : ∀ t h', Fm g L ls own h' → Q (.int ns.sum t) h') : W (model prog w) A s₀ (call (.builtin "sum") [.ref l]) Q h :=
  W.of fun tk Q' k => by
    obtain ⟨mm, F, hm, N⟩ := S.fr (le_empty g) (Nat.zero_le _)
    exact LSm.sum_ints hh (F := F) (N := N) (hl := hl) (hi := hi) (h := fun h' tk t' F' N' => k _ _ _ (q t' h' (S.back F' hm N' (le_empty g) S.nd S.goff)))
theorem W_min2 {a b : Int} {t u : Tok} {Q : Value → Heap → Prop} (hh : A.handled = none) (S : Fm g L ls own h) (q : ∀ t' h', Fm g L ls own h' → Le h h' → Q (.int (if b < a then b else a) t') h') : W (model prog w) A s₀ (call (.builtin "min") [.int a t, .int b u]) Q h :=
  W.of fun tk Q' k => min_two_ints hh fun h' tk' hk => by
    by_cases hc : b < a
    · rw [if_pos hc]; have := q u h' (S.grown hk) hk; rw [if_pos hc] at this; exact k _ _ _ this
    · rw [if_neg hc]; have := q t h' (S.grown hk) hk; rw [if_neg hc] at this; exact k _ _ _ this
theorem W_max2 {a b : Int} {t u : Tok} {Q : Value → Heap → Prop} (hh : A.handled = none) (S : Fm g L ls own h) (q : ∀ t' h', Fm g L ls own h' → Le h h' → Q (.int (if b > a then b else a) t') h') : W (model prog w) A s₀ (call (.builtin "max") [.int a t, .int b u]) Q h :=
  W.of fun tk Q' k => max_two_ints hh fun h' tk' hk => by
    by_cases hc : b > a
    · rw [if_pos hc]; have := q u h' (S.grown hk) hk; rw [if_pos hc] at this; exact k _ _ _ this
    · rw [if_neg hc]; have := q t h' (S.grown hk) hk; rw [if_neg hc] at this; exact k _ _ _ this
theorem W_neNil {b : Addr} {Q : Value → Heap → Prop} (hu : A.units < cLine) (hl : h.IsList l #[]) (hb : h.IsList b #[]) (q : Q (.bool false) h) : W (model prog w) A s₀ (compareOp .NotEq (.ref l) (.ref b)) Q h :=
  W.of fun tk Q' k => EqBoolInt.of_rcne (SeqAt.RcNeAt.lists (e := fun _ => true) (s := { s₀ with heap := h, toks := tk }) hl hb rfl hu (fun j h1 => absurd h1 (by simp))) (k _ _ _ (by simpa using q))
theorem W_itemNeg {value slice : Expr} {items : Array Value} {a : Int} {t : Tok} {x : Value} {Q : Value → Heap → Prop} (hl : h.IsList l items) (h0 : a < 0) (h1 : -(items.size : Int) ≤ a) (hf : -(2 ^ 63) ≤ a) (hx : items[(a + items.size).toNat]? = some x) (q : Q x h)
    (hs : subscripted slice false (.ref l) (.int a t) = operate [.ref l, .int a t] (getItem (.ref l) (.int a t)) := by with_unfolding_all rfl) : W (model prog w) A s₀ (subscriptTail value slice (.ref l) (.int a t)) Q h :=
  W_tail (by obtain ⟨o, e, c, _⟩ := hl; exact ⟨l, o, rfl, e, c⟩) slot_list_getitem.lookup (W.of fun tk Q' k => wpAny_getItem_list_neg hl h0 h1 hf hx (k _ _ _ q)) hs
end
theorem dedup_fold : ∀ (l acc : List Int), (acc ++ l).Nodup → l.foldl step_dedup acc = acc ++ l
  | [], acc, _ => by simp
  | x :: l, acc, h => by
    have hx : step_dedup acc x = acc ++ [x] := by
      unfold step_dedup
      rw [if_neg]
      intro hm
      rw [List.nodup_append] at h
      have hm' : x ∈ acc := by
        obtain ⟨y, hy, e⟩ := List.any_eq_true.mp hm
        rw [← eq_of_beq e]; exact hy
      exact h.2.2 x hm' x (by simp) rfl
    rw [List.foldl_cons, hx, dedup_fold l (acc ++ [x]) (by simpa using h)]
    simp
theorem distinct_nodup {ns : List Int} (h : ns.Nodup) : distinct ns = ns.length := by
  unfold distinct firstMet
  have e : (List.range ns.length).map (fun i => ns.getD i 0) = ns := by
    apply List.ext_getElem?
    intro i
    rw [List.getElem?_map]
    by_cases hi : i < ns.length
    · rw [List.getElem?_range hi, List.getElem?_eq_getElem hi]; simp [hi]
    · rw [List.getElem?_eq_none (by simp; omega), List.getElem?_eq_none (by omega)]; rfl
  rw [e, dedup_fold ns [] (by simpa using h)]
  simp
end Mine
namespace Mine
open PySem PySem.Spec PySem.Calls PyProof.Rows PySem.W
abbrev for7 : Stmt := subF (stm 37) 7
abbrev pairB : List Stmt := forB (sAt (forB for7) 0)
theorem Path.costs {adj : Adj} {l : List Int} {k : Int} (p : Path adj l k) : ∃ cs : List Int, cs.length + 1 = l.length ∧ cs.sum = k ∧ ∀ (i : Nat) x y c, l[i]? = some x → l[i + 1]? = some y → cs[i]? = some c → (y, c) ∈ adj x := by
  induction p with
  | one x => exact ⟨[], rfl, rfl, fun i a b c h1 h2 h3 => by simp at h3⟩
  | @cons x y c k l e q ih =>
    obtain ⟨cs, h1, h2, h3⟩ := ih
    refine ⟨c :: cs, by simpa using h1, by simp [h2], fun i a b c' q1 q2 q3 => ?_⟩
    cases i with
    | zero =>
      simp at q1 q2 q3
      subst q1 q2 q3
      exact e
    | succ i =>
      simp only [List.getElem?_cons_succ] at q1 q2 q3
      exact h3 i a b c' q1 q2 q3
theorem atKey_of_mem {xs : XS} {x} (nd : (xs.map (·.1)).Nodup) (hx : x ∈ xs) : atKey xs x.1 = some x.2 := by
  obtain ⟨i, hi, e⟩ := List.getElem_of_mem hx
  exact atKey_of_get (i := i) nd (by rw [List.getElem?_eq_getElem hi, e])
theorem tie_of {n : Int} {xs : XS} {adj : Adj} {x y c : Int} (T : TieIn n xs) (nd : (xs.map (·.1)).Nodup) (A : AdjOf (edgesOf xs) adj) (h : (y, c) ∈ adj x) :
    ∃ p t, atKey xs [if y < x then y else x, if y > x then y else x] = some p ∧ p.2 = .int c t := by
  have key : ∀ u v, (u, v, c) ∈ edgesOf xs → ∃ p t, atKey xs [u, v] = some p ∧ p.2 = .int c t := fun u v h => by
    obtain ⟨z, hz, e⟩ := List.mem_map.mp h
    obtain ⟨u', v', c', t, e1, h0, h1, h2, e2, h3⟩ := T.all z hz
    unfold edgeOf at e
    rw [e1, e2] at e
    simp [valOf] at e
    obtain ⟨rfl, rfl, rfl⟩ := e
    have := atKey_of_mem nd hz
    rw [e1] at this
    exact ⟨z.2, t, this, e2⟩
  rcases (A x y c).mp h with h | h
  · have := T.edge _ _ _ h
    rw [if_neg (by omega), if_pos (by omega)]
    exact key _ _ h
  · have := T.edge _ _ _ h
    rw [if_pos (by omega), if_neg (by omega)]
    exact key _ _ h
section
variable {prog : Program} {w : World} {A : Around} {s₀ : Shared} {g h B : Heap} {L : Addr} {ls : Loc} {own : List (Addr × Obj)} {env : Env} {K : Frag} {m : Nat}
theorem W_notInT {d a : Addr} {xs : List (List Int × Addr × Value)} {ks : List Int} {Q : Value → Heap → Prop} (hd : h.DictOfH (TK prog w) d xs) (hs : (d == sysModules) = false) (hk : IsTupleKey (intKind prog w) h ks a) (hu : A.in1.units < cLine) (q : Q (.bool (!(atKey xs ks).isSome)) h) : W (model prog w) A s₀ (compareOp .NotIn (.ref a) (.ref d)) Q h :=
  W.of fun tk Q' k => wpAny_notIn_heap (knd := TK prog w) hu hk hs hd (k _ _ _ q)
theorem way_loop {a : Ad} {sc d r x cfar csome cv cu cn cf : Addr} {od : Obj} {xs : XS} {n told : Int} {adj : Adj} {ws : List Value} {way : List Int} {kk : Nat} {u4 u8 : Option Value} {t0 tt : Tok} {Q : Flow → Heap → Prop}
    (E : EnvOk env L [("script", .local), ("found", .cell), ("n", .cell), ("weights", .local), ("G", .local), ("k", .local), ("u", .cell), ("v", .cell), ("some", .cell), ("far", .cell), ("told", .local), ("way", .local), ("weight", .local), ("tie", .local), ("_law_numbers", .globalImplicit), ("_law_ties", .globalImplicit), ("Graph", .globalImplicit), ("range", .globalImplicit), ("bidirectional_dijkstra", .globalImplicit), ("len", .globalImplicit), ("set", .globalImplicit), ("min", .globalImplicit), ("max", .globalImplicit), ("_law_least", .globalImplicit)] [("far", cfar), ("some", csome), ("v", cv), ("u", cu), ("n", cn), ("found", cf)]) (R : Room A kk) (hk : kk ≤ 20) (Y : Lib K m a B) (hd : B.get? d = some od) (T : TD prog w B od xs) (hds : (d == sysModules) = false) (TI : TieIn n xs) (AO : AdjOf (edgesOf xs) adj)
    (S : Fm B L [("script", some (.ref sc)), ("weights", some (.ref d)), ("G", some (.ref x)), ("k", u4), ("told", some (.int told tt)), ("way", some (.ref r)), ("weight", some (.int 0 t0)), ("tie", u8)] own h) (hr : B.IsList r ws.toArray) (hi : IntsAre ws way) (P : Path adj way told) (hl : way.length ≤ 100)
    (q : ∀ B' h' u4 tw u8, Le B B' → Fm B' L [("script", some (.ref sc)), ("weights", some (.ref d)), ("G", some (.ref x)), ("k", u4), ("told", some (.int told tt)), ("way", some (.ref r)), ("weight", some (.int told tw)), ("tie", u8)] own h' → Q .next h') : W (model prog w) A s₀ (exec (sAt pairB 3) env) Q h := by
  obtain ⟨cs, c1, c2, c3⟩ := P.costs
  have hwl := hi.length
  refine W_For ?_
  refine W_CallN ?_
  refine W_ldG E (by walk_at "mem") Y.n_range S.keep ?_
  refine W_callWith ?_
  walk_at "go"
  refine W_ldG E (by walk_at "mem") Y.n_len S.keep ?_
  refine W_callWith ?_
  walk_at "go"
  refine ⟨Kept.builtin _ _ _, W_lenList (isList_le hr S.keep) (by simp; omega) fun tl => ?_⟩
  walk_at "go"
  refine ⟨Kept.type _ _ _, ?_⟩
  refine W_range2 S fun rg h' t u v S hrg => ?_
  have hsz : ws.toArray.size = way.length := by simp [hwl]
  rw [hsz] at hrg
  refine W_loopRange (own := []) (ex := own) R.hh (NoGo.name _ _) S hrg (by decide) (by decide) (by omega) (by omega)
    (fun i B' ls' o => ∃ u4 tw u8, Le B B' ∧ ls' = ([("script", some (.ref sc)), ("weights", some (.ref d)), ("G", some (.ref x)), ("k", u4), ("told", some (.int told tt)), ("way", some (.ref r)), ("weight", some (.int (cs.take i).sum tw)), ("tie", u8)] : Loc) ∧ o = [])
    ⟨_, _, _, Le.refl _, rfl, rfl⟩ ?_ ?_
  · rintro i ti B' ls' o ex h' hi' kB' ⟨u4, tw, u8, kb, rfl, rfl⟩ S
    have S : Fm B' L _ ex h' := S
    have hi2 : i < cs.length := by omega
    have hw1 : i < way.length := by omega
    have hw2 : i + 1 < way.length := by omega
    obtain ⟨ta, ea⟩ := hi.get i _ (List.getElem?_eq_getElem hw1)
    obtain ⟨tb, eb⟩ := hi.get (i + 1) _ (List.getElem?_eq_getElem hw2)
    have hadj := c3 i _ _ _ (List.getElem?_eq_getElem hw1) (List.getElem?_eq_getElem hw2) (List.getElem?_eq_getElem hi2)
    generalize way[i] = x1 at *
    generalize way[i + 1] = y1 at *
    obtain ⟨p, tp, hp, hpv⟩ := tie_of TI T.nd AO hadj
    have e1 : ws.toArray[(1 + (i : Int) - 1).toNat]? = some (.int x1 ta) := by rw [show (1 + (i : Int) - 1).toNat = i by omega]; simpa using ea
    have e2 : ws.toArray[(1 + (i : Int)).toNat]? = some (.int y1 tb) := by rw [show (1 + (i : Int)).toNat = i + 1 by omega]; simpa using eb
    refine W_asName (W_st E S (by walk_at "mem") (by walk_at "put") fun h' S => ?_)
    refine W_cons (W_Assign ?_ (by with_unfolding_all rfl))
    refine W_Tuple ?_
    walk_at "go"
    refine W_ldG E (by walk_at "mem") Y.n_min (kb.trans S.keep) ?_
    refine W_callWith ?_
    walk_at "go"
    refine W_itemList (isList_le hr (kb.trans S.keep)) (by omega) e1 (by omega) ?_
    walk_at "go"
    refine W_itemList (isList_le hr (kb.trans S.keep)) (by omega) e2 (by omega) ?_
    walk_at "go"
    refine ⟨Kept.builtin _ _ _, W_min2 R.hh S fun t1 h' S _ => ?_⟩
    walk_at "go"
    refine W_ldG E (by walk_at "mem") Y.n_max' (kb.trans S.keep) ?_
    refine W_callWith ?_
    walk_at "go"
    refine W_itemList (isList_le hr (kb.trans S.keep)) (by omega) e1 (by omega) ?_
    walk_at "go"
    refine W_itemList (isList_le hr (kb.trans S.keep)) (by omega) e2 (by omega) ?_
    walk_at "go"
    refine ⟨Kept.builtin _ _ _, W_max2 R.hh S fun t2 h' S _ => ?_⟩
    walk_at "go"
    refine W_newTuple S (by simp) fun tu h' _ S _ => ?_
    obtain ⟨B2, S, k2, htu⟩ := S.settle1
    walk_at "go"
    have kb2 := kb.trans k2
    refine W_notInT (T.heap (S.keep _ _ (kb2 _ _ hd)) (kb2.trans S.keep)) hds (tkey2 (S.keep _ _ htu)) (R.unit (by omega)) ?_
    rw [hp]
    walk_at "go"
    rw [if_neg (by simp)]
    refine W_nil ?_
    walk_at "go"
    refine W_itemT (T.heap (S.keep _ _ (kb2 _ _ hd)) (kb2.trans S.keep)) (tkey2 (S.keep _ _ htu)) (R.unit (by omega)) hp ?_
    rw [hpv]
    walk_at "go"
    have es : (cs.take i).sum + cs[i] = (cs.take (i + 1)).sum := by
      rw [List.take_add_one, List.getElem?_eq_getElem hi2, List.sum_append]
      simp
    rw [es] at S
    refine W_nil ⟨.inl rfl, B2, _, [], k2, S, _, _, _, kb2, rfl, rfl⟩
  · rintro B' ls' o h' kB' ⟨u4, tw, u8, kb, rfl, rfl⟩ S
    have e : (cs.take ((way.length : Int) - 1).toNat).sum = told := by rw [List.take_of_length_le (by omega), c2]
    rw [e] at S
    exact q B' h' _ _ _ kb S
end
end Mine
namespace Mine
open PySem PySem.Spec PySem.Calls PyProof.Rows PySem.W
structure FarOk (adj : Adj) (fx : XS) : Prop where
  all : ∀ x ∈ fx, ∃ u v d t way, x.1 = [u, v] ∧ x.2.2 = .int d t ∧ Way adj u v d way
theorem FarOk.put {adj : Adj} {fx : XS} {u v d : Int} {t : Tok} {ad : Addr} {way : List Int} (F : FarOk adj fx) (W : Way adj u v d way) : FarOk adj (storedH fx [u, v] ad (.int d t)) :=
  ⟨fun x hx => by
    rcases mem_storedH hx with h | ⟨e1, e2⟩
    · exact F.all x h
    · exact ⟨u, v, d, t, way, e1, e2, W⟩⟩
/-- the pure facts of the law's graph -/
structure LawP (n : Int) (adj : Adj) (xs : XS) (rs : List Row) : Prop where
  G : GraphOk n adj
  n3 : 3 ≤ n
  n5 : n ≤ 5
  nodes : ∀ z, 0 ≤ z → z < n → z ∈ rs.map Row.node
  adjE : ∀ r ∈ rs, adj r.node = r.ents.map fun e => (e.1, e.2.2)
  rl : ∀ r ∈ rs, r.ents.length ≤ 50
  TI : TieIn n xs
  AO : AdjOf (edgesOf xs) adj
/-- the law's ground -/
structure LawG (prog : Program) (w : World) (K : Frag) (m : Nat) (a : Ad) (x d df cfar : Addr) (xs : XS) (rs : List Row) (g : Heap) : Prop where
  Y : Lib K m a g
  GA : GraphAt prog w a.C g x rs
  hd : ∃ od, g.get? d = some od ∧ TD prog w g od xs
  hds : (d == sysModules) = false
  cfar : g.get? cfar = some (celO (some (.ref df)))
theorem LawG.le {prog : Program} {w : World} {K : Frag} {m : Nat} {a : Ad} {x d df cfar : Addr} {xs : XS} {rs : List Row} {g h : Heap} (X : LawG prog w K m a x d df cfar xs rs g) (k : Le g h) : LawG prog w K m a x d df cfar xs rs h :=
  ⟨X.Y.le k, X.GA.le k, let ⟨od, e, t⟩ := X.hd; ⟨od, k _ _ e, t.mono k⟩, X.hds, k _ _ X.cfar⟩
section
variable {prog : Program} {w : World} {A : Around} {s₀ : Shared} {g h B : Heap} {L : Addr} {ls : Loc} {own : List (Addr × Obj)} {env : Env} {K : Frag} {m : Nat}
theorem pair_turn {a : Ad} {sc d x df cfar csome cv cu cn cf : Addr} {ofar : Obj} {xs fx : XS} {rs : List Row} {n u v : Int} {adj : Adj} {kk : Nat} {u4 u5 u6 u7 u8 : Option Value} {tu tv : Tok} {ps1 ps2 : Array Value} {Q : Flow → Heap → Prop}
    (E : EnvOk env L [("script", .local), ("found", .cell), ("n", .cell), ("weights", .local), ("G", .local), ("k", .local), ("u", .cell), ("v", .cell), ("some", .cell), ("far", .cell), ("told", .local), ("way", .local), ("weight", .local), ("tie", .local), ("_law_numbers", .globalImplicit), ("_law_ties", .globalImplicit), ("Graph", .globalImplicit), ("range", .globalImplicit), ("bidirectional_dijkstra", .globalImplicit), ("len", .globalImplicit), ("set", .globalImplicit), ("min", .globalImplicit), ("max", .globalImplicit), ("_law_least", .globalImplicit)] [("far", cfar), ("some", csome), ("v", cv), ("u", cu), ("n", cn), ("found", cf)]) (R : Room A kk) (hk : kk ≤ 9) (X : LawG prog w K m a x d df cfar xs rs B) (P : LawP n adj xs rs)
    (S : Fm B L [("script", some (.ref sc)), ("weights", some (.ref d)), ("G", some (.ref x)), ("k", u4), ("told", u5), ("way", u6), ("weight", u7), ("tie", u8)] ((a.P1, tabObj ps1) :: (a.P2, tabObj ps2) :: (cu, celO (some (.int u tu))) :: (cv, celO (some (.int v tv))) :: (df, ofar) :: own) h)
    (T1 : Tab B (lamQ a) lamPos ps1) (T2 : Tab B (pathQ a) (posF pathS) ps2) (TF : TD prog w B ofar fx) (FO : FarOk adj fx) (hz : fx.length ≤ 900) (u0 : 0 ≤ u) (u1 : u < n) (v0 : 0 ≤ v) (v1 : v < n)
    (q : ∀ B' h' u4 u5 u6 u7 u8 ps1' ps2' ofar' ad d' t', Le B B' → Fm B' L [("script", some (.ref sc)), ("weights", some (.ref d)), ("G", some (.ref x)), ("k", u4), ("told", u5), ("way", u6), ("weight", u7), ("tie", u8)] ((a.P1, tabObj ps1') :: (a.P2, tabObj ps2') :: (cu, celO (some (.int u tu))) :: (cv, celO (some (.int v tv))) :: (df, ofar') :: own) h' →
      Tab B' (lamQ a) lamPos ps1' → Tab B' (pathQ a) (posF pathS) ps2' → TD prog w B' ofar' (storedH fx [u, v] ad (.int d' t')) → FarOk adj (storedH fx [u, v] ad (.int d' t')) → Q .next h') : W (model prog w) A s₀ (execs pairB env) Q h := by
  have kb := Le.refl B
  refine W_cons (W_AssignTup ?_ (by rfl))
  refine W_CallN ?_
  refine W_ldG E (by walk_at "mem") X.Y.n_bd S.keep ?_
  refine W_callWith ?_
  walk_at "go"
  refine ⟨X.Y.gbd.kept S.keep, W_call ?_⟩
  refine dijkstra (n := n) X.Y R (by omega) S T1 T2 X.GA P.G P.n5 P.nodes P.adjE P.rl u0 u1 v0 v1 fun val ps1' ps2' B1 h' k1 S T1' T2' told => ?_
  replace kb := kb.trans k1
  obtain ⟨tr, r, f, tf, ws, way, rfl, htr, hr, hi, W1, hl⟩ := told.ex
  have hwl := hi.length
  refine W_asTup2 R.hh S ⟨_, S.keep _ _ htr, rfl, _, rfl⟩ fun h' S _ => ?_
  refine W_asName (W_st E S (by walk_at "mem") (by walk_at "put") fun h' S => ?_)
  refine W_asName (W_st E S (by walk_at "mem") (by walk_at "put") fun h' S => ?_)
  have X1 := X.le kb
  have hpos : 0 < way.length := by
    cases way with
    | nil => have := W1.first; simp at this
    | cons z l => simp
  obtain ⟨t1, e1⟩ := hi.get 0 u (by rw [← List.head?_eq_getElem?]; exact W1.first)
  obtain ⟨t2, e2⟩ := hi.get (way.length - 1) v (by rw [← List.getLast?_eq_getElem?]; exact W1.last)
  refine W_cons (W_If (W_tBoolOp (W_orCons (W_tCompare ?_))))
  walk_at "go"
  refine W_itemList (isList_le hr S.keep) (by decide) (show ws.toArray[(0 : Int).toNat]? = _ from by simpa using e1) (by decide) ?_
  walk_at "go"
  rw [if_neg (by simp)]
  refine W_orCons (W_tCompare ?_)
  walk_at "go"
  refine W_negI fun t => ?_
  refine W_itemNeg (isList_le hr S.keep) (by decide) (by simp; omega) (by decide) (show ws.toArray[((-1 : Int) + ws.toArray.size).toNat]? = _ from by
    rw [show ((-1 : Int) + ws.toArray.size).toNat = way.length - 1 by simp [hwl]; omega]; simpa using e2) ?_
  walk_at "go"
  rw [if_neg (by simp)]
  refine W_orCons (W_tCompare ?_)
  walk_at "go"
  refine W_ldG E (by walk_at "mem") X1.Y.n_len S.keep ?_
  refine W_callWith ?_
  walk_at "go"
  refine W_ldG E (by walk_at "mem") X1.Y.n_set S.keep ?_
  refine W_callWith ?_
  walk_at "go"
  refine ⟨Kept.type _ _ _, W_setList R.hh S (isList_le hr S.keep) hi (by omega) fun sa so h' S hsa hsn => ?_⟩
  walk_at "go"
  rw [distinct_nodup W1.once] at hsn
  refine ⟨Kept.builtin _ _ _, W_lenSet hsa hsn (by omega) fun t3 => ?_⟩
  walk_at "go"
  refine W_ldG E (by walk_at "mem") X1.Y.n_len S.keep ?_
  refine W_callWith ?_
  walk_at "go"
  refine ⟨Kept.builtin _ _ _, W_lenList (isList_le hr S.keep) (by simp; omega) fun t4 => ?_⟩
  walk_at "go"
  rw [if_neg (by simp [hwl])]
  refine W_orNil ?_
  rw [if_neg (by decide)]
  refine W_nil ?_
  refine W_cons (W_Assign ?_ (by with_unfolding_all rfl))
  walk_at "go"
  obtain ⟨od, hod, hT⟩ := X1.hd
  refine way_loop E R (by omega) X1.Y hod hT X.hds P.TI P.AO S hr hi W1.path hl fun B2 h' u4' tw u8' k2 S => ?_
  replace kb := kb.trans k2
  refine W_cons (W_If (W_tCompare ?_))
  walk_at "go"
  rw [if_neg (by simp)]
  refine W_nil ?_
  refine W_cons (W_AssignSub ?_ (by with_unfolding_all rfl))
  walk_at "go"
  refine W_ldC E (by walk_at "mem") (by walk_at "mem") ((kb.trans S.keep) _ _ X.cfar) rfl ?_
  walk_at "go"
  refine W_newTuple S (by simp) fun tt h' _ S _ => ?_
  obtain ⟨B3, S, k3, htt⟩ := S.settle1
  replace kb := kb.trans k3
  refine W_setT (o := ofar) S (fun o' => (by walk_at "upd")) (TF.mono kb) (tkey2 htt) (R.unit (by omega)) (by omega) fun ofar' h' TF' S => ?_
  refine W_nil ?_
  exact q B3 h' _ _ _ _ _ ps1' ps2' ofar' _ _ _ kb S (T1'.le (k2.trans k3)) (T2'.le (k2.trans k3)) TF' (FO.put W1)
end
end Mine
namespace Mine
open PySem PySem.Spec PySem.Calls PyProof.Rows PySem.W
section
variable {prog : Program} {w : World} {A : Around} {s₀ : Shared} {g h B : Heap} {L : Addr} {ls : Loc} {own : List (Addr × Obj)} {env : Env} {K : Frag} {m : Nat}
theorem far_fill {a : Ad} {sc d x df sm cfar csome cv cu cn cf : Addr} {ofar : Obj} {xs : XS} {rs : List Row} {n : Int} {adj : Adj} {kk : Nat} {u4 u5 u6 u7 u8 uo vo : Option Value} {tn : Tok} {ps1 ps2 : Array Value} {svs : List Value} {sv : List Int} {Q : Flow → Heap → Prop}
    (E : EnvOk env L [("script", .local), ("found", .cell), ("n", .cell), ("weights", .local), ("G", .local), ("k", .local), ("u", .cell), ("v", .cell), ("some", .cell), ("far", .cell), ("told", .local), ("way", .local), ("weight", .local), ("tie", .local), ("_law_numbers", .globalImplicit), ("_law_ties", .globalImplicit), ("Graph", .globalImplicit), ("range", .globalImplicit), ("bidirectional_dijkstra", .globalImplicit), ("len", .globalImplicit), ("set", .globalImplicit), ("min", .globalImplicit), ("max", .globalImplicit), ("_law_least", .globalImplicit)] [("far", cfar), ("some", csome), ("v", cv), ("u", cu), ("n", cn), ("found", cf)]) (R : Room A kk) (hk : kk ≤ 9) (X : LawG prog w K m a x d df cfar xs rs B) (P : LawP n adj xs rs)
    (hcn : B.get? cn = some (celO (some (.int n tn)))) (hcs : B.get? csome = some (celO (some (.ref sm)))) (hsm : B.IsList sm svs.toArray) (hsv : IntsAre svs sv) (hs3 : sv.length = 3) (hsr : ∀ z ∈ sv, 0 ≤ z ∧ z < n)
    (S : Fm B L [("script", some (.ref sc)), ("weights", some (.ref d)), ("G", some (.ref x)), ("k", u4), ("told", u5), ("way", u6), ("weight", u7), ("tie", u8)] ((a.P1, tabObj ps1) :: (a.P2, tabObj ps2) :: (cu, celO uo) :: (cv, celO vo) :: (df, ofar) :: own) h)
    (T1 : Tab B (lamQ a) lamPos ps1) (T2 : Tab B (pathQ a) (posF pathS) ps2) (TF : TD prog w B ofar [])
    (q : ∀ B' h' u4 u5 u6 u7 u8 uo vo ps1' ps2' ofar' fx, Le B B' → Fm B' L [("script", some (.ref sc)), ("weights", some (.ref d)), ("G", some (.ref x)), ("k", u4), ("told", u5), ("way", u6), ("weight", u7), ("tie", u8)] ((a.P1, tabObj ps1') :: (a.P2, tabObj ps2') :: (cu, celO uo) :: (cv, celO vo) :: (df, ofar') :: own) h' →
      TD prog w B' ofar' fx → FarOk adj fx → (∀ u, 0 ≤ u → u < n → ∀ z ∈ sv, [u, z] ∈ fx.map (·.1)) → Q .next h') : W (model prog w) A s₀ (exec for7 env) Q h := by
  have n3 := P.n3
  have n5 := P.n5
  have hsl := hsv.length
  refine W_For ?_
  refine W_CallN ?_
  refine W_ldG E (by walk_at "mem") X.Y.n_range S.keep ?_
  refine W_callWith ?_
  walk_at "go"
  refine W_ldC E (by walk_at "mem") (by walk_at "mem") (S.keep _ _ hcn) rfl ?_
  walk_at "go"
  refine ⟨Kept.type _ _ _, ?_⟩
  refine W_range1 S fun rg h' t u v S hrg => ?_
  refine W_loopRange (own := [(a.P1, tabObj ps1), (a.P2, tabObj ps2), (cu, celO uo), (cv, celO vo), (df, ofar)]) (ex := own) R.hh (NoGo.name _ _) S hrg (by decide) (by decide) (by omega) (by omega)
    (fun i B' ls' o => ∃ u4 u5 u6 u7 u8 uo vo ps1 ps2 ofar fx, Le B B' ∧ ls' = ([("script", some (.ref sc)), ("weights", some (.ref d)), ("G", some (.ref x)), ("k", u4), ("told", u5), ("way", u6), ("weight", u7), ("tie", u8)] : Loc) ∧ o = [(a.P1, tabObj ps1), (a.P2, tabObj ps2), (cu, celO uo), (cv, celO vo), (df, ofar)] ∧
      Tab B' (lamQ a) lamPos ps1 ∧ Tab B' (pathQ a) (posF pathS) ps2 ∧ TD prog w B' ofar fx ∧ FarOk adj fx ∧ fx.length ≤ 3 * i ∧ ∀ u : Int, 0 ≤ u → u < i → ∀ z ∈ sv, [u, z] ∈ fx.map (·.1))
    ⟨_, _, _, _, _, _, _, _, _, _, [], Le.refl _, rfl, rfl, T1, T2, TF, ⟨fun _ h => nomatch h⟩, by simp, fun u h0 h1 => by omega⟩ ?_ ?_
  · rintro i ti B' ls' o ex h' hi kB' ⟨u4, u5, u6, u7, u8, uo, vo, ps1, ps2, ofar, fx, kb, rfl, rfl, T1, T2, TF, FO, hlen, hkeys⟩ S
    (try simp only [List.nil_append, List.cons_append] at S)
    rw [Int.zero_add]
    refine W_asName (W_stC E S (by walk_at "mem") (by walk_at "mem") (by walk_at "upd") fun h' S => ?_)
    refine W_cons (W_For ?_)
    refine W_ldC E (by walk_at "mem") (by walk_at "mem") ((kb.trans S.keep) _ _ hcs) rfl ?_
    refine W_loopList (own := [(a.P1, tabObj ps1), (a.P2, tabObj ps2), (cu, celO (some (.int i ti))), (cv, celO vo), (df, ofar)]) (ex := ex) (items := svs.toArray) R.hh (NoGo.name _ _) S (isList_le hsm kb)
      (fun j B2 ls' o => ∃ u4 u5 u6 u7 u8 vo ps1 ps2 ofar fx, Le B' B2 ∧ ls' = ([("script", some (.ref sc)), ("weights", some (.ref d)), ("G", some (.ref x)), ("k", u4), ("told", u5), ("way", u6), ("weight", u7), ("tie", u8)] : Loc) ∧ o = [(a.P1, tabObj ps1), (a.P2, tabObj ps2), (cu, celO (some (.int i ti))), (cv, celO vo), (df, ofar)] ∧
        Tab B2 (lamQ a) lamPos ps1 ∧ Tab B2 (pathQ a) (posF pathS) ps2 ∧ TD prog w B2 ofar fx ∧ FarOk adj fx ∧ fx.length ≤ 3 * i + j ∧ (∀ u : Int, 0 ≤ u → u < i → ∀ z ∈ sv, [u, z] ∈ fx.map (·.1)) ∧ ∀ (j' : Nat) z, j' < j → sv[j']? = some z → [(i : Int), z] ∈ fx.map (·.1))
      ⟨_, _, _, _, _, _, _, _, _, fx, Le.refl _, rfl, rfl, T1, T2, TF, FO, by omega, hkeys, fun j' z h => absurd h (Nat.not_lt_zero _)⟩ ?_ ?_
    · rintro j vv B2 ls' o ex h' hj kB2 ⟨u4, u5, u6, u7, u8, vo, ps1, ps2, ofar, fx, kb2, rfl, rfl, T1, T2, TF, FO, hlen, hkeys, hkj⟩ S
      (try simp only [List.nil_append, List.cons_append] at S)
      have hj' : svs[j]? = some vv := by simpa using hj
      have hjl : j < sv.length := by
        rw [← hsl]
        exact (List.getElem?_eq_some_iff.mp hj').1
      obtain ⟨tz, ez⟩ := hsv.get j _ (List.getElem?_eq_getElem hjl)
      rw [hj'] at ez
      obtain rfl := Option.some.inj ez
      have hzr := hsr _ (List.getElem_mem hjl)
      have hzj : sv[j]? = some sv[j] := List.getElem?_eq_getElem hjl
      generalize sv[j] = z at *
      refine W_asName (W_stC E S (by walk_at "mem") (by walk_at "mem") (by walk_at "upd") fun h' S => ?_)
      refine pair_turn E R hk (X.le (kb.trans kb2)) P S T1 T2 TF FO (by omega) (by omega) (by omega) hzr.1 hzr.2 fun B3 h' u4 u5 u6 u7 u8 ps1' ps2' ofar' ad d' t' k3 S T1' T2' TF' FO' => ?_
      refine ⟨.inl rfl, B3, _, [(a.P1, tabObj ps1'), (a.P2, tabObj ps2'), (cu, celO (some (.int i ti))), (cv, celO (some (.int z tz))), (df, ofar')], k3, S, _, _, _, _, _, _, ps1', ps2', ofar', _, kb2.trans k3, rfl, rfl, T1', T2', TF', FO', ?_, ?_, ?_⟩
      · have := len_storedH (xs := fx) (k := [(i : Int), z]) (a := ad) (v := .int d' t'); omega
      · exact fun u h0 h1 z' hz' => key_storedH (.inr (hkeys u h0 h1 z' hz'))
      · intro j' z' h1 h2
        by_cases e : j' = j
        · subst e
          rw [hzj] at h2
          cases h2
          exact key_storedH (.inl rfl)
        · exact key_storedH (.inr (hkj j' z' (by omega) h2))
    · rintro B2 ls' o h' kB2 ⟨u4, u5, u6, u7, u8, vo, ps1, ps2, ofar, fx, kb2, rfl, rfl, T1, T2, TF, FO, hlen, hkeys, hkj⟩ S
      (try simp only [List.nil_append, List.cons_append] at S)
      have hsz : svs.toArray.size = 3 := by simp; omega
      rw [hsz] at hlen hkj
      refine W_nil ⟨.inl rfl, B2, _, [(a.P1, tabObj ps1), (a.P2, tabObj ps2), (cu, celO (some (.int i ti))), (cv, celO vo), (df, ofar)], kb2, S, _, _, _, _, _, _, _, ps1, ps2, ofar, fx, kb.trans kb2, rfl, rfl, T1, T2, TF, FO, by omega, fun u h0 h1 z hz => ?_⟩
      by_cases e : u < i
      · exact hkeys u h0 e z hz
      · have : u = i := by omega
        subst this
        obtain ⟨j', hj', ej⟩ := List.getElem_of_mem hz
        exact hkj j' z (by omega) (by rw [List.getElem?_eq_getElem hj', ej])
  · rintro B' ls' o h' kB' ⟨u4, u5, u6, u7, u8, uo, vo, ps1, ps2, ofar, fx, kb, rfl, rfl, T1, T2, TF, FO, hlen, hkeys⟩ S
    (try simp only [List.nil_append, List.cons_append] at S)
    exact q B' h' _ _ _ _ _ _ _ ps1 ps2 ofar fx kb S TF FO fun u h0 h1 z hz => hkeys u h0 (by omega) z hz
end
end Mine
namespace Mine
open PySem PySem.Spec PySem.Calls PyProof.Rows PySem.W
abbrev for8 : Stmt := subF (stm 37) 8
/-- what the table tells -/
def FarAt (fx : XS) (n : Int) (sv : List Int) (D : Int → Int → Int) : Prop := ∀ u z, 0 ≤ u → u < n → z ∈ sv → ∃ p t, atKey fx [u, z] = some p ∧ p.2 = .int (D u z) t
theorem far_at {fx : XS} {n : Int} {sv : List Int} {D : Int → Int → Int} {adj : Adj} (nd : (fx.map (·.1)).Nodup) (F : FarOk adj fx) (H : DistOk n adj D) (hsr : ∀ z ∈ sv, 0 ≤ z ∧ z < n) (hk : ∀ u, 0 ≤ u → u < n → ∀ z ∈ sv, [u, z] ∈ fx.map (·.1)) : FarAt fx n sv D := fun u z u0 u1 hz => by
  obtain ⟨x, hx, e⟩ := List.mem_map.mp (hk u u0 u1 z hz)
  obtain ⟨u', z', d, t, way, e1, e2, W⟩ := F.all x hx
  rw [e1] at e
  simp at e
  obtain ⟨rfl, rfl⟩ := e
  have := atKey_of_mem nd hx
  rw [e1] at this
  exact ⟨x.2, t, this, by rw [e2, H.way W u0 u1 (hsr _ hz).1 (hsr _ hz).2]⟩
theorem far_way {fx : XS} {n : Int} {sv : List Int} {D : Int → Int → Int} {adj : Adj} (F : FarOk adj fx) (H : DistOk n adj D) (hsr : ∀ z ∈ sv, 0 ≤ z ∧ z < n) (hk : ∀ u, 0 ≤ u → u < n → ∀ z ∈ sv, [u, z] ∈ fx.map (·.1)) :
    ∀ u z, 0 ≤ u → u < n → z ∈ sv → ∃ way, Way adj u z (D u z) way := fun u z u0 u1 hz => by
  obtain ⟨x, hx, e⟩ := List.mem_map.mp (hk u u0 u1 z hz)
  obtain ⟨u', z', d, t, way, e1, e2, W⟩ := F.all x hx
  rw [e1] at e
  simp at e
  obtain ⟨rfl, rfl⟩ := e
  exact ⟨way, by rw [← H.way W u0 u1 (hsr _ hz).1 (hsr _ hz).2]; exact W⟩
section
variable {prog : Program} {w : World} {A : Around} {s₀ : Shared} {g h B : Heap} {L : Addr} {ls : Loc} {own : List (Addr × Obj)} {env : Env} {K : Frag} {m : Nat}
theorem checks {sc df sm cfar csome cv cu cn cf : Addr} {ofar : Obj} {fx : XS} {n : Int} {adj : Adj} {D : Int → Int → Int} {kk : Nat} {u2 u3 u4 u5 u6 u7 u8 uo vo : Option Value} {svs : List Value} {sv : List Int} {Q : Flow → Heap → Prop}
    (E : EnvOk env L [("script", .local), ("found", .cell), ("n", .cell), ("weights", .local), ("G", .local), ("k", .local), ("u", .cell), ("v", .cell), ("some", .cell), ("far", .cell), ("told", .local), ("way", .local), ("weight", .local), ("tie", .local), ("_law_numbers", .globalImplicit), ("_law_ties", .globalImplicit), ("Graph", .globalImplicit), ("range", .globalImplicit), ("bidirectional_dijkstra", .globalImplicit), ("len", .globalImplicit), ("set", .globalImplicit), ("min", .globalImplicit), ("max", .globalImplicit), ("_law_least", .globalImplicit)] [("far", cfar), ("some", csome), ("v", cv), ("u", cu), ("n", cn), ("found", cf)]) (R : Room A kk) (hk : kk ≤ 9) (hdf : B.get? df = some ofar) (TF : TD prog w B ofar fx) (FA : FarAt fx n sv D) (G : GraphOk n adj) (H : DistOk n adj D)
    (hcf : B.get? cfar = some (celO (some (.ref df)))) (hcs : B.get? csome = some (celO (some (.ref sm)))) (hsm : B.IsList sm svs.toArray) (hsv : IntsAre svs sv) (hs3 : sv.length = 3) (hsr : ∀ z ∈ sv, 0 ≤ z ∧ z < n)
    (S : Fm B L [("script", some (.ref sc)), ("weights", u2), ("G", u3), ("k", u4), ("told", u5), ("way", u6), ("weight", u7), ("tie", u8)] ((cu, celO uo) :: (cv, celO vo) :: own) h)
    (q : ∀ B' h' uo vo, Le B B' → Fm B' L [("script", some (.ref sc)), ("weights", u2), ("G", u3), ("k", u4), ("told", u5), ("way", u6), ("weight", u7), ("tie", u8)] ((cu, celO uo) :: (cv, celO vo) :: own) h' → Q .next h') : W (model prog w) A s₀ (exec for8 env) Q h := by
  have hsl := hsv.length
  have hitem : ∀ (j : Nat) (vv : Value), svs.toArray[j]? = some vv → ∃ z t, vv = .int z t ∧ z ∈ sv := fun j vv hj => by
    have hj' : svs[j]? = some vv := by simpa using hj
    have hjl : j < sv.length := by rw [← hsl]; exact (List.getElem?_eq_some_iff.mp hj').1
    obtain ⟨tz, ez⟩ := hsv.get j _ (List.getElem?_eq_getElem hjl)
    rw [hj'] at ez
    exact ⟨_, tz, Option.some.inj ez, List.getElem_mem hjl⟩
  refine W_For ?_
  refine W_ldC E (by walk_at "mem") (by walk_at "mem") (S.keep _ _ hcs) rfl ?_
  refine W_loopList (own := [(cu, celO uo), (cv, celO vo)]) (ex := own) (items := svs.toArray) R.hh (NoGo.name _ _) S hsm
    (fun i B' ls' o => ∃ uo vo, Le B B' ∧ ls' = ([("script", some (.ref sc)), ("weights", u2), ("G", u3), ("k", u4), ("told", u5), ("way", u6), ("weight", u7), ("tie", u8)] : Loc) ∧ o = [(cu, celO uo), (cv, celO vo)]) ⟨_, _, Le.refl _, rfl, rfl⟩ ?_ ?_
  · rintro i v1 B1 ls' o ex h' hi kB1 ⟨uo, vo, kb, rfl, rfl⟩ S
    (try simp only [List.nil_append, List.cons_append] at S)
    obtain ⟨u, tu, rfl, hu⟩ := hitem i v1 hi
    refine W_asName (W_stC E S (by walk_at "mem") (by walk_at "mem") (by walk_at "upd") fun h' S => ?_)
    refine W_cons (W_For ?_)
    refine W_ldC E (by walk_at "mem") (by walk_at "mem") ((kb.trans S.keep) _ _ hcs) rfl ?_
    refine W_loopList (own := [(cu, celO (some (.int u tu))), (cv, celO vo)]) (ex := ex) (items := svs.toArray) R.hh (NoGo.name _ _) S (isList_le hsm kb)
      (fun j B2 ls' o => ∃ vo, Le B1 B2 ∧ ls' = ([("script", some (.ref sc)), ("weights", u2), ("G", u3), ("k", u4), ("told", u5), ("way", u6), ("weight", u7), ("tie", u8)] : Loc) ∧ o = [(cu, celO (some (.int u tu))), (cv, celO vo)]) ⟨_, Le.refl _, rfl, rfl⟩ ?_ ?_
    · rintro j v2 B2 ls' o ex h' hj kB2 ⟨vo, kb2, rfl, rfl⟩ S
      (try simp only [List.nil_append, List.cons_append] at S)
      obtain ⟨v, tv, rfl, hv⟩ := hitem j v2 hj
      refine W_asName (W_stC E S (by walk_at "mem") (by walk_at "mem") (by walk_at "upd") fun h' S => ?_)
      have kb3 := kb.trans kb2
      obtain ⟨u0, u1⟩ := hsr u hu
      obtain ⟨v0, v1⟩ := hsr v hv
      obtain ⟨puv, tuv, huv, euv⟩ := FA u v u0 u1 hv
      obtain ⟨pvu, tvu, hvu, evu⟩ := FA v u v0 v1 hu
      have hD : ∀ {lc C own' h'} (B' : Heap), Le B B' → Fm B' C lc own' h' → h'.DictOfH (TK prog w) df fx := fun B' k S => TF.heap (S.keep _ _ (k _ _ hdf)) (k.trans S.keep)
      refine W_cons (W_If (W_tBoolOp (W_orCons (W_tCompare ?_))))
      refine W_Subscript ?_
      refine W_ldC E (by walk_at "mem") (by walk_at "mem") ((kb3.trans S.keep) _ _ hcf) rfl ?_
      walk_at "go"
      refine W_newTuple S (by simp) fun tt h' _ S _ => ?_
      have htt := S.get (a := tt) (by walk_at "mem")
      have S := S.forget (List.sublist_cons_self _ _)
      refine W_itemT (hD _ kb3 S) (tkey2 htt) (R.unit (by omega)) huv ?_
      rw [euv]
      refine W_Subscript ?_
      refine W_ldC E (by walk_at "mem") (by walk_at "mem") ((kb3.trans S.keep) _ _ hcf) rfl ?_
      walk_at "go"
      refine W_newTuple S (by simp) fun tt h' _ S _ => ?_
      have htt := S.get (a := tt) (by walk_at "mem")
      have S := S.forget (List.sublist_cons_self _ _)
      refine W_itemT (hD _ kb3 S) (tkey2 htt) (R.unit (by omega)) hvu ?_
      rw [evu]
      walk_at "go"
      rw [if_neg (by simp [H.sym G u0 u1 v0 v1])]
      refine W_orCons (W_tCompare ?_)
      refine W_ListComp (cl := [("v", cv), ("u", cu), ("far", cfar)]) (E.closure (by rfl) (by rfl)) rfl (by decide) ?_
      refine W_ldC E (by walk_at "mem") (by walk_at "mem") ((kb3.trans S.keep) _ _ hcs) rfl ?_
      refine W_compList (own := [(cu, celO (some (.int u tu))), (cv, celO (some (.int v tv)))]) (ex := ex) R.hh S (isList_le hsm kb3) (by simp; omega) [(".0", none), ("w", none)] (by simp) (by decide)
        (fun C cs i B' lc ys o => cs = ([("v", cv), ("u", cu), ("far", cfar)] : List (Str × Addr)) ∧ o = [(cu, celO (some (.int u tu))), (cv, celO (some (.int v tv)))] ∧ (∃ u, lc = ([(".0", none), ("w", u)] : Loc)) ∧ ys = []) (fun _ C cs own' l _ _ => ?_) ?_ ?_
      · cases l; exact ⟨rfl, rfl, ⟨_, rfl⟩, rfl⟩
      · rintro C' cs ownC i2 v3 B6 lc zs o ex2 h' l hv3 kB6 ⟨rfl, rfl, ⟨u3', rfl⟩, rfl⟩ S
        (try simp only [List.nil_append, List.cons_append] at S)
        obtain ⟨z, tz, rfl, hz⟩ := hitem i2 v3 hv3
        obtain ⟨z0, z1⟩ := hsr z hz
        have kb6 := kb3.trans kB6
        obtain ⟨puz, tuz, huz, euz⟩ := FA u z u0 u1 hz
        obtain ⟨pzv, tzv, hzv, ezv⟩ := FA z v z0 z1 hv
        refine W_inEnv (names := [(".0", .local), ("w", .local), ("far", .cell), ("u", .cell), ("v", .cell)]) (E.comp rfl rfl (by decide) (by show (["v", "u", "far"] : List Str).Nodup; decide) (by decide)) fun E => ?_
        refine W_asName (W_st E S (by walk_at "mem") (by walk_at "put") fun h' S => ?_)
        refine W_tests1 (W_tCompare (W_BinOp (W_Subscript ?_)))
        refine W_ldC E (by walk_at "mem") (by walk_at "mem") ((kb6.trans S.keep) _ _ hcf) rfl ?_
        walk_at "go"
        refine W_newTuple S (by simp) fun tt h' _ S _ => ?_
        have htt := S.get (a := tt) (by walk_at "mem")
        have S := S.forget (List.sublist_cons_self _ _)
        refine W_itemT (hD _ kb6 S) (tkey2 htt) (R.unit (by omega)) huz ?_
        rw [euz]
        refine W_Subscript ?_
        refine W_ldC E (by walk_at "mem") (by walk_at "mem") ((kb6.trans S.keep) _ _ hcf) rfl ?_
        walk_at "go"
        refine W_newTuple S (by simp) fun tt h' _ S _ => ?_
        have htt := S.get (a := tt) (by walk_at "mem")
        have S := S.forget (List.sublist_cons_self _ _)
        refine W_itemT (hD _ kb6 S) (tkey2 htt) (R.unit (by omega)) hzv ?_
        rw [ezv]
        walk_at "go"
        refine W_ldC E (by walk_at "mem") (by walk_at "mem") ((kb6.trans S.keep) _ _ hcf) rfl ?_
        walk_at "go"
        refine W_newTuple S (by simp) fun tt h' _ S _ => ?_
        have htt := S.get (a := tt) (by walk_at "mem")
        have S := S.forget (List.sublist_cons_self _ _)
        refine W_itemT (hD _ kb6 S) (tkey2 htt) (R.unit (by omega)) huv ?_
        rw [euv]
        walk_at "go"
        have htri := H.tri u0 u1 z0 z1 v0 v1
        rw [decide_eq_false (by omega), if_neg (by decide)]
        exact ⟨B6, _, [_, _], Le.refl _, S, rfl, rfl, ⟨_, rfl⟩, rfl⟩
      rintro C' cs B6 lc zs o D3 kk3 g6 h' kB6 ⟨rfl, rfl, ⟨u3', rfl⟩, rfl⟩ k7 k8 oC m S hm
      refine FinC.none S hm fun h' S => ?_
      (try simp only [List.nil_append, List.cons_append] at S)
      walk_at "go"
      refine W_newList S (by simp) fun en h' _ S _ => ?_
      refine W_neNil (R.unit0 (by omega)) ⟨_, S.get (a := D3) (by walk_at "mem"), rfl, _, rfl⟩ ⟨_, S.get (a := en) (by walk_at "mem"), rfl, _, rfl⟩ ?_
      walk_at "go"
      rw [if_neg (by decide)]
      refine W_orNil ?_
      rw [if_neg (by decide)]
      have S := S.forget (List.Sublist.cons _ (List.sublist_cons_self _ _))
      exact W_nil (W_nil ⟨.inl rfl, g6, _, [_, _], k7, S, _, kb2.trans k7, rfl, rfl⟩)
    · rintro B2 ls' o h' kB2 ⟨vo, kb2, rfl, rfl⟩ S
      (try simp only [List.nil_append, List.cons_append] at S)
      exact W_nil ⟨.inl rfl, B2, _, [_, _], kb2, S, _, _, kb.trans kb2, rfl, rfl⟩
  · rintro B' ls' o h' kB' ⟨uo, vo, kb, rfl, rfl⟩ S
    (try simp only [List.nil_append, List.cons_append] at S)
    exact q B' h' _ _ kb S
end
end Mine
namespace Mine
open PySem PySem.Spec PySem.Calls PyProof.Rows PySem.W
section
variable {prog : Program} {w : World} {A : Around} {s₀ : Shared} {g h B : Heap} {L : Addr} {ls : Loc} {own : List (Addr × Obj)} {env : Env} {K : Frag} {m : Nat}
theorem the_end {a : Ad} {sc d x df sm cfar csome cv cu cn cf : Addr} {ofar : Obj} {xs fx : XS} {rs : List Row} {n s0 s1 s2 : Int} {adj : Adj} {D : Int → Int → Int} {kk : Nat} {u4 u5 u6 u7 u8 : Option Value} {tn e0 e1 e2 : Tok} {Q : Flow → Heap → Prop}
    (E : EnvOk env L [("script", .local), ("found", .cell), ("n", .cell), ("weights", .local), ("G", .local), ("k", .local), ("u", .cell), ("v", .cell), ("some", .cell), ("far", .cell), ("told", .local), ("way", .local), ("weight", .local), ("tie", .local), ("_law_numbers", .globalImplicit), ("_law_ties", .globalImplicit), ("Graph", .globalImplicit), ("range", .globalImplicit), ("bidirectional_dijkstra", .globalImplicit), ("len", .globalImplicit), ("set", .globalImplicit), ("min", .globalImplicit), ("max", .globalImplicit), ("_law_least", .globalImplicit)] [("far", cfar), ("some", csome), ("v", cv), ("u", cu), ("n", cn), ("found", cf)]) (R : Room A kk) (hk : kk ≤ 9) (X : LawG prog w K m a x d df cfar xs rs B) (P : LawP n adj xs rs) (xnd : (xs.map (·.1)).Nodup) (xlen : xs.length ≤ 7)
    (hdf : B.get? df = some ofar) (TF : TD prog w B ofar fx) (hdfs : (df == sysModules) = false) (FA : FarAt fx n [s0, s1, s2] D) (H : DistOk n adj D) (FW : ∀ u z, 0 ≤ u → u < n → z ∈ [s0, s1, s2] → ∃ way, Way adj u z (D u z) way)
    (hcn : B.get? cn = some (celO (some (.int n tn)))) (hcs : B.get? csome = some (celO (some (.ref sm)))) (hsm : B.IsList sm #[.int s0 e0, .int s1 e1, .int s2 e2]) (hsr : ∀ z ∈ [s0, s1, s2], 0 ≤ z ∧ z < n)
    (S : Fm B L [("script", some (.ref sc)), ("weights", some (.ref d)), ("G", some (.ref x)), ("k", u4), ("told", u5), ("way", u6), ("weight", u7), ("tie", u8)] own h)
    (q : ∀ B' h', Le B B' → Fm B' L [("script", some (.ref sc)), ("weights", some (.ref d)), ("G", some (.ref x)), ("k", u4), ("told", u5), ("way", u6), ("weight", u7), ("tie", u8)] own h' → Q (.ret (.bool true)) h') : W (model prog w) A s₀ (exec (subF (stm 37) 9) env) Q h := by
  have n3 := P.n3
  have n5 := P.n5
  have hitem : ∀ (j : Nat) (vv : Value), (#[Value.int s0 e0, .int s1 e1, .int s2 e2] : Array Value)[j]? = some vv → ∃ z t, vv = .int z t ∧ z ∈ [s0, s1, s2] ∧ [s0, s1, s2][j]? = some z := fun j vv hj => by
    match j with
    | 0 => simp at hj; exact ⟨s0, e0, hj.symm, by simp, rfl⟩
    | 1 => simp at hj; exact ⟨s1, e1, hj.symm, by simp, rfl⟩
    | 2 => simp at hj; exact ⟨s2, e2, hj.symm, by simp, rfl⟩
    | j + 3 => simp at hj
  refine W_Return (W_Compare ?_)
  refine W_CallN ?_
  refine W_ldG E (by walk_at "mem") X.Y.n_min S.keep ?_
  refine W_callWith ?_
  walk_at "go"
  refine W_ListComp (cl := [("some", csome), ("far", cfar)]) (E.closure (by rfl) (by rfl)) rfl (by decide) ?_
  refine W_CallN ?_
  refine W_ldG E (by walk_at "mem") X.Y.n_range S.keep ?_
  refine W_callWith ?_
  walk_at "go"
  refine W_ldC E (by walk_at "mem") (by walk_at "mem") (S.keep _ _ hcn) rfl ?_
  walk_at "go"
  refine ⟨Kept.type _ _ _, ?_⟩
  refine W_range1 S fun rg h' t u v S hrg => ?_
  refine W_compRange (own := []) (ex := own) R.hh S hrg (by decide) (by decide) (by omega) (by omega) (by omega) [(".0", none)] (by simp) (by decide)
    (fun C cs i B' lc ys o => ∃ cu2 uo ms, cs = ([("u", cu2), ("some", csome), ("far", cfar)] : List (Str × Addr)) ∧ o = [(cu2, celO uo)] ∧ (lc = ([(".0", none)] : Loc)) ∧ IntsAre ys ms ∧ ms = (List.range i).map fun j : Nat => D j s0 + D j s1 + D j s2) (fun _ C cs own' l _ _ => ?_) ?_ ?_
  · cases l with
    | cons cu2 l => cases l; exact ⟨cu2, none, [], rfl, rfl, rfl, .nil, rfl⟩
  · rintro C cs ownC i ti B2 lc ys o ex h' hL hi kB2 ⟨cu2, uo, ms, rfl, rfl, rfl, hys, rfl⟩ S
    (try simp only [List.nil_append, List.cons_append] at S)
    have hin : (i : Int) < n := by omega
    rw [Int.zero_add]
    refine W_inEnv (names := [(".0", .local), ("u", .cell), ("sum", .globalImplicit), ("far", .cell), ("some", .cell)]) (E.comp rfl rfl (by decide) (by show (["u", "some", "far"] : List Str).Nodup; decide) (by decide)) fun E => ?_
    refine W_asName (W_stC E S (by walk_at "mem") (by walk_at "mem") (by walk_at "upd") fun h' S => ?_)
    refine W_testsNil ?_
    rw [if_pos rfl]
    refine W_CallN ?_
    refine W_ldG E (by walk_at "mem") X.Y.n_sum (kB2.trans S.keep) ?_
    refine W_callWith ?_
    walk_at "go"
    refine W_ListComp (cl := [("u", cu2), ("far", cfar)]) (E.closure (by rfl) (by rfl)) rfl (by decide) ?_
    refine W_ldC E (by walk_at "mem") (by walk_at "mem") ((kB2.trans S.keep) _ _ hcs) rfl ?_
    refine W_compList (own := [(cu2, celO (some (.int i ti)))]) (ex := ex) R.hh S (isList_le hsm kB2) (by simp) [(".0", none), ("v", none)] (by simp) (by decide)
      (fun C cs j B' lc ys o => cs = ([("u", cu2), ("far", cfar)] : List (Str × Addr)) ∧ o = [(cu2, celO (some (.int i ti)))] ∧ (∃ u, lc = ([(".0", none), ("v", u)] : Loc)) ∧ IntsAre ys (([s0, s1, s2].take j).map (D i))) (fun _ C cs own' l _ _ => ?_) ?_ ?_
    · cases l; exact ⟨rfl, rfl, ⟨_, rfl⟩, .nil⟩
    · rintro C' cs ownC i2 v3 B6 lc zs o ex2 h' l hv3 kB6 ⟨rfl, rfl, ⟨u3', rfl⟩, hzs⟩ S
      (try simp only [List.nil_append, List.cons_append] at S)
      obtain ⟨z, tz, rfl, hz, hzi⟩ := hitem i2 v3 hv3
      have kb6 := kB2.trans kB6
      obtain ⟨puz, tuz, huz, euz⟩ := FA i z (by omega) hin hz
      refine W_inEnv (names := [(".0", .local), ("v", .local), ("far", .cell), ("u", .cell)]) (E.comp rfl rfl (by decide) (by show (["u", "far"] : List Str).Nodup; decide) (by decide)) fun E => ?_
      refine W_asName (W_st E S (by walk_at "mem") (by walk_at "put") fun h' S => ?_)
      refine W_testsNil ?_
      rw [if_pos rfl]
      refine W_Subscript ?_
      refine W_ldC E (by walk_at "mem") (by walk_at "mem") ((kb6.trans S.keep) _ _ X.cfar) rfl ?_
      walk_at "go"
      refine W_newTuple S (by simp) fun tt h' _ S _ => ?_
      have htt := S.get (a := tt) (by walk_at "mem")
      have S := S.forget (List.sublist_cons_self _ _)
      refine W_itemT (TF.heap (S.keep _ _ (kb6 _ _ hdf)) (kb6.trans S.keep)) (tkey2 htt) (R.unit (by omega)) huz ?_
      rw [euz]
      refine ⟨B6, _, [_], Le.refl _, S, rfl, rfl, ⟨_, rfl⟩, ?_⟩
      rw [List.take_add_one, hzi, List.map_append]
      exact hzs.append (.cons _ _ .nil)
    rintro C' cs B6 lc zs o D3 kk3 g6 h' kB6 ⟨rfl, rfl, ⟨u3', rfl⟩, hzs⟩ k7 k8 oC mm S hm
    refine FinC.none S hm fun h' S => ?_
    (try simp only [List.nil_append, List.cons_append] at S)
    walk_at "go"
    refine ⟨Kept.builtin _ _ _, W_sumL R.hh S ⟨_, S.get (a := D3) (by walk_at "mem"), rfl, _, rfl⟩ hzs fun ts h' S => ?_⟩
    have S := S.forget (List.sublist_cons_self _ _)
    refine ⟨g6, _, [_], k7, S, cu2, _, _, rfl, rfl, rfl, hys.append (.cons _ _ .nil), ?_⟩
    rw [List.range_succ, List.map_append]
    simp [Int.add_assoc]
  rintro C' cs B6 lc zs o D3 kk3 g6 h' kB6 ⟨cu2, uo, ms, rfl, rfl, rfl, hzs, rfl⟩ k7 k8 oC mm S hm
  refine FinC.none S hm fun h' S => ?_
  (try simp only [List.nil_append, List.cons_append] at S)
  have hlen : 0 < ((List.range ((n : Int) - 0).toNat).map fun j : Nat => D j s0 + D j s1 + D j s2).length := by simp; omega
  walk_at "go"
  refine ⟨Kept.builtin _ _ _, W_minL R.hh S ⟨_, S.get (a := D3) (by walk_at "mem"), rfl, _, rfl⟩ hzs hlen fun M tM h' S hM1 hM2 => ?_⟩
  have S := S.forget (own' := own) (List.Sublist.cons _ (List.sublist_cons_self _ _))
  have kb := k7
  have X1 := X.le kb
  refine W_CallN ?_
  refine W_ldG E (by walk_at "mem") X1.Y.n_le S.keep ?_
  refine W_callWith ?_
  walk_at "go"
  refine W_ldC E (by walk_at "mem") (by walk_at "mem") ((kb.trans S.keep) _ _ hcn) rfl ?_
  walk_at "go"
  refine W_ldC E (by walk_at "mem") (by walk_at "mem") ((kb.trans S.keep) _ _ hcs) rfl ?_
  walk_at "go"
  obtain ⟨od, hod, hT⟩ := X1.hd
  have r0 := hsr s0 (by simp)
  have r1 := hsr s1 (by simp)
  have r2 := hsr s2 (by simp)
  refine ⟨X1.Y.gle.kept S.keep, W_call ?_⟩
  refine law_least X1.Y.gle R (by omega) S X1.Y.lim X1.Y.n_range X1.Y.n_set X1.Y.n_len hod hT X.hds (isList_le hsm kb) r0.1 r0.2 r1.1 r1.2 r2.1 r2.2 n5 P.TI xlen fun v B7 h' k9 S hv => ?_
  have hMM : (∃ u, 0 ≤ u ∧ u < n ∧ M = D u s0 + D u s1 + D u s2) ∧ ∀ u, 0 ≤ u → u < n → M ≤ D u s0 + D u s1 + D u s2 := by
    refine ⟨?_, fun u u0 u1 => ?_⟩
    · obtain ⟨j, hj, e⟩ := List.mem_map.mp hM1
      rw [List.mem_range] at hj
      exact ⟨j, by omega, by omega, e.symm⟩
    · have := hM2 _ (List.mem_map.mpr ⟨u.toNat, List.mem_range.mpr (by omega), rfl⟩)
      rw [Int.toNat_of_nonneg u0] at this
      exact this
  obtain ⟨tv, rfl⟩ := law_end P.TI xnd P.G P.AO H n3 (fun u z u0 u1 hz => FW u z u0 u1 (by rcases hz with rfl | rfl | rfl <;> simp)) r0.1 r0.2 r1.1 r1.2 r2.1 r2.2 hMM hv
  walk_at "go"
  have := q B7 h' (kb.trans k9) S
  simpa using this
end
end Mine
namespace Mine
open PySem PySem.Spec PySem.Calls PyProof.Rows PySem.W
theorem turned_nodup {f n : Int} (n0 : 0 < n) : ((List.range n.toNat).map fun j : Nat => (f + j).fmod n).Nodup := by
  rw [List.nodup_iff_pairwise_ne, List.pairwise_map]
  refine List.Pairwise.imp_of_mem (R := fun a b => a ≠ b) ?_ (List.nodup_iff_pairwise_ne.mp List.nodup_range)
  intro a b ha hb hne e
  rw [List.mem_range] at ha hb
  rw [Int.fmod_eq_emod_of_nonneg _ (by omega), Int.fmod_eq_emod_of_nonneg _ (by omega)] at e
  have : (n : Int) ∣ (a : Int) - b := by
    have e2 : (f + a - (f + b)) % n = 0 := Int.emod_eq_emod_iff_emod_sub_eq_zero.mp e
    have : f + (a : Int) - (f + b) = a - b := by omega
    rw [this] at e2
    exact Int.dvd_of_emod_eq_zero e2
  obtain ⟨c, hc⟩ := this
  have : c = 0 := by
    have l1 : (a : Int) - b < n := by omega
    have l2 : -n < (a : Int) - b := by omega
    rw [hc] at l1 l2
    have : c < 1 := by
      refine Int.lt_of_mul_lt_mul_left (a := n) ?_ (by omega)
      omega
    have : -1 < c := by
      refine Int.lt_of_mul_lt_mul_left (a := n) ?_ (by omega)
      omega
    omega
  subst this
  omega
theorem turned_mem {f n z : Int} (z0 : 0 ≤ z) (z1 : z < n) : z ∈ (List.range n.toNat).map fun j : Nat => (f + j).fmod n := by
  have n0 : 0 < n := by omega
  refine List.mem_map.mpr ⟨((z - f) % n).toNat, List.mem_range.mpr ?_, ?_⟩
  · have := Int.emod_lt_of_pos (z - f) n0
    have := Int.emod_nonneg (z - f) (show n ≠ 0 by omega)
    omega
  · have h0 := Int.emod_nonneg (z - f) (show n ≠ 0 by omega)
    rw [Int.toNat_of_nonneg h0, Int.fmod_eq_emod_of_nonneg _ (by omega), Int.add_emod, Int.emod_emod_of_dvd _ (Int.dvd_refl n), ← Int.add_emod]
    rw [show f + (z - f) = z by omega]
    exact Int.emod_eq_of_lt z0 z1
theorem Fm.settleApp {h : Heap} {L : Addr} {ls : Loc} : ∀ {pre own : List (Addr × Obj)} {g : Heap}, Fm g L ls (pre ++ own) h → ∃ B, Fm B L ls own h ∧ Le g B ∧ ∀ p ∈ pre, B.get? p.1 = some p.2
  | [], own, g, S => ⟨g, S, Le.refl g, fun _ h => nomatch h⟩
  | (a, o) :: pre, own, g, S => by
    obtain ⟨B, S1, k1, e1⟩ := Fm.settle1 S
    obtain ⟨B2, S2, k2, e2⟩ := Fm.settleApp S1
    refine ⟨B2, S2, k1.trans k2, fun p hp => ?_⟩
    rcases List.mem_cons.mp hp with rfl | hp
    · exact k2 _ _ e1
    · exact e2 p hp
end Mine
namespace Mine
open PySem PySem.Spec PySem.Calls PyProof.Rows PySem.W
theorem W_kwTree {M : Model} {A : Around} {s₀ : Shared} {h : Heap} {t : Sem Value} {p : Pos} {Q : Value → Heap → Prop} (y : W M A s₀ t Q h) : W M A s₀ (do let v ← t; standAt p; pure v) Q h :=
  W.of fun tk Q' k => wpAny_bind (y.use fun v h1 tk1 q => wpAny_bind (wpAny_standAt (wpAny_pure (k _ _ _ q))))
theorem fresh_tie {n : Int} {xs : XS} {i : Nat} {z : List Int × Addr × Value} {u v : Int} (T : TieIn n xs) (nd : (xs.map (·.1)).Nodup) (hz : xs[i]? = some z) (z1 : z.1 = [u, v]) (uv : u < v) : ∀ c', (u, v, c') ∉ edgesOf (xs.take i) ∧ (v, u, c') ∉ edgesOf (xs.take i) := fun c' => by
  have key : ∀ p q, (p, q, c') ∈ edgesOf (xs.take i) → p < q ∧ ∃ j, j < i ∧ (xs.map (·.1))[j]? = some [p, q] := fun p q h => by
    obtain ⟨y, hy, e⟩ := List.mem_map.mp h
    obtain ⟨j, hj, ej⟩ := List.getElem_of_mem hy
    rw [List.getElem_take] at ej
    have hj1 : j < i := by simp at hj; omega
    have hj2 : j < xs.length := by simp at hj; omega
    obtain ⟨u', v', c, t, e1, h0, h1, h2, e2, h3⟩ := T.all y (List.mem_of_mem_take hy)
    unfold edgeOf at e
    rw [e1, e2] at e
    simp [valOf] at e
    obtain ⟨rfl, rfl, rfl⟩ := e
    refine ⟨h1, j, hj1, ?_⟩
    rw [List.getElem?_map, List.getElem?_eq_getElem hj2, ej, ← e1]; rfl
  refine ⟨fun h => ?_, fun h => ?_⟩
  · obtain ⟨_, j, hj, e⟩ := key u v h
    have hi : (xs.map (·.1))[i]? = some [u, v] := by rw [List.getElem?_map, hz, ← z1]; rfl
    obtain ⟨q1, q2⟩ := List.getElem?_eq_some_iff.mp e
    obtain ⟨q3, q4⟩ := List.getElem?_eq_some_iff.mp hi
    have := (List.getElem_inj nd).mp (q2.trans q4.symm)
    omega
  · have := (key v u h).1
    omega
section
variable {prog : Program} {w : World} {A : Around} {s₀ : Shared} {g h : Heap} {L : Addr} {ls : Loc} {own : List (Addr × Obj)} {K : Frag} {m : Nat}
theorem law_run {a : Ad} {flaw sc : Addr} {k : Nat} {ps1 ps2 : Array Value} {vs : List Value} {ns : List Int} {Q : Value → Heap → Prop} (Gl : FnIs g flaw (stm 37) .none) (Y : Lib K m a g) (R : Room A k) (hk : k ≤ 5)
    (S0 : Fm g L ls ((a.P1, tabObj ps1) :: (a.P2, tabObj ps2) :: own) h) (T1 : Tab g (lamQ a) lamPos ps1) (T2 : Tab g (pathQ a) (posF pathS) ps2) (hsc : g.IsList sc vs.toArray) (hi : IntsAre vs ns) (hn : ns.length ≤ 63)
    (q : ∀ ps1' ps2' h', (∀ b o, h.get? b = some o → (∀ p ∈ (a.P1, tabObj ps1) :: (a.P2, tabObj ps2) :: own, p.1 ≠ b) → h'.get? b = some o) → h'.get? a.P1 = some (tabObj ps1') → h'.get? a.P2 = some (tabObj ps2') → Q (.bool true) h') : WC (model prog w) A s₀ (.call (.ref flaw) ⟨[.ref sc], []⟩) Q h := by
  refine WC_fn [("script", .local), ("found", .cell), ("n", .cell), ("weights", .local), ("G", .local), ("k", .local), ("u", .cell), ("v", .cell), ("some", .cell), ("far", .cell), ("told", .local), ("way", .local), ("weight", .local), ("tie", .local), ("_law_numbers", .globalImplicit), ("_law_ties", .globalImplicit), ("Graph", .globalImplicit), ("range", .globalImplicit), ("bidirectional_dijkstra", .globalImplicit), ("len", .globalImplicit), ("set", .globalImplicit), ("min", .globalImplicit), ("max", .globalImplicit), ("_law_least", .globalImplicit)] ["found", "n", "u", "v", "some", "far"] [("script", none), ("weights", none), ("G", none), ("k", none), ("told", none), ("way", none), ("weight", none), ("tie", none)] [("script", .ref sc)] _ Gl S0 (R.deep (by omega)) Y.lim rfl rfl rfl ?_ (by simp) (by decide) (by decide) (by decide) rfl rfl rfl ?_ (by decide)
  · intro fd tk e1 e2 e3
    refine BindsTo.of_eq ?_
    obtain ⟨fn, fq, fp, fb, fs, fg, fc, fd, fk⟩ := fd
    dsimp only at e1 e2 e3
    subst e1 e2 e3
    rfl
  intro env B C' cs own1 h' hL E ⟨hC, _⟩ S kl kB kg
  cases hL with
  | cons cf hL =>
  cases hL with
  | cons cn hL =>
  cases hL with
  | cons cu hL =>
  cases hL with
  | cons cv hL =>
  cases hL with
  | cons csome hL =>
  cases hL with
  | cons cfar hL =>
  cases hL
  obtain ⟨om, hom⟩ := Y.hml
  have hmC : m ≤ C' := by have : (m - 1 : Nat) < C' := hC _ _ (S0.keep _ _ hom); exact Nat.le_of_pred_lt this
  have kb := Le.refl B
  refine W_bindsCons (W_st E S (by walk_at "mem") (by walk_at "put") fun h' S => ?_)
  refine W_bindsNil ⟨kg.trans S.keep, ?_⟩
  have R' := R.deeper env
  refine W_cons (W_Assign ?_ (by with_unfolding_all rfl))
  refine W_CallN ?_
  refine W_ldG E (by walk_at "mem") Y.n_num (kg.trans (kb.trans S.keep)) ?_
  refine W_callWith ?_
  walk_at "go"
  refine ⟨Y.gnum.kept (kg.trans (kb.trans S.keep)), W_call ?_⟩
  have Y0 := Y.le kg
  refine law_numbers Y0.gnum R' (by omega) S Y0.lim Y0.n_len (isList_le hsc kg) hi hn fun fl B1 h' fvs fns k1 S hfl hfi h11 => ?_
  replace kb := kb.trans k1
  walk_at "go"
  refine W_AssignTup ?_ (by rfl)
  refine W_CallN ?_
  have Y1 := Y.le (kg.trans kb)
  refine W_ldG E (by walk_at "mem") Y1.n_ti S.keep ?_
  refine W_callWith ?_
  walk_at "go"
  refine ⟨Y1.gti.kept S.keep, W_call ?_⟩
  refine law_ties Y1.gti R' (by omega) S Y1.lim Y1.n_range Y1.n_abs Y1.n_len hfl hfi h11 fun rt B2 h' d od n tn xs k2 S hrt hod TDd hdn n3 n5 xlen TI TD' => ?_
  have hds : (d == sysModules) = false := by
    obtain ⟨os, hs⟩ := Y1.D.sys
    rw [beq_eq_false_iff_ne]
    rintro rfl
    rw [hdn] at hs; cases hs
  replace kb := kb.trans k2
  have hfl := isList_le hfl k2
  refine W_asTup2 R'.hh S ⟨_, S.keep _ _ hrt, rfl, _, rfl⟩ fun h' S _ => ?_
  refine W_asName (W_stC E S (by walk_at "mem") (by walk_at "mem") (by walk_at "upd") fun h' S => ?_)
  refine W_asName (W_st E S (by walk_at "mem") (by walk_at "put") fun h' S => ?_)
  have S := S.perm ((((by decide : ([0, 1, 2, 3, 4, 5] : List Nat).Perm [4, 5, 3, 2, 1, 0]).map fun i => ([(cfar, celO none), (csome, celO none), (cv, celO none), (cu, celO none), (cn, celO (some (.int n tn))), (cf, celO (some (.ref fl)))] : List (Addr × Obj)).getD i (0, dicE))).append_right ((a.P1, tabObj ps1) :: (a.P2, tabObj ps2) :: own))
  have S : Fm B2 C' _ ((cn, celO (some (.int n tn))) :: (cf, celO (some (.ref fl))) :: (cu, celO none) :: (cv, celO none) :: (csome, celO none) :: (cfar, celO none) :: (a.P1, tabObj ps1) :: (a.P2, tabObj ps2) :: own) _ := S
  obtain ⟨B3, S, k3, hcn⟩ := S.settle1
  obtain ⟨B4, S, k4, hcf⟩ := S.settle1
  replace kb := kb.trans (k3.trans k4)
  replace hcn := k4 _ _ hcn
  have Y4 := Y.le (kg.trans kb)
  have hfl := isList_le hfl (k3.trans k4)
  have kz := Le.refl B4
  refine W_cons (W_Assign ?_ (by with_unfolding_all rfl))
  refine W_CallN ?_
  refine W_ldG E (by walk_at "mem") Y4.n_G S.keep ?_
  refine W_callWith ?_
  walk_at "go"
  refine ⟨Kept.frag _ (Y4.D.le S.keep).X Y4.gkp, W_call ?_⟩
  refine W_make S Y4.D Y4.gmk Y4.gii Y4.gif fun x dx h' S kk => ?_
  refine graph_init Y4.ggi Y4.hTg Y4.gK Y4.D (fun _ _ _ _ => trivial) Y4.hml R'.make (by omega) S Y4.lim fun es nn gd nd ad B5 h' Tes k5 S => ⟨rfl, ?_⟩
  replace kz := kz.trans k5
  walk_at "go"
  refine W_Expr ?_ E.inter
  refine W_CallM ?_
  walk_at "go"
  have Y5 := Y4.le kz
  refine W_mFn (Y5.D.le S.keep).X Y5.gK.cls (inst_at (S.get (by walk_at "mem")) (S.get (by walk_at "mem"))) Y5.gia Y5.gfa (by show (getL _ _).map _ = _; rw [Tes.get]; rfl) ?_
  refine W_callWith ?_
  walk_at "go"
  refine W_ListComp (cl := [("n", cn), ("found", cf)]) (E.closure (by rfl) (by rfl)) rfl (by decide) ?_
  refine W_CallN ?_
  refine W_ldG E (by walk_at "mem") Y5.n_range S.keep ?_
  refine W_callWith ?_
  walk_at "go"
  refine W_ldC E (by walk_at "mem") (by walk_at "mem") ((kz.trans S.keep) _ _ hcn) rfl ?_
  walk_at "go"
  refine ⟨Kept.type _ _ _, ?_⟩
  refine W_range1 S fun rg h' t u v S hrg => ?_
  obtain ⟨f9, t9, e9⟩ := IntsAre.at' hfi (i := 9) (by decide) (by omega)
  obtain ⟨f10, t10, e10⟩ := IntsAre.at' hfi (i := 10) (by decide) (by omega)
  refine W_compRange (own := []) (ex := _) R'.hh S hrg (by decide) (by decide) (by omega) (by omega) (by omega) [(".0", none), ("k", none)] (by simp) (by decide)
    (fun C cs i B' lc ys o => cs = ([("n", cn), ("found", cf)] : List (Str × Addr)) ∧ o = [] ∧ (∃ u, lc = ([(".0", none), ("k", u)] : Loc)) ∧ IntsAre ys ((List.range i).map fun j : Nat => (f9 + j).fmod n)) (fun _ C cs own' l _ _ => ?_) ?_ ?_
  · cases l; exact ⟨rfl, rfl, ⟨_, rfl⟩, .nil⟩
  · rintro C cs ownC i ti B6 lc ys o ex h' hL hi' kB6 ⟨rfl, rfl, ⟨u3, rfl⟩, hys⟩ S
    (try simp only [List.nil_append, List.cons_append] at S)
    have kz6 := kz.trans kB6
    rw [Int.zero_add]
    refine W_inEnv (names := [(".0", .local), ("k", .local), ("found", .cell), ("n", .cell)]) (E.comp rfl rfl (by decide) (by show (["n", "found"] : List Str).Nodup; decide) (by decide)) fun E => ?_
    refine W_asName (W_st E S (by walk_at "mem") (by walk_at "put") fun h' S => ?_)
    refine W_testsNil ?_
    rw [if_pos rfl]
    refine W_BinOp (W_BinOp (W_Subscript ?_))
    refine W_ldC E (by walk_at "mem") (by walk_at "mem") ((kz6.trans S.keep) _ _ hcf) rfl ?_
    walk_at "go"
    refine W_itemList (isList_le hfl (kz6.trans S.keep)) (by decide) e9 (by decide) ?_
    walk_at "go"
    refine W_ldC E (by walk_at "mem") (by walk_at "mem") ((kz6.trans S.keep) _ _ hcn) rfl ?_
    refine W_modI (by omega) fun t => ?_
    refine ⟨B6, _, [], Le.refl _, S, rfl, rfl, ⟨_, rfl⟩, ?_⟩
    rw [List.range_succ, List.map_append]
    exact hys.append (.cons _ _ .nil)
  rintro C cs B6 lc nvs o Dl kk3 B7 h' kB6 ⟨rfl, rfl, ⟨u3, rfl⟩, hnvs⟩ k7 k8 oC mm S hm
  refine FinC.none S hm fun h' S => ?_
  (try simp only [List.nil_append, List.cons_append] at S)
  walk_at "go"
  obtain ⟨B8, S, k9, hDl⟩ := S.settle1
  replace kz := kz.trans (k7.trans k9)
  have Y8 := Y4.le kz
  refine ⟨Y8.gan.kept S.keep, W_call ?_⟩
  have e0 : ((n : Int) - 0).toNat = n.toNat := by omega
  rw [e0] at hnvs
  refine add_nodes Y8.gan Y8.gK Y8.D Y8.hml R' (by omega) S Y8.lim Tes ⟨_, hDl, rfl, _, rfl⟩ hnvs (turned_nodup (by omega)) (by simp; omega) fun rs0 oad ond kn B9 h' hrs0 hrok hoad hond hkn k10 S => ?_
  replace kz := kz.trans k10
  refine ⟨rfl, ?_⟩
  have k2z : Le B2 B9 := (k3.trans k4).trans kz
  have hodz := k2z _ _ hod
  have TDz := TDd.mono k2z
  obtain ⟨esd, ep, RD, hsz, hkey⟩ := TDz.raw hodz
  have Yz := Y4.le kz
  have S := S.perm (List.perm_append_comm_assoc ((ad, oad) :: (nd, ond) :: (x, instObj a.C dx) :: (dx, dictOf es nn) :: rowsOwn rs0) [(cu, celO none), (cv, celO none)] ((csome, celO none) :: (cfar, celO none) :: (a.P1, tabObj ps1) :: (a.P2, tabObj ps2) :: own))
  have nodesIn : ∀ z, 0 ≤ z → z < n → z ∈ (List.range n.toNat).map fun j : Nat => (f9 + j).fmod n := fun z z0 z1 => turned_mem z0 z1
  refine W_cons (W_For ?_)
  walk_at "go"
  refine W_loopSrc (g := B9) (own := (cu, celO none) :: (cv, celO none) :: (ad, oad) :: (nd, ond) :: (x, instObj a.C dx) :: (dx, dictOf es nn) :: rowsOwn rs0) (ex := (csome, celO none) :: (cfar, celO none) :: (a.P1, tabObj ps1) :: (a.P2, tabObj ps2) :: own)
    (W_srcKeys hds (RD.le S.keep)) (Itr.keys R'.hh (NoGo.tuple _ _ _) RD) ⟨rfl, rfl⟩ rfl S
    (fun i B' ls' o => ∃ rs uo vo, Le B9 B' ∧ ls' = ([("script", some (.ref sc)), ("weights", some (.ref d)), ("G", some (.ref x)), ("k", none), ("told", none), ("way", none), ("weight", none), ("tie", none)] : Loc) ∧ o = (cu, celO uo) :: (cv, celO vo) :: (ad, oad) :: (nd, ond) :: (x, instObj a.C dx) :: (dx, dictOf es nn) :: rowsOwn rs ∧
      rs.map Row.node = ((List.range n.toNat).map fun j : Nat => (f9 + j).fmod n) ∧ (∀ r ∈ rs, RowOk prog w B' r) ∧ adjL rs = adjL rs0 ∧ RowsOf rs (edgesOf (xs.take i)))
    ⟨rs0, _, _, Le.refl _, rfl, rfl, hrs0, fun r hr => (hrok r hr).1, rfl, RowsOf.start (by rw [hrs0]; exact turned_nodup (by omega)) fun r hr => (hrok r hr).2⟩ ?_ ?_
  · rintro i vv B' ls' o ex h' hi' ⟨e, he, rfl⟩ kB' ⟨rs, uo, vo, kb', rfl, rfl, hnodes, hrok', hadj, hrows⟩ S
    (try simp only [List.nil_append, List.cons_append] at S)
    obtain ⟨z, hz, hkz⟩ := hkey i e he
    rw [hkz]
    obtain ⟨u, v, c, tc, z1, u0, uv, vn, z2, c0⟩ := TI.all z (List.mem_of_getElem? hz)
    have hkz := TDz.keys z (List.mem_of_getElem? hz)
    rw [z1] at hkz
    obtain ⟨tu, tv, ht⟩ := tkey_items (prog := prog) (w := w) (tkey_le hkz (kb'.trans S.keep))
    have hp : atKey xs [u, v] = some z.2 := by rw [← z1]; exact atKey_of_mem TDd.nd (List.mem_of_getElem? hz)
    have Ye := Yz.le kb'
    refine W_asTup2 R'.hh S ht fun h' S _ => ?_
    refine W_asName (W_stC E S (by walk_at "mem") (by walk_at "mem") (by walk_at "upd") fun h' S => ?_)
    refine W_asName (W_stC E S (by walk_at "mem") (by walk_at "mem") (by walk_at "upd") fun h' S => ?_)
    refine W_cons (W_Expr ?_ E.inter)
    refine W_CallMK ?_
    walk_at "go"
    refine W_mFn (Ye.D.le S.keep).X Ye.gK.cls (inst_at (S.get (by walk_at "mem")) (S.get (by walk_at "mem"))) Ye.gie Ye.gfe (by show (getL _ _).map _ = _; rw [Tes.get]; rfl) ?_
    refine W_callWithK (by rfl) ?_
    walk_at "go"
    refine W_evalAll1 (W_kwTree (W_Subscript ?_))
    walk_at "go"
    refine W_newTuple S (by simp) fun tt h' _ S _ => ?_
    have htt := S.get (a := tt) (by walk_at "mem")
    have S := S.forget (List.sublist_cons_self _ _)
    refine W_itemT (TDz.heap (S.keep _ _ (kb' _ _ hodz)) (kb'.trans S.keep)) (tkey2 htt) (R'.unit (by omega)) hp ?_
    rw [z2]
    refine W_evalAll0 ?_
    refine ⟨Ye.gae.kept S.keep, W_call ?_⟩
    have S := S.perm (List.perm_append_comm_assoc [(cu, celO (some (.int u tu))), (cv, celO (some (.int v tv)))] ((ad, oad) :: (nd, ond) :: (x, instObj a.C dx) :: (dx, dictOf es nn) :: rowsOwn rs) ex)
    have fresh := fresh_tie TI TDd.nd hz z1 uv
    have frs : ∀ r ∈ rs, ∀ p y, r.node = p → (p = u ∧ y = v ∨ p = v ∧ y = u) → y ∉ r.ents.map (·.1) ∧ r.ents.length ≤ 50 := fun r hr p y ep hpy => by
      refine ⟨fun hm => ?_, ?_⟩
      · obtain ⟨⟨y', dd', c'⟩, hm2, e⟩ := List.mem_map.mp hm
        simp at e
        subst e
        rcases (hrows.ent r hr _ _).mp ⟨dd', hm2⟩ with q | q <;> rw [ep] at q <;> rcases hpy with ⟨rfl, rfl⟩ | ⟨rfl, rfl⟩
        · exact (fresh c').1 q
        · exact (fresh c').2 q
        · exact (fresh c').2 q
        · exact (fresh c').1 q
      · have h1 := hrows.len r hr
        have h2 : (edgesOf (xs.take i)).length ≤ 7 := by unfold edgesOf; simp; omega
        omega
    refine add_edge Ye.gae Ye.gK Ye.D Ye.hml R' (by omega) S Ye.lim Tes hrok' (by rw [hadj]; exact hoad) hond (by rw [hkn, hnodes]) (by rw [hnodes]; exact turned_nodup (by omega)) (by rw [hnodes]; exact nodesIn u u0 (by omega)) (by rw [hnodes]; exact nodesIn v (by omega) vn) (by omega)
      (fun r hr e => frs r hr u v e (.inl ⟨rfl, rfl⟩)) (fun r hr e => frs r hr v u e (.inr ⟨rfl, rfl⟩)) fun dd rs1 rs' B10 h' Pu Pv hrok2 k11 S => ⟨rfl, ?_⟩
    have S := S.perm (List.perm_append_comm_assoc ((ad, oad) :: (nd, ond) :: (x, instObj a.C dx) :: (dx, dictOf es nn) :: rowsOwn rs') [(cu, celO (some (.int u tu))), (cv, celO (some (.int v tv)))] ex)
    have hr2 := hrows.put Pu Pv (by omega)
    have eT : edgesOf (xs.take i) ++ [(u, v, c)] = edgesOf (xs.take (i + 1)) := by
      rw [List.take_add_one, hz]
      unfold edgesOf
      rw [List.map_append]
      simp [edgeOf, z1, z2, valOf]
    rw [eT] at hr2
    exact W_nil ⟨.inl rfl, B10, _, (cu, celO (some (.int u tu))) :: (cv, celO (some (.int v tv))) :: (ad, oad) :: (nd, ond) :: (x, instObj a.C dx) :: (dx, dictOf es nn) :: rowsOwn rs', k11, S, rs', _, _, kb'.trans k11, rfl, rfl, by rw [Pv.nodes.1, Pu.nodes.1, hnodes], hrok2, by rw [Pv.nodes.2.1, Pu.nodes.2.1, hadj], hr2⟩
  rintro B' ls' o h' kB' ⟨rs, uo, vo, kb', rfl, rfl, hnodes, hrok', hadj, hrows⟩ S
  (try simp only [List.nil_append, List.cons_append] at S)
  rw [hsz, List.take_of_length_le (Nat.le_refl _)] at hrows
  have S := S.perm (List.perm_append_comm_assoc [(cu, celO uo), (cv, celO vo)] ((ad, oad) :: (nd, ond) :: (x, instObj a.C dx) :: (dx, dictOf es nn) :: rowsOwn rs) ((csome, celO none) :: (cfar, celO none) :: (a.P1, tabObj ps1) :: (a.P2, tabObj ps2) :: own))
  have Yw := Yz.le kb'
  have mrow : ∀ r ∈ rs, (r.addr, r.obj) ∈ (ad, oad) :: (nd, ond) :: (x, instObj a.C dx) :: (dx, dictOf es nn) :: rowsOwn rs := fun r hr =>
    List.mem_cons_of_mem _ (List.mem_cons_of_mem _ (List.mem_cons_of_mem _ (List.mem_cons_of_mem _ (List.mem_map.mpr ⟨r, hr, rfl⟩))))
  have ns1 := S.notSys Yw.D (List.mem_append_left _ (show (ad, oad) ∈ _ from (by walk_at "mem")))
  have ns2 := S.notSys Yw.D (List.mem_append_left _ (show (nd, ond) ∈ _ from (by walk_at "mem")))
  have ns3 : ∀ r ∈ rs, (r.addr == sysModules) = false := fun r hr => S.notSys Yw.D (List.mem_append_left _ (mrow r hr))
  obtain ⟨B11, S, k12, hall⟩ := Fm.settleApp S
  (try simp only [List.nil_append, List.cons_append] at S)
  have GA : GraphAt prog w a.C B11 x rs := ⟨⟨dx, es, nn, gd, nd, ad, oad, ond, kn, hall _ (show (x, instObj a.C dx) ∈ _ from (by walk_at "mem")), hall _ (show (dx, dictOf es nn) ∈ _ from (by walk_at "mem")), Tes, hall _ (show (ad, oad) ∈ _ from (by walk_at "mem")), hall _ (show (nd, ond) ∈ _ from (by walk_at "mem")),
    by rw [hadj]; exact hoad, hond, by rw [hkn, hnodes], ns1, ns2⟩, fun r hr => ⟨(hrok' r hr).le k12, hall _ (mrow r hr), ns3 r hr⟩, by rw [hnodes]; exact turned_nodup (by omega)⟩
  have AO : AdjOf (edgesOf xs) (adjR rs) := adjR_of hrows fun u v c h => by
    have := TI.edge u v c h
    rw [hnodes]
    exact ⟨nodesIn u (by omega) (by omega), nodesIn v (by omega) (by omega)⟩
  have hes : (edgesOf xs).length ≤ 7 := by unfold edgesOf; simp; omega
  have P : LawP n (adjR rs) xs rs := ⟨graph_ok TI TD' AO, n3, n5, fun z z0 z1 => by rw [hnodes]; exact nodesIn z z0 z1, adjR_at hrows.nd, fun r hr => by have := hrows.len r hr; omega, TI, AO⟩
  have kv : Le B9 B11 := kb'.trans k12
  have k4v : Le B4 B11 := kz.trans kv
  have Yv := Yz.le kv
  refine W_cons (W_Assign ?_ (E.noswap (by walk_at "mem")))
  refine W_ListComp (cl := [("n", cn), ("found", cf)]) (E.closure (by rfl) (by rfl)) rfl (by decide) ?_
  refine W_CallN ?_
  refine W_ldG E (by walk_at "mem") Yv.n_range S.keep ?_
  refine W_callWith ?_
  walk_at "go"
  refine ⟨Kept.type _ _ _, ?_⟩
  refine W_range1 S fun rg h' t u v S hrg => ?_
  refine W_compRange (own := []) (ex := _) R'.hh S hrg (by decide) (by decide) (by decide) (by decide) (by decide) [(".0", none), ("k", none)] (by simp) (by decide)
    (fun C cs i B' lc ys o => cs = ([("n", cn), ("found", cf)] : List (Str × Addr)) ∧ o = [] ∧ (∃ u, lc = ([(".0", none), ("k", u)] : Loc)) ∧ IntsAre ys ((List.range i).map fun j : Nat => (f10 + j).fmod n)) (fun _ C cs own' l _ _ => ?_) ?_ ?_
  · cases l; exact ⟨rfl, rfl, ⟨_, rfl⟩, .nil⟩
  · rintro C cs ownC i ti B6 lc ys o ex h' hL hi' kB6 ⟨rfl, rfl, ⟨u3, rfl⟩, hys⟩ S
    (try simp only [List.nil_append, List.cons_append] at S)
    have kz6 := k4v.trans kB6
    rw [Int.zero_add]
    refine W_inEnv (names := [(".0", .local), ("k", .local), ("found", .cell), ("n", .cell)]) (E.comp rfl rfl (by decide) (by show (["n", "found"] : List Str).Nodup; decide) (by decide)) fun E => ?_
    refine W_asName (W_st E S (by walk_at "mem") (by walk_at "put") fun h' S => ?_)
    refine W_testsNil ?_
    rw [if_pos rfl]
    refine W_BinOp (W_BinOp (W_Subscript ?_))
    refine W_ldC E (by walk_at "mem") (by walk_at "mem") ((kz6.trans S.keep) _ _ hcf) rfl ?_
    walk_at "go"
    refine W_itemList (isList_le hfl (kz6.trans S.keep)) (by decide) e10 (by decide) ?_
    walk_at "go"
    refine W_ldC E (by walk_at "mem") (by walk_at "mem") ((kz6.trans S.keep) _ _ hcn) rfl ?_
    refine W_modI (by omega) fun t => ?_
    refine ⟨B6, _, [], Le.refl _, S, rfl, rfl, ⟨_, rfl⟩, ?_⟩
    rw [List.range_succ, List.map_append]
    exact hys.append (.cons _ _ .nil)
  rintro C cs B6 lc svs o sm kk4 B12 h' kB12 ⟨rfl, rfl, ⟨u3, rfl⟩, hsv⟩ k13 k14 oC mm S hm
  refine FinC.none S hm fun h' S => ?_
  (try simp only [List.nil_append, List.cons_append] at S)
  obtain ⟨B13, S, k15, hsm⟩ := S.settle1
  have hsv : IntsAre svs [(f10 + (0 : Nat)).fmod n, (f10 + (1 : Nat)).fmod n, (f10 + (2 : Nat)).fmod n] := hsv
  have hfm : ∀ f : Int, 0 ≤ f.fmod n ∧ f.fmod n < n := fun f => ⟨Int.fmod_nonneg_of_pos f (by omega), Int.fmod_lt_of_pos f (by omega)⟩
  generalize hs0 : (f10 + ((0 : Nat) : Int)).fmod n = s0 at hsv
  generalize hs1 : (f10 + ((1 : Nat) : Int)).fmod n = s1 at hsv
  generalize hs2 : (f10 + ((2 : Nat) : Int)).fmod n = s2 at hsv
  have hsr : ∀ z ∈ [s0, s1, s2], 0 ≤ z ∧ z < n := fun z hz => by
    simp at hz
    rcases hz with rfl | rfl | rfl
    · rw [← hs0]; exact hfm _
    · rw [← hs1]; exact hfm _
    · rw [← hs2]; exact hfm _
  walk_at "go"
  refine W_newDict S fun df h' S _ _ => ?_
  walk_at "go"
  have S := S.perm ((((by decide : ([0, 1, 2, 3, 4, 5, 6] : List Nat).Perm [3, 4, 5, 6, 1, 2, 0]).map fun i => ([(df, dicE), (cu, celO uo), (cv, celO vo), (csome, celO (some (.ref sm))), (cfar, celO (some (.ref df))), (a.P1, tabObj ps1), (a.P2, tabObj ps2)] : List (Addr × Obj)).getD i (0, dicE))).append_right own)
  have S : Fm B13 C' _ ((csome, celO (some (.ref sm))) :: (cfar, celO (some (.ref df))) :: (a.P1, tabObj ps1) :: (a.P2, tabObj ps2) :: (cu, celO uo) :: (cv, celO vo) :: (df, dicE) :: own) _ := S
  obtain ⟨B14, S, k16, hcs⟩ := S.settle1
  obtain ⟨B15, S, k17, hcfar⟩ := S.settle1
  have ke : Le B11 B15 := k13.trans (k15.trans (k16.trans k17))
  have kB15 : Le B B15 := kb.trans (k4v.trans ke)
  have kall := kg.trans kB15
  obtain ⟨ta0, r0, es0, hsv1⟩ := hsv.cons_inv
  obtain ⟨ta1, r1, es1, hsv2⟩ := hsv1.cons_inv
  obtain ⟨ta2, r2, es2, hsv3⟩ := hsv2.cons_inv
  have es3 := hsv3.nil_inv
  have esv : svs = [.int s0 ta0, .int s1 ta1, .int s2 ta2] := by rw [es0, es1, es2, es3]
  rw [esv] at hsm hsv
  have X : LawG prog w K m a x d df cfar xs rs B15 := ⟨Y.le kall, GA.le ke, ⟨od, ke _ _ (kv _ _ hodz), TDz.mono (kv.trans ke)⟩, hds, hcfar⟩
  have hcn15 := ke _ _ (k4v _ _ hcn)
  have hcs15 := k17 _ _ hcs
  have hsm15 : B15.IsList sm #[.int s0 ta0, .int s1 ta1, .int s2 ta2] := ⟨_, k17 _ _ (k16 _ _ hsm), rfl, _, rfl⟩
  refine far_fill (svs := [.int s0 ta0, .int s1 ta1, .int s2 ta2]) E R' (by omega) X P hcn15 hcs15 hsm15 hsv rfl hsr S (T1.le kall) (T2.le kall) (TD.new _) fun B16 h' u4 u5 u6 u7 u8 uo vo ps1' ps2' ofar' fx k18 S TF FO hkeys => ?_
  obtain ⟨D, H⟩ := dist_exists P.G
  have FA := far_at TF.nd FO H hsr hkeys
  have FW := far_way FO H hsr hkeys
  have X1 := X.le k18
  have S := S.perm ((((by decide : ([0, 1, 2, 3, 4] : List Nat).Perm [4, 2, 3, 0, 1]).map fun i => ([(a.P1, tabObj ps1'), (a.P2, tabObj ps2'), (cu, celO uo), (cv, celO vo), (df, ofar')] : List (Addr × Obj)).getD i (0, dicE))).append_right own)
  have S : Fm B16 C' _ ((df, ofar') :: (cu, celO uo) :: (cv, celO vo) :: (a.P1, tabObj ps1') :: (a.P2, tabObj ps2') :: own) _ := S
  have hdfs := S.notSys X1.Y.D List.mem_cons_self
  obtain ⟨B17, S, k19, hdf⟩ := S.settle1
  have k1719 := k18.trans k19
  refine W_cons (checks (svs := [.int s0 ta0, .int s1 ta1, .int s2 ta2]) E R' (by omega) hdf (TF.mono k19) FA P.G H (k1719 _ _ hcfar) (k1719 _ _ hcs15) (isList_le hsm15 k1719) hsv rfl hsr S fun B18 h' uo vo k20 S => ?_)
  have k1820 := k1719.trans k20
  refine W_cons (the_end E R' (by omega) (X.le k1820) P TDd.nd xlen (k20 _ _ hdf) (TF.mono (k19.trans k20)) hdfs FA H FW (k1820 _ _ hcn15) (k1820 _ _ hcs15) (isList_le hsm15 k1820) hsr S fun B19 h' k21 S => ?_)
  exact q ps1' ps2' h' (fun b o e hb => S.keep _ _ (k21 _ _ (k1820 _ _ (kB15 _ _ (kB b o e hb))))) (S.get (by walk_at "mem")) (S.get (by walk_at "mem"))
end
end Mine
namespace Mine
open PySem PySem.Spec PySem.Calls PyProof.Rows PySem.W
def dropF (K : Frag) (L : Addr) : Frag := K.filter fun p => p.1 != L
theorem dropF_lookup : ∀ {K : Frag} {L a : Addr} {o : Obj}, (dropF K L).lookup a = some o → K.lookup a = some o ∧ a ≠ L
  | [], _, _, _, e => by cases e
  | (b, x) :: r, L, a, o, e => by
    unfold dropF at e
    rw [List.filter_cons] at e
    rw [List.lookup_cons]
    by_cases hb : (b != L) = true
    · rw [if_pos hb, List.lookup_cons] at e
      cases hab : a == b with
      | true => rw [hab] at e; refine ⟨e, ?_⟩; rw [eq_of_beq hab]; simpa using hb
      | false => rw [hab] at e; exact dropF_lookup (K := r) e
    · rw [if_neg hb] at e
      obtain ⟨h1, h2⟩ := dropF_lookup (K := r) e
      have : (a == b) = false := by
        rw [beq_eq_false_iff_ne]
        rintro rfl
        simp at hb
        exact h2 hb
      rw [this]; exact ⟨h1, h2⟩
theorem dropF_In {K : Frag} {h : Heap} {L P1 P2 : Addr} (X : K.In h) (h1 : (dropF K L).lookup P1 = none) (h2 : (dropF K L).lookup P2 = none) : (dropF K L).In (hideAll h [P1, P2, L]) := fun a o e => by
  obtain ⟨e1, e2⟩ := dropF_lookup e
  refine hideAll_get _ (X a o e1) fun hm => ?_
  simp at hm
  rcases hm with rfl | rfl | rfl
  · rw [h1] at e; cases e
  · rw [h2] at e; cases e
  · exact e2 rfl
def fdIn (K : Frag) (a : Addr) : Option FuncData := match K.lookup a with
  | some ⟨_, _, .func fd, _⟩ => some fd
  | _ => none
def codeOk (K : Frag) (a : Addr) : Bool := match fdIn K a with
  | some fd => (match fd.code with
    | .ref c => (match K.lookup c with
      | some ⟨_, _, .fields vs, _⟩ => (match vs[1]? with
        | some (Value.str q _) => q == fd.qualname
        | _ => false)
      | _ => false)
    | _ => false)
  | none => false
def factsIn (K : Frag) (a : Addr) : Option (FuncBody × Scope × Arguments × Addr × Addr × List (Str × Addr) × Value × Value) := (fdIn K a).map fun fd => (fd.body, fd.scope, fd.params, fd.globals, fd.builtins, fd.closure, fd.defaults, fd.kwdefaults)
theorem fdIn_at {K : Frag} {g : Heap} {a : Addr} {fd : FuncData} (X : K.In g) (e : fdIn K a = some fd) : ∃ o, g.get? a = some o ∧ o.data = .func fd := by
  unfold fdIn at e
  split at e
  · rename_i h; cases e; exact ⟨_, X _ _ h, rfl⟩
  · cases e
theorem codeOk_at {K : Frag} {g : Heap} {a : Addr} {fd : FuncData} (X : K.In g) (e : fdIn K a = some fd) (c : codeOk K a = true) : g.CodeRec fd.code fd.qualname := by
  unfold codeOk at c
  rw [e] at c
  dsimp only at c
  split at c
  · rename_i c' hc
    split at c
    · rename_i vs _ hk
      split at c
      · rename_i q t hq
        rw [← eq_of_beq c]
        exact ⟨c', _, vs, t, hc, X _ _ hk, rfl, hq⟩
      · cases c
    · cases c
  · cases c
theorem fnIs_of {K : Frag} {g : Heap} {a : Addr} {s : Stmt} {dv : Value} (X : K.In g) (e : factsIn K a = some (.stmts (bodyF s), scopeF s, argsF s, mainGlobals, builtinsNs, [], dv, .none)) (c : codeOk K a = true) : FnIs g a s dv := by
  unfold factsIn at e
  obtain ⟨fd, e1, e2⟩ := Option.map_eq_some_iff.mp e
  simp only [Prod.mk.injEq] at e2
  obtain ⟨f1, f2, f3, f4, f5, f6, f7, f8⟩ := e2
  obtain ⟨o, ho, hd⟩ := fdIn_at X e1
  exact ⟨o, fd, ho, hd, f1, f2, f3, f4, f5, f6, f7, f8, codeOk_at X e1 c⟩
theorem ns_hide {h : Heap} {b : Addr} {mm : Str → Option Value} {l : List Addr} (x : h.Ns b mm) (hb : b ∉ l) : (hideAll h l).Ns b mm :=
  let ⟨o, es, ep, e, r⟩ := x; ⟨o, es, ep, hideAll_get _ e hb, r⟩
def strDict (K : Frag) (a : Addr) : Bool := match K.lookup a with
  | some ⟨.type "dict", _, .dict es _, _⟩ => es.toList.all fun e => match e.key with
    | .str _ _ => true
    | _ => false
  | _ => false
theorem strDict_ns {K : Frag} {h : Heap} {a : Addr} (X : K.In h) (e : strDict K a = true) : (∃ mm, h.Ns a mm) ∧ ∃ o, h.get? a = some o ∧ o.cls = .type "dict" := by
  unfold strDict at e
  split at e
  · rename_i es n sl hk
    refine ⟨⟨nsFind es, _, es, n, X _ _ hk, rfl, fun en he => ?_, fun _ => rfl⟩, _, X _ _ hk, rfl⟩
    have := List.all_eq_true.mp e en (by simpa using he)
    split at this
    · rename_i q t hq; exact ⟨q, t, hq⟩
    · cases this
  · cases e
theorem glo_of {K : Frag} {g : Heap} {mg : Str → Option Value} {x : Str} {v : Value} (X : K.In g) (G : g.Ns mainGlobals mg) (e : nsIn K mainGlobals x = some (some v)) : Glo g x v := .inl ⟨mg, G, mg_of X G e⟩
theorem gloB_of {K : Frag} {g : Heap} {mg mb : Str → Option Value} {x : Str} {v : Value} (X : K.In g) (G : g.Ns mainGlobals mg) (H : g.Ns builtinsNs mb) (hb : ∀ x : Str, x ≠ "__name__" → mb x = bootBuiltins x) (e : nsIn K mainGlobals x = some none) (hx : (x == ("__name__" : Str)) = false) (hv : bootBuiltins x = some v) : Glo g x v :=
  .inr ⟨mg, mb, G, mg_none_of X G e, H, by rw [hb x (by rintro rfl; simp at hx), hv]⟩
theorem mk_of {p : Program} {loose : List Str} {mean : ExcName → Option Value} {mg mb : Str → Option Value} {h : Heap} {K : Frag} {c P P1 P2 L : Addr} (T : Top p loose mean mg mb h) (h1 : h.get? P1 = some (tabObj #[])) (h2 : h.get? P2 = some (tabObj #[])) (hL : ∃ o, h.get? L = some o ∧ o.cls = .type "dict")
    (hG : mainGlobals ∉ [P1, P2, L]) (hP : P = P1 ∨ P = P2) (X : K.In (hideAll h [P1, P2, L])) (hc : codeHdIn K c P = true) : Mk (hideAll h [P1, P2, L]) c P := by
  have hPt : h.get? P = some (tabObj #[]) := by rcases hP with rfl | rfl <;> assumption
  obtain ⟨bm, ob, b1, b2, b3, b4, b5, b6⟩ := T.bmain
  refine ⟨⟨mg, ns_hide T.g hG, bm, ob, b1, b2, ?_, ?_, hideAll_get _ b3 fun hm => ?_, b4, b5, b6⟩, codeHd_of_K X hc, ?_⟩
  · rintro rfl
    obtain ⟨o, es, ep, e, hd, _⟩ := T.g
    rw [e] at b3; cases b3; rw [hd] at b6; cases b6
  · rintro rfl
    rw [hPt] at b3; cases b3; cases b4
  · simp at hm
    rcases hm with rfl | rfl | rfl
    · rw [h1] at b3; cases b3; cases b4
    · rw [h2] at b3; cases b3; cases b4
    · obtain ⟨o, e1, e2⟩ := hL
      rw [e1] at b3; cases b3; rw [e2] at b4; simp at b4
  · rintro rfl
    exact hG (by rcases hP with rfl | rfl <;> simp)
theorem top_of {K : Frag} {m : Nat} (e : (K.all fun p => Nat.blt p.1 m) = true) : ∀ a o, K.lookup a = some o → a < m := fun a o h => by
  have := List.all_eq_true.mp e (a, o) (mem_of_lookupK h)
  exact Nat.le_of_ble_eq_true this
theorem codeF_of {K : Frag} {g : Heap} {a c : Addr} {q : Str} (X : K.In g) (e : ((fdIn K a).map fun fd => (fd.code, fd.qualname)) = some (.ref c, q)) : ∃ o fd, g.get? a = some o ∧ o.data = .func fd ∧ fd.code = .ref c ∧ fd.qualname = q := by
  obtain ⟨fd, e1, e2⟩ := Option.map_eq_some_iff.mp e
  simp only [Prod.mk.injEq] at e2
  obtain ⟨o, ho, hd⟩ := fdIn_at X e1
  exact ⟨o, fd, ho, hd, e2.1, e2.2⟩
/-- the law is called -/
theorem law_top {prog : Program} {w : World} {K : Frag} {m : Nat} {a : Ad} {fa l Lf : Addr} {s₁ : Shared} {vs : List Value} {ns : List Int} (hP1 : s₁.heap.get? a.P1 = some (tabObj #[])) (hP2 : s₁.heap.get? a.P2 = some (tabObj #[]))
    (hne : a.P1 ≠ a.P2 ∧ a.P1 ≠ Lf ∧ a.P2 ≠ Lf) (hL : (∃ mm, s₁.heap.Ns Lf mm) ∧ ∃ o, s₁.heap.get? Lf = some o ∧ o.cls = .type "dict") (Y : Lib K m a (hideAll s₁.heap [a.P1, a.P2, Lf])) (Gl : FnIs (hideAll s₁.heap [a.P1, a.P2, Lf]) fa (stm 37) .none)
    (hl : s₁.heap.IsList l vs.toArray) (hi : IntsAre vs ns) (hn : ns.length ≤ 63) :
    codeAny (model prog w) callerA (.call (.ref fa) ⟨[.ref l], []⟩) (fun r s' => ∃ h' tk' ps1 ps2, r = .ok (.ret (.bool true)) ∧ s' = { s₁ with heap := h', toks := tk' } ∧ (∀ b o, s₁.heap.get? b = some o → b ≠ a.P1 → b ≠ a.P2 → h'.get? b = some o) ∧
      h'.get? a.P1 = some (tabObj ps1) ∧ h'.get? a.P2 = some (tabObj ps2)) s₁ := by
  have R : Room callerA 0 := ⟨rfl, by decide, by decide⟩
  obtain ⟨mm, hmm⟩ := hL.1
  have S : Fm (hideAll s₁.heap [a.P1, a.P2, Lf]) Lf [] [(a.P1, tabObj #[]), (a.P2, tabObj #[])] s₁.heap := by
    refine ⟨⟨mm, hmm, fun _ _ h => nomatch h⟩, List.nodup_nil, fun b o e => of_hideAll _ e, ?_, ?_, ?_, hideAll_none _ (by simp), ?_⟩
    · intro p hp
      simp at hp
      rcases hp with rfl | rfl
      · exact hP1
      · exact hP2
    · simp [hne.1]
    · intro p hp
      simp at hp
      rcases hp with rfl | rfl
      · exact hne.2.1
      · exact hne.2.2
    · intro p hp
      simp at hp
      rcases hp with rfl | rfl <;> exact hideAll_none _ (by simp)
  have hl' : (hideAll s₁.heap [a.P1, a.P2, Lf]).IsList l vs.toArray := by
    obtain ⟨o, e, hc, r⟩ := hl
    refine ⟨o, hideAll_get _ e fun hm => ?_, hc, r⟩
    simp at hm
    rcases hm with rfl | rfl | rfl
    · rw [hP1] at e; cases e; cases hc
    · rw [hP2] at e; cases e; cases hc
    · obtain ⟨o2, e1, e2⟩ := hL.2
      rw [e1] at e; cases e; rw [e2] at hc; simp at hc
  have W1 : WC (model prog w) callerA s₁ (.call (.ref fa) ⟨[.ref l], []⟩) (fun v h' => ∃ ps1 ps2, v = .bool true ∧ (∀ b o, s₁.heap.get? b = some o → b ≠ a.P1 → b ≠ a.P2 → h'.get? b = some o) ∧ h'.get? a.P1 = some (tabObj ps1) ∧ h'.get? a.P2 = some (tabObj ps2)) s₁.heap :=
    law_run (own := []) Gl Y R (by omega) S ⟨trivial, .inl rfl⟩ ⟨trivial, .inl rfl⟩ hl' hi hn fun ps1' ps2' h' k q1 q2 => ⟨ps1', ps2', rfl, fun b o e n1 n2 => k b o e fun p hp => by
      simp at hp
      rcases hp with rfl | rfl
      · exact fun q => n1 q.symm
      · exact fun q => n2 q.symm, q1, q2⟩
  exact codeAny_mono (W1.run s₁.toks) fun r s' ⟨v, h', tk', e1, e2, ps1, ps2, e3, k, q1, q2⟩ => ⟨h', tk', ps1, ps2, by rw [e1, e3], e2, k, q1, q2⟩
end Mine
namespace Mine
open PySem PySem.Spec PySem.Calls PyProof.Rows PySem.W
def theAd : Ad := ⟨129, 143, 159, 173, 197, 184, 186, 185, 187, 769, 574, 598, 626, 664, 720, 727, 782, 787, 792, 128, 124, 196, 192, 152, 567, 190, "_weight_function", "bidirectional_dijkstra", 478, 479, 444, 529⟩
theorem law_fin {prog : Program} {w : World} {K : Frag} {l : Addr} {s₁ : Shared} {vs : List Value} {ns : List Int} (KX : K.In s₁.heap) (hP1 : s₁.heap.get? 124 = some (tabObj #[])) (hP2 : s₁.heap.get? 192 = some (tabObj #[]))
    (hL : strDict K 71 = true) (hl : s₁.heap.IsList l vs.toArray) (hi : IntsAre vs ns) (hn : ns.length ≤ 63) (d1 : (dropF K 71).lookup 124 = none) (d2 : (dropF K 71).lookup 192 = none)
    (Gl : (dropF K 71).In (hideAll s₁.heap [124, 192, 71]) → FnIs (hideAll s₁.heap [124, 192, 71]) 797 (stm 37) .none)
    (Y : (dropF K 71).In (hideAll s₁.heap [124, 192, 71]) → (∃ o, (hideAll s₁.heap [124, 192, 71]).get? 797 = some o) → (∃ o, s₁.heap.get? 71 = some o ∧ o.cls = .type "dict") → Lib (dropF K 71) 798 theAd (hideAll s₁.heap [124, 192, 71])) :
    codeAny (model prog w) callerA (.call (.ref 797) ⟨[.ref l], []⟩) (fun r s' => ∃ h' tk' ps1 ps2, r = .ok (.ret (.bool true)) ∧ s' = { s₁ with heap := h', toks := tk' } ∧ (∀ b o, s₁.heap.get? b = some o → b ≠ 124 → b ≠ 192 → h'.get? b = some o) ∧
      h'.get? 124 = some (tabObj ps1) ∧ h'.get? 192 = some (tabObj ps2)) s₁ := by
  have X := dropF_In (L := 71) KX d1 d2
  have L := strDict_ns KX hL
  have G := Gl X
  exact law_top (a := theAd) (Lf := 71) hP1 hP2 ⟨by decide, by decide, by decide⟩ L (Y X (by obtain ⟨o, fd, e, _⟩ := G.ex; exact ⟨o, e⟩) L.2) G hl hi hn
/-- the end, as the kit asks for it -/
theorem good_of {c : ClaimW} {cl : Str → Option Addr} {mean : ExcName → Option Value} {args : List WData} {s₁ s' : Shared} {r : Result} (hr : ∀ x, c.raises args x = false) (hp : c.post args (.bool true) args = true) (hg : s₁.gens = #[])
    (h : ∃ h' tk' ps1 ps2, r = .ok (.ret (.bool true)) ∧ s' = { s₁ with heap := h', toks := tk' } ∧ (∀ b o, s₁.heap.get? b = some o → b ≠ 124 → b ≠ 192 → h'.get? b = some o) ∧ h'.get? 124 = some (tabObj ps1) ∧ h'.get? 192 = some (tabObj ps2)) :
    GoodW c cl mean args { s₁ with heap := ghostOf s₁.heap [(128, 124), (196, 192)] } r s' ∧ GrownAll [(128, 124), (196, 192)] s'.heap := by
  obtain ⟨h', tk', ps1, ps2, rfl, rfl, k, q1, q2⟩ := h
  have no : ∀ b o, (ghostOf s₁.heap [(128, 124), (196, 192)]).get? b = some o → b ∉ ([124, 192] : List Addr) := fun b o e hm => by
    rw [show ghostOf s₁.heap [(128, 124), (196, 192)] = hideAll s₁.heap [124, 192] from rfl, hideAll_none _ hm] at e
    cases e
  refine ⟨⟨.inl ⟨.bool true, .bool true, [], rfl, hr, .bool true, hp, fun _ => ⟨List.nodup_nil, fun _ h => nomatch h⟩⟩, fun b o e => k b o (of_hideAll _ e) ?_ ?_, rfl, hg⟩, ⟨ps1, q1⟩, ⟨ps2, q2⟩, trivial⟩
  · rintro rfl; exact no _ _ e (by simp)
  · rintro rfl; exact no _ _ e (by simp)
end Mine
open PySem PySem.W PyProof.Rows
/-! names that are taken: the state trees of the head get no twin (the compiled file would be over its lid) -/
namespace Mine
def head.tw8283107832149579682 : Unit := ()
def head.tw3563852943520258750 : Unit := ()
def head.tw2014630386105982558 : Unit := ()
def head.tw15899327536428893483 : Unit := ()
def head.tw7445031727597353700 : Unit := ()
def head.tw18363515465331964315 : Unit := ()
def head.tw14598544407059909012 : Unit := ()
def head.tw4654473498684071761 : Unit := ()
def head.tw17937418693684179018 : Unit := ()
def head.tw14269943269996947524 : Unit := ()
def head.tw559607728935737979 : Unit := ()
def head.tw14701077814489985756 : Unit := ()
def head.tw2236779808443626771 : Unit := ()
def head.tw18194235355205674469 : Unit := ()
def head.tw6923139346005982118 : Unit := ()
def head.tw14076982628551048905 : Unit := ()
def head.tw11697980953853367341 : Unit := ()
def head.tw14132421369061593742 : Unit := ()
def head.tw13015295685161721227 : Unit := ()
def head.tw15807379234759093331 : Unit := ()
def head.tw644958302273856086 : Unit := ()
def head.tw9049860558728565481 : Unit := ()
def head.tw12181229475202438901 : Unit := ()
def head.tw9308959628206055660 : Unit := ()
def head.tw10171091536733691778 : Unit := ()
def head.tw8238117062424999366 : Unit := ()
def head.tw11676600905601713976 : Unit := ()
def head.tw8257715949115100331 : Unit := ()
def head.tw3040555883307425928 : Unit := ()
def head.tw17009771976208154933 : Unit := ()
def head.tw12039137657211290515 : Unit := ()
def head.tw2123456890754943274 : Unit := ()
def head.tw10952834304203889716 : Unit := ()
def head.tw10957388773627791458 : Unit := ()
def head.tw16040212012115649286 : Unit := ()
def head.tw14850920767539482840 : Unit := ()
def head.tw15021269980761853850 : Unit := ()
def head.tw1462412133654370904 : Unit := ()
def head.tw6504640629932444374 : Unit := ()
def head.tw16906011215578186192 : Unit := ()
def head.tw1474961415264736859 : Unit := ()
def head.tw5212229998681999841 : Unit := ()
def head.tw16459638116043724497 : Unit := ()
def head.tw12207937199487035745 : Unit := ()
def head.tw14491515334184471657 : Unit := ()
def head.tw14470804278632953309 : Unit := ()
def head.tw4608284121681433764 : Unit := ()
def head.tw1918884612611574921 : Unit := ()
def head.tw11418204185147461000 : Unit := ()
def head.tw5591399807416858369 : Unit := ()
def head.tw2933827773690611343 : Unit := ()
def head.tw5865421593230943568 : Unit := ()
def head.tw4737614525000102073 : Unit := ()
def head.tw5234034268914192802 : Unit := ()
def head.tw5677533580147618786 : Unit := ()
def head.tw15143798321361455821 : Unit := ()
def head.tw17104228869554672541 : Unit := ()
def head.tw1068775907635541596 : Unit := ()
def head.tw6348807202221143239 : Unit := ()
def head.tw17389424021761239374 : Unit := ()
def head.tw2329198826563850116 : Unit := ()
def head.tw825670401973903420 : Unit := ()
def head.tw3618677896852961280 : Unit := ()
def head.tw13472121058248642957 : Unit := ()
def head.tw3452341832662284050 : Unit := ()
def head.tw9816248442458772752 : Unit := ()
def head.tw5086566467532956762 : Unit := ()
def head.tw14768926829475142811 : Unit := ()
def head.tw12978717416636612063 : Unit := ()
def head.tw16541468179353058838 : Unit := ()
def head.tw13961543482375089143 : Unit := ()
def head.tw26442149885752835 : Unit := ()
def head.tw11970453235163491926 : Unit := ()
def head.tw10016388235651995913 : Unit := ()
def head.tw5517092262249834103 : Unit := ()
def head.tw18403536276604672777 : Unit := ()
def head.tw10577307053950478504 : Unit := ()
def head.tw6179745081097702894 : Unit := ()
def head.tw6471176635699286393 : Unit := ()
def head.tw6474009502463322548 : Unit := ()
def head.tw17368733701673189985 : Unit := ()
def head.tw6539077040246097288 : Unit := ()
def head.tw16152606716361356294 : Unit := ()
def head.tw15239502196633159603 : Unit := ()
def head.tw3784342498206635235 : Unit := ()
def head.tw8812326207096413898 : Unit := ()
def head.tw9038385146400372295 : Unit := ()
def head.tw13957772217917961406 : Unit := ()
def head.tw9311744045817161606 : Unit := ()
def head.tw15610602774377756026 : Unit := ()
def head.tw5670540698633304486 : Unit := ()
def head.tw11301183148118305637 : Unit := ()
def head.tw4211552049400993897 : Unit := ()
def head.tw13225701323878014076 : Unit := ()
def head.tw2755434129728223823 : Unit := ()
def head.tw66618190712790079 : Unit := ()
def head.tw12799164572323262243 : Unit := ()
def head.tw15148963937461231693 : Unit := ()
def head.tw4483413254912295219 : Unit := ()
def head.tw9787621853935665341 : Unit := ()
def head.tw1457377512435260902 : Unit := ()
def head.tw5158340807641630185 : Unit := ()
def head.tw9065487944939011726 : Unit := ()
def head.tw10960110873984248591 : Unit := ()
def head.tw13114766567266089885 : Unit := ()
def head.tw4600790845500203578 : Unit := ()
def head.tw10663620254954152418 : Unit := ()
def head.tw469366232181847005 : Unit := ()
def head.tw11010576012040048727 : Unit := ()
def head.tw9271895838546497057 : Unit := ()
def head.tw14278898290095587200 : Unit := ()
def head.tw6566175325816973272 : Unit := ()
def head.tw12139123502995544048 : Unit := ()
def head.tw17318282106831254358 : Unit := ()
def head.tw15281970354437355165 : Unit := ()
def head.tw15563298947845766607 : Unit := ()
def head.tw14867944055721763852 : Unit := ()
def head.tw10342928654800702168 : Unit := ()
def head.tw2052838347620594437 : Unit := ()
def head.tw8038840538034445019 : Unit := ()
def head.tw17005891786501079904 : Unit := ()
def head.tw12827855397689114363 : Unit := ()
def head.tw11082612503233550084 : Unit := ()
def head.tw9783113578497724695 : Unit := ()
def head.tw1665017035384295647 : Unit := ()
def head.tw3882096885857358688 : Unit := ()
def head.tw3665862066206961463 : Unit := ()
def head.tw7230150276585982069 : Unit := ()
def head.tw14449839038044431144 : Unit := ()
def head.tw2219479506977696389 : Unit := ()
def head.tw3102838692320201685 : Unit := ()
def head.tw12733461536161306857 : Unit := ()
def head.tw15612386978005596561 : Unit := ()
def head.tw17098209497106259392 : Unit := ()
def head.tw7008484584887379091 : Unit := ()
def head.tw9250178810680044500 : Unit := ()
def head.tw17109123464733594607 : Unit := ()
def head.tw11934833385602990613 : Unit := ()
def head.tw1273797033560797215 : Unit := ()
def head.tw6922306898508533849 : Unit := ()
def head.tw14575626368352236375 : Unit := ()
def head.tw11062844159666043395 : Unit := ()
def head.tw17231163491568877062 : Unit := ()
def head.tw16050388347410925577 : Unit := ()
def head.tw8298956036677137903 : Unit := ()
def head.tw3691970784448789093 : Unit := ()
def head.tw11009130972583508680 : Unit := ()
def head.tw472138892792185315 : Unit := ()
def head.tw16055764542340456980 : Unit := ()
def head.tw7960881215751467509 : Unit := ()
def head.tw9715989912806740752 : Unit := ()
def head.tw12824857690660426397 : Unit := ()
def head.tw7901268698958117014 : Unit := ()
def head.tw37620276538422747 : Unit := ()
def head.tw3306014811536218513 : Unit := ()
def head.tw2654071559806073891 : Unit := ()
def head.tw17619409864816609055 : Unit := ()
def head.tw15547770305833444743 : Unit := ()
def head.tw5828396151639600029 : Unit := ()
def head.tw401700080985250721 : Unit := ()
def head.tw13108355545841440363 : Unit := ()
def head.tw15489832021539799795 : Unit := ()
def head.tw14670260009484720992 : Unit := ()
def head.tw13396372801797540582 : Unit := ()
def head.tw7481371560702672466 : Unit := ()
def head.tw18288814570308119955 : Unit := ()
def head.tw866174269921992937 : Unit := ()
def head.tw13543149564315498547 : Unit := ()
def head.tw5207666765276788736 : Unit := ()
def head.tw14503461360352068057 : Unit := ()
def head.tw18090392515378641496 : Unit := ()
def head.tw12571835668975346726 : Unit := ()
def head.tw9092161234174349091 : Unit := ()
def head.tw16945559625461818650 : Unit := ()
def head.tw6478666437737612231 : Unit := ()
def head.tw6149599713233305172 : Unit := ()
def head.tw10526648896665251673 : Unit := ()
def head.tw17614075423323384363 : Unit := ()
def head.tw8147821503396640697 : Unit := ()
def head.tw16760200883239772147 : Unit := ()
def head.tw8057295282393585546 : Unit := ()
def head.tw15426311758473248348 : Unit := ()
def head.tw6032335186944297945 : Unit := ()
def head.tw16713197011185019181 : Unit := ()
def head.tw9795251257728629362 : Unit := ()
def head.tw10228640497704754460 : Unit := ()
def head.tw9021251233498730489 : Unit := ()
def head.tw6456132524555787083 : Unit := ()
def head.tw5824390128016035984 : Unit := ()
def head.tw15470408522587874626 : Unit := ()
def head.tw12073923538612671061 : Unit := ()
def head.tw15452054730842560452 : Unit := ()
def head.tw979317532335493378 : Unit := ()
def head.tw4085285910515683305 : Unit := ()
def head.tw362159924006681238 : Unit := ()
def head.tw5457881981671802587 : Unit := ()
def head.tw323482635240074057 : Unit := ()
def head.tw18361167118392615623 : Unit := ()
def head.tw11364544325212742011 : Unit := ()
def head.tw6844041782651558288 : Unit := ()
def head.tw16672318725780133978 : Unit := ()
def head.tw1113986443086404616 : Unit := ()
def head.tw587121490752477604 : Unit := ()
def head.tw1607430480906292593 : Unit := ()
def head.tw6776032007060665784 : Unit := ()
def head.tw1115107254869146095 : Unit := ()
def head.tw8207701176878594722 : Unit := ()
def head.tw2212833502401074578 : Unit := ()
def head.tw16380157621550025562 : Unit := ()
def head.tw1233632785079842163 : Unit := ()
def head.tw18410590092159124921 : Unit := ()
def head.tw13428258918809525249 : Unit := ()
def head.tw1875919508020622890 : Unit := ()
def head.tw1892213158525022774 : Unit := ()
def head.tw5555320389761915161 : Unit := ()
def head.tw12056981539775321328 : Unit := ()
def head.tw2611935402230173564 : Unit := ()
def head.tw754285041136479540 : Unit := ()
def head.tw9297382265435449532 : Unit := ()
def head.tw7135117511069396707 : Unit := ()
def head.tw4962877761993032021 : Unit := ()
def head.tw2917193911250234918 : Unit := ()
def head.tw7986725268353890298 : Unit := ()
def head.tw13609440092795475371 : Unit := ()
def head.tw696122501370772008 : Unit := ()
def head.tw11063568127064243930 : Unit := ()
def head.tw4548117842300790854 : Unit := ()
def head.tw518678552125658056 : Unit := ()
def head.tw13430164044788636840 : Unit := ()
def head.tw10193171960210755999 : Unit := ()
def head.tw5012331772839332122 : Unit := ()
def head.tw14846311157328531784 : Unit := ()
def head.tw6844782571114980887 : Unit := ()
def head.tw9344625014540334639 : Unit := ()
def head.tw6217066452294943225 : Unit := ()
def head.tw12885586383900775569 : Unit := ()
def head.tw6731557136300432596 : Unit := ()
def head.tw11805205915768141067 : Unit := ()
def head.tw9564218140379066381 : Unit := ()
def head.tw16797942534309957443 : Unit := ()
def head.tw2897760182231759665 : Unit := ()
def head.tw16022235937000291172 : Unit := ()
def head.tw21988315779104480 : Unit := ()
def head.tw17444847812027279604 : Unit := ()
def head.tw3595997877012144879 : Unit := ()
def head.tw14752506000784563649 : Unit := ()
def head.tw15532160837916378065 : Unit := ()
def head.tw530933793126812920 : Unit := ()
def head.tw5507133844067935933 : Unit := ()
def head.tw14939961891759723399 : Unit := ()
def head.tw9276144551764123601 : Unit := ()
def head.tw4862270548576034953 : Unit := ()
def head.tw705760531005267695 : Unit := ()
def head.tw6727100480368530190 : Unit := ()
def head.tw124883101675373894 : Unit := ()
def head.tw7269200749090024744 : Unit := ()
def head.tw2571168983127488356 : Unit := ()
def head.tw4962736326292468617 : Unit := ()
def head.tw15135619693733244150 : Unit := ()
def head.tw5111868304982540618 : Unit := ()
def head.tw18375999222851292949 : Unit := ()
def head.tw6220170890603007400 : Unit := ()
def head.tw13273861129630518605 : Unit := ()
def head.tw3450949782755327956 : Unit := ()
def head.tw16747758414039768549 : Unit := ()
def head.tw14846003952843628053 : Unit := ()
def head.tw9674239543357970916 : Unit := ()
def head.tw8038371692442393066 : Unit := ()
def head.tw3451093201888169649 : Unit := ()
def head.tw4358993413909304738 : Unit := ()
def head.tw9431614861159355217 : Unit := ()
def head.tw17156599628292278652 : Unit := ()
def head.tw16812575187878004724 : Unit := ()
def head.tw8326005567873760776 : Unit := ()
def head.tw11461499031321582800 : Unit := ()
def head.tw4339557587995268071 : Unit := ()
def head.tw15671972229068485812 : Unit := ()
def head.tw5500579707063611550 : Unit := ()
def head.tw16406983249328947883 : Unit := ()
def head.tw16442351252410813783 : Unit := ()
def head.tw12299445865675373075 : Unit := ()
def head.tw10026081401838358860 : Unit := ()
def head.tw18073253993163958545 : Unit := ()
def head.tw1052857438788121165 : Unit := ()
def head.tw8950289647991515567 : Unit := ()
def head.tw13364782577083276413 : Unit := ()
def head.tw18183174734748219037 : Unit := ()
def head.tw12455836510418399005 : Unit := ()
def head.tw6176345250416243184 : Unit := ()
def head.tw10122946653390990349 : Unit := ()
def head.tw16739718814745446470 : Unit := ()
def head.tw15321706721025569321 : Unit := ()
def head.tw6490296386705211140 : Unit := ()
def head.tw17534256950101050110 : Unit := ()
def head.tw14865920709389126754 : Unit := ()
def head.tw18389462600417984960 : Unit := ()
def head.tw267605870634565931 : Unit := ()
def head.tw12158802013451034191 : Unit := ()
def head.tw1833582929049214940 : Unit := ()
def head.tw5125958064476920540 : Unit := ()
def head.tw16977501473774887275 : Unit := ()
def head.tw11071264828655331411 : Unit := ()
def head.tw8944843718432748164 : Unit := ()
def head.tw13747074784603667445 : Unit := ()
def head.tw15503097425533943618 : Unit := ()
def head.tw10788471342663975116 : Unit := ()
def head.tw11107352082982046152 : Unit := ()
def head.tw13509367902515537409 : Unit := ()
def head.tw17694210980959083098 : Unit := ()
def head.tw3072560515391643108 : Unit := ()
def head.tw5130157460393195706 : Unit := ()
def head.tw2793124239215922884 : Unit := ()
def head.tw592456438674589443 : Unit := ()
def head.tw6034230335904063297 : Unit := ()
def head.tw17140849054598882095 : Unit := ()
def head.tw9143382849711255151 : Unit := ()
def head.tw1068468237069756021 : Unit := ()
def head.tw6558123857898114708 : Unit := ()
def head.tw11669157530226713859 : Unit := ()
def head.tw15426641868824120786 : Unit := ()
def head.tw7506892168612780884 : Unit := ()
def head.tw9038047922831870644 : Unit := ()
def head.tw15258443364195721184 : Unit := ()
def head.tw14201698879807330386 : Unit := ()
def head.tw16643138836878064090 : Unit := ()
def head.tw15334272659332826219 : Unit := ()
def head.tw10330029457637541874 : Unit := ()
def head.tw8352008069858738290 : Unit := ()
def head.tw11569059112243386080 : Unit := ()
def head.tw1702933206250710812 : Unit := ()
def head.tw8922061660115660384 : Unit := ()
def head.tw16471464971087256928 : Unit := ()
def head.tw11886411443621667277 : Unit := ()
def head.tw6934443133442629443 : Unit := ()
def head.tw4560781026641586645 : Unit := ()
def head.tw6486732978054103331 : Unit := ()
def head.tw10918805792032235851 : Unit := ()
def head.tw9127973993507090889 : Unit := ()
def head.tw11325123074623421636 : Unit := ()
def head.tw11402060322171007769 : Unit := ()
def head.tw1102418157338428821 : Unit := ()
def head.tw7969260177395062552 : Unit := ()
def head.tw15813487518697063300 : Unit := ()
def head.tw5249513799629414036 : Unit := ()
def head.tw4159882011646715607 : Unit := ()
def head.tw11064161554564005326 : Unit := ()
def head.tw33573280608776797 : Unit := ()
def head.tw1812493766864980573 : Unit := ()
def head.tw14863828447139302165 : Unit := ()
def head.tw7650427687878648453 : Unit := ()
def head.tw8928023225330563168 : Unit := ()
def head.tw8630395689686839726 : Unit := ()
def head.tw11603432971120843656 : Unit := ()
def head.tw16001387979748450446 : Unit := ()
def head.tw9056860215390897720 : Unit := ()
def head.tw1732203365184088312 : Unit := ()
def head.tw16116035678362273250 : Unit := ()
def head.tw7755238395343190901 : Unit := ()
def head.tw17722614448605708867 : Unit := ()
def head.tw17344931073602145721 : Unit := ()
def head.tw16032798489695076721 : Unit := ()
def head.tw17704052738415460469 : Unit := ()
def head.tw13828079244328726261 : Unit := ()
def head.tw8115158583836488623 : Unit := ()
def head.tw18328473556755899883 : Unit := ()
def head.tw3019826093846059422 : Unit := ()
def head.tw3131719153377098617 : Unit := ()
def head.tw13354917204585026762 : Unit := ()
def head.tw2418714467272084401 : Unit := ()
def head.tw1882522813595301626 : Unit := ()
def head.tw12429951682030723673 : Unit := ()
def head.tw9774788107539696696 : Unit := ()
def head.tw18143917106301475762 : Unit := ()
def head.tw12192210933886053439 : Unit := ()
def head.tw7745989481828376248 : Unit := ()
def head.tw12776649858371997621 : Unit := ()
def head.tw17867283565879608411 : Unit := ()
def head.tw513725483946565611 : Unit := ()
def head.tw2745132233910449083 : Unit := ()
def head.tw4574886288965091980 : Unit := ()
def head.tw10608895561498820177 : Unit := ()
def head.tw17569046868014684118 : Unit := ()
def head.tw7375059858216798019 : Unit := ()
def head.tw2521300752013376154 : Unit := ()
def head.tw7837257655245606889 : Unit := ()
def head.tw12158841012875720822 : Unit := ()
def head.tw5650451955626385410 : Unit := ()
def head.tw5466821642703148816 : Unit := ()
def head.tw5146889155378328383 : Unit := ()
def head.tw13201570181236456407 : Unit := ()
def head.tw12564640927703296245 : Unit := ()
def head.tw13817119208851334467 : Unit := ()
def head.tw13179846583896226737 : Unit := ()
def head.tw18269060916473230798 : Unit := ()
def head.tw11482736412510673933 : Unit := ()
def head.tw12228125722970668792 : Unit := ()
def head.tw16924187370751998334 : Unit := ()
def head.tw11913546299056063732 : Unit := ()
def head.tw13297540025232092148 : Unit := ()
def head.tw14109275158583760179 : Unit := ()
def head.tw10619857144125423714 : Unit := ()
def head.tw11989885266081877014 : Unit := ()
def head.tw14548005986732462787 : Unit := ()
def head.tw13487993878933841382 : Unit := ()
def head.tw14810052793992546949 : Unit := ()
def head.tw14908484980871526243 : Unit := ()
def head.tw5442484570284002534 : Unit := ()
def head.tw10570333768828682940 : Unit := ()
def head.tw14009643544190721742 : Unit := ()
def head.tw5151920857946359011 : Unit := ()
def head.tw15782500743966263059 : Unit := ()
def head.tw12986989617589936276 : Unit := ()
def head.tw5606683062545458717 : Unit := ()
def head.tw11676079370732023414 : Unit := ()
def head.tw18388891672070397326 : Unit := ()
def head.tw11153783834796741981 : Unit := ()
def head.tw7430932083831991287 : Unit := ()
def head.tw1977763985358189153 : Unit := ()
def head.tw14479216186099313196 : Unit := ()
def head.tw6875499645052711337 : Unit := ()
def head.tw2895046715181644469 : Unit := ()
def head.tw4823973681313038070 : Unit := ()
def head.tw1329139514890002538 : Unit := ()
def head.tw7415481005890845386 : Unit := ()
def head.tw2149818191934713554 : Unit := ()
def head.tw16492596727443477334 : Unit := ()
def head.tw16360952187969651320 : Unit := ()
def head.tw1379694272655097336 : Unit := ()
def head.tw7064576912131800416 : Unit := ()
def head.tw14311340473388993849 : Unit := ()
def head.tw16289325131906828649 : Unit := ()
def head.tw7773477628633938830 : Unit := ()
def head.tw8903665043760339008 : Unit := ()
def head.tw2056342483219161833 : Unit := ()
def head.tw15940621676493584966 : Unit := ()
def head.tw15307742465414924605 : Unit := ()
def head.tw12942713027217397852 : Unit := ()
def head.tw13703985768281871745 : Unit := ()
def head.tw5682237231123728265 : Unit := ()
def head.tw4745461491944849742 : Unit := ()
def head.tw8123758894001490243 : Unit := ()
def head.tw10193775571616629780 : Unit := ()
def head.tw7879782656825443055 : Unit := ()
def head.tw16433462154859340389 : Unit := ()
def head.tw9631839687265896505 : Unit := ()
def head.tw321584655521577983 : Unit := ()
def head.tw6310438205146278909 : Unit := ()
def head.tw16634043896361210627 : Unit := ()
def head.tw8762692973466549995 : Unit := ()
def head.tw449119513551634826 : Unit := ()
def head.tw274079992891151272 : Unit := ()
def head.tw9393836763757953902 : Unit := ()
def head.tw1754480994165296408 : Unit := ()
def head.tw10201976830495330057 : Unit := ()
def head.tw13307759769560722018 : Unit := ()
def head.tw13773679158450764843 : Unit := ()
def head.tw1051507370301653691 : Unit := ()
def head.tw2446609302789770542 : Unit := ()
def head.tw2349265364154346715 : Unit := ()
def head.tw11091075588374771920 : Unit := ()
def head.tw2801629346432672393 : Unit := ()
def head.tw3645741237959228745 : Unit := ()
def head.tw17648268552764510013 : Unit := ()
def head.tw9352476017414777642 : Unit := ()
def head.tw10275917185175975021 : Unit := ()
def head.tw12149408415760089246 : Unit := ()
def head.tw10070549128393552250 : Unit := ()
def head.tw8416458050664636472 : Unit := ()
def head.tw8150599627031302055 : Unit := ()
def head.tw17004020173110251980 : Unit := ()
def head.tw15493778577238641531 : Unit := ()
def head.tw3822555523768963294 : Unit := ()
def head.tw9497800013943654066 : Unit := ()
def head.tw1273790370468413353 : Unit := ()
def head.tw11414339124651244017 : Unit := ()
def head.tw3770654937949254457 : Unit := ()
def head.tw6359203466971665773 : Unit := ()
def head.tw17852354173865680011 : Unit := ()
def head.tw18383367125126320204 : Unit := ()
def head.tw2950765778708546084 : Unit := ()
def head.tw1401139394160673004 : Unit := ()
def head.tw2659922152227102382 : Unit := ()
def head.tw7828098156469768952 : Unit := ()
def head.tw12592566887243865894 : Unit := ()
def head.tw10170866484434975347 : Unit := ()
def head.tw2985189313112533514 : Unit := ()
def head.tw8773635112355824046 : Unit := ()
def head.tw6811229546872578240 : Unit := ()
def head.tw16098587012358147453 : Unit := ()
def head.tw8083464909414362335 : Unit := ()
def head.tw8166999806591403796 : Unit := ()
def head.tw9631412194649932951 : Unit := ()
def head.tw11560791298762117392 : Unit := ()
def head.tw9175374240060358330 : Unit := ()
def head.tw9905244861711924020 : Unit := ()
def head.tw394722052851808275 : Unit := ()
def head.tw10744643907299400370 : Unit := ()
def head.tw8284499611363769434 : Unit := ()
def head.tw1523288120102633147 : Unit := ()
def head.tw18153736512105509501 : Unit := ()
def head.tw14279838766785379302 : Unit := ()
def head.tw7178453578614297156 : Unit := ()
def head.tw1103118360292292157 : Unit := ()
def head.tw8016098949916305066 : Unit := ()
def head.tw5236802432840321807 : Unit := ()
def head.tw8577539271172328975 : Unit := ()
def head.tw8746372584333653083 : Unit := ()
def head.tw12849677509511415647 : Unit := ()
def head.tw2701275455042487588 : Unit := ()
def head.tw2208430038321535256 : Unit := ()
def head.tw17600174723964761271 : Unit := ()
def head.tw10077614731831823308 : Unit := ()
def head.tw14642881637259292411 : Unit := ()
def head.tw15582557835056012883 : Unit := ()
def head.tw9328142537993144618 : Unit := ()
def head.tw13936345886739402165 : Unit := ()
def head.tw18264441199730398920 : Unit := ()
def head.tw18352561510716070356 : Unit := ()
def head.tw18136784466063222691 : Unit := ()
def head.tw3853836717952138507 : Unit := ()
def head.tw8442580359016245169 : Unit := ()
def head.tw17795366963427087706 : Unit := ()
def head.tw1329897990629837498 : Unit := ()
def head.tw6427012001730382603 : Unit := ()
def head.tw13473159967141611537 : Unit := ()
def head.tw13810873300985235696 : Unit := ()
def head.tw11510851538340594569 : Unit := ()
def head.tw12436254711610605464 : Unit := ()
def head.tw3711839055731728385 : Unit := ()
def head.tw16278857565283685740 : Unit := ()
def head.tw11041032747693170624 : Unit := ()
def head.tw16480671871427768449 : Unit := ()
def head.tw2965093633175911636 : Unit := ()
def head.tw2046119391332617580 : Unit := ()
def head.tw9692443577015966985 : Unit := ()
def head.tw15043729232738935796 : Unit := ()
def head.tw13741680068142600715 : Unit := ()
def head.tw9526959194740362167 : Unit := ()
def head.tw16415449966442000929 : Unit := ()
def head.tw15957952655687735075 : Unit := ()
def head.tw7383176390310337668 : Unit := ()
def head.tw15584297243214423283 : Unit := ()
def head.tw12063515681119412919 : Unit := ()
def head.tw11608151446482968538 : Unit := ()
def head.tw18134755911535582296 : Unit := ()
def head.tw8878744243672949501 : Unit := ()
def head.tw18142253323546211152 : Unit := ()
def head.tw5023451632361932609 : Unit := ()
def head.tw1633178978018031862 : Unit := ()
def head.tw1111766255153513783 : Unit := ()
def head.tw16907360911616802821 : Unit := ()
def head.tw4450661721644348826 : Unit := ()
def head.tw16604415049855158431 : Unit := ()
def head.tw6952170469526698843 : Unit := ()
def head.tw17208977131727779392 : Unit := ()
def head.tw15252698316786634876 : Unit := ()
def head.tw9953325427324993831 : Unit := ()
def head.tw8005814805623038451 : Unit := ()
def head.tw16310391890351198594 : Unit := ()
def head.tw8310975796128503633 : Unit := ()
def head.tw10978612789222110301 : Unit := ()
def head.tw6705057979849832011 : Unit := ()
def head.tw1120683029170811851 : Unit := ()
def head.tw16740174945698870881 : Unit := ()
def head.tw17227084328999160987 : Unit := ()
def head.tw3064812699970506314 : Unit := ()
def head.tw9338622355449474732 : Unit := ()
def head.tw16113370659747249700 : Unit := ()
def head.tw15459700671661405391 : Unit := ()
def head.tw10668490150204043581 : Unit := ()
def head.tw10644633959118738313 : Unit := ()
def head.tw12428121921182784626 : Unit := ()
def head.tw12897481986808888594 : Unit := ()
def head.tw16823158622860678748 : Unit := ()
def head.tw9224727606216920406 : Unit := ()
def head.tw13639351865453503887 : Unit := ()
def head.tw3427177527904440482 : Unit := ()
def head.tw4500521077537721045 : Unit := ()
def head.tw5456857783914633266 : Unit := ()
def head.tw11967168570829163798 : Unit := ()
def head.tw301680363124841183 : Unit := ()
def head.tw8330730939730201694 : Unit := ()
def head.tw7133519142652691152 : Unit := ()
def head.tw8615912172072861604 : Unit := ()
def head.tw2004296183926418032 : Unit := ()
def head.tw1952494554148658288 : Unit := ()
def head.tw8464114070568672119 : Unit := ()
def head.tw16780908293359163729 : Unit := ()
def head.tw2929551677221089947 : Unit := ()
def head.tw9875493499642082344 : Unit := ()
def head.tw14331581963634098945 : Unit := ()
def head.tw9864474776196604528 : Unit := ()
def head.tw13295602550337036981 : Unit := ()
def head.tw7556780620912305594 : Unit := ()
def head.tw9338717260550464064 : Unit := ()
def head.tw3483726649045044999 : Unit := ()
def head.tw11132487480926684733 : Unit := ()
def head.tw11902179687841165173 : Unit := ()
def head.tw8673269760282635301 : Unit := ()
def head.tw15755229612106482624 : Unit := ()
def head.tw401794712129759012 : Unit := ()
def head.tw2619429472256841599 : Unit := ()
def head.tw17069957057542824215 : Unit := ()
def head.tw5714567979466084952 : Unit := ()
def head.tw13695277343892569604 : Unit := ()
def head.tw11455086287684852342 : Unit := ()
def head.tw16468569829591719541 : Unit := ()
def head.tw5313380988128105116 : Unit := ()
def head.tw10019951398262190568 : Unit := ()
def head.tw17241566191339878714 : Unit := ()
def head.tw9608377800256291669 : Unit := ()
def head.tw17793759536777045643 : Unit := ()
def head.tw6465002171639433639 : Unit := ()
def head.tw16388487268851961065 : Unit := ()
def head.tw3421611166145717266 : Unit := ()
def head.tw12351309130966846124 : Unit := ()
def head.tw2418301337894644882 : Unit := ()
def head.tw16713760959555765350 : Unit := ()
def head.tw12524623287455510617 : Unit := ()
def head.tw3567702952731444329 : Unit := ()
def head.tw14303258195080707404 : Unit := ()
def head.tw6814046463813496832 : Unit := ()
def head.tw16390735416758967846 : Unit := ()
def head.tw15218788814872722840 : Unit := ()
def head.tw11489841586311698586 : Unit := ()
def head.tw3093116131825134235 : Unit := ()
def head.tw11848355426577573062 : Unit := ()
def head.tw2036419126211951690 : Unit := ()
def head.tw4523330193553793494 : Unit := ()
def head.tw77768100938365909 : Unit := ()
def head.tw17068824599700077352 : Unit := ()
def head.tw10127094089400195290 : Unit := ()
def head.tw11147590313062582412 : Unit := ()
def head.tw17062045950607569020 : Unit := ()
def head.tw11457916452242354218 : Unit := ()
def head.tw14824453555314281606 : Unit := ()
def head.tw14439723840121679156 : Unit := ()
def head.tw9128836891206135426 : Unit := ()
def head.tw6626929908651149701 : Unit := ()
def head.tw7755037393241320387 : Unit := ()
def head.tw9561274727076994004 : Unit := ()
def head.tw17606486387849217846 : Unit := ()
def head.tw1016134997963823798 : Unit := ()
def head.tw8267951871861701445 : Unit := ()
def head.tw15156642090968518577 : Unit := ()
def head.tw10248514317004343787 : Unit := ()
def head.tw4334280617987064247 : Unit := ()
def head.tw6110112794842064844 : Unit := ()
def head.tw9934530448476252742 : Unit := ()
def head.tw3099888760362228760 : Unit := ()
def head.tw2779346517391436742 : Unit := ()
def head.tw15712153798697316537 : Unit := ()
def head.tw12058348164842460966 : Unit := ()
def head.tw13438311443582316336 : Unit := ()
def head.tw14583737424671177453 : Unit := ()
def head.tw13118692713156226228 : Unit := ()
def head.tw16788914034360805471 : Unit := ()
def head.tw2395851186421105035 : Unit := ()
def head.tw7945738276880979501 : Unit := ()
def head.tw9651020799707909647 : Unit := ()
def head.tw13390592898632580015 : Unit := ()
def head.tw8245841006235445907 : Unit := ()
def head.tw17473215404880000914 : Unit := ()
def head.tw2545665987269931517 : Unit := ()
def head.tw6958054317093949245 : Unit := ()
def head.tw4131584760332008305 : Unit := ()
def head.tw12338406675523625067 : Unit := ()
def head.tw8508195878490756948 : Unit := ()
def head.tw4174567291243999617 : Unit := ()
def head.tw11048774648392195676 : Unit := ()
def head.tw14857608947800436607 : Unit := ()
def head.tw15750539829815801507 : Unit := ()
def head.tw5577014201120943436 : Unit := ()
def head.tw10062590438388966307 : Unit := ()
def head.tw2595233403007697180 : Unit := ()
def head.tw9763474609545301029 : Unit := ()
def head.tw13930179049932442014 : Unit := ()
def head.tw791098537559934384 : Unit := ()
def head.tw14395512727828008833 : Unit := ()
def head.tw11495814141986093748 : Unit := ()
def head.tw10402111669686500861 : Unit := ()
def head.tw3690936606918076327 : Unit := ()
def head.tw16914380289546287665 : Unit := ()
def head.tw9107203709589313069 : Unit := ()
def head.tw2471654206473426777 : Unit := ()
def head.tw3432601949592766396 : Unit := ()
def head.tw7593086455014119117 : Unit := ()
def head.tw12385885694248742175 : Unit := ()
def head.tw17163498327005133941 : Unit := ()
def head.tw8218484466405107339 : Unit := ()
def head.tw17829360733465232015 : Unit := ()
def head.tw2835518153210616690 : Unit := ()
def head.tw15691586631956691426 : Unit := ()
def head.tw10709369422042810919 : Unit := ()
def head.tw4648074632519319735 : Unit := ()
def head.tw9327872659553302720 : Unit := ()
def head.tw15289763312163031998 : Unit := ()
def head.tw12662210835923542106 : Unit := ()
def head.tw8502642901776448687 : Unit := ()
def head.tw16087223939236174059 : Unit := ()
def head.tw4624463204194495638 : Unit := ()
def head.tw3554042456446714875 : Unit := ()
def head.tw767006432034581743 : Unit := ()
def head.tw7542233025814817222 : Unit := ()
def head.tw4992075536606663714 : Unit := ()
def head.tw5772655871171279878 : Unit := ()
def head.tw3278271342692846314 : Unit := ()
def head.tw15583411779183562704 : Unit := ()
def head.tw7159714937563686871 : Unit := ()
def head.tw16564699395723667294 : Unit := ()
def head.tw1805750339796752242 : Unit := ()
def head.tw17442257458550087981 : Unit := ()
def head.tw8537842815459228960 : Unit := ()
def head.tw13673058357740678144 : Unit := ()
def head.tw4465704467177643329 : Unit := ()
def head.tw17501036376265905387 : Unit := ()
def head.tw3406552568449126707 : Unit := ()
def head.tw175957516102021249 : Unit := ()
def head.tw4421269845303654710 : Unit := ()
def head.tw388184392655515216 : Unit := ()
def head.tw12693822330384004437 : Unit := ()
def head.tw18088075235975042716 : Unit := ()
def head.tw15461780630991917884 : Unit := ()
def head.tw11425924106983384868 : Unit := ()
def head.tw13647830643472755754 : Unit := ()
def head.tw4012358518692435386 : Unit := ()
def head.tw9267399956468080217 : Unit := ()
def head.tw2437190321139323120 : Unit := ()
def head.tw11142878440690576298 : Unit := ()
def head.tw13345864993664963080 : Unit := ()
def head.tw3046917530973155409 : Unit := ()
def head.tw4105119120572824291 : Unit := ()
def head.tw2255139933487393395 : Unit := ()
def head.tw1476967812594411304 : Unit := ()
def head.tw18423618960977984393 : Unit := ()
def head.tw14460913815207763246 : Unit := ()
def head.tw12177026062329270929 : Unit := ()
def head.tw7229365734804613853 : Unit := ()
def head.tw11295484981741628707 : Unit := ()
def head.tw17752875600893736501 : Unit := ()
def head.tw17029281499520769684 : Unit := ()
def head.tw6289245384177490476 : Unit := ()
def head.tw1750507733526642434 : Unit := ()
def head.tw8179574858113817059 : Unit := ()
def head.tw2470626448489271089 : Unit := ()
def head.tw6798992220002280345 : Unit := ()
def head.tw15874021509088154370 : Unit := ()
def head.tw10579344904400529871 : Unit := ()
def head.tw8372164355529847743 : Unit := ()
def head.tw1695272437436596756 : Unit := ()
def head.tw17895739583965686969 : Unit := ()
def head.tw14488207471660009386 : Unit := ()
def head.tw10952189463223380040 : Unit := ()
def head.tw18122065748374300089 : Unit := ()
def head.tw8904842690337714185 : Unit := ()
def head.tw9129795465777586621 : Unit := ()
def head.tw16958494517958319586 : Unit := ()
def head.tw15898617315240357935 : Unit := ()
def head.tw14095155658891914983 : Unit := ()
def head.tw17977532444348847223 : Unit := ()
def head.tw7602662878522749748 : Unit := ()
def head.tw5490262921897062701 : Unit := ()
def head.tw5932888286366025677 : Unit := ()
def head.tw6562090228519788209 : Unit := ()
def head.tw18180288016796858009 : Unit := ()
def head.tw9475379840703383698 : Unit := ()
def head.tw14387253260952625049 : Unit := ()
def head.tw12764843333141187162 : Unit := ()
def head.tw1861415691135057819 : Unit := ()
def head.tw5819760608971835591 : Unit := ()
def head.tw14185411009657547218 : Unit := ()
def head.tw9027988112828303775 : Unit := ()
def head.tw3839736740360565264 : Unit := ()
def head.tw7331010177793665412 : Unit := ()
def head.tw2383746988487476050 : Unit := ()
def head.tw1667197968680378936 : Unit := ()
def head.tw5530688202465531804 : Unit := ()
def head.tw10560855368848521419 : Unit := ()
def head.tw1030536996053982578 : Unit := ()
def head.tw15285557583057002165 : Unit := ()
def head.tw16896716796036338970 : Unit := ()
def head.tw18219924102202186503 : Unit := ()
def head.tw9704388891410263683 : Unit := ()
def head.tw13252461654885649509 : Unit := ()
def head.tw13554860043763078139 : Unit := ()
def head.tw288087108925639806 : Unit := ()
def head.tw16392261803761106818 : Unit := ()
def head.tw2739124052588917054 : Unit := ()
def head.tw8581731490068582137 : Unit := ()
def head.tw6905280369439944710 : Unit := ()
def head.tw13597870340707847720 : Unit := ()
def head.tw4032667506613795738 : Unit := ()
def head.tw3649914351005859508 : Unit := ()
def head.tw3792679915021438858 : Unit := ()
def head.tw17137039813967996010 : Unit := ()
def head.tw5015909574497337436 : Unit := ()
def head.tw18240164343135922154 : Unit := ()
def head.tw3313396315762190772 : Unit := ()
def head.tw7616389157142160771 : Unit := ()
def head.tw14830403872101935474 : Unit := ()
def head.tw2946466326854788083 : Unit := ()
def head.tw15372427146860881657 : Unit := ()
def head.tw12144605746681571689 : Unit := ()
def head.tw17057615360119800924 : Unit := ()
def head.tw573189755984429645 : Unit := ()
def head.tw13396957338647275249 : Unit := ()
def head.tw1476112073066157877 : Unit := ()
def head.tw4652849794032243938 : Unit := ()
def head.tw14565984838667512163 : Unit := ()
def head.tw17417963004159675435 : Unit := ()
def head.tw2083131375344130036 : Unit := ()
def head.tw14991665811180036881 : Unit := ()
def head.tw4936744152926930579 : Unit := ()
def head.tw18375096957166725368 : Unit := ()
def head.tw9263182273769427461 : Unit := ()
def head.tw6931903885016246218 : Unit := ()
def head.tw8785465191888740145 : Unit := ()
def head.tw94199412069896233 : Unit := ()
def head.tw16699118890847573099 : Unit := ()
def head.tw5273353676325532212 : Unit := ()
def head.tw15021495713174545233 : Unit := ()
def head.tw18051327529840846061 : Unit := ()
def head.tw8727427592606286837 : Unit := ()
def head.tw6262092699102742590 : Unit := ()
def head.tw17052126773310898750 : Unit := ()
def head.tw14578053475972544121 : Unit := ()
def head.tw8635801649412623816 : Unit := ()
def head.tw3166441154922603549 : Unit := ()
def head.tw185750126276579885 : Unit := ()
def head.tw13385912960980594225 : Unit := ()
def head.tw8732543388465361972 : Unit := ()
def head.tw13374682953104688660 : Unit := ()
def head.tw5634912026493880203 : Unit := ()
def head.tw10093482450892564552 : Unit := ()
def head.tw2134252945237712882 : Unit := ()
def head.tw17434250726066951213 : Unit := ()
def head.tw6133374836822340032 : Unit := ()
def head.tw10113004864945215908 : Unit := ()
def head.tw10738415174905983355 : Unit := ()
def head.tw13197950832229239142 : Unit := ()
def head.tw16848734093215285337 : Unit := ()
def head.tw3330812319211622060 : Unit := ()
def head.tw9875284204226446277 : Unit := ()
def head.tw17085033731344762170 : Unit := ()
def head.tw12963878141745050835 : Unit := ()
def head.tw3807352556957126074 : Unit := ()
def head.tw15917489196905000050 : Unit := ()
def head.tw6257352206714963126 : Unit := ()
def head.tw1824787226957235617 : Unit := ()
def head.tw17005846044281615586 : Unit := ()
def head.tw16711069116427132594 : Unit := ()
def head.tw10832550138993492676 : Unit := ()
def head.tw15474769317486641138 : Unit := ()
def head.tw1097596288912480931 : Unit := ()
def head.tw7668492509808465581 : Unit := ()
def head.tw1487536596944475555 : Unit := ()
def head.tw1764562431648130628 : Unit := ()
def head.tw17773624321993289372 : Unit := ()
def head.tw1193192827695820201 : Unit := ()
def head.tw9832340034705147477 : Unit := ()
def head.tw7605166074885289285 : Unit := ()
def head.tw2216888273047360462 : Unit := ()
def head.tw628883079210367009 : Unit := ()
def head.tw14215978111569224623 : Unit := ()
def head.tw8390636374581242146 : Unit := ()
def head.tw14615427350437176072 : Unit := ()
def head.tw17882926463437270604 : Unit := ()
def head.tw2847114174321285438 : Unit := ()
def head.tw6061140604400286620 : Unit := ()
def head.tw14326179776068990251 : Unit := ()
def head.tw1605264914639016070 : Unit := ()
def head.tw3056997865138848530 : Unit := ()
def head.tw5867460780676386079 : Unit := ()
def head.tw11995938519021176279 : Unit := ()
def head.tw12829425976011563678 : Unit := ()
def head.tw9760145883890454392 : Unit := ()
def head.tw12843953056113122906 : Unit := ()
def head.tw15871300600022536727 : Unit := ()
def head.tw15919025892595252471 : Unit := ()
def head.tw12658419304667170338 : Unit := ()
def head.tw10008981339222156873 : Unit := ()
def head.tw14693611814698894861 : Unit := ()
def head.tw8923297968319659509 : Unit := ()
def head.tw18099508266909501966 : Unit := ()
def head.tw7626994334425147645 : Unit := ()
def head.tw3084873257981392848 : Unit := ()
def head.tw15193404127012564765 : Unit := ()
def head.tw16574969892415616130 : Unit := ()
def head.tw12150615962061616356 : Unit := ()
def head.tw15171273876781749790 : Unit := ()
def head.tw10047393819957995408 : Unit := ()
def head.tw11941229332098475629 : Unit := ()
def head.tw5332922473330289647 : Unit := ()
def head.tw9666110103146477157 : Unit := ()
def head.tw467172816325930916 : Unit := ()
def head.tw5228876292888950982 : Unit := ()
def head.tw7665377626809459311 : Unit := ()
def head.tw13603501701093608569 : Unit := ()
def head.tw2096634180341282915 : Unit := ()
def head.tw13486380783350633726 : Unit := ()
def head.tw13031993528536639038 : Unit := ()
def head.tw14363995488301690161 : Unit := ()
def head.tw7125109850817617594 : Unit := ()
def head.tw15138192645863431045 : Unit := ()
def head.tw3631218446707267034 : Unit := ()
def head.tw11920693287149667411 : Unit := ()
def head.tw3998768129134768690 : Unit := ()
def head.tw1892106051446944512 : Unit := ()
def head.tw14425796286289626669 : Unit := ()
def head.tw9965353072772684675 : Unit := ()
def head.tw13828296484216352497 : Unit := ()
def head.tw10967287048758864763 : Unit := ()
def head.tw4956759928380993254 : Unit := ()
def head.tw5595207354250759765 : Unit := ()
def head.tw17474906238623947062 : Unit := ()
def head.tw12483524902391614173 : Unit := ()
def head.tw1102905817137899706 : Unit := ()
def head.tw9830033545524966038 : Unit := ()
def head.tw12520968677606412118 : Unit := ()
def head.tw2350666744034440391 : Unit := ()
def head.tw2193818140457751054 : Unit := ()
def head.tw4511088341082151015 : Unit := ()
def head.tw12590314651106761105 : Unit := ()
def head.tw8903011014942838097 : Unit := ()
def head.tw12397968759161991312 : Unit := ()
def head.tw11709247114249697940 : Unit := ()
def head.tw17420757168365862027 : Unit := ()
def head.tw648450151585314059 : Unit := ()
def head.tw17305279035367673032 : Unit := ()
def head.tw10809477301093314700 : Unit := ()
def head.tw3219859135671012420 : Unit := ()
def head.tw12574616414959445655 : Unit := ()
def head.tw5238325282659567380 : Unit := ()
def head.tw10980110088067643235 : Unit := ()
def head.tw11713315421415865906 : Unit := ()
def head.tw16443408561251100101 : Unit := ()
def head.tw10221513558411930407 : Unit := ()
def head.tw9975738240907327011 : Unit := ()
def head.tw15193194302506122181 : Unit := ()
def head.tw9051165575458678105 : Unit := ()
def head.tw3420712745634647663 : Unit := ()
def head.tw11785247349380326442 : Unit := ()
def head.tw8652809202198645512 : Unit := ()
def head.tw12640424402597761046 : Unit := ()
def head.tw4430834163430979937 : Unit := ()
def head.tw1156914479553925772 : Unit := ()
def head.tw18227723713731065979 : Unit := ()
def head.tw13282552295293812034 : Unit := ()
def head.tw496868785162813753 : Unit := ()
def head.tw7381133033746923419 : Unit := ()
def head.tw10046055172190079654 : Unit := ()
def head.tw15126013165290904710 : Unit := ()
def head.tw13751767096200789157 : Unit := ()
def head.tw2883348053400104578 : Unit := ()
def head.tw7055862646019118517 : Unit := ()
def head.tw5627231854022847070 : Unit := ()
def head.tw4328326069544100732 : Unit := ()
def head.tw10442565795967042814 : Unit := ()
def head.tw10323852489131834650 : Unit := ()
def head.tw3186809303649726202 : Unit := ()
def head.tw18312588684407217961 : Unit := ()
def head.tw10281669969121996834 : Unit := ()
def head.tw9390939805106294822 : Unit := ()
def head.tw3184364823731731431 : Unit := ()
def head.tw8820054099641073117 : Unit := ()
def head.tw8298303948137352768 : Unit := ()
def head.tw18141926227819551385 : Unit := ()
def head.tw11339141108299139558 : Unit := ()
def head.tw15951998825049700455 : Unit := ()
def head.tw2845609186671502603 : Unit := ()
def head.tw10536233145010300345 : Unit := ()
def head.tw5714293459945578608 : Unit := ()
def head.tw13349887611470776335 : Unit := ()
def head.tw17372896881102517508 : Unit := ()
def head.tw5760256604620287586 : Unit := ()
def head.tw14782355635276401299 : Unit := ()
def head.tw2796267953296086475 : Unit := ()
def head.tw9986400419101343816 : Unit := ()
def head.tw12583225685706671406 : Unit := ()
def head.tw7664409601467736008 : Unit := ()
def head.tw3914408259199498807 : Unit := ()
def head.tw2522984260612184333 : Unit := ()
def head.tw16211778925602294403 : Unit := ()
def head.tw5391256373104506566 : Unit := ()
def head.tw18397145594500292201 : Unit := ()
def head.tw7703893475100878146 : Unit := ()
def head.tw17888318370730626389 : Unit := ()
def head.tw17729905459341166733 : Unit := ()
def head.tw8063128913528701915 : Unit := ()
def head.tw13920559749292972219 : Unit := ()
def head.tw2483590981736569835 : Unit := ()
def head.tw7848262043883666119 : Unit := ()
def head.tw12680087689736754913 : Unit := ()
def head.tw7370595125072100581 : Unit := ()
def head.tw7225263504248862125 : Unit := ()
def head.tw9443072254669715109 : Unit := ()
def head.tw16432199283948623821 : Unit := ()
def head.tw12202599754282646112 : Unit := ()
def head.tw13674288229525856751 : Unit := ()
def head.tw14124395517593601499 : Unit := ()
def head.tw12812306615101265800 : Unit := ()
def head.tw1255744316916844063 : Unit := ()
def head.tw10648415540836062769 : Unit := ()
def head.tw6204677738868059183 : Unit := ()
def head.tw10544064009108086568 : Unit := ()
def head.tw4106356397065928709 : Unit := ()
def head.tw16337749362073664425 : Unit := ()
def head.tw5150560748945305250 : Unit := ()
def head.tw5569992402112668024 : Unit := ()
def head.tw14016770102536559381 : Unit := ()
def head.tw14693403494379673507 : Unit := ()
def head.tw1305846251288550630 : Unit := ()
def head.tw4236395281166414720 : Unit := ()
def head.tw16408001845297377827 : Unit := ()
def head.tw13256568369750436767 : Unit := ()
def head.tw6411150577609317961 : Unit := ()
def head.tw15487638686976844055 : Unit := ()
def head.tw10897555979959213275 : Unit := ()
def head.tw6317053622385053678 : Unit := ()
def head.tw14225480192410066422 : Unit := ()
def head.tw1547790952514024813 : Unit := ()
def head.tw5478181872765363335 : Unit := ()
def head.tw10441214292099957985 : Unit := ()
def head.tw10608609933697523092 : Unit := ()
def head.tw14900865423497919902 : Unit := ()
def head.tw6413422523906184519 : Unit := ()
def head.tw2280412012180511131 : Unit := ()
def head.tw13987900206770421275 : Unit := ()
def head.tw13958067486993825360 : Unit := ()
def head.tw6676178106910989367 : Unit := ()
def head.tw1986579791818689511 : Unit := ()
def head.tw11480040681691131751 : Unit := ()
def head.tw12885258392569377239 : Unit := ()
def head.tw18393134070746608696 : Unit := ()
def head.tw7873374376366092466 : Unit := ()
def head.tw14130617756604841950 : Unit := ()
def head.tw13566396615797515162 : Unit := ()
def head.tw18346719260593564857 : Unit := ()
def head.tw9486020189913756051 : Unit := ()
def head.tw16240602033053868897 : Unit := ()
def head.tw15974430059811079838 : Unit := ()
def head.tw4586754584033713340 : Unit := ()
def head.tw1049504637558403989 : Unit := ()
def head.tw9637873326710365904 : Unit := ()
def head.tw8908391491709239787 : Unit := ()
def head.tw4776241131153593475 : Unit := ()
def head.tw5485833197653379195 : Unit := ()
def head.tw17260861813949740922 : Unit := ()
def head.tw5699096291855732178 : Unit := ()
def head.tw8383026986705796735 : Unit := ()
def head.tw9141016544171167523 : Unit := ()
def head.tw15599174098124845149 : Unit := ()
def head.tw11433049526266426101 : Unit := ()
def head.tw9516415969629581596 : Unit := ()
def head.tw9929037282122898367 : Unit := ()
def head.tw10360355179755900071 : Unit := ()
def head.tw10957180678049773753 : Unit := ()
def head.tw11410769395702133129 : Unit := ()
def head.tw17067637420212882889 : Unit := ()
def head.tw3951901595045252469 : Unit := ()
def head.tw7982612777975879611 : Unit := ()
def head.tw13927356158070621380 : Unit := ()
def head.tw2717208847683956309 : Unit := ()
def head.tw15969215476548702787 : Unit := ()
def head.tw2641368528265132563 : Unit := ()
def head.tw7663910181857295205 : Unit := ()
def head.tw5604430326347360968 : Unit := ()
def head.tw6918390050681750558 : Unit := ()
def head.tw3896811812517431239 : Unit := ()
def head.tw6831956411284195507 : Unit := ()
def head.tw8216097648270762014 : Unit := ()
def head.tw17555500040438976179 : Unit := ()
def head.tw17994110348256069173 : Unit := ()
def head.tw15080257033682925028 : Unit := ()
def head.tw2045074668004595492 : Unit := ()
def head.tw1051171138599039321 : Unit := ()
def head.tw9251545996854613125 : Unit := ()
def head.tw4243418924906636083 : Unit := ()
def head.tw8479801150676808524 : Unit := ()
def head.tw9108081691470609484 : Unit := ()
def head.tw5232228908592543544 : Unit := ()
def head.tw16358204758238972156 : Unit := ()
def head.tw12169159797338600327 : Unit := ()
def head.tw9014781339899895827 : Unit := ()
def head.tw70090929366303766 : Unit := ()
def head.tw16250027492125724043 : Unit := ()
def head.tw5855423684407361001 : Unit := ()
def head.tw979171164856182457 : Unit := ()
def head.tw5322401800075986657 : Unit := ()
def head.tw8637997611112605546 : Unit := ()
def head.tw12524421442512884174 : Unit := ()
def head.tw4326531945555850233 : Unit := ()
def head.tw10355957085482065769 : Unit := ()
def head.tw17912755184129651716 : Unit := ()
def head.tw17513103129775332898 : Unit := ()
def head.tw13555979713790115494 : Unit := ()
def head.tw9113478365216168667 : Unit := ()
def head.tw7686595434559094111 : Unit := ()
def head.tw16818187504659572682 : Unit := ()
def head.tw17529327304811750280 : Unit := ()
def head.tw2904568299773088208 : Unit := ()
def head.tw11904902682523677728 : Unit := ()
def head.tw4451808723456900091 : Unit := ()
def head.tw8702728501933954732 : Unit := ()
def head.tw4266125437641643010 : Unit := ()
def head.tw5332097487420337648 : Unit := ()
def head.tw12327391423119875794 : Unit := ()
def head.tw9575600060902953197 : Unit := ()
def head.tw5425156493105757533 : Unit := ()
def head.tw13372603932813759807 : Unit := ()
def head.tw14145653219816572579 : Unit := ()
def head.tw8440724121292491696 : Unit := ()
def head.tw2014290360899714077 : Unit := ()
def head.tw14514365293481555227 : Unit := ()
def head.tw82346015518353585 : Unit := ()
def head.tw9138681409310753855 : Unit := ()
def head.tw16217633693566378302 : Unit := ()
def head.tw5341717757235050488 : Unit := ()
def head.tw2592483747772659646 : Unit := ()
def head.tw6469887238458452365 : Unit := ()
def head.tw9434264759540817328 : Unit := ()
def head.tw9430075316452312695 : Unit := ()
def head.tw13864460233467909087 : Unit := ()
def head.tw4438900393812859148 : Unit := ()
def head.tw2218057530078777247 : Unit := ()
def head.tw13147575097027673849 : Unit := ()
def head.tw10541447591316938147 : Unit := ()
def head.tw10634135099287573028 : Unit := ()
def head.tw17016181667166472378 : Unit := ()
def head.tw17507883679356588380 : Unit := ()
def head.tw16241923929411468136 : Unit := ()
def head.tw14714839384489012191 : Unit := ()
def head.tw17951906469277389031 : Unit := ()
def head.tw16327702306508389023 : Unit := ()
def head.tw4036955210689515969 : Unit := ()
def head.tw5138900719335231189 : Unit := ()
def head.tw4090538686069576298 : Unit := ()
def head.tw8495462224683839655 : Unit := ()
def head.tw15609255003364895129 : Unit := ()
def head.tw14684055229475060411 : Unit := ()
def head.tw9923701361305647377 : Unit := ()
def head.tw13306613897598041963 : Unit := ()
def head.tw10437980411268242527 : Unit := ()
def head.tw13586908935297872191 : Unit := ()
def head.tw13704148757180265829 : Unit := ()
def head.tw2865748937610576655 : Unit := ()
def head.tw15728392335812022347 : Unit := ()
def head.tw11696631142259662158 : Unit := ()
def head.tw17304494776674078335 : Unit := ()
def head.tw5257295174491966437 : Unit := ()
def head.tw1992477944027644202 : Unit := ()
def head.tw2053794441240397865 : Unit := ()
def head.tw3737903218282963058 : Unit := ()
def head.tw15594163967390089512 : Unit := ()
def head.tw8878033356361687413 : Unit := ()
def head.tw9446753516335261087 : Unit := ()
def head.tw3570516421255772084 : Unit := ()
def head.tw2752467070884657955 : Unit := ()
def head.tw7457552020886230888 : Unit := ()
def head.tw15710723681104717333 : Unit := ()
def head.tw11145239594032166008 : Unit := ()
def head.tw2174961307104261584 : Unit := ()
def head.tw17392847072718040655 : Unit := ()
def head.tw16739145754829039623 : Unit := ()
def head.tw983906777341882432 : Unit := ()
def head.tw5901587794082509127 : Unit := ()
def head.tw597074169871860151 : Unit := ()
def head.tw2667050807504417021 : Unit := ()
def head.tw1580680056681073610 : Unit := ()
def head.tw7488541112930075905 : Unit := ()
def head.tw5243709496306360405 : Unit := ()
def head.tw2906108228771378836 : Unit := ()
def head.tw12127202465691054869 : Unit := ()
def head.tw17494492735399735900 : Unit := ()
def head.tw3599588615879379226 : Unit := ()
def head.tw7756616234285270678 : Unit := ()
def head.tw7767053804489933300 : Unit := ()
def head.tw12076818900296105345 : Unit := ()
def head.tw2597577878174793632 : Unit := ()
def head.tw8336564359093974826 : Unit := ()
def head.tw8600888132176998335 : Unit := ()
def head.tw16936863169003086019 : Unit := ()
def head.tw5881514817843391879 : Unit := ()
def head.tw14961657320932817909 : Unit := ()
def head.tw1617490999932600745 : Unit := ()
def head.tw10354663699749162071 : Unit := ()
def head.tw3135704744877706608 : Unit := ()
def head.tw481527522710965720 : Unit := ()
def head.tw6381444819776783573 : Unit := ()
def head.tw8736302374402316822 : Unit := ()
def head.tw1711692988711396842 : Unit := ()
def head.tw13573306113544170727 : Unit := ()
def head.tw9998835648581272185 : Unit := ()
def head.tw17579601216678573145 : Unit := ()
def head.tw12737629724271134780 : Unit := ()
def head.tw15626010649763647547 : Unit := ()
def head.tw14841693372963708047 : Unit := ()
def head.tw2939193906504437160 : Unit := ()
def head.tw17715974946323665166 : Unit := ()
def head.tw1310984921644355347 : Unit := ()
def head.tw3303856703048408355 : Unit := ()
def head.tw2906684570277787454 : Unit := ()
def head.tw10696830294072541881 : Unit := ()
def head.tw11977190876439048778 : Unit := ()
def head.tw18379175249704201485 : Unit := ()
def head.tw6260995599505342214 : Unit := ()
def head.tw17056219185321658569 : Unit := ()
def head.tw4071921853538226850 : Unit := ()
def head.tw11241476830008268045 : Unit := ()
def head.tw1047250769976239364 : Unit := ()
def head.tw11444606304192054452 : Unit := ()
def head.tw4651799925229823638 : Unit := ()
def head.tw3144135606727127238 : Unit := ()
def head.tw14733557814532082709 : Unit := ()
def head.tw10609879721330458376 : Unit := ()
def head.tw9037646719097263615 : Unit := ()
def head.tw12527921394978015684 : Unit := ()
def head.tw2223791320229761884 : Unit := ()
def head.tw6861794922711700498 : Unit := ()
def head.tw9478285419201585186 : Unit := ()
def head.tw10213982820455145879 : Unit := ()
def head.tw15149817146928655991 : Unit := ()
def head.tw5531456924482520303 : Unit := ()
def head.tw15782546353969746812 : Unit := ()
def head.tw15864971792659095162 : Unit := ()
def head.tw14080897583622272714 : Unit := ()
def head.tw12898564942027811295 : Unit := ()
def head.tw10439809314786229543 : Unit := ()
def head.tw14000535487285256486 : Unit := ()
def head.tw7636145822557305007 : Unit := ()
def head.tw9102951217192057243 : Unit := ()
def head.tw3995589126736093937 : Unit := ()
def head.tw9668848584078973064 : Unit := ()
def head.tw10856192362647377983 : Unit := ()
def head.tw14316063243306203777 : Unit := ()
def head.tw2475167945841916750 : Unit := ()
def head.tw1941691932048581411 : Unit := ()
def head.tw7199011377765180133 : Unit := ()
def head.tw1705226851446211196 : Unit := ()
def head.tw10558135972162546953 : Unit := ()
def head.tw12955356496681433688 : Unit := ()
def head.tw12420953356873699505 : Unit := ()
def head.tw2163237168840174509 : Unit := ()
def head.tw7312856623638736815 : Unit := ()
def head.tw10958987863147963684 : Unit := ()
def head.tw2905082740764845972 : Unit := ()
def head.tw912098856781049681 : Unit := ()
def head.tw12310906923949637671 : Unit := ()
def head.tw1288099659541712692 : Unit := ()
def head.tw3102337303177593418 : Unit := ()
def head.tw9997865855256709051 : Unit := ()
def head.tw17089659523090303107 : Unit := ()
def head.tw2460757995206461883 : Unit := ()
def head.tw8006987041870731533 : Unit := ()
def head.tw12054537792870112365 : Unit := ()
def head.tw16278894286204223403 : Unit := ()
def head.tw15690840325138900252 : Unit := ()
def head.tw5522703016590048860 : Unit := ()
def head.tw9316954552087555400 : Unit := ()
def head.tw13724200822187635723 : Unit := ()
def head.tw15735434631967450740 : Unit := ()
def head.tw7109750090312404884 : Unit := ()
def head.tw9938926983322108829 : Unit := ()
def head.tw12989862724901497319 : Unit := ()
def head.tw12974418312080727555 : Unit := ()
def head.tw10616646386748265791 : Unit := ()
def head.tw4291518336741142703 : Unit := ()
def head.tw12864845718535755397 : Unit := ()
def head.tw8321782585162075291 : Unit := ()
def head.tw6086325078814936784 : Unit := ()
def head.tw14804714916115964462 : Unit := ()
def head.tw8186302866133549642 : Unit := ()
def head.tw16542419401937778716 : Unit := ()
def head.tw14461930413176628125 : Unit := ()
def head.tw7175579275818205790 : Unit := ()
def head.tw11982087204174642999 : Unit := ()
def head.tw17545235222974499132 : Unit := ()
def head.tw3479767609463435739 : Unit := ()
def head.tw13330143801922999214 : Unit := ()
def head.tw9493158187847966221 : Unit := ()
def head.tw17900100449458096933 : Unit := ()
def head.tw16476430482203906632 : Unit := ()
def head.tw11920452064063858505 : Unit := ()
def head.tw13070298894884024803 : Unit := ()
def head.tw13716612621254738421 : Unit := ()
def head.tw402151968174166176 : Unit := ()
def head.tw1702963375614270538 : Unit := ()
def head.tw18072232570334796213 : Unit := ()
def head.tw2525174236342294155 : Unit := ()
def head.tw9601990701124059363 : Unit := ()
def head.tw6687215366973426911 : Unit := ()
def head.tw10464954878319083470 : Unit := ()
def head.tw15719719898424109726 : Unit := ()
def head.tw9015503586806083067 : Unit := ()
def head.tw6609067617859915237 : Unit := ()
def head.tw3620546049660907504 : Unit := ()
def head.tw9234494498464138520 : Unit := ()
def head.tw7939481126921106479 : Unit := ()
def head.tw18272244551443894227 : Unit := ()
def head.tw8992249384623816724 : Unit := ()
def head.tw14696124430071197193 : Unit := ()
def head.tw10007482620310239153 : Unit := ()
def head.tw12596594776246401625 : Unit := ()
def head.tw16956857920669811752 : Unit := ()
def head.tw11046152080507257445 : Unit := ()
def head.tw6306288609057283913 : Unit := ()
def head.tw1869210281665392429 : Unit := ()
def head.tw6518777630277636224 : Unit := ()
def head.tw7688013043533409674 : Unit := ()
def head.tw12378293399417826902 : Unit := ()
def head.tw10205793480724240784 : Unit := ()
def head.tw8902194374192495780 : Unit := ()
def head.tw10579682063295529230 : Unit := ()
def head.tw10326903465468923414 : Unit := ()
def head.tw12602330955789569381 : Unit := ()
def head.tw7858984282526795417 : Unit := ()
def head.tw11951994378779094420 : Unit := ()
def head.tw5253020682545176349 : Unit := ()
def head.tw15647378281017813147 : Unit := ()
def head.tw9210208666261259692 : Unit := ()
def head.tw15051242807075039482 : Unit := ()
def head.tw11533975685530146398 : Unit := ()
def head.tw541448428987734959 : Unit := ()
def head.tw12356943963368877815 : Unit := ()
def head.tw2503913181223954130 : Unit := ()
def head.tw18217319705016404646 : Unit := ()
def head.tw17996886184498570944 : Unit := ()
def head.tw9349044010656546996 : Unit := ()
def head.tw14677646642070171532 : Unit := ()
def head.tw15617193370528523606 : Unit := ()
def head.tw4193606323709125858 : Unit := ()
def head.tw10323400222655561569 : Unit := ()
def head.tw4035726831023378383 : Unit := ()
def head.tw13290029221039867119 : Unit := ()
def head.tw13519593896240236716 : Unit := ()
def head.tw17028965717767522908 : Unit := ()
def head.tw2345949521240004590 : Unit := ()
def head.tw7850334787670627109 : Unit := ()
def head.tw5644874648253431006 : Unit := ()
def head.tw5088859448712373641 : Unit := ()
def head.tw11562507594152271597 : Unit := ()
def head.tw6408028709814089710 : Unit := ()
def head.tw16995335028128427513 : Unit := ()
def head.tw4652281524531470647 : Unit := ()
def head.tw9055987223319919189 : Unit := ()
def head.tw59837708072089995 : Unit := ()
def head.tw12853159631425181966 : Unit := ()
def head.tw3096169095796450289 : Unit := ()
def head.tw11337488011184534406 : Unit := ()
def head.tw15701019601952378046 : Unit := ()
def head.tw17856945458846924246 : Unit := ()
def head.tw12417016835540527142 : Unit := ()
def head.tw8989953827385580294 : Unit := ()
def head.tw1101153778708126145 : Unit := ()
def head.tw6891740322653142510 : Unit := ()
def head.tw9045871927009386247 : Unit := ()
def head.tw11670982430147766682 : Unit := ()
def head.tw13053102174411170310 : Unit := ()
def head.tw2087129913418490978 : Unit := ()
def head.tw837907158380144858 : Unit := ()
def head.tw15121918843942585162 : Unit := ()
def head.tw8594852640906797722 : Unit := ()
def head.tw17021012967979909373 : Unit := ()
def head.tw6203171169344372721 : Unit := ()
def head.tw5445721716414253218 : Unit := ()
def head.tw16093803358043929494 : Unit := ()
def head.tw16941484166785093559 : Unit := ()
def head.tw6229837134965345044 : Unit := ()
def head.tw51148904838493908 : Unit := ()
def head.tw3387570628784222811 : Unit := ()
def head.tw2462509980838370666 : Unit := ()
def head.tw7315825445556269638 : Unit := ()
def head.tw8062266292710895198 : Unit := ()
def head.tw4016138880845390354 : Unit := ()
def head.tw6386553598399442191 : Unit := ()
def head.tw3603152476317073986 : Unit := ()
def head.tw14733009234367613390 : Unit := ()
def head.tw12394822853774832169 : Unit := ()
def head.tw14364059080146210839 : Unit := ()
def head.tw7077209663286870285 : Unit := ()
def head.tw1588998889523462085 : Unit := ()
def head.tw2427689406548057370 : Unit := ()
def head.tw17489035723716044551 : Unit := ()
def head.tw13029272215154340041 : Unit := ()
def head.tw11635992057747649600 : Unit := ()
def head.tw15690418888454525347 : Unit := ()
def head.tw7547661154570080423 : Unit := ()
def head.tw13075707268951849013 : Unit := ()
def head.tw7200216205937916231 : Unit := ()
def head.tw2148295259348594950 : Unit := ()
def head.tw8425611671269686227 : Unit := ()
def head.tw2258499232852451295 : Unit := ()
def head.tw13749153600029988744 : Unit := ()
def head.tw5750035740930124156 : Unit := ()
def head.tw7205719323374385383 : Unit := ()
def head.tw3922729948320135483 : Unit := ()
def head.tw1944943179201316239 : Unit := ()
def head.tw9671237223504923836 : Unit := ()
def head.tw9853672686765084745 : Unit := ()
def head.tw15552074229906078358 : Unit := ()
def head.tw8780837400768956963 : Unit := ()
def head.tw7930151910110742097 : Unit := ()
def head.tw5575573150383494877 : Unit := ()
def head.tw8806993360734665878 : Unit := ()
def head.tw2133817998471746476 : Unit := ()
def head.tw3128354285146177051 : Unit := ()
def head.tw3378666985394708262 : Unit := ()
def head.tw5262747137488180581 : Unit := ()
def head.tw10739084859460822326 : Unit := ()
def head.tw4072720357009794376 : Unit := ()
def head.tw1017082373791098590 : Unit := ()
def head.tw16966360847855224132 : Unit := ()
def head.tw960817375230797323 : Unit := ()
def head.tw16354039162809197641 : Unit := ()
def head.tw10024323660172261611 : Unit := ()
def head.tw15431117522699452526 : Unit := ()
def head.tw9446697896352832379 : Unit := ()
def head.tw6436879873126266358 : Unit := ()
def head.tw320511133688283027 : Unit := ()
def head.tw16763031856898275136 : Unit := ()
def head.tw11448457236735557282 : Unit := ()
def head.tw17218962533920467336 : Unit := ()
def head.tw8786867419617076140 : Unit := ()
def head.tw5186549880984127790 : Unit := ()
def head.tw7178080221376641046 : Unit := ()
def head.tw17224924410402786888 : Unit := ()
def head.tw16516377296269176196 : Unit := ()
def head.tw735220060980497968 : Unit := ()
def head.tw8803791472082609714 : Unit := ()
def head.tw16903163127434619667 : Unit := ()
def head.tw10345433350470070678 : Unit := ()
def head.tw14247232973715461065 : Unit := ()
def head.tw2346410340835776708 : Unit := ()
def head.tw12716547612698475287 : Unit := ()
def head.tw14668029906813851297 : Unit := ()
def head.tw1492010329692565292 : Unit := ()
def head.tw13609747765901025343 : Unit := ()
def head.tw10093355561488574833 : Unit := ()
def head.tw1842668606043630909 : Unit := ()
def head.tw14812891142944810351 : Unit := ()
def head.tw16048906842383540001 : Unit := ()
def head.tw10331930492945463034 : Unit := ()
def head.tw17843176800898156415 : Unit := ()
def head.tw5350204045630254213 : Unit := ()
def head.tw7332715041062651568 : Unit := ()
def head.tw10890075506541059893 : Unit := ()
def head.tw7354354138608837769 : Unit := ()
def head.tw8023801501027114723 : Unit := ()
def head.tw18227495374229749902 : Unit := ()
def head.tw4365272184564204100 : Unit := ()
def head.tw61713818864503618 : Unit := ()
def head.tw4334605654376603363 : Unit := ()
def head.tw255298145077730779 : Unit := ()
def head.tw4171404082716353140 : Unit := ()
def head.tw13679653374697378997 : Unit := ()
def head.tw3686463375265934996 : Unit := ()
def head.tw10938464542597352106 : Unit := ()
def head.tw11922969660306732377 : Unit := ()
def head.tw17413532353888795119 : Unit := ()
def head.tw6825227653989513194 : Unit := ()
def head.tw4936130090710696759 : Unit := ()
def head.tw16097567292844483721 : Unit := ()
def head.tw5431476061040853736 : Unit := ()
def head.tw11498593417635705430 : Unit := ()
def head.tw18225530836592485148 : Unit := ()
def head.tw8119750826970121249 : Unit := ()
def head.tw217751810303034988 : Unit := ()
def head.tw6451525005088650940 : Unit := ()
def head.tw7509614706227349109 : Unit := ()
def head.tw14539271928759254992 : Unit := ()
def head.tw2770725477835795897 : Unit := ()
def head.tw14188403907873822781 : Unit := ()
def head.tw5554791565339201193 : Unit := ()
def head.tw8522518305027324734 : Unit := ()
def head.tw4282345222263871244 : Unit := ()
def head.tw15417435259997156901 : Unit := ()
def head.tw7329765489698167057 : Unit := ()
def head.tw9159269606664586284 : Unit := ()
def head.tw3349132111271951571 : Unit := ()
def head.tw14785889257342770038 : Unit := ()
def head.tw11898884524496722437 : Unit := ()
def head.tw9033115884520675380 : Unit := ()
def head.tw316332598425849972 : Unit := ()
def head.tw16462386143419157504 : Unit := ()
def head.tw12987345828215686219 : Unit := ()
def head.tw12257959203729484380 : Unit := ()
def head.tw17538388429313760193 : Unit := ()
def head.tw10353833770249660715 : Unit := ()
def head.tw5730382098618298288 : Unit := ()
def head.tw4468684936673426871 : Unit := ()
def head.tw12410493102040409395 : Unit := ()
def head.tw17034654778101265967 : Unit := ()
def head.tw9744433000704399080 : Unit := ()
def head.tw6845107233627197766 : Unit := ()
def head.tw3089133614196266344 : Unit := ()
def head.tw9684033903571663316 : Unit := ()
def head.tw10981693645786004873 : Unit := ()
def head.tw3060440410638609846 : Unit := ()
def head.tw17535694816019086632 : Unit := ()
def head.tw7875534447020908724 : Unit := ()
def head.tw7619743888987243280 : Unit := ()
def head.tw6805466722817355697 : Unit := ()
def head.tw3038588178232922672 : Unit := ()
def head.tw9120632577609030895 : Unit := ()
def head.tw9557685938497860537 : Unit := ()
def head.tw1753051609752297213 : Unit := ()
def head.tw10470577562921762397 : Unit := ()
def head.tw5679135691566041004 : Unit := ()
def head.tw7730863396018513660 : Unit := ()
def head.tw17588615108546603040 : Unit := ()
def head.tw11789000046281252158 : Unit := ()
def head.tw10634623117349058814 : Unit := ()
def head.tw3718968682746566498 : Unit := ()
def head.tw11048136772298585111 : Unit := ()
def head.tw1831898291736796776 : Unit := ()
def head.tw4060468794363314088 : Unit := ()
def head.tw13965654037069883487 : Unit := ()
def head.tw9505321210877537002 : Unit := ()
def head.tw8219514093101927965 : Unit := ()
def head.tw2142056395329894811 : Unit := ()
def head.tw6374654847120986521 : Unit := ()
def head.tw7629964177685864511 : Unit := ()
def head.tw12050265971203361863 : Unit := ()
def head.tw8556111636951011180 : Unit := ()
def head.tw9563357645651160518 : Unit := ()
def head.tw15761405994797362818 : Unit := ()
def head.tw18383412667239085571 : Unit := ()
def head.tw821721658419272296 : Unit := ()
def head.tw10143211769846208351 : Unit := ()
def head.tw12907341927284353242 : Unit := ()
def head.tw2852803231119295224 : Unit := ()
def head.tw10407694727693362692 : Unit := ()
def head.tw9812312642280244131 : Unit := ()
def head.tw16859250540311440334 : Unit := ()
def head.tw3066123152061054311 : Unit := ()
def head.tw2865388820624959125 : Unit := ()
def head.tw1885052044642284137 : Unit := ()
def head.tw15551771698921187666 : Unit := ()
def head.tw2415559669582209859 : Unit := ()
def head.tw15088944666079495067 : Unit := ()
def head.tw10732178345277149430 : Unit := ()
def head.tw11697646369401858584 : Unit := ()
def head.tw14314642595905556027 : Unit := ()
def head.tw6822595146202200503 : Unit := ()
def head.tw10609978982155632346 : Unit := ()
def head.tw2125865982911257887 : Unit := ()
def head.tw3682370618515869780 : Unit := ()
def head.tw8857644738174536239 : Unit := ()
def head.tw17386112328359144959 : Unit := ()
def head.tw11117382404517931986 : Unit := ()
def head.tw9616918921763455150 : Unit := ()
def head.tw9367847994499986235 : Unit := ()
def head.tw13364360201250620567 : Unit := ()
def head.tw2644641684389281526 : Unit := ()
def head.tw11352977553108517244 : Unit := ()
def head.tw12341123138637889114 : Unit := ()
def head.tw18422168915121005950 : Unit := ()
def head.tw14919974383904483007 : Unit := ()
def head.tw16823310710954124413 : Unit := ()
def head.tw3239943006595744250 : Unit := ()
def head.tw17265854869233693302 : Unit := ()
def head.tw18147449438259602205 : Unit := ()
def head.tw611344403369433849 : Unit := ()
def head.tw6916058608340725943 : Unit := ()
def head.tw16125453283241348730 : Unit := ()
def head.tw1873389374575776788 : Unit := ()
def head.tw17227244613728708863 : Unit := ()
def head.tw11837138965150696866 : Unit := ()
def head.tw9739949190545252655 : Unit := ()
def head.tw9640941842858449384 : Unit := ()
def head.tw1211042981587156923 : Unit := ()
def head.tw2209159162735879756 : Unit := ()
def head.tw16082659892778633736 : Unit := ()
def head.tw2600473240114461886 : Unit := ()
def head.tw9744428442669762873 : Unit := ()
def head.tw1356973377276883652 : Unit := ()
def head.tw4376446419199847650 : Unit := ()
def head.tw12892270125737556041 : Unit := ()
def head.tw18400951103106489289 : Unit := ()
def head.tw11273381542444116546 : Unit := ()
def head.tw10913454653534950659 : Unit := ()
def head.tw1638908538178767485 : Unit := ()
def head.tw3162505038951232146 : Unit := ()
def head.tw11130998889745628739 : Unit := ()
def head.tw11212471076337581537 : Unit := ()
def head.tw7608900869551684658 : Unit := ()
def head.tw1935634263752387805 : Unit := ()
def head.tw6792182038056038877 : Unit := ()
def head.tw11928131232660575231 : Unit := ()
def head.tw11113685492037103673 : Unit := ()
def head.tw6134102552185403728 : Unit := ()
def head.tw14395639521305454957 : Unit := ()
def head.tw5043502260206887498 : Unit := ()
def head.tw17068076406775118968 : Unit := ()
def head.tw12696795546194904107 : Unit := ()
def head.tw2427596492697634950 : Unit := ()
def head.tw5632385533136384735 : Unit := ()
def head.tw7426063862866787023 : Unit := ()
def head.tw17849114369824339471 : Unit := ()
def head.tw9248735421377288261 : Unit := ()
def head.tw3654390758815020672 : Unit := ()
def head.tw15730790153039482010 : Unit := ()
def head.tw6879905845300297615 : Unit := ()
def head.tw6636138804883715912 : Unit := ()
def head.tw1281334523775144712 : Unit := ()
def head.tw16931593196700925873 : Unit := ()
def head.tw13287313496625625458 : Unit := ()
def head.tw15941318610013991048 : Unit := ()
def head.tw817444385430915772 : Unit := ()
def head.tw4657302206754386102 : Unit := ()
def head.tw17936011397592959279 : Unit := ()
def head.tw3365352493744685392 : Unit := ()
def head.tw10887574116324911569 : Unit := ()
def head.tw5976727751020001510 : Unit := ()
def head.tw14105317835057028065 : Unit := ()
def head.tw13058876322896662731 : Unit := ()
def head.tw5761143379720292478 : Unit := ()
def head.tw9325213974427444654 : Unit := ()
def head.tw4428995473237130960 : Unit := ()
def head.tw4131127256573164138 : Unit := ()
def head.tw17947378985644913453 : Unit := ()
def head.tw7447950596983943190 : Unit := ()
def head.tw18250705989989954185 : Unit := ()
def head.tw1191948551333745714 : Unit := ()
def head.tw4125901652175319275 : Unit := ()
def head.tw3489606730473570465 : Unit := ()
def head.tw17769730648868370976 : Unit := ()
def head.tw16505815038241037927 : Unit := ()
def head.tw7551999263953989387 : Unit := ()
def head.tw4126535169498969304 : Unit := ()
def head.tw2720062776625057999 : Unit := ()
def head.tw11967864867913244562 : Unit := ()
def head.tw15376324676896065600 : Unit := ()
def head.tw27935739808661586 : Unit := ()
def head.tw5742075184216442835 : Unit := ()
def head.tw3293181839831053944 : Unit := ()
def head.tw10268643801866463796 : Unit := ()
def head.tw15318699878086567395 : Unit := ()
def head.tw9352680446443871012 : Unit := ()
def head.tw14250037294176029069 : Unit := ()
def head.tw13620187042125375733 : Unit := ()
def head.tw7049882995153374282 : Unit := ()
def head.tw4463466368849208506 : Unit := ()
def head.tw4518812339726730400 : Unit := ()
def head.tw10823675768711970638 : Unit := ()
def head.tw10993239263220513655 : Unit := ()
def head.tw5881160512038847968 : Unit := ()
def head.tw3765239475297712796 : Unit := ()
def head.tw18374146501891711260 : Unit := ()
def head.tw2882324850289840160 : Unit := ()
def head.tw9875632514419736509 : Unit := ()
def head.tw17704836371583336178 : Unit := ()
def head.tw9582440813602332971 : Unit := ()
def head.tw13683281963299474587 : Unit := ()
def head.tw15562219460585959150 : Unit := ()
def head.tw1612834751429759451 : Unit := ()
def head.tw12613433811301422364 : Unit := ()
def head.tw11007010562310037082 : Unit := ()
def head.tw9630000522553206165 : Unit := ()
def head.tw18292624233396110786 : Unit := ()
def head.tw7726276186604432346 : Unit := ()
def head.tw5462078344225314141 : Unit := ()
def head.tw168024698388701734 : Unit := ()
def head.tw8753032156338099329 : Unit := ()
def head.tw15523884113207945248 : Unit := ()
def head.tw13676136925744864904 : Unit := ()
def head.tw6199841768885715282 : Unit := ()
def head.tw3956814293588898476 : Unit := ()
def head.tw16055944274796611463 : Unit := ()
def head.tw14522277418836685617 : Unit := ()
def head.tw17954685065089254552 : Unit := ()
def head.tw3190665364439775114 : Unit := ()
def head.tw11096836809086860579 : Unit := ()
def head.tw14068578043321153044 : Unit := ()
def head.tw11921502728821362576 : Unit := ()
def head.tw17211371936936297421 : Unit := ()
def head.tw4733471070166937335 : Unit := ()
def head.tw13872302941872824367 : Unit := ()
def head.tw16764669919384903040 : Unit := ()
def head.tw2768990343821924453 : Unit := ()
def head.tw15139545383330560262 : Unit := ()
def head.tw6157494939919392237 : Unit := ()
def head.tw13236904110840401629 : Unit := ()
def head.tw752142291751065632 : Unit := ()
def head.tw9345220358066746546 : Unit := ()
def head.tw6624685600596796819 : Unit := ()
def head.tw1475000626641937296 : Unit := ()
def head.tw3927297740581062943 : Unit := ()
def head.tw1575233056930134442 : Unit := ()
def head.tw14117254077663681271 : Unit := ()
def head.tw13819023709523823191 : Unit := ()
def head.tw12892726950086452217 : Unit := ()
def head.tw14578736019699128564 : Unit := ()
def head.tw3439082554449737791 : Unit := ()
def head.tw6886495332568650786 : Unit := ()
def head.tw2656901290065452129 : Unit := ()
def head.tw3995774739199527822 : Unit := ()
def head.tw6554084946095849802 : Unit := ()
def head.tw15492032140372776169 : Unit := ()
def head.tw8539782802433665571 : Unit := ()
def head.tw7544357489588638970 : Unit := ()
def head.tw14175776087491870190 : Unit := ()
def head.tw6102985290365831651 : Unit := ()
def head.tw8795035644299828585 : Unit := ()
def head.tw17066827568321949496 : Unit := ()
def head.tw12632465569835145960 : Unit := ()
def head.tw14081292129712404940 : Unit := ()
def head.tw172870876728092886 : Unit := ()
def head.tw5224508691829794365 : Unit := ()
def head.tw6691667240444983603 : Unit := ()
def head.tw17940430074296551013 : Unit := ()
def head.tw6721307449159283580 : Unit := ()
def head.tw15628711751481387389 : Unit := ()
def head.tw6454359565091835533 : Unit := ()
def head.tw3426853385547884014 : Unit := ()
def head.tw4464905720520956866 : Unit := ()
def head.tw13300147023271480290 : Unit := ()
def head.tw227629220936528814 : Unit := ()
def head.tw9841272314118292743 : Unit := ()
def head.tw1530053657517685599 : Unit := ()
def head.tw11652779899078848248 : Unit := ()
def head.tw5803076819725196132 : Unit := ()
def head.tw9273958884904355332 : Unit := ()
def head.tw14785325295669354058 : Unit := ()
def head.tw15320949647561067616 : Unit := ()
def head.tw10044638150333477871 : Unit := ()
def head.tw17957035731996448740 : Unit := ()
def head.tw13391755725892611711 : Unit := ()
def head.tw871181984802217098 : Unit := ()
def head.tw18294141884280438794 : Unit := ()
def head.tw5435450948005128870 : Unit := ()
def head.tw4178820624886705684 : Unit := ()
def head.tw9851891797862853730 : Unit := ()
def head.tw17179648088724551545 : Unit := ()
def head.tw8052762604675153844 : Unit := ()
def head.tw17236698690845881904 : Unit := ()
def head.tw1430315141005473453 : Unit := ()
def head.tw12444389442261178221 : Unit := ()
def head.tw2880117765281335870 : Unit := ()
def head.tw2462559048693826134 : Unit := ()
def head.tw3366401123536688464 : Unit := ()
def head.tw14546727265629084320 : Unit := ()
def head.tw12794385482044472182 : Unit := ()
def head.tw17084069906132181470 : Unit := ()
def head.tw13368039639883640141 : Unit := ()
def head.tw2514865571016907447 : Unit := ()
def head.tw213854962787093698 : Unit := ()
def head.tw13900371606515162850 : Unit := ()
def head.tw16345791227340092318 : Unit := ()
def head.tw4964074495568213325 : Unit := ()
def head.tw9467168580101747369 : Unit := ()
def head.tw8320496340364509 : Unit := ()
def head.tw4183663030641275924 : Unit := ()
def head.tw15600549325161906418 : Unit := ()
def head.tw7342997580561527179 : Unit := ()
def head.tw15439571422535218290 : Unit := ()
def head.tw307406877967261580 : Unit := ()
def head.tw2614826775174422899 : Unit := ()
def head.tw13085580943510492837 : Unit := ()
def head.tw13386162422025640799 : Unit := ()
def head.tw7536645888790732370 : Unit := ()
def head.tw5727186295651033306 : Unit := ()
def head.tw4466855398633131890 : Unit := ()
def head.tw11397213983124533512 : Unit := ()
def head.tw11926066008654877282 : Unit := ()
def head.tw2954551907840725959 : Unit := ()
def head.tw18168864133395445503 : Unit := ()
def head.tw11951355262134147619 : Unit := ()
def head.tw4881830931486566492 : Unit := ()
def head.tw466871060357766667 : Unit := ()
def head.tw1457370168955750072 : Unit := ()
def head.tw478572323907333862 : Unit := ()
def head.tw10000582535759399553 : Unit := ()
def head.tw7658818933961408665 : Unit := ()
def head.tw3170135247881550292 : Unit := ()
def head.tw14546603206687470831 : Unit := ()
def head.tw210108236106311340 : Unit := ()
def head.tw6812173254179626730 : Unit := ()
def head.tw594704199550896364 : Unit := ()
def head.tw17582228223963557113 : Unit := ()
def head.tw9729616694414481006 : Unit := ()
def head.tw16555749253042714592 : Unit := ()
def head.tw17175692086777646585 : Unit := ()
def head.tw9901365540523485988 : Unit := ()
def head.tw4993850909178509693 : Unit := ()
def head.tw3087861246959143843 : Unit := ()
def head.tw9619463889986162880 : Unit := ()
def head.tw7623550755583391841 : Unit := ()
def head.tw8508395625561543223 : Unit := ()
def head.tw10790459545426502234 : Unit := ()
def head.tw9917633129907787815 : Unit := ()
def head.tw12715172933749226905 : Unit := ()
def head.tw17937629405799008820 : Unit := ()
def head.tw3243258495559398106 : Unit := ()
def head.tw13820632839836711081 : Unit := ()
def head.tw15662363090547052978 : Unit := ()
def head.tw18205748137977856731 : Unit := ()
def head.tw12598231081981324865 : Unit := ()
def head.tw13421112486629203901 : Unit := ()
def head.tw8812676059560733446 : Unit := ()
def head.tw18440799014827922827 : Unit := ()
def head.tw11460580663753827311 : Unit := ()
def head.tw11091046852611868696 : Unit := ()
def head.tw12880490175917096651 : Unit := ()
def head.tw1710101933491966850 : Unit := ()
def head.tw1988477164733429497 : Unit := ()
def head.tw11490562453962626608 : Unit := ()
def head.tw17992275736799766881 : Unit := ()
def head.tw11834849419477591606 : Unit := ()
def head.tw5428987600596631922 : Unit := ()
def head.tw15189006300264665595 : Unit := ()
def head.tw7845336517621193567 : Unit := ()
def head.tw17636032301327629410 : Unit := ()
def head.tw4649502978183636547 : Unit := ()
def head.tw9288050873123518607 : Unit := ()
def head.tw17826601098976537135 : Unit := ()
def head.tw3481247544973924078 : Unit := ()
def head.tw15148329651920395526 : Unit := ()
def head.tw18012535580364038161 : Unit := ()
def head.tw12556404112842599060 : Unit := ()
def head.tw14359078506672004897 : Unit := ()
def head.tw6758095992412444142 : Unit := ()
def head.tw10563790019279071092 : Unit := ()
def head.tw5387396795237057478 : Unit := ()
def head.tw5757530614872506160 : Unit := ()
def head.tw2474510527551748884 : Unit := ()
def head.tw5617645434550880833 : Unit := ()
def head.tw7022920536615419440 : Unit := ()
def head.tw1501788042078761842 : Unit := ()
def head.tw413453090644570912 : Unit := ()
def head.tw12242023697086250348 : Unit := ()
def head.tw11468787686823720059 : Unit := ()
def head.tw3995553898924099588 : Unit := ()
def head.tw9648993773214528412 : Unit := ()
def head.tw10620185905779755679 : Unit := ()
def head.tw4368809820158642122 : Unit := ()
def head.tw2676691496142756271 : Unit := ()
def head.tw16878899209960844262 : Unit := ()
def head.tw445848483822676984 : Unit := ()
def head.tw12585118612744143440 : Unit := ()
def head.tw7365368072728555507 : Unit := ()
def head.tw7361868050534549171 : Unit := ()
def head.tw3211908528010551787 : Unit := ()
def head.tw11933505167164814718 : Unit := ()
def head.tw14818060551437736151 : Unit := ()
def head.tw14497451075530773341 : Unit := ()
def head.tw15361410601487597534 : Unit := ()
def head.tw11964163846143255618 : Unit := ()
def head.tw5266913323784402736 : Unit := ()
def head.tw17335966914653860434 : Unit := ()
def head.tw2287042583223959329 : Unit := ()
def head.tw18386309888590434370 : Unit := ()
def head.tw4671431052669579718 : Unit := ()
def head.tw2446642896676010460 : Unit := ()
def head.tw1004558267992321727 : Unit := ()
def head.tw16277206065971014316 : Unit := ()
def head.tw2074816045253348948 : Unit := ()
def head.tw654156216034725872 : Unit := ()
def head.tw9566772336620182079 : Unit := ()
def head.tw1342643427122346846 : Unit := ()
def head.tw14543908614844508167 : Unit := ()
def head.tw5066051495131325019 : Unit := ()
def head.tw1528803642439863696 : Unit := ()
def head.tw14477911075290513570 : Unit := ()
def head.tw12660642750235097369 : Unit := ()
def head.tw11064880648364942938 : Unit := ()
def head.tw6059168787762159820 : Unit := ()
def head.tw15839014119128505108 : Unit := ()
def head.tw15482551462640424533 : Unit := ()
def head.tw17848054236502102893 : Unit := ()
def head.tw6256012933893620844 : Unit := ()
def head.tw16295322370276035552 : Unit := ()
def head.tw7464757943270577403 : Unit := ()
def head.tw16596300832489906037 : Unit := ()
def head.tw18391122935388897700 : Unit := ()
def head.tw15368572549490701601 : Unit := ()
def head.tw18130042961843345886 : Unit := ()
def head.tw13129825784707244556 : Unit := ()
def head.tw15927337822637564431 : Unit := ()
def head.tw11380896115440077419 : Unit := ()
def head.tw14340058616173062750 : Unit := ()
def head.tw8654661416243555796 : Unit := ()
def head.tw16427157239702312822 : Unit := ()
def head.tw1467251398299575979 : Unit := ()
def head.tw5187929668073589872 : Unit := ()
def head.tw8046095237642921831 : Unit := ()
def head.tw14657594914833621036 : Unit := ()
def head.tw17326148943829985839 : Unit := ()
def head.tw15413388397295328502 : Unit := ()
def head.tw411878911242924206 : Unit := ()
def head.tw11734149836464880395 : Unit := ()
def head.tw6923099224382315093 : Unit := ()
def head.tw16083886269967319321 : Unit := ()
def head.tw14234074484760241643 : Unit := ()
def head.tw6365090639678732196 : Unit := ()
def head.tw3399651939625434956 : Unit := ()
def head.tw6352373196649211309 : Unit := ()
def head.tw15826988844205317432 : Unit := ()
def head.tw5394589617739464200 : Unit := ()
def head.tw13492072595077559282 : Unit := ()
def head.tw3558511644146900344 : Unit := ()
def head.tw14011519659809202873 : Unit := ()
def head.tw9728821290697937959 : Unit := ()
def head.tw14624653610690257391 : Unit := ()
def head.tw1357086386368834826 : Unit := ()
def head.tw6787778949366760054 : Unit := ()
def head.tw2000662255546073577 : Unit := ()
def head.tw10813529858081785586 : Unit := ()
def head.tw11568196843454051010 : Unit := ()
def head.tw14187676403860425111 : Unit := ()
def head.tw11776848496246042585 : Unit := ()
def head.tw1258062260815053013 : Unit := ()
def head.tw6587385662633871515 : Unit := ()
def head.tw15544973811014846982 : Unit := ()
def head.tw2051373092123566770 : Unit := ()
def head.tw492330359016538433 : Unit := ()
def head.tw6998257553870430630 : Unit := ()
def head.tw13181421152114440260 : Unit := ()
def head.tw4529426265220361978 : Unit := ()
def head.tw14995527582267400074 : Unit := ()
def head.tw4114054023323496265 : Unit := ()
def head.tw1703858372489529754 : Unit := ()
def head.tw16570503935809708965 : Unit := ()
def head.tw2955981113123320509 : Unit := ()
def head.tw9177565365009422873 : Unit := ()
def head.tw1138405272937094216 : Unit := ()
def head.tw3353830742905100939 : Unit := ()
def head.tw5813925450980383284 : Unit := ()
def head.tw3745699598402518605 : Unit := ()
def head.tw10380812506269388331 : Unit := ()
def head.tw4415108666050989073 : Unit := ()
def head.tw2077978726829071256 : Unit := ()
def head.tw13046889487096852360 : Unit := ()
def head.tw12112717007407526120 : Unit := ()
def head.tw3183842285736792904 : Unit := ()
def head.tw8283485443695550287 : Unit := ()
def head.tw18196978664853057489 : Unit := ()
def head.tw11609389357374161311 : Unit := ()
def head.tw3036421745128596675 : Unit := ()
def head.tw1269651794679857419 : Unit := ()
def head.tw10473046153238643847 : Unit := ()
def head.tw9053921583148284604 : Unit := ()
def head.tw13972584319120212772 : Unit := ()
def head.tw16027450244977346819 : Unit := ()
def head.tw6214062873002237566 : Unit := ()
def head.tw7400778134636878361 : Unit := ()
def head.tw4747847215974616972 : Unit := ()
def head.tw3482105514423718462 : Unit := ()
def head.tw15432944865098201493 : Unit := ()
def head.tw14321464448210645197 : Unit := ()
def head.tw6243261814420863572 : Unit := ()
def head.tw10546267095129279538 : Unit := ()
def head.tw10586173736415704855 : Unit := ()
def head.tw16761019138870516765 : Unit := ()
def head.tw16035929291460002062 : Unit := ()
def head.tw15052201795878905148 : Unit := ()
def head.tw6421775239486601110 : Unit := ()
def head.tw8557989473715009405 : Unit := ()
def head.tw4705100209077115173 : Unit := ()
def head.tw17408701256479463416 : Unit := ()
def head.tw14977246805818123736 : Unit := ()
def head.tw339566868115231919 : Unit := ()
def head.tw6179241429104293048 : Unit := ()
def head.tw4825817665439032321 : Unit := ()
def head.tw14622750272548381937 : Unit := ()
def head.tw6043054116395299347 : Unit := ()
def head.tw14869660450943532240 : Unit := ()
def head.tw279958579188731876 : Unit := ()
def head.tw5841808109835448135 : Unit := ()
def head.tw17493576614427474462 : Unit := ()
def head.tw2479757284677874471 : Unit := ()
def head.tw227513405085312723 : Unit := ()
def head.tw7300397122869634789 : Unit := ()
def head.tw2813567476231347480 : Unit := ()
def head.tw14775524937229684548 : Unit := ()
def head.tw13535829214755872182 : Unit := ()
def head.tw940261687872349011 : Unit := ()
def head.tw11092495599207148315 : Unit := ()
def head.tw3890389457567933991 : Unit := ()
def head.tw1817670943093145795 : Unit := ()
def head.tw722688901398713392 : Unit := ()
def head.tw8172106364159478586 : Unit := ()
def head.tw4519716039230912768 : Unit := ()
def head.tw4523098616070477450 : Unit := ()
def head.tw9909988147480630310 : Unit := ()
def head.tw7154196554422365648 : Unit := ()
def head.tw651697439132383438 : Unit := ()
def head.tw5588705524144470386 : Unit := ()
def head.tw7092471080121352249 : Unit := ()
def head.tw14072084442036361027 : Unit := ()
def head.tw7040912843421888943 : Unit := ()
def head.tw17759234402684643616 : Unit := ()
def head.tw733337042164701391 : Unit := ()
def head.tw9413024154816474603 : Unit := ()
def head.tw3614304305849761443 : Unit := ()
def head.tw406033732963241760 : Unit := ()
def head.tw16644014937889439965 : Unit := ()
def head.tw17116063337002187647 : Unit := ()
def head.tw8938167513939094712 : Unit := ()
def head.tw16189334836914153422 : Unit := ()
def head.tw12030227955564427263 : Unit := ()
def head.tw14587715282227812401 : Unit := ()
def head.tw10498668249687972143 : Unit := ()
def head.tw3759879630045027130 : Unit := ()
def head.tw8569220016244557296 : Unit := ()
def head.tw10023967199086308835 : Unit := ()
def head.tw15035086891289998720 : Unit := ()
def head.tw5976393196662275077 : Unit := ()
def head.tw108589659603457161 : Unit := ()
def head.tw16353077725383727019 : Unit := ()
def head.tw17975283948090963572 : Unit := ()
def head.tw9661756288008405233 : Unit := ()
def head.tw11671057247024910230 : Unit := ()
def head.tw15786393848795917902 : Unit := ()
def head.tw6165231583676996770 : Unit := ()
def head.tw14223035103193486838 : Unit := ()
def head.tw8812403067679244497 : Unit := ()
def head.tw14547489185673982418 : Unit := ()
def head.tw5049961781255885622 : Unit := ()
def head.tw7476230997324351879 : Unit := ()
def head.tw2004365814818809638 : Unit := ()
def head.tw17301847896224308677 : Unit := ()
def head.tw5914410836607104762 : Unit := ()
def head.tw3440249183846502572 : Unit := ()
def head.tw10144697671753213615 : Unit := ()
def head.tw15788936188421904787 : Unit := ()
def head.tw10465891645366290692 : Unit := ()
def head.tw6599396512203988578 : Unit := ()
def head.tw6211644194754793964 : Unit := ()
def head.tw1735542587390045596 : Unit := ()
def head.tw13784625342439849685 : Unit := ()
def head.tw3486169019183665638 : Unit := ()
def head.tw6848291429640183823 : Unit := ()
def head.tw17255388693061007878 : Unit := ()
def head.tw7207604054439252787 : Unit := ()
def head.tw14197347938474655992 : Unit := ()
def head.tw11818222590363337751 : Unit := ()
def head.tw14184727920493424107 : Unit := ()
def head.tw12051115762642354565 : Unit := ()
def head.tw8339381119122479644 : Unit := ()
def head.tw6419026868525893482 : Unit := ()
def head.tw12898574612701963310 : Unit := ()
def head.tw10859240658097780906 : Unit := ()
def head.tw15516983975922326413 : Unit := ()
def head.tw14212007060867528063 : Unit := ()
def head.tw3891618554008302659 : Unit := ()
def head.tw15515612801736034068 : Unit := ()
def head.tw17842410240638077810 : Unit := ()
def head.tw2435806757279004623 : Unit := ()
def head.tw7414131601657932518 : Unit := ()
def head.tw2812406496456609469 : Unit := ()
def head.tw8793519229099106628 : Unit := ()
def head.tw13863396151666208386 : Unit := ()
def head.tw13117272672879772383 : Unit := ()
def head.tw16067587746766507561 : Unit := ()
def head.tw13069112131604766176 : Unit := ()
def head.tw220913385068816746 : Unit := ()
def head.tw5318964808454272829 : Unit := ()
def head.tw9934807595405647050 : Unit := ()
def head.tw1385879038624111255 : Unit := ()
def head.tw16781339843487334809 : Unit := ()
def head.tw12537918784866212648 : Unit := ()
def head.tw9191177245139413342 : Unit := ()
def head.tw5873813609656397588 : Unit := ()
def head.tw743325540307031630 : Unit := ()
def head.tw17002682264904909001 : Unit := ()
def head.tw5692561127517737954 : Unit := ()
def head.tw2900581377929238833 : Unit := ()
def head.tw9406375795189155179 : Unit := ()
def head.tw13809766205652745989 : Unit := ()
def head.tw10342119503749248072 : Unit := ()
def head.tw15505008037783342529 : Unit := ()
def head.tw13358126166930618984 : Unit := ()
def head.tw6187823986772542691 : Unit := ()
def head.tw16463927053387205923 : Unit := ()
def head.tw13429879501844799432 : Unit := ()
def head.tw4763761851796623041 : Unit := ()
def head.tw10479957879309200059 : Unit := ()
def head.tw16790368695009071660 : Unit := ()
def head.tw9730007012287945584 : Unit := ()
def head.tw7767993851924920108 : Unit := ()
def head.tw429653150366961996 : Unit := ()
def head.tw9052035117434345150 : Unit := ()
def head.tw6168550174415366192 : Unit := ()
def head.tw12203989073614783180 : Unit := ()
def head.tw9612488653147360035 : Unit := ()
def head.tw2037306245737798511 : Unit := ()
def head.tw10418694843154716163 : Unit := ()
def head.tw1393763741682936937 : Unit := ()
def head.tw14200610719645048754 : Unit := ()
def head.tw18130672047247895406 : Unit := ()
def head.tw9792659341175700282 : Unit := ()
def head.tw1277872568924243227 : Unit := ()
def head.tw3077936107857670183 : Unit := ()
def head.tw11594179093838686107 : Unit := ()
def head.tw18360937787949611698 : Unit := ()
def head.tw7638940882133768250 : Unit := ()
def head.tw9382789884017786521 : Unit := ()
def head.tw13480784916589116109 : Unit := ()
def head.tw6338120941358612289 : Unit := ()
def head.tw9584997946140377936 : Unit := ()
def head.tw7240995457141040057 : Unit := ()
def head.tw1775277651257931480 : Unit := ()
def head.tw8731582246653623953 : Unit := ()
def head.tw16694108580565217309 : Unit := ()
def head.tw13997287228705677232 : Unit := ()
def head.tw767148850400213707 : Unit := ()
def head.tw6566375855055375725 : Unit := ()
def head.tw2069600006135077391 : Unit := ()
def head.tw3545963738198130344 : Unit := ()
def head.tw8294209007407230114 : Unit := ()
def head.tw913785236030246720 : Unit := ()
def head.tw7578822273379408721 : Unit := ()
def head.tw9634641383408131724 : Unit := ()
def head.tw8425033907689217777 : Unit := ()
def head.tw6833857431300229595 : Unit := ()
def head.tw481391356284083185 : Unit := ()
def head.tw2152094232809010862 : Unit := ()
def head.tw8839367848882248071 : Unit := ()
def head.tw35245434501626645 : Unit := ()
def head.tw9666117612784728526 : Unit := ()
def head.tw13752777650190998736 : Unit := ()
def head.tw2888743369463809897 : Unit := ()
def head.tw855899120832694390 : Unit := ()
def head.tw12488971346626272361 : Unit := ()
def head.tw2608379316815509010 : Unit := ()
def head.tw12742288253622617705 : Unit := ()
def head.tw8292263559670185809 : Unit := ()
def head.tw2560480742024625209 : Unit := ()
def head.tw16073266039382469704 : Unit := ()
def head.tw2258150021429768338 : Unit := ()
def head.tw4247799714049406904 : Unit := ()
def head.tw6665376523877112928 : Unit := ()
def head.tw9801417528320233466 : Unit := ()
def head.tw6685532965440637582 : Unit := ()
def head.tw13176443327637554581 : Unit := ()
def head.tw987957745017458884 : Unit := ()
def head.tw14983855224836034506 : Unit := ()
def head.tw8310924351323953693 : Unit := ()
def head.tw738702910422009456 : Unit := ()
def head.tw6635253140682857568 : Unit := ()
def head.tw2452122554961383712 : Unit := ()
def head.tw3553329440702125957 : Unit := ()
def head.tw16102421344192367633 : Unit := ()
def head.tw3527463034749979793 : Unit := ()
def head.tw9389692448110542283 : Unit := ()
def head.tw17097071242433040630 : Unit := ()
def head.tw16526439637186792506 : Unit := ()
def head.tw4819274691006582465 : Unit := ()
def head.tw16376459948537902785 : Unit := ()
def head.tw5594195484333959091 : Unit := ()
def head.tw3996992082754784223 : Unit := ()
def head.tw15231269756760763365 : Unit := ()
def head.tw11933416316772139151 : Unit := ()
def head.tw3532655370426746742 : Unit := ()
def head.tw13153934165692620110 : Unit := ()
def head.tw13114790935586355065 : Unit := ()
def head.tw9750516698089316266 : Unit := ()
def head.tw12832181995808988729 : Unit := ()
def head.tw8607283047006481826 : Unit := ()
def head.tw17637019789162707211 : Unit := ()
def head.tw14472940600286246677 : Unit := ()
def head.tw13103776942435016318 : Unit := ()
def head.tw3133943468692722943 : Unit := ()
def head.tw3850826714884645435 : Unit := ()
def head.tw7202184075429339263 : Unit := ()
def head.tw16010959764080860612 : Unit := ()
def head.tw2527947610335930613 : Unit := ()
def head.tw14415980876945196112 : Unit := ()
def head.tw15323784330851111625 : Unit := ()
def head.tw9668473720985119349 : Unit := ()
def head.tw7286891450636789725 : Unit := ()
def head.tw2366660062575893672 : Unit := ()
def head.tw1953419082754664891 : Unit := ()
def head.tw7804983522585807867 : Unit := ()
def head.tw7597175701872323891 : Unit := ()
def head.tw12041218759213217779 : Unit := ()
def head.tw841027950858223666 : Unit := ()
def head.tw15071492336500860699 : Unit := ()
def head.tw10207735899031884672 : Unit := ()
def head.tw7937707665989730653 : Unit := ()
def head.tw11246596778529197526 : Unit := ()
def head.tw9349166240623497155 : Unit := ()
def head.tw13116611405013585034 : Unit := ()
def head.tw3227319366831924690 : Unit := ()
def head.tw5189681562794841228 : Unit := ()
def head.tw16924111574461927880 : Unit := ()
def head.tw2809764839547220056 : Unit := ()
def head.tw12276717158554250039 : Unit := ()
def head.tw15033199178602747173 : Unit := ()
def head.tw925451202724368548 : Unit := ()
def head.tw10914062504309975291 : Unit := ()
def head.tw18308793787055473668 : Unit := ()
def head.tw4297120939242018474 : Unit := ()
def head.tw16843916961609758405 : Unit := ()
def head.tw3421631739599503921 : Unit := ()
def head.tw17825824588962028805 : Unit := ()
def head.tw7378814511997692675 : Unit := ()
def head.tw2131391692999356813 : Unit := ()
def head.tw4464828020915221618 : Unit := ()
def head.tw1180154186099492246 : Unit := ()
def head.tw1534933759964458742 : Unit := ()
def head.tw1175624027474413007 : Unit := ()
def head.tw16625254777651393514 : Unit := ()
def head.tw6530552564680085787 : Unit := ()
def head.tw1513010822273119356 : Unit := ()
def head.tw10412802532640486514 : Unit := ()
def head.tw5582715809166574763 : Unit := ()
def head.tw12103384555550821287 : Unit := ()
def head.tw14557215434572289706 : Unit := ()
def head.tw15838105471020597332 : Unit := ()
def head.tw9784637755024139732 : Unit := ()
def head.tw1537372618461020292 : Unit := ()
def head.tw7538811412777172844 : Unit := ()
def head.tw6122916188177301016 : Unit := ()
def head.tw10646723310318500610 : Unit := ()
def head.tw3861445983268663568 : Unit := ()
def head.tw12581886583508346704 : Unit := ()
def head.tw11583419431905268821 : Unit := ()
def head.tw14325909752244124916 : Unit := ()
def head.tw10930112869588932232 : Unit := ()
def head.tw4134303489771756190 : Unit := ()
def head.tw7173091080705431848 : Unit := ()
def head.tw9061261555681708705 : Unit := ()
def head.tw1556207436298362129 : Unit := ()
def head.tw16191699112379770337 : Unit := ()
def head.tw12155874385896679157 : Unit := ()
def head.tw13057845416292441079 : Unit := ()
def head.tw4923618201664781997 : Unit := ()
def head.tw457325659987058576 : Unit := ()
def head.tw3729802962911682574 : Unit := ()
def head.tw16210032325165969157 : Unit := ()
def head.tw3830705716766565308 : Unit := ()
def head.tw1287131232106805132 : Unit := ()
def head.tw17552115102409238821 : Unit := ()
def head.tw11471748003924844754 : Unit := ()
def head.tw12453127709553123397 : Unit := ()
def head.tw5853891557958304030 : Unit := ()
def head.tw5282794051181233294 : Unit := ()
def head.tw9569261893711135 : Unit := ()
def head.tw11045889208240318429 : Unit := ()
def head.tw14041132830570862932 : Unit := ()
def head.tw10194989555262221044 : Unit := ()
def head.tw1807052236325489199 : Unit := ()
def head.tw5243097364279090226 : Unit := ()
def head.tw11374454970459144498 : Unit := ()
def head.tw13756045313039067428 : Unit := ()
def head.tw5740102278289971709 : Unit := ()
def head.tw3854405089066304747 : Unit := ()
def head.tw2756933926979222853 : Unit := ()
def head.tw11400809129844838299 : Unit := ()
def head.tw2972402308891896104 : Unit := ()
def head.tw4932614525639099199 : Unit := ()
def head.tw8684762739281217109 : Unit := ()
def head.tw8102762302730208139 : Unit := ()
def head.tw15742770122509179599 : Unit := ()
def head.tw13532794458490921217 : Unit := ()
def head.tw5032456416238609776 : Unit := ()
def head.tw11548471224402107925 : Unit := ()
def head.tw5616447110346974171 : Unit := ()
def head.tw5314852754712508888 : Unit := ()
def head.tw8098721102048717804 : Unit := ()
def head.tw7514002858909848135 : Unit := ()
def head.tw12653218746998769005 : Unit := ()
def head.tw2435802922339029035 : Unit := ()
def head.tw11438694692770952392 : Unit := ()
def head.tw11108819128640571938 : Unit := ()
def head.tw855247745999513550 : Unit := ()
def head.tw18037467382451769782 : Unit := ()
def head.tw10688932740142208555 : Unit := ()
def head.tw11731311904107457239 : Unit := ()
def head.tw1688559723114787551 : Unit := ()
def head.tw15157163477263046678 : Unit := ()
def head.tw12988474121055354184 : Unit := ()
def head.tw18221548595631264202 : Unit := ()
def head.tw697973436746889302 : Unit := ()
def head.tw1202680754629604854 : Unit := ()
def head.tw50132992349945597 : Unit := ()
def head.tw14664064187082118402 : Unit := ()
def head.tw8720805159382467495 : Unit := ()
def head.tw11693895930587223190 : Unit := ()
def head.tw17696631858171599928 : Unit := ()
def head.tw16211998416583515428 : Unit := ()
def head.tw16218300626622265748 : Unit := ()
def head.tw6074800462829891694 : Unit := ()
def head.tw12731259586303501662 : Unit := ()
def head.tw2954651724798206394 : Unit := ()
def head.tw3881583859155510923 : Unit := ()
def head.tw3719370808970742082 : Unit := ()
def head.tw4282208133720240221 : Unit := ()
def head.tw2202113743856684580 : Unit := ()
def head.tw1008975007662210809 : Unit := ()
def head.tw15257777307251433950 : Unit := ()
def head.tw5019922833422543653 : Unit := ()
def head.tw11008525231649824908 : Unit := ()
def head.tw4577125432259033795 : Unit := ()
def head.tw14032687757588436733 : Unit := ()
def head.tw224976115698236693 : Unit := ()
def head.tw8739261792750937589 : Unit := ()
def head.tw11685061400387826932 : Unit := ()
def head.tw5632199627257015113 : Unit := ()
def head.tw15528833181592393990 : Unit := ()
def head.tw14690929615531205701 : Unit := ()
def head.tw5508692364021385138 : Unit := ()
def head.tw14162688981355571497 : Unit := ()
def head.tw8201992102170666568 : Unit := ()
def head.tw12259900309599027505 : Unit := ()
def head.tw3181679908889760746 : Unit := ()
def head.tw1526728836230967553 : Unit := ()
def head.tw18399832448087456514 : Unit := ()
def head.tw16311637828689857336 : Unit := ()
def head.tw13999600088485678331 : Unit := ()
def head.tw9449248605567939431 : Unit := ()
def head.tw6976220732927155441 : Unit := ()
def head.tw12776543388970983072 : Unit := ()
def head.tw15966346843858476752 : Unit := ()
def head.tw320877836298949387 : Unit := ()
def head.tw6991179735039004077 : Unit := ()
def head.tw4664576178198035586 : Unit := ()
def head.tw10821564911401597564 : Unit := ()
def head.tw16278959341035790931 : Unit := ()
def head.tw11120096248677642584 : Unit := ()
def head.tw9190737518939613138 : Unit := ()
def head.tw16850352094326449879 : Unit := ()
def head.tw1730375216161399971 : Unit := ()
def head.tw14540973613070759494 : Unit := ()
def head.tw7047148559634423914 : Unit := ()
def head.tw3048146819829318714 : Unit := ()
def head.tw4725452069296206695 : Unit := ()
def head.tw14909596916918427466 : Unit := ()
def head.tw8809886616425414098 : Unit := ()
def head.tw14261748590563174692 : Unit := ()
def head.tw3287593724567304683 : Unit := ()
def head.tw11759571265450438496 : Unit := ()
def head.tw3394661950962167905 : Unit := ()
def head.tw9729490125727616436 : Unit := ()
def head.tw7712214154435397993 : Unit := ()
def head.tw8462940934576707445 : Unit := ()
def head.tw3946459784969654574 : Unit := ()
def head.tw14982534685067436596 : Unit := ()
def head.tw15997166711763427839 : Unit := ()
def head.tw12954672553196466379 : Unit := ()
def head.tw6701642064366219468 : Unit := ()
def head.tw4342761621406613264 : Unit := ()
def head.tw12726155908419963305 : Unit := ()
def head.tw14033589442750128662 : Unit := ()
def head.tw5401389373346456390 : Unit := ()
def head.tw10986328603609788586 : Unit := ()
def head.tw15699408971119929571 : Unit := ()
def head.tw3027153956726894871 : Unit := ()
def head.tw1825355233223732713 : Unit := ()
def head.tw15852536916571038528 : Unit := ()
def head.tw18293974710759844606 : Unit := ()
def head.tw4274874853985863131 : Unit := ()
def head.tw17203196910622656194 : Unit := ()
def head.tw10486589069150811313 : Unit := ()
def head.tw13393695500360829807 : Unit := ()
def head.tw3287959460447456678 : Unit := ()
def head.tw9229129079536300886 : Unit := ()
def head.tw8137728297909184418 : Unit := ()
def head.tw1291683868531303500 : Unit := ()
def head.tw6177855791730102481 : Unit := ()
def head.tw6943603660174823657 : Unit := ()
def head.tw4546859024253814593 : Unit := ()
def head.tw4745870285974543420 : Unit := ()
def head.tw5871029580633503303 : Unit := ()
def head.tw10338866439454858113 : Unit := ()
def head.tw5544182752375046876 : Unit := ()
def head.tw12290355021003547902 : Unit := ()
def head.tw14519253736879737144 : Unit := ()
def head.tw17099200477922121575 : Unit := ()
def head.tw2687153110338667391 : Unit := ()
def head.tw11170490241713136647 : Unit := ()
def head.tw2358302978002974098 : Unit := ()
def head.tw727656953609374727 : Unit := ()
def head.tw16287227899218517679 : Unit := ()
def head.tw5352858179565618649 : Unit := ()
def head.tw5193304596065683722 : Unit := ()
def head.tw14694255586407042801 : Unit := ()
def head.tw3474809621349081903 : Unit := ()
def head.tw10980465260247667244 : Unit := ()
def head.tw4615429164831276926 : Unit := ()
def head.tw9442293219753780375 : Unit := ()
def head.tw16204148261066824880 : Unit := ()
def head.tw15423734657764340312 : Unit := ()
def head.tw10518275963647679395 : Unit := ()
def head.tw11245585669485911774 : Unit := ()
def head.tw3007235406070951053 : Unit := ()
def head.tw8796739238326147203 : Unit := ()
def head.tw2823074511264351142 : Unit := ()
def head.tw1897847011134641823 : Unit := ()
def head.tw13663261708402487338 : Unit := ()
def head.tw17740947701506835736 : Unit := ()
def head.tw11911985289759485446 : Unit := ()
def head.tw18060488143210765247 : Unit := ()
def head.tw10805485071935523482 : Unit := ()
def head.tw9697767303881650713 : Unit := ()
def head.tw17226933955943622262 : Unit := ()
def head.tw8871424715050852912 : Unit := ()
def head.tw6559063358950966422 : Unit := ()
def head.tw6792626512988550222 : Unit := ()
def head.tw8437109380820703761 : Unit := ()
def head.tw18036311799392322423 : Unit := ()
def head.tw16568828267769816548 : Unit := ()
def head.tw1740869927071556712 : Unit := ()
def head.tw4520846123185519987 : Unit := ()
def head.tw7377960136762931929 : Unit := ()
def head.tw3469709441501446700 : Unit := ()
def head.tw16572091476093596323 : Unit := ()
def head.tw13091558189998653147 : Unit := ()
def head.tw9317317379501871257 : Unit := ()
def head.tw15197331210158397056 : Unit := ()
def head.tw3491174693155585559 : Unit := ()
def head.tw17000148850877643978 : Unit := ()
def head.tw7787182512623266362 : Unit := ()
def head.tw4328648369458820726 : Unit := ()
def head.tw14152295823629601093 : Unit := ()
def head.tw16281717169742647950 : Unit := ()
def head.tw8661549686575987950 : Unit := ()
def head.tw15375212530983669536 : Unit := ()
def head.tw8604370665395963354 : Unit := ()
def head.tw3015406133704019645 : Unit := ()
def head.tw15244783657315639102 : Unit := ()
def head.tw8074900768155811123 : Unit := ()
def head.tw4045986162168358080 : Unit := ()
def head.tw18135979295374289574 : Unit := ()
def head.tw15075266396000696587 : Unit := ()
def head.tw16276263973524593756 : Unit := ()
def head.tw3199429393778778304 : Unit := ()
def head.tw16340637825595592016 : Unit := ()
def head.tw15131869913596245629 : Unit := ()
def head.tw10008375263243682365 : Unit := ()
def head.tw522134795640188905 : Unit := ()
def head.tw4865775424755671993 : Unit := ()
def head.tw7510678649543852300 : Unit := ()
def head.tw5367891212673256457 : Unit := ()
def head.tw4734391712431892457 : Unit := ()
def head.tw15904531078765764377 : Unit := ()
def head.tw17730107512767540741 : Unit := ()
def head.tw2479757277352430472 : Unit := ()
def head.tw18072761497579186365 : Unit := ()
def head.tw4411963260472076242 : Unit := ()
def head.tw14388854757726765883 : Unit := ()
def head.tw5227798952938663831 : Unit := ()
def head.tw18179116206528330215 : Unit := ()
def head.tw6524658605675746821 : Unit := ()
def head.tw6050953200883512407 : Unit := ()
def head.tw6051178981989121279 : Unit := ()
def head.tw10981161505803097425 : Unit := ()
def head.tw10506405337610108166 : Unit := ()
def head.tw10805133053469017931 : Unit := ()
def head.tw3830106080002454289 : Unit := ()
def head.tw11362369025593228088 : Unit := ()
def head.tw5460805907555737279 : Unit := ()
def head.tw12213125865145117705 : Unit := ()
def head.tw4371034958539865901 : Unit := ()
def head.tw2427080651869081053 : Unit := ()
def head.tw18088566648312375802 : Unit := ()
def head.tw3372143370132593242 : Unit := ()
def head.tw538578467965976347 : Unit := ()
def head.tw9927020782545391889 : Unit := ()
def head.tw2139126354782091417 : Unit := ()
def head.tw5536227441466611919 : Unit := ()
def head.tw10717078937662780056 : Unit := ()
def head.tw12518368121834065131 : Unit := ()
def head.tw3447218980399427364 : Unit := ()
def head.tw6624363139758638422 : Unit := ()
def head.tw5066392589951594278 : Unit := ()
def head.tw17640434292912032128 : Unit := ()
def head.tw12803837365382125588 : Unit := ()
def head.tw1770434760182876204 : Unit := ()
def head.tw9016488673740878338 : Unit := ()
def head.tw16147676547551665822 : Unit := ()
def head.tw10529199855426036705 : Unit := ()
def head.tw3003556698199096280 : Unit := ()
def head.tw18125330376288770102 : Unit := ()
def head.tw15832033262157081776 : Unit := ()
def head.tw3064849394125753567 : Unit := ()
def head.tw3009244160514402367 : Unit := ()
def head.tw17901666717355102548 : Unit := ()
def head.tw667605061295016371 : Unit := ()
def head.tw3656533302426282081 : Unit := ()
def head.tw12455285729795631510 : Unit := ()
def head.tw17360579829599484175 : Unit := ()
def head.tw4425420699202667076 : Unit := ()
def head.tw5101454557176676645 : Unit := ()
def head.tw1027155816748672980 : Unit := ()
def head.tw14846266555948926157 : Unit := ()
def head.tw10609774721198151826 : Unit := ()
def head.tw6436801895799890038 : Unit := ()
def head.tw2212046323532965136 : Unit := ()
def head.tw11015264914786405738 : Unit := ()
def head.tw16737082892529877799 : Unit := ()
def head.tw947745932702202313 : Unit := ()
def head.tw8997091138551461585 : Unit := ()
def head.tw3314070590589090839 : Unit := ()
def head.tw5804043669040810326 : Unit := ()
def head.tw2241459443442702576 : Unit := ()
def head.tw7166019181083879839 : Unit := ()
def head.tw6788984240830986744 : Unit := ()
def head.tw17219217101671381210 : Unit := ()
def head.tw8123891617207163196 : Unit := ()
def head.tw11962839999909000533 : Unit := ()
def head.tw13732145182294004877 : Unit := ()
def head.tw12453069042568409706 : Unit := ()
def head.tw7938188200247912042 : Unit := ()
def head.tw7041505436283969475 : Unit := ()
def head.tw1114586996888731552 : Unit := ()
def head.tw14221250704280540827 : Unit := ()
def head.tw16073579809189847419 : Unit := ()
def head.tw6251957887964602527 : Unit := ()
def head.tw11563746654149260747 : Unit := ()
def head.tw18146360472892871235 : Unit := ()
def head.tw5343394399553516098 : Unit := ()
def head.tw9988645040434415683 : Unit := ()
def head.tw11268442182060677571 : Unit := ()
def head.tw6659636374165690834 : Unit := ()
def head.tw10383329616269401911 : Unit := ()
def head.tw16091538572874765311 : Unit := ()
def head.tw14428517953782759408 : Unit := ()
def head.tw4919171819633652976 : Unit := ()
def head.tw9099671269297186557 : Unit := ()
def head.tw14522836420263388311 : Unit := ()
def head.tw143178158403111465 : Unit := ()
def head.tw15377570718067525505 : Unit := ()
def head.tw12202215409735519798 : Unit := ()
def head.tw4431047558782702586 : Unit := ()
def head.tw10275437425771128627 : Unit := ()
def head.tw16156531940426787186 : Unit := ()
def head.tw7456348154081045772 : Unit := ()
def head.tw2034656016166215377 : Unit := ()
def head.tw8814199931863476749 : Unit := ()
def head.tw2213900012891913938 : Unit := ()
def head.tw5389149592561271593 : Unit := ()
def head.tw18093666763112654317 : Unit := ()
def head.tw17423427344826586633 : Unit := ()
def head.tw10100826138171504263 : Unit := ()
def head.tw7306299815268664450 : Unit := ()
def head.tw13622781329424838829 : Unit := ()
def head.tw14502644373418478502 : Unit := ()
def head.tw7160233298737855530 : Unit := ()
def head.tw2753266501263146438 : Unit := ()
def head.tw2439565459370427147 : Unit := ()
def head.tw15386625950541204332 : Unit := ()
def head.tw17258484765687577366 : Unit := ()
def head.tw13531092007653341595 : Unit := ()
def head.tw8666308769586289591 : Unit := ()
def head.tw14238297604135596398 : Unit := ()
def head.tw4511509436203042791 : Unit := ()
def head.tw5896500937787586183 : Unit := ()
def head.tw9480388662165242370 : Unit := ()
def head.tw5415674738179950372 : Unit := ()
def head.tw8800239802327863267 : Unit := ()
def head.tw1877974187140416473 : Unit := ()
def head.tw2794781401779966127 : Unit := ()
def head.tw4775943822467917526 : Unit := ()
def head.tw18053034827456537526 : Unit := ()
def head.tw1382524581132126965 : Unit := ()
def head.tw10576498653326396977 : Unit := ()
def head.tw15364714567965238800 : Unit := ()
def head.tw4807810042250683422 : Unit := ()
def head.tw15451110015064242843 : Unit := ()
def head.tw7035899210461587468 : Unit := ()
def head.tw3421261183334641698 : Unit := ()
def head.tw2707490673519291313 : Unit := ()
def head.tw4842420741628363011 : Unit := ()
def head.tw9879926259862315794 : Unit := ()
def head.tw15332939865184721677 : Unit := ()
def head.tw6776099715541510759 : Unit := ()
def head.tw4967567297280222113 : Unit := ()
def head.tw10301681718186226768 : Unit := ()
def head.tw2346622893379849681 : Unit := ()
def head.tw16788455374914573873 : Unit := ()
def head.tw5235591492761293188 : Unit := ()
def head.tw7428345174357943920 : Unit := ()
def head.tw8953612628737867559 : Unit := ()
def head.tw13252949913390825861 : Unit := ()
def head.tw1705343345962901002 : Unit := ()
def head.tw4036863373298228870 : Unit := ()
def head.tw17110133021059295706 : Unit := ()
def head.tw6467760143266601924 : Unit := ()
def head.tw14615118756161696486 : Unit := ()
def head.tw16036775414700474587 : Unit := ()
def head.tw16261164859496338824 : Unit := ()
def head.tw5618090879205800109 : Unit := ()
def head.tw9284536401954227812 : Unit := ()
def head.tw6373044820959521440 : Unit := ()
def head.tw5079292938481284897 : Unit := ()
def head.tw3069183774830925414 : Unit := ()
def head.tw4825141549818995146 : Unit := ()
def head.tw2460416265035751059 : Unit := ()
def head.tw9934451532281705453 : Unit := ()
def head.tw7421347891913334166 : Unit := ()
def head.tw16066493308301096097 : Unit := ()
def head.tw1278535851000159372 : Unit := ()
def head.tw51429714383091119 : Unit := ()
def head.tw17514285243559810941 : Unit := ()
def head.tw2454275592272230026 : Unit := ()
def head.tw10897152728529493539 : Unit := ()
def head.tw17815913307865830917 : Unit := ()
def head.tw1132841600391935411 : Unit := ()
def head.tw10732292992807273674 : Unit := ()
def head.tw11420508809197671743 : Unit := ()
def head.tw7508889654470577732 : Unit := ()
def head.tw17200038425595034336 : Unit := ()
def head.tw9121796927012995878 : Unit := ()
def head.tw2385583533055738973 : Unit := ()
def head.tw16562611125585701016 : Unit := ()
def head.tw2073723192138901951 : Unit := ()
def head.tw1142770455680024998 : Unit := ()
def head.tw7110043497744574233 : Unit := ()
def head.tw7564972837055017273 : Unit := ()
def head.tw16686379258748558484 : Unit := ()
def head.tw18007431468259329925 : Unit := ()
def head.tw372993587022809419 : Unit := ()
def head.tw16296953883002819843 : Unit := ()
def head.tw8573164639841990725 : Unit := ()
def head.tw5197915949126319024 : Unit := ()
def head.tw11628278820926652211 : Unit := ()
def head.tw5495970126401149587 : Unit := ()
def head.tw13612547785804734133 : Unit := ()
def head.tw11363583520761057228 : Unit := ()
def head.tw2123903639357528433 : Unit := ()
def head.tw1829083718240038795 : Unit := ()
def head.tw7549805316703184347 : Unit := ()
def head.tw8165149901813296079 : Unit := ()
def head.tw8752875913179407301 : Unit := ()
def head.tw10794372970231754017 : Unit := ()
def head.tw8233501797433317147 : Unit := ()
def head.tw3930064485170440570 : Unit := ()
def head.tw6088723040033663997 : Unit := ()
def head.tw1214023767063722387 : Unit := ()
def head.tw13293777690058550581 : Unit := ()
def head.tw9429410737600211988 : Unit := ()
def head.tw432882922070093566 : Unit := ()
def head.tw1157840226051307472 : Unit := ()
def head.tw14125302347835133983 : Unit := ()
def head.tw11150445731124378662 : Unit := ()
def head.tw9532214036863357013 : Unit := ()
def head.tw13255579327617340160 : Unit := ()
def head.tw13113269253299338497 : Unit := ()
def head.tw9398409442933804480 : Unit := ()
def head.tw7159617009099146498 : Unit := ()
def head.tw9624815973538533391 : Unit := ()
def head.tw11890200936304606482 : Unit := ()
def head.tw10918022546508128348 : Unit := ()
def head.tw1509711240655648770 : Unit := ()
def head.tw7502337546976949016 : Unit := ()
def head.tw5406177342311749660 : Unit := ()
def head.tw12379779264051743627 : Unit := ()
def head.tw9837563439819870919 : Unit := ()
def head.tw4277455933881941865 : Unit := ()
def head.tw14454865532591175560 : Unit := ()
def head.tw14804139572400168469 : Unit := ()
def head.tw16895393912216585069 : Unit := ()
def head.tw8044011889520794621 : Unit := ()
def head.tw17083362020502806138 : Unit := ()
def head.tw18076716480132037434 : Unit := ()
def head.tw10501316277462697885 : Unit := ()
def head.tw16756499053269073882 : Unit := ()
def head.tw13819817008389738410 : Unit := ()
def head.tw974676399055366991 : Unit := ()
def head.tw449537909010269012 : Unit := ()
def head.tw15433933770653375617 : Unit := ()
def head.tw3814688585563042333 : Unit := ()
def head.tw9818580006970687638 : Unit := ()
def head.tw7457366382194850087 : Unit := ()
def head.tw6450019627829021982 : Unit := ()
def head.tw6673180108595755721 : Unit := ()
def head.tw15236354088970649295 : Unit := ()
def head.tw9455763889178323362 : Unit := ()
def head.tw368418987455904000 : Unit := ()
def head.tw14168759970964915452 : Unit := ()
def head.tw1434200089492940972 : Unit := ()
def head.tw7336008585418772457 : Unit := ()
def head.tw6213984517319907750 : Unit := ()
def head.tw4958769831289514811 : Unit := ()
def head.tw13906574121357657005 : Unit := ()
def head.tw16096313807080911120 : Unit := ()
def head.tw15369122020098689332 : Unit := ()
def head.tw17141428878086348981 : Unit := ()
def head.tw8299618654523837009 : Unit := ()
def head.tw4654715500807257006 : Unit := ()
def head.tw14682900788890621910 : Unit := ()
def head.tw14547669026552323017 : Unit := ()
def head.tw547099659640943018 : Unit := ()
def head.tw15938323815607600166 : Unit := ()
def head.tw17765485811471636932 : Unit := ()
def head.tw17342198202392708656 : Unit := ()
def head.tw9903152279420558101 : Unit := ()
def head.tw1528183756653276811 : Unit := ()
def head.tw13262255646990332048 : Unit := ()
def head.tw18406743620681020301 : Unit := ()
def head.tw1596417432366975108 : Unit := ()
def head.tw4891678202689361566 : Unit := ()
def head.tw989815752150337972 : Unit := ()
def head.tw4152090721310439619 : Unit := ()
def head.tw7216541266383003146 : Unit := ()
def head.tw2697299556005028499 : Unit := ()
def head.tw12975387606862532336 : Unit := ()
def head.tw13697686427436319814 : Unit := ()
def head.tw6450699445179042072 : Unit := ()
def head.tw16642959781089525570 : Unit := ()
def head.tw8093894981828795141 : Unit := ()
def head.tw1064105557166062106 : Unit := ()
def head.tw2143065963315723313 : Unit := ()
def head.tw13677106331963349871 : Unit := ()
def head.tw11345283002506834438 : Unit := ()
def head.tw11101882969426064935 : Unit := ()
def head.tw1785605829506985174 : Unit := ()
def head.tw871353782155437571 : Unit := ()
def head.tw10443315136716166911 : Unit := ()
def head.tw13043952353943747588 : Unit := ()
def head.tw2859376449307489216 : Unit := ()
def head.tw7423160491071989150 : Unit := ()
def head.tw920799668594576073 : Unit := ()
def head.tw1769465369603727681 : Unit := ()
def head.tw11947187458182598605 : Unit := ()
def head.tw3930895842540326974 : Unit := ()
def head.tw4204258990172802343 : Unit := ()
def head.tw16604876704513318977 : Unit := ()
def head.tw13129596618875320853 : Unit := ()
def head.tw423598897482250321 : Unit := ()
def head.tw2404217391515819467 : Unit := ()
def head.tw4667678887143113604 : Unit := ()
def head.tw5439792852524135828 : Unit := ()
def head.tw6405997720454970671 : Unit := ()
def head.tw16457980783761114409 : Unit := ()
def head.tw3971773884450959816 : Unit := ()
def head.tw507385415707203975 : Unit := ()
def head.tw7411241089177730739 : Unit := ()
def head.tw10641642346978076704 : Unit := ()
def head.tw18087408904885792648 : Unit := ()
def head.tw7705972466570085589 : Unit := ()
def head.tw10993735852007940579 : Unit := ()
def head.tw14472148264737280519 : Unit := ()
def head.tw8778497674006438152 : Unit := ()
def head.tw869786586348187510 : Unit := ()
def head.tw9721597186837773069 : Unit := ()
def head.tw7579652415760703107 : Unit := ()
def head.tw15733886860616086478 : Unit := ()
def head.tw15037021682553631997 : Unit := ()
def head.tw793822685198122842 : Unit := ()
def head.tw12937460576486806912 : Unit := ()
def head.tw9058063564523234757 : Unit := ()
def head.tw15437434384342775550 : Unit := ()
def head.tw6184577078925756225 : Unit := ()
def head.tw4983889484277118190 : Unit := ()
def head.tw5263031782217397600 : Unit := ()
def head.tw5918694888210179227 : Unit := ()
def head.tw1557412913169001158 : Unit := ()
def head.tw15261487228862047745 : Unit := ()
def head.tw18121551557286070895 : Unit := ()
def head.tw13133105181020574 : Unit := ()
def head.tw3865227728683908462 : Unit := ()
def head.tw9253552669306704676 : Unit := ()
def head.tw3475061137762561674 : Unit := ()
def head.tw7943439253691202163 : Unit := ()
def head.tw14722923866276869983 : Unit := ()
def head.tw7112494609220686190 : Unit := ()
def head.tw16850669015542321058 : Unit := ()
def head.tw7257647293604553761 : Unit := ()
def head.tw16435193025634776147 : Unit := ()
def head.tw17013790142180714870 : Unit := ()
def head.tw11746322868699689195 : Unit := ()
def head.tw823422531155485144 : Unit := ()
def head.tw14564102244969864175 : Unit := ()
def head.tw5958592374284718620 : Unit := ()
def head.tw2654205108362489283 : Unit := ()
def head.tw4384928434876336181 : Unit := ()
def head.tw16655686763229125670 : Unit := ()
def head.tw9522557741469981478 : Unit := ()
def head.tw8005847168200596573 : Unit := ()
def head.tw8721814817134603031 : Unit := ()
def head.tw9389194400276267117 : Unit := ()
def head.tw3076569937437393412 : Unit := ()
def head.tw12697363177648460179 : Unit := ()
def head.tw172642404867232632 : Unit := ()
def head.tw14839364314469280175 : Unit := ()
def head.tw13309220399010721046 : Unit := ()
def head.tw16220789116792825300 : Unit := ()
def head.tw13914213742198673330 : Unit := ()
def head.tw6707741374960958295 : Unit := ()
def head.tw2462307402634905766 : Unit := ()
def head.tw1921273347072400710 : Unit := ()
def head.tw7645950559838092299 : Unit := ()
def head.tw5604177455470790471 : Unit := ()
def head.tw16174444817418005899 : Unit := ()
def head.tw1589604171197086961 : Unit := ()
def head.tw1826580516290281297 : Unit := ()
def head.tw13794268993135237040 : Unit := ()
def head.tw7882578225932247352 : Unit := ()
def head.tw2042818539655241625 : Unit := ()
def head.tw9463879557977340846 : Unit := ()
def head.tw11304916912689824328 : Unit := ()
def head.tw5185407947394876346 : Unit := ()
def head.tw11369950997843702303 : Unit := ()
def head.tw4815705210541077406 : Unit := ()
def head.tw5747429230200960747 : Unit := ()
def head.tw6946022576425873402 : Unit := ()
def head.tw4974585842098243178 : Unit := ()
def head.tw1604510945564511186 : Unit := ()
def head.tw15637290910578713393 : Unit := ()
def head.tw12542399321983460293 : Unit := ()
def head.tw11061049555556574827 : Unit := ()
def head.tw8986390602272506142 : Unit := ()
def head.tw8986584353136017204 : Unit := ()
def head.tw5277096716453715264 : Unit := ()
def head.tw10053744933190134061 : Unit := ()
def head.tw12789016638322678139 : Unit := ()
def head.tw7557240851565218677 : Unit := ()
def head.tw3526428444662781228 : Unit := ()
def head.tw14733433442101505840 : Unit := ()
def head.tw13763504224498209327 : Unit := ()
def head.tw6143423530606392621 : Unit := ()
def head.tw7432965252655275454 : Unit := ()
def head.tw16416380375648728977 : Unit := ()
def head.tw6734392585828229202 : Unit := ()
def head.tw3405863280485331348 : Unit := ()
def head.tw1642449651530507314 : Unit := ()
def head.tw12773286406841906308 : Unit := ()
def head.tw4306661326434689679 : Unit := ()
def head.tw13264656546505456877 : Unit := ()
def head.tw15048536816504735470 : Unit := ()
def head.tw6850726384951132292 : Unit := ()
def head.tw6853815510604806874 : Unit := ()
def head.tw18300256729727331129 : Unit := ()
def head.tw5870477946936986039 : Unit := ()
def head.tw14864264153744236104 : Unit := ()
def head.tw15485988799421978684 : Unit := ()
def head.tw10369268312143876174 : Unit := ()
def head.tw15639036660354002150 : Unit := ()
def head.tw6676251705966274636 : Unit := ()
def head.tw8301054313491227341 : Unit := ()
def head.tw5024745782518943215 : Unit := ()
def head.tw13672314090142266214 : Unit := ()
def head.tw5143272646982152982 : Unit := ()
def head.tw8821192915124792475 : Unit := ()
def head.tw4224240929622814445 : Unit := ()
def head.tw16096189521166436756 : Unit := ()
def head.tw9554643022042410644 : Unit := ()
def head.tw15384326995491691214 : Unit := ()
def head.tw1810985104146032452 : Unit := ()
def head.tw15164093088881083118 : Unit := ()
def head.tw6429708500562273559 : Unit := ()
def head.tw12197695389463448015 : Unit := ()
def head.tw1949098953323148845 : Unit := ()
def head.tw1944583104914664285 : Unit := ()
def head.tw4804938286949461317 : Unit := ()
def head.tw3359847247559664145 : Unit := ()
def head.tw4007717602270351229 : Unit := ()
def head.tw8286777561472531531 : Unit := ()
def head.tw15655066899262757282 : Unit := ()
def head.tw2366897747354834531 : Unit := ()
def head.tw7142306820589974520 : Unit := ()
def head.tw164555825348609090 : Unit := ()
def head.tw15026941290881356734 : Unit := ()
def head.tw9209975750446342436 : Unit := ()
def head.tw9642530239978071295 : Unit := ()
def head.tw12590432551633236557 : Unit := ()
def head.tw4883009796020049963 : Unit := ()
def head.tw16973943969805117982 : Unit := ()
def head.tw13814620407636622361 : Unit := ()
def head.tw9787997167449587173 : Unit := ()
def head.tw2922208927006846234 : Unit := ()
def head.tw9768262922862468931 : Unit := ()
def head.tw10384833122487024591 : Unit := ()
def head.tw2335467047875507403 : Unit := ()
def head.tw3678958043396072304 : Unit := ()
def head.tw18200515369430367047 : Unit := ()
def head.tw9613331823708933692 : Unit := ()
def head.tw14787962567781298708 : Unit := ()
def head.tw7091752845120838955 : Unit := ()
def head.tw4499028697401635907 : Unit := ()
def head.tw18097231088684442934 : Unit := ()
def head.tw13064366659116388332 : Unit := ()
def head.tw5255674588194567745 : Unit := ()
def head.tw1490060421169660723 : Unit := ()
def head.tw18116816823565194751 : Unit := ()
def head.tw1779633484366525977 : Unit := ()
def head.tw17276348698584998114 : Unit := ()
def head.tw2005347619419284709 : Unit := ()
def head.tw5995160067986124883 : Unit := ()
def head.tw12276878297011903271 : Unit := ()
def head.tw6021744097926640749 : Unit := ()
def head.tw3669045784062463018 : Unit := ()
def head.tw3334306987808616501 : Unit := ()
def head.tw7286202095407671576 : Unit := ()
def head.tw5979114513331590134 : Unit := ()
def head.tw14970038182066675937 : Unit := ()
def head.tw17866628860672198116 : Unit := ()
def head.tw15047044764314492410 : Unit := ()
def head.tw13645012507881639471 : Unit := ()
def head.tw8248419935625522220 : Unit := ()
def head.tw7991023089570361087 : Unit := ()
def head.tw10346098246622374076 : Unit := ()
def head.tw8661288200409454337 : Unit := ()
def head.tw14002321395651633848 : Unit := ()
def head.tw5972293644359029488 : Unit := ()
def head.tw3182167775961882271 : Unit := ()
def head.tw13362470219395834308 : Unit := ()
def head.tw3220112728198675668 : Unit := ()
def head.tw8093062688287402578 : Unit := ()
def head.tw16990898132347263239 : Unit := ()
def head.tw53761595916252498 : Unit := ()
def head.tw14494892127474346931 : Unit := ()
def head.tw353468001202900844 : Unit := ()
def head.tw14962904422609470823 : Unit := ()
def head.tw17372383374198475718 : Unit := ()
def head.tw6032425227107892249 : Unit := ()
def head.tw9638700102674368423 : Unit := ()
def head.tw7817973919588185979 : Unit := ()
def head.tw9375559588244874733 : Unit := ()
def head.tw11818552749161815630 : Unit := ()
def head.tw14044199270964426944 : Unit := ()
def head.tw12075307543326782210 : Unit := ()
def head.tw4204582355921727053 : Unit := ()
def head.tw2723468619098441908 : Unit := ()
def head.tw18245757647322506876 : Unit := ()
def head.tw14317123458598432329 : Unit := ()
def head.tw14146304289866695138 : Unit := ()
def head.tw16699732830630528010 : Unit := ()
def head.tw15227404194023536501 : Unit := ()
def head.tw6554690242367388313 : Unit := ()
def head.tw15544997566589528386 : Unit := ()
def head.tw8910681951953756513 : Unit := ()
def head.tw18032487695935633335 : Unit := ()
def head.tw7681278759095272259 : Unit := ()
def head.tw9787907267646277989 : Unit := ()
def head.tw7045204793858977077 : Unit := ()
def head.tw901981809397154078 : Unit := ()
def head.tw6673461761838505851 : Unit := ()
def head.tw14899502454752767089 : Unit := ()
def head.tw14107256091465810113 : Unit := ()
def head.tw955679406967904151 : Unit := ()
def head.tw6950716227388874408 : Unit := ()
def head.tw13885736158830797723 : Unit := ()
def head.tw16557750753961818341 : Unit := ()
def head.tw15254960499790862840 : Unit := ()
def head.tw9191667109495393631 : Unit := ()
def head.tw13745193514274259935 : Unit := ()
def head.tw6569513644974024665 : Unit := ()
def head.tw11912012957609727252 : Unit := ()
def head.tw10923316632925602875 : Unit := ()
def head.tw14298870565391678703 : Unit := ()
def head.tw5811070695362903432 : Unit := ()
def head.tw8314419943907019669 : Unit := ()
def head.tw1517228386988143803 : Unit := ()
def head.tw14844411240714876250 : Unit := ()
def head.tw14652099359205362439 : Unit := ()
def head.tw9318632058080528944 : Unit := ()
def head.tw13935978089983191303 : Unit := ()
def head.tw15825515998264999403 : Unit := ()
def head.tw12737758123834826087 : Unit := ()
def head.tw8778822858392976504 : Unit := ()
def head.tw11572813720805307406 : Unit := ()
def head.tw11824276042182850522 : Unit := ()
def head.tw5585779822244435499 : Unit := ()
def head.tw363632240451261020 : Unit := ()
def head.tw9647162381919186820 : Unit := ()
def head.tw10573561805867645650 : Unit := ()
def head.tw10184407778179364561 : Unit := ()
def head.tw1953205849050897841 : Unit := ()
def head.tw8208223240810055774 : Unit := ()
def head.tw6326884235501431104 : Unit := ()
def head.tw11371825063404527298 : Unit := ()
def head.tw8529957113489857691 : Unit := ()
def head.tw4473051586299909767 : Unit := ()
def head.tw164875907932680196 : Unit := ()
def head.tw12855544911565996676 : Unit := ()
def head.tw15498512823794071340 : Unit := ()
def head.tw18126404601477334238 : Unit := ()
def head.tw6708749234979885514 : Unit := ()
def head.tw10025340714178951536 : Unit := ()
def head.tw13757985540688938387 : Unit := ()
def head.tw12075887827248115011 : Unit := ()
def head.tw4074162786017977361 : Unit := ()
def head.tw4330958593112094024 : Unit := ()
def head.tw15155616545929982514 : Unit := ()
def head.tw17784024307509940482 : Unit := ()
def head.tw6957451863341949609 : Unit := ()
def head.tw15206721047594370205 : Unit := ()
def head.tw6512638396382881224 : Unit := ()
def head.tw17206032370551948308 : Unit := ()
def head.tw176958662926335537 : Unit := ()
def head.tw3023785512191420573 : Unit := ()
def head.tw7509922882478873975 : Unit := ()
def head.tw11101564101482587894 : Unit := ()
def head.tw13709171453431284056 : Unit := ()
def head.tw3350101238976053781 : Unit := ()
def head.tw10619263495928125547 : Unit := ()
def head.tw3109998037655872568 : Unit := ()
def head.tw16134631096216332965 : Unit := ()
def head.tw9004299480658224545 : Unit := ()
def head.tw15250390224598553876 : Unit := ()
def head.tw4518950116552423352 : Unit := ()
def head.tw6044800799189817383 : Unit := ()
def head.tw7077012584699096384 : Unit := ()
def head.tw13375042616024017712 : Unit := ()
def head.tw11189274097738552104 : Unit := ()
end Mine

namespace Mine
set_option Elab.async true in
set_option maxHeartbeats 0 in
theorem head : PySem.Challenge.rw_aw6018_01.Holds := by
  (w_on; o_law; k_head; (case hw => w_witness2))
  k_fill
  intro w s₀ s₁ mg mb G Y fa o pm cd doc dV kV ho hd hcd hD hmg hg args vals as hpre hlay hrd hwl hlo
  have KX := km_in_of Y
  have hT8 := km_tabs_of Y
  refine Ground.open G ?_
  intro T B D TE TW
  wrow_args hpre hlay hrd hwl hlo
  all_goals (first | refine callC_kw (enter_call ?_) | refine enter_call ?_)
  have e1 := hT8 124 (by simp)
  have e2 := hT8 192 (by simp)
  have hfa : fa = 797 := by
    have h1 := mg_of (n := "law") (v := .ref 797) KX T.g (by kernel_rfl)
    have h2 : mg (Str.ofString "law") = some (.ref fa) := hmg
    rw [h1] at h2
    cases h2; rfl
  subst hfa
  have hG : mainGlobals ∉ [124, 192, 71] := by decide
  have g0 := ns_hide T.g hG
  have b0 := ns_hide (l := [124, 192, 71]) T.b (by decide)
  have seer := T.seer (by kernel_rfl)
  have hT9 : TabsAt [(128, 124), (196, 192)] s₁.heap := List.forall_mem_cons.mpr ⟨⟨codeHd_of_K KX (by kernel_rfl), e1⟩, List.forall_mem_cons.mpr ⟨⟨codeHd_of_K KX (by kernel_rfl), e2⟩, fun _ h => nomatch h⟩⟩
  refine kn_post hT9 (fun a x => rfl) ?_
  refine codeAny_mono (Mine.law_fin KX e1 e2 (by kernel_rfl) (by assumption) (by assumption) (by omega) (by kernel_rfl) (by kernel_rfl) (fun X => fnIs_of X (by kernel_rfl) (by kernel_rfl))
    (fun X hml hL => {
      D := ⟨X, top_of (by kernel_rfl), let ⟨mm, x1, _⟩ := seer.mods; let ⟨o, es, ep, e, _⟩ := ns_hide (l := [124, 192, 71]) x1 (by decide); ⟨o, e⟩⟩
      lim := let ⟨mc, x1, x2⟩ := T.nolimit; ⟨mc, ns_hide x1 (by decide), x2⟩
      hml := hml
      gw := fnIs_of X (by kernel_rfl) (by kernel_rfl)
      gk := fnIs_of X (by kernel_rfl) (by kernel_rfl)
      gci := fnIs_of X (by kernel_rfl) (by kernel_rfl)
      gcn := fnIs_of X (by kernel_rfl) (by kernel_rfl)
      gbd := fnIs_of X (by kernel_rfl) (by kernel_rfl)
      ggi := fnIs_of X (by kernel_rfl) (by kernel_rfl)
      gin := fnIs_of X (by kernel_rfl) (by kernel_rfl)
      gan := fnIs_of X (by kernel_rfl) (by kernel_rfl)
      gae := fnIs_of X (by kernel_rfl) (by kernel_rfl)
      gm := fnIs_of X (by kernel_rfl) (by kernel_rfl)
      gdir := fnIs_of X (by kernel_rfl) (by kernel_rfl)
      gnum := fnIs_of X (by kernel_rfl) (by kernel_rfl)
      gti := fnIs_of X (by kernel_rfl) (by kernel_rfl)
      gle := fnIs_of X (by kernel_rfl) (by kernel_rfl)
      hTi := X _ _ (by kernel_rfl)
      hTg := X _ _ (by kernel_rfl)
      hTd := X _ _ (by kernel_rfl)
      ck := ⟨⟨by kernel_rfl, by kernel_rfl, by kernel_rfl, by kernel_rfl, by kernel_rfl, by kernel_rfl⟩, by kernel_rfl, by kernel_rfl, by kernel_rfl, by kernel_rfl, by kernel_rfl, by kernel_rfl, by kernel_rfl, by kernel_rfl, by kernel_rfl, by kernel_rfl, by kernel_rfl, by kernel_rfl, by kernel_rfl, by kernel_rfl, by kernel_rfl⟩
      cmk := by kernel_rfl
      cin := by kernel_rfl
      cif := by kernel_rfl
      nx := by kernel_rfl
      nxf := by kernel_rfl
      ckp := by kernel_rfl
      gK := ⟨⟨by kernel_rfl, by kernel_rfl, by kernel_rfl, by kernel_rfl, by kernel_rfl, by kernel_rfl⟩, by kernel_rfl, by kernel_rfl, by kernel_rfl, by kernel_rfl, by kernel_rfl, by kernel_rfl, by kernel_rfl, by kernel_rfl, by kernel_rfl, by kernel_rfl, by kernel_rfl, by kernel_rfl, by kernel_rfl⟩
      gM := ⟨by kernel_rfl, by kernel_rfl, by kernel_rfl, by kernel_rfl, by kernel_rfl, by kernel_rfl⟩
      gmk := by kernel_rfl
      gii := by kernel_rfl
      gif := by kernel_rfl
      gia := by kernel_rfl
      gfa := by kernel_rfl
      gie := by kernel_rfl
      gfe := by kernel_rfl
      gkp := by kernel_rfl
      cd1 := codeF_of X (by kernel_rfl)
      cd2 := codeF_of X (by kernel_rfl)
      mk1 := mk_of T e1 e2 hL hG (.inl rfl) X (by kernel_rfl)
      mk2 := mk_of T e1 e2 hL hG (.inr rfl) X (by kernel_rfl)
      n_w := glo_of X g0 (by kernel_rfl)
      n_k := glo_of X g0 (by kernel_rfl)
      n_count := glo_of X g0 (by kernel_rfl)
      n_bd := glo_of X g0 (by kernel_rfl)
      n_G := glo_of X g0 (by kernel_rfl)
      n_num := glo_of X g0 (by kernel_rfl)
      n_ti := glo_of X g0 (by kernel_rfl)
      n_le := glo_of X g0 (by kernel_rfl)
      n_max := glo_of X g0 (by kernel_rfl)
      n_push := glo_of X g0 (by kernel_rfl)
      n_pop := glo_of X g0 (by kernel_rfl)
      n_next := gloB_of X g0 b0 T.builtins (by kernel_rfl) (by decide) (by kernel_rfl)
      n_call := gloB_of X g0 b0 T.builtins (by kernel_rfl) (by decide) (by kernel_rfl)
      n_type := gloB_of X g0 b0 T.builtins (by kernel_rfl) (by decide) (by kernel_rfl)
      n_int := gloB_of X g0 b0 T.builtins (by kernel_rfl) (by decide) (by kernel_rfl)
      n_range := gloB_of X g0 b0 T.builtins (by kernel_rfl) (by decide) (by kernel_rfl)
      n_abs := gloB_of X g0 b0 T.builtins (by kernel_rfl) (by decide) (by kernel_rfl)
      n_len := gloB_of X g0 b0 T.builtins (by kernel_rfl) (by decide) (by kernel_rfl)
      n_set := gloB_of X g0 b0 T.builtins (by kernel_rfl) (by decide) (by kernel_rfl)
      n_min := gloB_of X g0 b0 T.builtins (by kernel_rfl) (by decide) (by kernel_rfl)
      n_max' := gloB_of X g0 b0 T.builtins (by kernel_rfl) (by decide) (by kernel_rfl)
      n_sum := gloB_of X g0 b0 T.builtins (by kernel_rfl) (by decide) (by kernel_rfl) })) fun r s' z => Mine.good_of (fun x => rfl) ?_ hg z
  wrow_post
end Mine
theorem PySem.Challenge.cw_aw6018_01_holds : PySem.Challenge.rw_aw6018_01.Holds :=
  Mine.head
